import PyProof.Rows.All
import Wide.All
import OpenK.AllK
import Wide.FinOn
import KE.KItem
import PyProof.DictWalks
import KE.KEqDict
import PyProof.NeKinds
import Lean
import PySem.Challenge.RW_pg0239_01
open PySem PySem.W PyProof.Rows
set_option Elab.async false
set_option maxRecDepth 100000
set_option maxHeartbeats 8000000
namespace Mine
def view : Program := { PySem.Challenge.pw_pg0239_01 with main := { PySem.Challenge.pw_pg0239_01.main with body := [5, 6, 7, 8, 9, 10, 11, 13, 14, 15, 16, 18, 19, 20, 21, 22].filterMap fun i => PySem.Challenge.pw_pg0239_01.main.body[i]? } }
local macro_rules | `(tactic| o_head $H) => `(tactic| (refine holds_open (q := view) (loose := [Str.ofString "insort_right", Str.ofString "bisect_right", Str.ofString "bisect_left"]) (Xt := fun s => xlAt view [] s && recOk (RowW.records PySem.Challenge.rw_pg0239_01.row.toRowW) s) (XP := XL view []) (Yf := Hook.obs $H) (Ya := Hook.val $H) (YP := Hook.says $H) (N := 1928) (fun w => by kernel_rfl) (Hook.of $H) (Hook.keeps $H) (fun s e => xl_of s (Bool.and_eq_true_iff.mp e).1) XL.keeps (by rfl) (by rfl) (by rfl) (fun s e => recFacts_of (Bool.and_eq_true_iff.mp e).2) rfl (by decide +kernel) (by decide +kernel) ⟨rfl, rfl, rfl, rfl, rfl, by decide +kernel⟩ ?hw ?hc))
open_top hd for PySem.Challenge.rw_pg0239_01
end Mine

section
set_option autoImplicit false
namespace Mine
structure And3 (a1 a2 a3 : Prop) : Prop where
  h1 : a1
  h2 : a2
  h3 : a3
structure And4 (a1 a2 a3 a4 : Prop) : Prop where
  h1 : a1
  h2 : a2
  h3 : a3
  h4 : a4
structure And5 (a1 a2 a3 a4 a5 : Prop) : Prop where
  h1 : a1
  h2 : a2
  h3 : a3
  h4 : a4
  h5 : a5
structure And6 (a1 a2 a3 a4 a5 a6 : Prop) : Prop where
  h1 : a1
  h2 : a2
  h3 : a3
  h4 : a4
  h5 : a5
  h6 : a6
structure And7 (a1 a2 a3 a4 a5 a6 a7 : Prop) : Prop where
  h1 : a1
  h2 : a2
  h3 : a3
  h4 : a4
  h5 : a5
  h6 : a6
  h7 : a7
structure And8 (a1 a2 a3 a4 a5 a6 a7 a8 : Prop) : Prop where
  h1 : a1
  h2 : a2
  h3 : a3
  h4 : a4
  h5 : a5
  h6 : a6
  h7 : a7
  h8 : a8
structure And9 (a1 a2 a3 a4 a5 a6 a7 a8 a9 : Prop) : Prop where
  h1 : a1
  h2 : a2
  h3 : a3
  h4 : a4
  h5 : a5
  h6 : a6
  h7 : a7
  h8 : a8
  h9 : a9
structure And10 (a1 a2 a3 a4 a5 a6 a7 a8 a9 a10 : Prop) : Prop where
  h1 : a1
  h2 : a2
  h3 : a3
  h4 : a4
  h5 : a5
  h6 : a6
  h7 : a7
  h8 : a8
  h9 : a9
  h10 : a10
structure And11 (a1 a2 a3 a4 a5 a6 a7 a8 a9 a10 a11 : Prop) : Prop where
  h1 : a1
  h2 : a2
  h3 : a3
  h4 : a4
  h5 : a5
  h6 : a6
  h7 : a7
  h8 : a8
  h9 : a9
  h10 : a10
  h11 : a11
structure And12 (a1 a2 a3 a4 a5 a6 a7 a8 a9 a10 a11 a12 : Prop) : Prop where
  h1 : a1
  h2 : a2
  h3 : a3
  h4 : a4
  h5 : a5
  h6 : a6
  h7 : a7
  h8 : a8
  h9 : a9
  h10 : a10
  h11 : a11
  h12 : a12
structure And14 (a1 a2 a3 a4 a5 a6 a7 a8 a9 a10 a11 a12 a13 a14 : Prop) : Prop where
  h1 : a1
  h2 : a2
  h3 : a3
  h4 : a4
  h5 : a5
  h6 : a6
  h7 : a7
  h8 : a8
  h9 : a9
  h10 : a10
  h11 : a11
  h12 : a12
  h13 : a13
  h14 : a14
structure And18 (a1 a2 a3 a4 a5 a6 a7 a8 a9 a10 a11 a12 a13 a14 a15 a16 a17 a18 : Prop) : Prop where
  h1 : a1
  h2 : a2
  h3 : a3
  h4 : a4
  h5 : a5
  h6 : a6
  h7 : a7
  h8 : a8
  h9 : a9
  h10 : a10
  h11 : a11
  h12 : a12
  h13 : a13
  h14 : a14
  h15 : a15
  h16 : a16
  h17 : a17
  h18 : a18
structure And20 (a1 a2 a3 a4 a5 a6 a7 a8 a9 a10 a11 a12 a13 a14 a15 a16 a17 a18 a19 a20 : Prop) : Prop where
  h1 : a1
  h2 : a2
  h3 : a3
  h4 : a4
  h5 : a5
  h6 : a6
  h7 : a7
  h8 : a8
  h9 : a9
  h10 : a10
  h11 : a11
  h12 : a12
  h13 : a13
  h14 : a14
  h15 : a15
  h16 : a16
  h17 : a17
  h18 : a18
  h19 : a19
  h20 : a20
inductive Ex2 {α0 α1 : Type} (P : α0 → α1 → Prop) : Prop
  | mk (a0 : α0) (a1 : α1) (h : P a0 a1) : Ex2 P
inductive Ex3 {α0 α1 α2 : Type} (P : α0 → α1 → α2 → Prop) : Prop
  | mk (a0 : α0) (a1 : α1) (a2 : α2) (h : P a0 a1 a2) : Ex3 P
inductive Ex4 {α0 α1 α2 α3 : Type} (P : α0 → α1 → α2 → α3 → Prop) : Prop
  | mk (a0 : α0) (a1 : α1) (a2 : α2) (a3 : α3) (h : P a0 a1 a2 a3) : Ex4 P
inductive Ex5 {α0 α1 α2 α3 α4 : Type} (P : α0 → α1 → α2 → α3 → α4 → Prop) : Prop
  | mk (a0 : α0) (a1 : α1) (a2 : α2) (a3 : α3) (a4 : α4) (h : P a0 a1 a2 a3 a4) : Ex5 P
inductive Ex6 {α0 α1 α2 α3 α4 α5 : Type} (P : α0 → α1 → α2 → α3 → α4 → α5 → Prop) : Prop
  | mk (a0 : α0) (a1 : α1) (a2 : α2) (a3 : α3) (a4 : α4) (a5 : α5) (h : P a0 a1 a2 a3 a4 a5) : Ex6 P
inductive Ex7 {α0 α1 α2 α3 α4 α5 α6 : Type} (P : α0 → α1 → α2 → α3 → α4 → α5 → α6 → Prop) : Prop
  | mk (a0 : α0) (a1 : α1) (a2 : α2) (a3 : α3) (a4 : α4) (a5 : α5) (a6 : α6) (h : P a0 a1 a2 a3 a4 a5 a6) : Ex7 P
inductive Ex8 {α0 α1 α2 α3 α4 α5 α6 α7 : Type} (P : α0 → α1 → α2 → α3 → α4 → α5 → α6 → α7 → Prop) : Prop
  | mk (a0 : α0) (a1 : α1) (a2 : α2) (a3 : α3) (a4 : α4) (a5 : α5) (a6 : α6) (a7 : α7) (h : P a0 a1 a2 a3 a4 a5 a6 a7) : Ex8 P
inductive Ex9 {α0 α1 α2 α3 α4 α5 α6 α7 α8 : Type} (P : α0 → α1 → α2 → α3 → α4 → α5 → α6 → α7 → α8 → Prop) : Prop
  | mk (a0 : α0) (a1 : α1) (a2 : α2) (a3 : α3) (a4 : α4) (a5 : α5) (a6 : α6) (a7 : α7) (a8 : α8) (h : P a0 a1 a2 a3 a4 a5 a6 a7 a8) : Ex9 P
end Mine

end
section
open PySem PySem.W PySem.Calls PyProof.Rows
set_option Elab.async false
set_option maxRecDepth 100000
namespace Mine

/-- a part of a heap, by places -/
abbrev G := Addr → Option Obj
def Sub (g : G) (h : Heap) : Prop := ∀ b o, g b = some o → h.get? b = some o
def up (g : G) (D : Addr) (o : Obj) : G := fun a => if a = D then some o else g a
def dn (g : G) (D : Addr) : G := fun a => if a = D then none else g a
theorem up_self (g : G) (D : Addr) (o : Obj) : up g D o D = some o := by simp [up]
theorem up_ne (g : G) {D a : Addr} (o : Obj) (h : a ≠ D) : up g D o a = g a := by simp [up, h]
theorem dn_self (g : G) (D : Addr) : dn g D D = none := by simp [dn]
theorem dn_ne (g : G) {D a : Addr} (h : a ≠ D) : dn g D a = g a := by simp [dn, h]
theorem up_dn (g : G) (D : Addr) (o : Obj) : dn (up g D o) D = dn g D := by
  funext a; simp only [dn, up]; split <;> rfl
theorem dn_of_none {g : G} {D : Addr} (h : g D = none) : dn g D = g := by
  funext a; simp only [dn]; split
  · rename_i e; rw [e, h]
  · rfl

/-- what an entered function started from: all that it must leave as it is; the heap's size; the facts -/
structure Ent where
  z : G
  al : Addr → Prop
  g : G

structure Wd (w : World) (H : Heap) (mg mb : Str → Option Value) : Prop where
  X : (hd.heap_39 w.params).In H
  g : H.Ns mainGlobals mg
  b : H.Ns builtinsNs mb
  nolimit : H.NoLimit
  builtins : ∀ x : Str, x ≠ "__name__" → mb x = bootBuiltins x

structure Fx (H : Heap) (e : Ent) (g M : G) (L : Addr) (h : Heap) (m : Str → Option Value) : Prop where
  ns : h.Ns L m
  old : Sub e.z h
  keep : Sub g h
  ours : Sub M h
  offz : e.z L = none
  off : g L = none
  offM : M L = none
  sepz : ∀ a o, M a = some o → e.z a = none
  sepg : ∀ a o, M a = some o → g a = none
  alive : ∀ a, e.al a → ∃ o, h.get? a = some o
  ext : ∀ a, e.al a → g a = e.g a
  mono : ∀ a o, e.g a = some o → g a = some o
  top : ∀ a o, H.get? a = some o → g a = some o

/-- what a call gives back: X may have turned, all else stands; facts on new objects -/
structure Rt (X : Addr → Prop) (g : G) (h : Heap) (g' : G) (h' : Heap) : Prop where
  old : ∀ b o, h.get? b = some o → ¬ X b → h'.get? b = some o
  keep : Sub g' h'
  ext : ∀ a o, h.get? a = some o → g' a = g a
  mono : ∀ a o, g a = some o → g' a = some o

structure Room (A : Around) (d u : Nat) : Prop where
  handled : A.handled = none
  depth : A.depth + d < recursionLimit
  units : A.units + u < cLine
theorem Room.deeper {A : Around} {d u : Nat} (r : Room A (d + 1) (u + 3)) (env : Env) : Room (A.deeper env) d u :=
  ⟨r.handled, by show A.depth + 1 + d < _; have := r.depth; lia, by show A.units + 3 + u < _; have := r.units; lia⟩
theorem Room.in1 {A : Around} {d u : Nat} (r : Room A d (u + 1)) : Room A.in1 d u :=
  ⟨r.handled, r.depth, by show A.units + 1 + u < _; have := r.units; lia⟩
theorem Room.le {A : Around} {d u d' u' : Nat} (r : Room A d u) (hd : d' ≤ d) (hu : u' ≤ u) : Room A d' u' :=
  ⟨r.handled, by have := r.depth; lia, by have := r.units; lia⟩

section heap
variable {H : Heap} {e : Ent} {g M : G} {L D : Addr} {h h' : Heap} {m m' : Str → Option Value} {o o' : Obj}

theorem Fx.Hsub (F : Fx H e g M L h m) : H.StaysIn h := fun b o q => F.keep b o (F.top b o q)
theorem alive_same {h h' : Heap} {D : Addr} {o' : Obj} (hs : Heap.SameBut D h h') (hD : h'.get? D = some o') {a : Addr} (k : ∃ o, h.get? a = some o) : ∃ o, h'.get? a = some o := by
  by_cases e : a = D
  · subst e; exact ⟨o', hD⟩
  · obtain ⟨o, ho⟩ := k; exact ⟨o, (hs.2 a e).trans ho⟩
theorem Fx.lt (F : Fx H e g M L h m) : L < h.objs.size := F.ns.lt

/-- the frame's own dict turns -/
theorem Fx.set (F : Fx H e g M L h m) (hn : h'.Ns L m') (hs : Heap.SameBut L h h') : Fx H e g M L h' m' where
  ns := hn
  old := fun b o q => (hs.2 b (fun x => by rw [x, F.offz] at q; cases q)).trans (F.old b o q)
  keep := fun b o q => (hs.2 b (fun x => by rw [x, F.off] at q; cases q)).trans (F.keep b o q)
  ours := fun b o q => (hs.2 b (fun x => by rw [x, F.offM] at q; cases q)).trans (F.ours b o q)
  offz := F.offz
  off := F.off
  offM := F.offM
  sepz := F.sepz
  sepg := F.sepg
  alive := fun a ha => let ⟨oL, es, ep, hL, _⟩ := hn; alive_same hs hL (F.alive a ha)
  ext := F.ext
  mono := F.mono
  top := F.top

/-- new things that nobody speaks of -/
theorem Fx.grow (F : Fx H e g M L h m) (hk : ∀ b o, h.get? b = some o → h'.get? b = some o) : Fx H e g M L h' m where
  ns := F.ns.keeps hk
  old := fun b o q => hk b o (F.old b o q)
  keep := fun b o q => hk b o (F.keep b o q)
  ours := fun b o q => hk b o (F.ours b o q)
  offz := F.offz
  off := F.off
  offM := F.offM
  sepz := F.sepz
  sepg := F.sepg
  alive := fun a ha => let ⟨o, ho⟩ := F.alive a ha; ⟨o, hk _ _ ho⟩
  ext := F.ext
  mono := F.mono
  top := F.top

/-- something that nobody speaks of turns -/
theorem Fx.turn (F : Fx H e g M L h m) (hD : D ≠ L) (hz : e.z D = none) (hg : g D = none) (hM : M D = none) (hs : Heap.SameBut D h h') (ho : h'.get? D = some o') : Fx H e g M L h' m where
  ns := F.ns.sameBut hs hD.symm
  old := fun b o q => (hs.2 b (fun x => by rw [x, hz] at q; cases q)).trans (F.old b o q)
  keep := fun b o q => (hs.2 b (fun x => by rw [x, hg] at q; cases q)).trans (F.keep b o q)
  ours := fun b o q => (hs.2 b (fun x => by rw [x, hM] at q; cases q)).trans (F.ours b o q)
  offz := F.offz
  off := F.off
  offM := F.offM
  sepz := F.sepz
  sepg := F.sepg
  alive := fun a ha => alive_same hs ho (F.alive a ha)
  ext := F.ext
  mono := F.mono
  top := F.top

theorem Fx.neL (F : Fx H e g M L h m) (hM : M D = some o) : D ≠ L := fun x => by rw [x, F.offM] at hM; cases hM
/-- an object of ours turns -/
theorem Fx.upd (F : Fx H e g M L h m) (hM : M D = some o) (hs : Heap.SameBut D h h') (ho : h'.get? D = some o') : Fx H e g (up M D o') L h' m where
  ns := F.ns.sameBut hs (F.neL hM).symm
  old := fun b o q => (hs.2 b (fun x => by rw [x, F.sepz _ _ hM] at q; cases q)).trans (F.old b o q)
  keep := fun b o q => (hs.2 b (fun x => by rw [x, F.sepg _ _ hM] at q; cases q)).trans (F.keep b o q)
  ours := fun b ob q => by
    by_cases hb : b = D
    · subst hb; rw [up_self] at q; cases q; exact ho
    · rw [up_ne _ _ hb] at q; exact (hs.2 b hb).trans (F.ours b ob q)
  offz := F.offz
  off := F.off
  offM := by rw [up_ne _ _ (F.neL hM).symm]; exact F.offM
  sepz := fun b ob q => by
    by_cases hb : b = D
    · subst hb; exact F.sepz _ _ hM
    · rw [up_ne _ _ hb] at q; exact F.sepz b ob q
  sepg := fun b ob q => by
    by_cases hb : b = D
    · subst hb; exact F.sepg _ _ hM
    · rw [up_ne _ _ hb] at q; exact F.sepg b ob q
  alive := fun a ha => alive_same hs ho (F.alive a ha)
  ext := F.ext
  mono := F.mono
  top := F.top

theorem none_of_ge {h : Heap} {g : G} (k : Sub g h) {a : Addr} (ha : h.objs.size ≤ a) : g a = none := by
  cases q : g a with
  | none => rfl
  | some o => exact absurd (Heap.lt_size (k a o q)) (Nat.not_lt.mpr ha)

theorem Fx.notyet (F : Fx H e g M L h m) (hD : h.objs.size ≤ D) : ¬ e.al D := fun ha => let ⟨_, ho⟩ := F.alive D ha; absurd (Heap.lt_size ho) (Nat.not_lt.mpr hD)
/-- a new object that turns -/
theorem Fx.newM (F : Fx H e g M L h m) (hk : ∀ b o, h.get? b = some o → h'.get? b = some o) (hD : h.objs.size ≤ D) (ho : h'.get? D = some o) : Fx H e g (up M D o) L h' m where
  ns := F.ns.keeps hk
  old := fun b o q => hk b o (F.old b o q)
  keep := fun b o q => hk b o (F.keep b o q)
  ours := fun b ob q => by
    by_cases hb : b = D
    · subst hb; rw [up_self] at q; cases q; exact ho
    · rw [up_ne _ _ hb] at q; exact hk b ob (F.ours b ob q)
  offz := F.offz
  off := F.off
  offM := by rw [up_ne _ _ (Nat.ne_of_lt (Nat.lt_of_lt_of_le F.lt hD))]; exact F.offM
  sepz := fun b ob q => by
    by_cases hb : b = D
    · subst hb; exact none_of_ge F.old hD
    · rw [up_ne _ _ hb] at q; exact F.sepz b ob q
  sepg := fun b ob q => by
    by_cases hb : b = D
    · subst hb; exact none_of_ge F.keep hD
    · rw [up_ne _ _ hb] at q; exact F.sepg b ob q
  alive := fun a ha => let ⟨o, ho⟩ := F.alive a ha; ⟨o, hk _ _ ho⟩
  ext := F.ext
  mono := F.mono
  top := F.top

/-- an object of ours is from now on as it is -/
theorem Fx.freeze (F : Fx H e g M L h m) (hM : M D = some o) (hn : ¬ e.al D) : Fx H e (up g D o) (dn M D) L h m where
  ns := F.ns
  old := F.old
  keep := fun b ob q => by
    by_cases hb : b = D
    · subst hb; rw [up_self] at q; cases q; exact F.ours _ _ hM
    · rw [up_ne _ _ hb] at q; exact F.keep b ob q
  ours := fun b ob q => by
    by_cases hb : b = D
    · subst hb; rw [dn_self] at q; cases q
    · rw [dn_ne _ hb] at q; exact F.ours b ob q
  offz := F.offz
  off := by rw [up_ne _ _ (F.neL hM).symm]; exact F.off
  offM := by rw [dn_ne _ (F.neL hM).symm]; exact F.offM
  sepz := fun b ob q => by
    by_cases hb : b = D
    · subst hb; rw [dn_self] at q; cases q
    · rw [dn_ne _ hb] at q; exact F.sepz b ob q
  sepg := fun b ob q => by
    by_cases hb : b = D
    · subst hb; rw [dn_self] at q; cases q
    · rw [dn_ne _ hb] at q; rw [up_ne _ _ hb]; exact F.sepg b ob q
  alive := F.alive
  ext := fun a ha => by rw [up_ne _ _ (fun x : a = D => hn (by rw [← x]; exact ha))]; exact F.ext a ha
  mono := fun a ob q => by
    have hg := F.mono a ob q
    rw [up_ne _ _ (fun x => by rw [x, F.sepg _ _ hM] at hg; cases hg)]; exact hg
  top := fun a ob q => by
    have hg := F.top a ob q
    rw [up_ne _ _ (fun x => by rw [x, F.sepg _ _ hM] at hg; cases hg)]; exact hg
theorem Fx.up_mono (F : Fx H e g M L h m) (hM : M D = some o) : ∀ a ob, g a = some ob → up g D o' a = some ob := fun a ob hg => by
  rw [up_ne _ _ (fun x => by rw [x, F.sepg _ _ hM] at hg; cases hg)]; exact hg
/-- an object of ours is forgotten -/
theorem Fx.drop (F : Fx H e g M L h m) (D : Addr) : Fx H e g (dn M D) L h m where
  ns := F.ns
  old := F.old
  keep := F.keep
  ours := fun b ob q => by
    by_cases hb : b = D
    · subst hb; rw [dn_self] at q; cases q
    · rw [dn_ne _ hb] at q; exact F.ours b ob q
  offz := F.offz
  off := F.off
  offM := by
    by_cases hb : L = D
    · subst hb; exact dn_self _ _
    · rw [dn_ne _ hb]; exact F.offM
  sepz := fun b ob q => by
    by_cases hb : b = D
    · subst hb; rw [dn_self] at q; cases q
    · rw [dn_ne _ hb] at q; exact F.sepz b ob q
  sepg := fun b ob q => by
    by_cases hb : b = D
    · subst hb; rw [dn_self] at q; cases q
    · rw [dn_ne _ hb] at q; exact F.sepg b ob q
  alive := F.alive
  ext := F.ext
  mono := F.mono
  top := F.top
/-- a new object that stays as it is -/
theorem Fx.newG (F : Fx H e g M L h m) (hk : ∀ b o, h.get? b = some o → h'.get? b = some o) (hD : h.objs.size ≤ D) (ho : h'.get? D = some o) :
    Fx H e (up g D o) M L h' m ∧ ∀ a ob, g a = some ob → up g D o a = some ob := by
  have F1 := F.newM hk hD ho
  have F2 := F1.freeze (up_self _ _ _) (F.notyet hD)
  rw [up_dn, dn_of_none (none_of_ge F.ours hD)] at F2
  exact ⟨F2, F1.up_mono (up_self _ _ _)⟩

/-- a call came back that turned nothing of ours -/
theorem Fx.back {g' : G} (F : Fx H e g M L h m) (R : Rt (fun _ => False) g h g' h') : Fx H e g' M L h' m where
  ns := F.ns.keeps fun b o q => R.old b o q id
  old := fun b o q => R.old b o (F.old b o q) id
  keep := R.keep
  ours := fun b o q => R.old b o (F.ours b o q) id
  offz := F.offz
  off := by obtain ⟨_, _, _, hL, _⟩ := F.ns; rw [R.ext L _ hL]; exact F.off
  offM := F.offM
  sepz := F.sepz
  sepg := fun b o q => by rw [R.ext b _ (F.ours b o q)]; exact F.sepg b o q
  alive := fun a ha => let ⟨o, ho⟩ := F.alive a ha; ⟨o, R.old a o ho id⟩
  ext := fun a ha => let ⟨o, ho⟩ := F.alive a ha; (R.ext a o ho).trans (F.ext a ha)
  mono := fun a o q => R.mono a o (F.mono a o q)
  top := fun a o q => R.mono a o (F.top a o q)
/-- a call came back that turned D -/
theorem Fx.back1 {g' : G} (F : Fx H e g M L h m) (hM : M D = some o) (R : Rt (fun b => b = D) g h g' h') (ho : h'.get? D = some o') : Fx H e g' (up M D o') L h' m where
  ns := by
    obtain ⟨oL, es, ep, hL, r⟩ := F.ns
    exact ⟨oL, es, ep, R.old L oL hL (F.neL hM).symm, r⟩
  old := fun b o q => R.old b o (F.old b o q) fun x => by rw [x, F.sepz _ _ hM] at q; cases q
  keep := R.keep
  ours := fun b ob q => by
    by_cases hb : b = D
    · subst hb; rw [up_self] at q; cases q; exact ho
    · rw [up_ne _ _ hb] at q; exact R.old b ob (F.ours b ob q) hb
  offz := F.offz
  off := by obtain ⟨_, _, _, hL, _⟩ := F.ns; rw [R.ext L _ hL]; exact F.off
  offM := by rw [up_ne _ _ (F.neL hM).symm]; exact F.offM
  sepz := fun b ob q => by
    by_cases hb : b = D
    · subst hb; exact F.sepz _ _ hM
    · rw [up_ne _ _ hb] at q; exact F.sepz b ob q
  sepg := fun b ob q => by
    by_cases hb : b = D
    · subst hb; rw [R.ext b _ (F.ours _ _ hM)]; exact F.sepg _ _ hM
    · rw [up_ne _ _ hb] at q; rw [R.ext b _ (F.ours b ob q)]; exact F.sepg b ob q
  alive := fun a ha => by
    obtain ⟨o1, h1⟩ := F.alive a ha
    by_cases hb : a = D
    · subst hb; exact ⟨_, ho⟩
    · exact ⟨_, R.old a o1 h1 hb⟩
  ext := fun a ha => let ⟨o, ho⟩ := F.alive a ha; (R.ext a o ho).trans (F.ext a ha)
  mono := fun a o q => R.mono a o (F.mono a o q)
  top := fun a o q => R.mono a o (F.top a o q)

/-- a function's start -/
abbrev ent0 (g : G) (h : Heap) : Ent := ⟨h.get?, fun a => ∃ o, h.get? a = some o, g⟩
abbrev ent1 (g : G) (h : Heap) (D : Addr) : Ent := ⟨dn h.get? D, fun a => ∃ o, h.get? a = some o, g⟩
abbrev none' : G := fun _ => none
theorem enter0 {L' : Addr} (hg : Sub g h) (hH : ∀ a o, H.get? a = some o → g a = some o) (hL : h.objs.size ≤ L') (hn : h'.Ns L' m) (hk : ∀ b o, h.get? b = some o → h'.get? b = some o) : Fx H (ent0 g h) g none' L' h' m where
  ns := hn
  old := hk
  keep := fun b o q => hk b o (hg b o q)
  ours := fun _ _ q => nomatch q
  offz := none_of_ge (g := h.get?) (fun _ _ q => q) hL
  off := none_of_ge hg hL
  offM := rfl
  sepz := fun _ _ q => nomatch q
  sepg := fun _ _ q => nomatch q
  alive := fun a ha => let ⟨o, ho⟩ := ha; ⟨o, hk _ _ ho⟩
  ext := fun _ _ => rfl
  mono := fun _ _ q => q
  top := hH
theorem enter1 {L' : Addr} (hg : Sub g h) (hH : ∀ a o, H.get? a = some o → g a = some o) (hD : h.get? D = some o) (hgD : g D = none) (hL : h.objs.size ≤ L') (hn : h'.Ns L' m) (hk : ∀ b o, h.get? b = some o → h'.get? b = some o) :
    Fx H (ent1 g h D) g (up none' D o) L' h' m where
  ns := hn
  old := fun b o q => hk b o (by
    by_cases hb : b = D
    · subst hb; simp only [dn_self] at q; cases q
    · simpa only [dn_ne _ hb] using q)
  keep := fun b o q => hk b o (hg b o q)
  ours := fun b ob q => by
    by_cases hb : b = D
    · subst hb; rw [up_self] at q; cases q; exact hk _ _ hD
    · rw [up_ne _ _ hb] at q; cases q
  offz := by
    show dn h.get? D L' = none
    rw [dn_ne _ (Nat.ne_of_gt (Nat.lt_of_lt_of_le (Heap.lt_size hD) hL))]
    exact none_of_ge (g := h.get?) (fun _ _ q => q) hL
  off := none_of_ge hg hL
  offM := by rw [up_ne _ _ (Nat.ne_of_gt (Nat.lt_of_lt_of_le (Heap.lt_size hD) hL))]
  sepz := fun b ob q => by
    by_cases hb : b = D
    · subst hb; exact dn_self _ _
    · rw [up_ne _ _ hb] at q; cases q
  sepg := fun b ob q => by
    by_cases hb : b = D
    · subst hb; exact hgD
    · rw [up_ne _ _ hb] at q; cases q
  alive := fun a ha => let ⟨o, ho⟩ := ha; ⟨o, hk _ _ ho⟩
  ext := fun _ _ => rfl
  mono := fun _ _ q => q
  top := hH
/-- a function's end -/
theorem Fx.end0 {g₀ : G} {h₀ : Heap} (F : Fx H (ent0 g₀ h₀) g M L h m) : Rt (fun _ => False) g₀ h₀ g h :=
  ⟨fun b o q _ => F.old b o q, F.keep, fun a o ho => F.ext a ⟨o, ho⟩, F.mono⟩
theorem Fx.end1 {g₀ : G} {h₀ : Heap} (F : Fx H (ent1 g₀ h₀ D) g M L h m) : Rt (fun b => b = D) g₀ h₀ g h :=
  ⟨fun b o q hb => F.old b o (by show dn h₀.get? D b = some o; rw [dn_ne _ hb]; exact q), F.keep, fun a o ho => F.ext a ⟨o, ho⟩, F.mono⟩
/-- within a loop's turn: the iterators stand still -/
def ov (N z : G) : G := fun a => match N a with | some o => some o | none => z a
theorem ov_some {N z : G} {a : Addr} {o : Obj} (h : N a = some o) : ov N z a = some o := by unfold ov; rw [h]
theorem ov_none {N z : G} {a : Addr} (h : N a = none) : ov N z a = z a := by unfold ov; rw [h]
abbrev Ent.turn (e : Ent) (N : G) (h : Heap) (g : G) : Ent := ⟨ov N e.z, fun a => ∃ o, h.get? a = some o, g⟩
theorem Fx.into {N : G} (F : Fx H e g M L h m) (hN : Sub N h) (hL : N L = none) (hM : ∀ a o, M a = some o → N a = none) : Fx H (e.turn N h g) g M L h m where
  ns := F.ns
  old := fun b o q => by
    cases hb : N b with
    | some o' => rw [show (e.turn N h g).z = ov N e.z from rfl, ov_some hb] at q; cases q; exact hN b _ hb
    | none => rw [show (e.turn N h g).z = ov N e.z from rfl, ov_none hb] at q; exact F.old b o q
  keep := F.keep
  ours := F.ours
  offz := (ov_none hL).trans F.offz
  off := F.off
  offM := F.offM
  sepz := fun a o q => (ov_none (hM a o q)).trans (F.sepz a o q)
  sepg := F.sepg
  alive := fun _ ha => ha
  ext := fun _ _ => rfl
  mono := fun _ _ q => q
  top := F.top
theorem Fx.outof {N g' M' : G} (F : Fx H e g M L h m) (F' : Fx H (e.turn N h g) g' M' L h' m') (hz : ∀ a o, N a = some o → e.z a = none) : Fx H e g' M' L h' m' where
  ns := F'.ns
  old := fun b o q => F'.old b o (by
    show ov N e.z b = some o
    rw [ov_none (by
      cases hb : N b with
      | none => rfl
      | some o' => rw [hz b o' hb] at q; cases q)]
    exact q)
  keep := F'.keep
  ours := F'.ours
  offz := F.offz
  off := F'.off
  offM := F'.offM
  sepz := fun a o q => by
    have := F'.sepz a o q
    cases hb : N a with
    | none => rw [show (e.turn N h g).z = ov N e.z from rfl, ov_none hb] at this; exact this
    | some o' => exact hz a o' hb
  sepg := F'.sepg
  alive := fun a ha => let ⟨o, ho⟩ := F.alive a ha; F'.alive a ⟨o, ho⟩
  ext := fun a ha => let ⟨o, ho⟩ := F.alive a ha; (F'.ext a ⟨o, ho⟩).trans (F.ext a ha)
  mono := fun a o q => F'.mono a o (F.mono a o q)
  top := F'.top
theorem Fx.still {N g' M' : G} (F' : Fx H (e.turn N h g) g' M' L h' m') : Sub N h' := fun a o q => F'.old a o (ov_some q)
/-- the iterators turn -/
theorem Fx.step {wr : List Addr} (F : Fx H e g M L h m) (hk : ∀ b o, b ∉ wr → h.get? b = some o → h'.get? b = some o) (hL : L ∉ wr) (hz : ∀ b ∈ wr, e.z b = none) (hg : ∀ b ∈ wr, g b = none) (hM : ∀ b ∈ wr, M b = none)
    (hl : ∀ b ∈ wr, ¬ e.al b) : Fx H e g M L h' m where
  ns := by
    obtain ⟨oL, es, ep, hLo, r⟩ := F.ns
    exact ⟨oL, es, ep, hk L oL hL hLo, r⟩
  old := fun b o q => hk b o (fun x => by rw [hz b x] at q; cases q) (F.old b o q)
  keep := fun b o q => hk b o (fun x => by rw [hg b x] at q; cases q) (F.keep b o q)
  ours := fun b o q => hk b o (fun x => by rw [hM b x] at q; cases q) (F.ours b o q)
  offz := F.offz
  off := F.off
  offM := F.offM
  sepz := F.sepz
  sepg := F.sepg
  alive := fun a ha => by
    by_cases hb : a ∈ wr
    · exact absurd ha (hl a hb)
    · obtain ⟨o, ho⟩ := F.alive a ha; exact ⟨o, hk a o hb ho⟩
  ext := F.ext
  mono := F.mono
  top := F.top
end heap

section rules
variable {w : World} {H : Heap} {mg mb : Str → Option Value} {prog : Program} {A : Around} {E : Value → Shared → Prop} {s : Shared} {e : Ent} {g M : G} {L a D : Addr} {m : Str → Option Value} {cn : Str} {cs : Scope} {ccd : Value} {cl : List (Str × Addr)}
  {x : Str} {pos : Pos} {v : Value} {Q : Value → Shared → Prop}

theorem fx_local {MM : Model} (F : Fx H e g M L s.heap m) (hv : m x = some v) (h : Q v s)
    (hk : cs.kind = .function := by rfl) (hx : (envX cn cs L a ccd cl).kindOf x = some .local := by rfl) (hd : (x == ("__debug__" : Str)) = false := by decide) :
    wpAny MM A (eval (.Name x pos) (envX cn cs L a ccd cl)) Q E s := wpAny_Name (wpAny_loadName_local hk hx F.ns hv h) hd
theorem fx_localn {MM : Model} (F : Fx H e g M L s.heap m) (hv : m x = some v) (h : Q v s)
    (hk : cs.kind = .function := by rfl) (hx : (envX cn cs L a ccd cl).kindOf x = some .local := by rfl) :
    wpAny MM A (loadName (envX cn cs L a ccd cl) x) Q E s := wpAny_loadName_local hk hx F.ns hv h
theorem fx_global {MM : Model} (W : Wd w H mg mb) (F : Fx H e g M L s.heap m) (he : nsIn (hd.heap_39 w.params) mainGlobals x = some (some v)) (h : Q v s)
    (hk : cs.kind = .function := by rfl) (hx : (envX cn cs L a ccd cl).kindOf x = some .globalImplicit := by rfl) (hd : (x == ("__debug__" : Str)) = false := by decide) :
    wpAny MM A (eval (.Name x pos) (envX cn cs L a ccd cl)) Q E s := Name_function_global hk hx (loadGlobal_global (env := envX cn cs L a ccd cl) (W.g.keeps F.Hsub) (mg_of W.X W.g he) h) hd
theorem fx_builtin {MM : Model} (W : Wd w H mg mb) (F : Fx H e g M L s.heap m) (he : nsIn (hd.heap_39 w.params) mainGlobals x = some none) (hv : bootBuiltins x = some v) (hn : x ≠ "__name__") (h : Q v s)
    (hk : cs.kind = .function := by rfl) (hx : (envX cn cs L a ccd cl).kindOf x = some .globalImplicit := by rfl) (hd : (x == ("__debug__" : Str)) = false := by decide) :
    wpAny MM A (eval (.Name x pos) (envX cn cs L a ccd cl)) Q E s :=
  Name_function_global hk hx (loadGlobal_builtin (env := envX cn cs L a ccd cl) (W.g.keeps F.Hsub) (mg_none_of W.X W.g he) (W.b.keeps F.Hsub) ((W.builtins x hn).trans hv) h) hd
theorem fx_store {MM : Model} {Q : Unit → Shared → Prop} (F : Fx H e g M L s.heap m)
    (h : ∀ h', Fx H e g M L h' (fun y => if y = x then some v else m y) → Q () { s with heap := h', toks := s.toks + 1 })
    (hk : cs.kind = .function := by rfl) (hx : (envX cn cs L a ccd cl).kindOf x = some .local := by rfl) : wpAny MM A (storeName (envX cn cs L a ccd cl) x v) Q E s :=
  wpAny_storeName_local hx F.ns (fun h' hn hs => h h' (F.set hn hs)) (by show (cs.kind == .class || (cs.kind == .module && L != mainGlobals)) = false; rw [hk]; rfl)

theorem fx_callWith {MM : Model} {env : Env} {pos : Pos} {f : Value} {first : List Value} {ex : PySem.Expr} {rest : List PySem.Expr} (W : Wd w H mg mb) (hk : keepIn (hd.heap_39 w.params) f = true)
    (h : wpAny MM A (spliced (backTo pos (starEach (ex :: rest) env))) (fun vs s₁ => H.StaysIn s₁.heap ∧ wpAny MM A (call f (first ++ vs)) Q E s₁) E s)
    (he : starEach (ex :: rest) env = (false, eval ex env) :: starEach rest env := by rfl) (hplain : (backTo pos (starEach rest env)).any (·.1) = false := by rfl) :
    wpAny MM A (callWith pos f first (backTo pos (starEach (ex :: rest) env)) []) Q E s :=
  callWith_K (h₀ := H) W.X hk (wpAny_mono h (fun _ _ q => ⟨W.X.keeps q.1, q.2⟩) fun _ _ q => q) he hplain

/-- a def is entered -/
theorem fx_enter {R : Result → Shared → Prop} {name qual : Str} {params : Arguments} {body : List Stmt} {scope : Scope} {dV kV doc pm cdv ct oc : Value} {an od : Option Addr} {osl : Array (Option Value)} {f : Addr} {args : Args} {binds : List (Str × Value)}
    (W : Wd w H mg mb) (hH : H.StaysIn s.heap) (hroom : A.depth < recursionLimit)
    (ho : (hd.heap_39 w.params).lookup f = some ⟨oc, od, .func (fnOf name qual params body scope dV kV doc pm an cdv ct), osl⟩) (hcd : codeIn (hd.heap_39 w.params) cdv qual = true)
    (hbind : BindsTo s (fnOf name qual params body scope dV kV doc pm an cdv ct) args binds) (hloc : ∀ y ∈ binds, scope.names.lookup y.1 = some .local)
    (h : ∀ L h₁ tk, s.heap.objs.size ≤ L → h₁.Ns L (fun y => binds.reverse.lookup y) → (∀ b o, s.heap.get? b = some o → h₁.get? b = some o) →
      wpAny (model prog w) (A.deeper (envX qual scope L f cdv [])) (execs body (envX qual scope L f cdv []))
        (fun fl s' => R (.ok (.ret (match fl with | .ret v => v | _ => .none))) s') (fun _ _ => False)
        { s with heap := h₁, toks := tk })
    (hcell : ∀ x ∈ scope.names, x.2 ≠ .cell) (hco : scope.isCoroutine = false) (hgen : scope.isGenerator = false) (hk : scope.kind = .function) : codeAny (model prog w) A (.call (.ref f) args) R s :=
  codeAny_call_def (fd := fnX name qual params body scope [] dV kV doc pm an cdv ct) (body := body) (binds := binds) hroom (W.X.keeps hH _ _ ho) rfl (W.nolimit.keeps hH) (codeRec_of (W.X.keeps hH) hcd) rfl hbind hcell hloc
    (fun h₁ hns hk₁ => wpAny_mono (h _ h₁ _ (Nat.le_refl _) hns hk₁) (fun _ _ q => q) fun _ _ q => q.elim) hco hgen hk
end rules
end Mine

end
section
open PySem PySem.W PySem.Calls PyProof.Rows
set_option Elab.async false
set_option maxRecDepth 100000
set_option linter.unusedVariables false
namespace Mine

/-! objects: lists, tuples of ints (marks) -/
def IsL (o : Obj) (its : Array Value) : Prop := ∃ n, o = listOf its n
def IsT (o : Obj) (its : Array Value) : Prop := o.cls = .type "tuple" ∧ ∃ n, o.data = .seq its n
theorem IsL.isList {h : Heap} {a : Addr} {o : Obj} {its : Array Value} (x : IsL o its) (e : h.get? a = some o) : h.IsList a its := let ⟨n, q⟩ := x; ⟨_, q ▸ e, rfl, n, rfl⟩
theorem IsT.isTup {h : Heap} {a : Addr} {o : Obj} {its : Array Value} (x : IsT o its) (e : h.get? a = some o) : IsTup h a its := ⟨o, e, x.1, x.2⟩

/-- values, one by one, stand for things -/
def Al {α : Type} (R : Value → α → Prop) (its : Array Value) (xs : List α) : Prop := its.size = xs.length ∧ ∀ (i : Nat) (x : α), xs[i]? = some x → ∃ v, its[i]? = some v ∧ R v x

inductive Ints : List Value → List Int → Prop
  | nil : Ints [] []
  | cons (i : Int) (t : Tok) {vs : List Value} {ns : List Int} : Ints vs ns → Ints (.int i t :: vs) (i :: ns)
theorem Ints.length {vs : List Value} {ns : List Int} (h : Ints vs ns) : vs.length = ns.length := by
  induction h with
  | nil => rfl
  | cons _ _ _ ih => simp [ih]
theorem Ints.get {vs : List Value} {ns : List Int} (h : Ints vs ns) : ∀ (i : Nat) (x : Int), ns[i]? = some x → ∃ t, vs[i]? = some (.int x t) := by
  induction h with
  | nil => intro i x e; simp at e
  | cons a t _ ih =>
    intro i x e
    cases i with
    | zero => simp at e; subst e; exact ⟨t, rfl⟩
    | succ j => simpa using ih j x (by simpa using e)

abbrev Mk := List Int
/-- a tuple of ints -/
def IsMk (g : G) (v : Value) (x : Mk) : Prop := Ex3 fun a o its => And4 (v = .ref a) (g a = some o) (IsT o its) (Ints its.toList x)
theorem IsMk.mono {g g' : G} (hm : ∀ a o, g a = some o → g' a = some o) {v : Value} {x : Mk} (h : IsMk g v x) : IsMk g' v x :=
  let ⟨a, o, its, h1, h2, h3, h4⟩ := h; ⟨a, o, its, h1, hm _ _ h2, h3, h4⟩
theorem Al.mono {α : Type} {R R' : Value → α → Prop} (hm : ∀ v x, R v x → R' v x) {its : Array Value} {xs : List α} (h : Al R its xs) : Al R' its xs :=
  ⟨h.1, fun i x e => let ⟨v, h1, h2⟩ := h.2 i x e; ⟨v, h1, hm _ _ h2⟩⟩
abbrev Mks (g : G) (its : Array Value) (xs : List Mk) : Prop := Al (IsMk g) its xs

def llt : Mk → Mk → Bool
  | [], [] => false
  | [], _ :: _ => true
  | _ :: _, [] => false
  | a :: r, b :: t => if a = b then llt r t else decide (a < b)

section
variable {prog : Program} {w : World} {A : Around} {E : Value → Shared → Prop} {s : Shared}

theorem tup_eqBool_int {a b : Int} {t u : Tok} {Q : Bool → Shared → Prop} (h : Q (a == b) s) : wpAny (model prog w) A (eqBool (.int a t) (.int b u)) Q E s := wpAny_eqBool_int h

theorem tuple_lt_tree {x y : Mk} {a b : Addr} {oa ob : Obj} {xs ys : Array Value} {P : Fin → Shared → Prop} (ha : s.heap.get? a = some oa) (hb : s.heap.get? b = some ob) (ta : IsT oa xs) (tb : IsT ob ys)
    (ix : Ints xs.toList x) (iy : Ints ys.toList y) (h : P (.done (.ret (.bool (llt x y)))) s) :
    wpAny (model prog w) A (Builtin.«tuple.__lt__» ⟨[.ref a, .ref b], []⟩) P E s := by
  have hTb := (tb.isTup hb).typeIs
  obtain ⟨_, na, hda⟩ := ta
  obtain ⟨_, nb, hdb⟩ := tb
  show wpAny _ _ (isInstance (.ref b) (.type "tuple") >>= _) _ _ s
  refine wpAny_bind (wpAny_isInstance hTb isSubtype_tuple_tuple ?_)
  simp only [Bool.not_true, Bool.false_eq_true, if_false]
  refine wpAny_bind (wpAny_tupleItemsOf ha hda ?_)
  refine wpAny_bind (wpAny_tupleItemsOf hb hdb ?_)
  refine wpAny_bind ?_
  refine wpAny_forIn_list _
    (fun rest r s' => And3 (r.1 = none) (s' = s) (Ex4 fun x' y' xs' ys' => And5 (rest = List.zip xs' ys') (Ints xs' x') (Ints ys' y') (llt x' y' = llt x y) ((xs'.length : Int) - ys'.length = (xs.size : Int) - ys.size)))
    _ ?_ ?_ _ _ ⟨rfl, rfl, x, y, xs.toList, ys.toList, rfl, ix, iy, rfl, by simp⟩
  · rintro ⟨u, v⟩ rest r s' ⟨hr, rfl, x', y', xs', ys', hz, hx', hy', hlt, hlen⟩
    cases hx' with
    | nil => simp at hz
    | @cons k1 t1 xs'' x'' hx'' =>
      cases hy' with
      | nil => simp at hz
      | @cons k2 t2 ys'' y'' hy'' =>
        simp only [List.zip_cons_cons, List.cons.injEq, Prod.mk.injEq] at hz
        obtain ⟨⟨rfl, rfl⟩, rfl⟩ := hz
        refine wpAny_bind (wpAny_eqBool_int ?_)
        by_cases hk : k1 = k2
        · subst hk
          simp only [beq_self_eq_true, Bool.not_true, Bool.false_eq_true, if_false]
          refine wpAny_pure ⟨rfl, rfl, x'', y'', xs'', ys'', rfl, hx'', hy'', ?_, (by simp only [List.length_cons, Int.natCast_add] at hlen; lia)⟩
          rw [← hlt]; simp [llt]
        · rw [beq_false_of_ne hk]
          simp only [Bool.not_false, if_true]
          refine wpAny_bind (wpAny_rule ?_)
          refine wpAny_bind ?_
          refine (lt_int (prog := prog) (w := w) (a := k1) (b := k2) (Q := fun v s' => _) ?_ : wpAny (model prog w) A (richCompare .Lt (.int k1 t1) (.int k2 t2)) _ E s')
          have e : llt x y = decide (k1 < k2) := by rw [← hlt]; simp [llt, hk]
          rw [e] at h
          exact wpAny_bind (wpAny_pure (wpAny_pure (wpAny_pure h)))
  · rintro ⟨r1, r2⟩ s' ⟨hr, rfl, x', y', xs', ys', hz, hx', hy', hlt, hlen⟩
    simp only at hr
    subst hr
    have e : llt x y = decide (xs.size < ys.size) := by
      rw [← hlt]
      cases hx' with
      | nil => cases hy' with
        | nil => simp at hlen; simp [llt]; lia
        | cons _ _ _ => simp at hlen; simp [llt]; lia
      | cons _ _ _ => cases hy' with
        | nil => simp at hlen; simp [llt]; lia
        | cons _ _ _ => simp at hz
    rw [e] at h
    exact wpAny_pure h

theorem tuple_lt {x y : Mk} {a b : Addr} {oa ob : Obj} {xs ys : Array Value} {Q : Value → Shared → Prop} (hu : A.units < cLine) (ha : s.heap.get? a = some oa) (hb : s.heap.get? b = some ob) (ta : IsT oa xs) (tb : IsT ob ys)
    (ix : Ints xs.toList x) (iy : Ints ys.toList y) (h : Q (.bool (llt x y)) s) : wpAny (model prog w) A (compareOp .Lt (.ref a) (.ref b)) Q E s := by
  refine (wpAny_richCompare_same_room (ta.isTup ha).typeIs (tb.isTup hb).typeIs F.slot_tuple_lt ?_ hu : wpAny (model prog w) A (richCompare .Lt (.ref a) (.ref b)) Q E s)
  refine wpAny_call_entry F.slot_tuple_lt (ta.isTup ha).typeIs F.entry_tuple_lt ?_ (F.args_tuple_lt_2 _ _)
  exact tuple_lt_tree ha hb ta tb ix iy ⟨_, rfl, (by intro x; cases x), h⟩
end

section
variable {w : World} {H : Heap} {prog : Program} {A : Around} {E : Value → Shared → Prop} {s : Shared} {e : Ent} {g M : G} {L D : Addr} {m : Str → Option Value} {o : Obj} {its : Array Value}

/-- an item of a list -/
theorem l_item {value slice : PySem.Expr} {k : Int} {u : Tok} {v : Value} {Q : Value → Shared → Prop} (ho : s.heap.get? D = some o) (hl : IsL o its) (h0 : 0 ≤ k) (hhi : k < 2 ^ 63) (hx : its[k.toNat]? = some v) (h : Q v s)
    (hs : subscripted slice false (.ref D) (.int k u) = operate [.ref D, .int k u] (getItem (.ref D) (.int k u)) := by with_unfolding_all rfl) :
    wpAny (model prog w) A (subscriptTail value slice (.ref D) (.int k u)) Q E s :=
  tail_any (hl.isList ho).typeIs slot_list_getitem.lookup (wpAny_getItem_list (hl.isList ho) h0 hhi hx h) hs
/-- the last item of a list -/
theorem l_last {value slice : PySem.Expr} {u : Tok} {v : Value} {Q : Value → Shared → Prop} (ho : s.heap.get? D = some o) (hl : IsL o its) (h1 : 0 < its.size) (hx : its[its.size - 1]? = some v) (h : Q v s)
    (hs : subscripted slice false (.ref D) (.int (-1) u) = operate [.ref D, .int (-1) u] (getItem (.ref D) (.int (-1) u)) := by with_unfolding_all rfl) :
    wpAny (model prog w) A (subscriptTail value slice (.ref D) (.int (-1) u)) Q E s :=
  tail_any (hl.isList ho).typeIs slot_list_getitem.lookup (wpAny_getItem_list_neg (hl.isList ho) (by decide) (by lia) (by decide) (by rw [show ((-1 : Int) + (its.size : Int)).toNat = its.size - 1 by lia]; exact hx) h) hs
/-- an item of a tuple -/
theorem t_item {value slice : PySem.Expr} {k : Int} {u : Tok} {v : Value} {Q : Value → Shared → Prop} (ho : s.heap.get? D = some o) (hl : IsT o its) (h0 : 0 ≤ k) (hhi : k < 2 ^ 63) (hx : its[k.toNat]? = some v) (h : Q v s)
    (hs : subscripted slice false (.ref D) (.int k u) = operate [.ref D, .int k u] (getItem (.ref D) (.int k u)) := by with_unfolding_all rfl) :
    wpAny (model prog w) A (subscriptTail value slice (.ref D) (.int k u)) Q E s := by
  have hlt : k.toNat < its.size := by
    rcases Nat.lt_or_ge k.toNat its.size with q | q
    · exact q
    · rw [Array.getElem?_eq_none q] at hx; cases hx
  exact tail_any (hl.isTup ho).typeIs slot_tuple_getitem.lookup (PyProof.Rows.getItem_tuple (hl.isTup ho) (by lia) hhi (j := k.toNat) (by unfold seqIndex?; simp; lia) hx h) hs
/-- a store into a list of ours -/
theorem l_set {k : Int} {u : Tok} {v : Value} {Q : Unit → Shared → Prop} (F : Fx H e g (up M D o) L s.heap m) (hl : IsL o its) (h0 : 0 ≤ k) (hhi : k < 2 ^ 63) (hn : k < its.size)
    (h : ∀ h' o', IsL o' (its.setIfInBounds k.toNat v) → Fx H e g (up M D o') L h' m → Q () { s with heap := h' }) : wpAny (model prog w) A (setItem (.ref D) (.int k u) v) Q E s := by
  obtain ⟨n, rfl⟩ := hl
  have e : ∀ o', up (up M D (listOf its n)) D o' = up M D o' := fun o' => by funext a; simp only [up]; split <;> rfl
  refine ki_setAt (F.ours D _ (up_self _ _ _)) h0 hhi hn ?_
  have q := PySem.IsL.update (F.ours D _ (up_self _ _ _)) (·.setIfInBounds k.toNat v)
  have F' := F.upd (up_self _ _ _) (Heap.SameBut.update ..) q
  rw [e] at F'
  exact h _ _ ⟨_, rfl⟩ F'
/-- the length of a list -/
theorem l_len {Q : Value → Shared → Prop} (ho : s.heap.get? D = some o) (hl : IsL o its) (hfit : (its.size : Int) < 2 ^ 63) (h : ∀ t tk, Q (.int (its.size : Int) t) { s with toks := tk }) : wpAny (model prog w) A (call (.builtin "len") [.ref D]) Q E s :=
  len_list (hl.isList ho) hfit (h _ _)
end

/-! lists' methods -/
section
variable {w : World} {H : Heap} {prog : Program} {A : Around} {E : Value → Shared → Prop} {s : Shared} {e : Ent} {g M : G} {L D : Addr} {m : Str → Option Value} {o : Obj} {its : Array Value}
theorem up_up (M : G) (D : Addr) (o o' : Obj) : up (up M D o) D o' = up M D o' := by funext a; simp only [up]; split <;> rfl
theorem l_method {name : Str} {id : String} {pl : Sem Bool} {Q : Value × List Value → Shared → Prop} (ho : s.heap.get? D = some o) (hl : IsL o its) (slot : Slot "list" name id) (hty : typeOf (.builtin id) = pure (.type "method_descriptor"))
    (h : Q (.builtin id, [.ref D]) s) : wpAny (model prog w) A (getMethod (.ref D) name pl) Q E s := by
  obtain ⟨n, rfl⟩ := hl
  exact getMethod_builtin ⟨_, ho, rfl⟩ PySem.F.plainAttrs_list slot hty (fun a e => by cases e; exact ⟨_, ho, rfl⟩) h
theorem l_truthy {Q : Bool → Shared → Prop} (ho : s.heap.get? D = some o) (hl : IsL o its) (hfit : (its.size : Int) < 2 ^ 63) (h : ∀ tk, Q (!its.isEmpty) { s with toks := tk }) : wpAny (model prog w) A (truthy (.ref D)) Q E s :=
  wpAny_truthy_list (hl.isList ho) hfit (h _)
theorem l_append {x : Value} {Q : Value → Shared → Prop} (F : Fx H e g (up M D o) L s.heap m) (hl : IsL o its) (hsz : its.size ≤ 100000)
    (h : ∀ h' o', IsL o' (its.push x) → Fx H e g (up M D o') L h' m → Q .none { s with heap := h' }) : wpAny (model prog w) A (call (.builtin "list.append") [.ref D, x]) Q E s := by
  obtain ⟨n, rfl⟩ := hl
  refine append_at (F.ours D _ (up_self _ _ _)) (fun h' hs ho' => ?_) (Nat.le_trans hsz (by rw [sizeLine_eq]; lia))
  have F' := F.upd (up_self _ _ _) hs ho'
  rw [up_up] at F'
  exact h _ _ ⟨_, rfl⟩ F'
theorem l_pop {y : Value} {Q : Value → Shared → Prop} (F : Fx H e g (up M D o) L s.heap m) (hl : IsL o its) (hy : its[its.size - 1]? = some y) (hsz : its.size ≤ 100000)
    (h : ∀ h' o', IsL o' (its.eraseIdxIfInBounds (its.size - 1)) → Fx H e g (up M D o') L h' m → Q y { s with heap := h' }) : wpAny (model prog w) A (call (.builtin "list.pop") [.ref D]) Q E s := by
  obtain ⟨n, rfl⟩ := hl
  have z := F.ours D _ (up_self _ _ _)
  have q := PySem.IsL.update z (fun xs => xs.eraseIdxIfInBounds (its.size - 1))
  have F' := F.upd (up_self _ _ _) (Heap.SameBut.update ..) q
  rw [up_up] at F'
  exact call_meets PySem.F.slot_list_pop ⟨_, z, rfl⟩ PySem.F.entry_list_pop (PySem.F.args_list_pop_1 _) (PySem.MeetsSeq.list_pop_last D _ n y hy (Nat.le_trans hsz (by rw [sizeLine_eq]; lia))) ⟨z, h _ _ ⟨_, rfl⟩ F'⟩
theorem l_insert {x : Int} {u : Tok} {y : Value} {Q : Value → Shared → Prop} (F : Fx H e g (up M D o) L s.heap m) (hl : IsL o its) (h0 : 0 ≤ x) (hk : x.toNat ≤ its.size) (hsz : its.size ≤ 100000)
    (h : ∀ h' tk o', IsL o' ((its.extract 0 x.toNat).push y ++ its.extract x.toNat) → Fx H e g (up M D o') L h' m → Q .none { s with heap := h', toks := tk }) : wpAny (model prog w) A (call (.builtin "list.insert") [.ref D, .int x u, y]) Q E s := by
  obtain ⟨n, rfl⟩ := hl
  have z := F.ours D _ (up_self _ _ _)
  have hc : ¬ (!Builtin.List.listFitsIndex x) = true := by rw [fitsIndex_of h0 (by lia)]; simp
  have hs1 : its.size ≤ sizeLine := by rw [sizeLine_eq]; lia
  have hg := PySem.AutoSeq1.list_insert_list_int_val_1 D its n x u y hc (by exact hs1)
  refine call_meets PySem.F.slot_list_insert ⟨_, z, rfl⟩ PySem.F.entry_list_insert (PySem.F.args_list_insert_3 _ _ _) hg ⟨z, ?_⟩
  have ek : (if x < 0 then (x + (its.size : Int)).toNat else min x.toNat its.size) = x.toNat := by rw [if_neg (by lia)]; lia
  have F' := F.upd (up_self _ _ _) (Heap.SameBut.update ..) (PySem.IsL.update z (fun xs => have k := if x < 0 then (x + (xs.size : Int)).toNat else min x.toNat xs.size; (xs.extract 0 k).push y ++ xs.extract k))
  rw [up_up] at F'
  exact h _ _ _ ⟨_, by simp only [ek]; rfl⟩ F'
end
/-! loops -/
section
variable {prog : Program} {w : World} {A : Around} {s : Shared} {env : Env}
abbrev noE : Value → Shared → Prop := fun _ _ => False
theorem notedNo {M : Model} {A : Around} {env : Env} {t : Sem α} {Q : α → Shared → Prop} {E' : Value → Shared → Prop} (h : wpAny M A t Q noE s) : wpAny M A t Q E' s := wpAny_mono h (fun _ _ q => q) fun _ _ q => q.elim
theorem fx_while {test : PySem.Expr} {body : List Stmt} {pos : Pos} {Q : Flow → Shared → Prop} (I : Nat → Shared → Prop) (n : Nat) (h : I n s)
    (turn : ∀ n s, I n s → wpAny (model prog w) A (isTrue test env (eval test env)) (fun b s₂ =>
        if b = true then wpAny (model prog w) A (execs body env) (fun f s₃ => match f with
            | .next => ∃ k, k < n ∧ I k s₃
            | .cont => ∃ k, k < n ∧ I k s₃
            | .brk => Q .next s₃
            | .ret v => Q (.ret v) s₃) noE s₂
        else Q .next s₂) noE s) : wpAny (model prog w) A (exec (.While test body [] pos) env) Q noE s := by
  refine wpAny_While (codeAny_whileLoop I (fun n s hI => notedNo (A := A) (env := env) (wpAny_mono (turn n s hI) (fun b s₂ h₂ => ?_) fun _ _ q => q)) n h)
  cases b with
  | false =>
    simp only [Bool.false_eq_true, if_false] at h₂ ⊢
    exact wpAny_execs_nil h₂
  | true =>
    simp only [if_true] at h₂ ⊢
    refine notedNo (A := A) (env := env) (wpAny_mono h₂ (fun f s₃ h₃ => ?_) fun _ _ q => q)
    cases f <;> exact h₃
end
end Mine

end
section
set_option linter.unusedVariables false
open PySem PySem.W PySem.Calls PyProof.Rows
set_option autoImplicit false
namespace Mine

/-! what the heap's defs reckon, on lists -/
def sdown (lt : Mk → Mk → Bool) (new : Mk) (start : Nat) (pos : Nat) (xs : List Mk) : List Mk :=
  if h : start < pos then
    if lt new (xs.getD ((pos - 1) / 2) []) = true then sdown lt new start ((pos - 1) / 2) (xs.set pos (xs.getD ((pos - 1) / 2) []))
    else xs.set pos new
  else xs.set pos new
termination_by pos
decreasing_by lia

def pick (lt : Mk → Mk → Bool) (xs : List Mk) (c : Nat) : Nat := if c + 1 < xs.length ∧ lt (xs.getD c []) (xs.getD (c + 1) []) = false then c + 1 else c
theorem pick_le (lt : Mk → Mk → Bool) (xs : List Mk) (c : Nat) : c ≤ pick lt xs c := by unfold pick; split <;> lia
theorem pick_lt {lt : Mk → Mk → Bool} {xs : List Mk} {c : Nat} (h : c < xs.length) : pick lt xs c < xs.length := by unfold pick; split <;> lia
def uploop (lt : Mk → Mk → Bool) (pos : Nat) (xs : List Mk) : Nat × List Mk :=
  if h : 2 * pos + 1 < xs.length then uploop lt (pick lt xs (2 * pos + 1)) (xs.set pos (xs.getD (pick lt xs (2 * pos + 1)) []))
  else (pos, xs)
termination_by xs.length - pos
decreasing_by
  have h1 := pick_le lt xs (2 * pos + 1)
  have h2 := pick_lt (lt := lt) h
  simp only [List.length_set]
  lia
def sup (lt : Mk → Mk → Bool) (xs : List Mk) (pos : Nat) : List Mk :=
  let new := xs.getD pos []
  let r := uploop lt pos xs
  sdown lt new pos r.1 (r.2.set r.1 new)
theorem length_sdown (lt : Mk → Mk → Bool) (new : Mk) (start pos : Nat) (xs : List Mk) : (sdown lt new start pos xs).length = xs.length := by
  induction pos using Nat.strongRecOn generalizing xs with
  | ind pos ih =>
    rw [sdown]
    split
    · split
      · rw [ih _ (by lia), List.length_set]
      · rw [List.length_set]
    · rw [List.length_set]
theorem length_uploop (lt : Mk → Mk → Bool) : ∀ (k pos : Nat) (xs : List Mk), xs.length - pos = k → (uploop lt pos xs).2.length = xs.length := by
  intro k
  induction k using Nat.strongRecOn with
  | ind k ih =>
    intro pos xs hk
    rw [uploop]
    split
    · rename_i h
      have h1 := pick_le lt xs (2 * pos + 1)
      have h2 := pick_lt (lt := lt) h
      rw [ih (xs.length - pick lt xs (2 * pos + 1)) (by lia) (pick lt xs (2 * pos + 1)) (xs.set pos (xs.getD (pick lt xs (2 * pos + 1)) [])) (by rw [List.length_set]), List.length_set]
    · rfl
theorem uploop_lt (lt : Mk → Mk → Bool) : ∀ (k pos : Nat) (xs : List Mk), xs.length - pos = k → pos < xs.length → pos ≤ (uploop lt pos xs).1 ∧ (uploop lt pos xs).1 < xs.length := by
  intro k
  induction k using Nat.strongRecOn with
  | ind k ih =>
    intro pos xs hk hp
    rw [uploop]
    split
    · rename_i h
      have h1 := pick_le lt xs (2 * pos + 1)
      have h2 := pick_lt (lt := lt) h
      have := ih (xs.length - pick lt xs (2 * pos + 1)) (by lia) (pick lt xs (2 * pos + 1)) (xs.set pos (xs.getD (pick lt xs (2 * pos + 1)) [])) (by rw [List.length_set]) (by rw [List.length_set]; exact h2)
      rw [List.length_set] at this
      lia
    · exact ⟨Nat.le_refl _, hp⟩
theorem length_sup (lt : Mk → Mk → Bool) (xs : List Mk) (pos : Nat) : (sup lt xs pos).length = xs.length := by
  unfold sup
  simp only [length_sdown, List.length_set, length_uploop lt _ _ _ rfl]

theorem sdown_yes {lt : Mk → Mk → Bool} {new : Mk} {start pos : Nat} {xs : List Mk} (h : start < pos) (hb : lt new (xs.getD ((pos - 1) / 2) []) = true) :
    sdown lt new start pos xs = sdown lt new start ((pos - 1) / 2) (xs.set pos (xs.getD ((pos - 1) / 2) [])) := by
  conv => lhs; rw [sdown]
  rw [dif_pos h, if_pos hb]
theorem sdown_no {lt : Mk → Mk → Bool} {new : Mk} {start pos : Nat} {xs : List Mk} (hb : lt new (xs.getD ((pos - 1) / 2) []) = false) :
    sdown lt new start pos xs = xs.set pos new := by
  rw [sdown]
  split
  · rw [if_neg (by rw [hb]; simp)]
  · rfl
theorem sdown_end {lt : Mk → Mk → Bool} {new : Mk} {start pos : Nat} {xs : List Mk} (h : ¬ start < pos) : sdown lt new start pos xs = xs.set pos new := by
  rw [sdown, dif_neg h]
theorem uploop_yes {lt : Mk → Mk → Bool} {pos : Nat} {xs : List Mk} (h : 2 * pos + 1 < xs.length) :
    uploop lt pos xs = uploop lt (pick lt xs (2 * pos + 1)) (xs.set pos (xs.getD (pick lt xs (2 * pos + 1)) [])) := by
  conv => lhs; rw [uploop]
  rw [dif_pos h]
theorem uploop_end {lt : Mk → Mk → Bool} {pos : Nat} {xs : List Mk} (h : ¬ 2 * pos + 1 < xs.length) : uploop lt pos xs = (pos, xs) := by
  rw [uploop, dif_neg h]

/-! lists of marks -/
variable {g : G} {its : Array Value} {xs : List Mk}
theorem Mks.get (h : Mks g its xs) {i : Nat} (hi : i < xs.length) : ∃ a o ts, its[i]? = some (.ref a) ∧ g a = some o ∧ IsT o ts ∧ Ints ts.toList (xs.getD i []) := by
  obtain ⟨v, hv, a, o, ts, rfl, h2, h3, h4⟩ := h.2 i xs[i] (by simp [hi])
  exact ⟨a, o, ts, hv, h2, h3, by simpa [List.getD, hi] using h4⟩
theorem Mks.set (h : Mks g its xs) (i : Nat) {v : Value} {x : Mk} (hv : IsMk g v x) : Mks g (its.setIfInBounds i v) (xs.set i x) := by
  refine ⟨by simp [h.1], fun j y e => ?_⟩
  rw [List.getElem?_set] at e
  rw [Array.getElem?_setIfInBounds]
  split at e
  · rename_i hij
    subst hij
    rw [if_pos rfl]
    split at e
    · rename_i hlt
      cases e
      rw [if_pos (by rw [h.1]; exact hlt)]
      exact ⟨v, rfl, hv⟩
    · cases e
  · rename_i hij
    rw [if_neg hij]
    exact h.2 j y e
theorem Mks.size (h : Mks g its xs) : its.size = xs.length := h.1
end Mine
namespace Mine
section
variable {α : Type} {R : Value → α → Prop} {its jts : Array Value} {xs ys : List α}
theorem Al.toL (h : Al R its xs) : its.toList.length = xs.length ∧ ∀ (i : Nat) (x : α), xs[i]? = some x → ∃ v, its.toList[i]? = some v ∧ R v x := ⟨by simpa using h.1, fun i x e => let ⟨v, a, b⟩ := h.2 i x e; ⟨v, by simpa using a, b⟩⟩
theorem Al.ofL {l : List Value} (h1 : l.length = xs.length) (h2 : ∀ (i : Nat) (x : α), xs[i]? = some x → ∃ v, l[i]? = some v ∧ R v x) (e : its.toList = l) : Al R its xs :=
  ⟨by rw [← h1, ← e]; simp, fun i x q => let ⟨v, a, b⟩ := h2 i x q; ⟨v, by rw [← e] at a; simpa using a, b⟩⟩
theorem Al.nil : Al R #[] ([] : List α) := ⟨rfl, fun i x q => by simp at q⟩
theorem Al.append (h : Al R its xs) (k : Al R jts ys) : Al R (its ++ jts) (xs ++ ys) := by
  obtain ⟨h1, h2⟩ := h.toL
  obtain ⟨k1, k2⟩ := k.toL
  refine Al.ofL (l := its.toList ++ jts.toList) (by simp [h1, k1]) (fun i x q => ?_) (by simp)
  rw [List.getElem?_append] at q ⊢
  rw [h1]
  split at q
  · rename_i hlt; rw [if_pos hlt]; exact h2 i x q
  · rename_i hlt; rw [if_neg hlt]; exact k2 _ x q
theorem Al.one {v : Value} {x : α} (h : R v x) : Al R #[v] [x] := ⟨rfl, fun i y q => by
  cases i with
  | zero => simp at q; subst q; exact ⟨v, rfl, h⟩
  | succ i => simp at q⟩
theorem Al.push (h : Al R its xs) {v : Value} {x : α} (hv : R v x) : Al R (its.push v) (xs ++ [x]) := by
  have := h.append (Al.one hv)
  rwa [Array.append_singleton] at this
theorem Al.take (h : Al R its xs) (k : Nat) : Al R (its.extract 0 k) (xs.take k) := by
  obtain ⟨h1, h2⟩ := h.toL
  refine Al.ofL (l := its.toList.take k) (by simp [h1]) (fun i x q => ?_) (by simp)
  rw [List.getElem?_take] at q ⊢
  split at q
  · rename_i hlt; rw [if_pos hlt]; exact h2 i x q
  · cases q
theorem Al.drop (h : Al R its xs) (k : Nat) : Al R (its.extract k) (xs.drop k) := by
  obtain ⟨h1, h2⟩ := h.toL
  refine Al.ofL (l := its.toList.drop k) (by simp [h1]) (fun i x q => ?_) ?_
  · rw [List.getElem?_drop] at q ⊢; exact h2 _ x q
  · simp only [Array.toList_extract, List.extract_eq_take_drop, Array.length_toList]
    exact List.take_of_length_le (by simp)
theorem Al.insert (h : Al R its xs) (k : Nat) {v : Value} {x : α} (hv : R v x) : Al R ((its.extract 0 k).push v ++ its.extract k) (xs.take k ++ x :: xs.drop k) := by
  have := ((h.take k).push hv).append (h.drop k)
  rwa [List.append_assoc] at this
theorem Al.pop (h : Al R its xs) : Al R (its.eraseIdxIfInBounds (its.size - 1)) xs.dropLast := by
  have e : (its.eraseIdxIfInBounds (its.size - 1)).toList = its.toList.dropLast := by
    unfold Array.eraseIdxIfInBounds
    split
    · rw [Array.toList_eraseIdx]
      rw [← Array.length_toList, List.eraseIdx_length_sub_one]
    · rename_i q
      have : its.size = 0 := by lia
      have e2 : its.toList = [] := by simpa using this
      rw [e2]; rfl
  obtain ⟨h1, h2⟩ := h.toL
  refine Al.ofL (l := its.toList.dropLast) (by simp [h1]) (fun i x q => ?_) e
  rw [List.getElem?_dropLast] at q ⊢
  rw [h1]
  split at q
  · rename_i hlt; rw [if_pos hlt]; exact h2 i x q
  · cases q
end
/-- heapify: the places k - 1, .., 0, one after the other -/
def hfy (lt : Mk → Mk → Bool) : Nat → List Mk → List Mk
  | 0, xs => xs
  | k + 1, xs => hfy lt k (sup lt xs k)
def bisr (x : Mk) (xs : List Mk) (lo hi : Nat) : Nat :=
  if h : lo < hi then
    if llt x (xs.getD ((lo + hi) / 2) []) = true then bisr x xs lo ((lo + hi) / 2) else bisr x xs ((lo + hi) / 2 + 1) hi
  else lo
termination_by hi - lo
decreasing_by all_goals lia
def bisl (x : Mk) (xs : List Mk) (lo hi : Nat) : Nat :=
  if h : lo < hi then
    if llt (xs.getD ((lo + hi) / 2) []) x = true then bisl x xs ((lo + hi) / 2 + 1) hi else bisl x xs lo ((lo + hi) / 2)
  else lo
termination_by hi - lo
decreasing_by all_goals lia
theorem bisr_lt {x : Mk} {xs : List Mk} {lo hi : Nat} (h : lo < hi) (hb : llt x (xs.getD ((lo + hi) / 2) []) = true) : bisr x xs lo hi = bisr x xs lo ((lo + hi) / 2) := by
  conv => lhs; rw [bisr]
  rw [dif_pos h, if_pos hb]
theorem bisr_ge {x : Mk} {xs : List Mk} {lo hi : Nat} (h : lo < hi) (hb : llt x (xs.getD ((lo + hi) / 2) []) = false) : bisr x xs lo hi = bisr x xs ((lo + hi) / 2 + 1) hi := by
  conv => lhs; rw [bisr]
  rw [dif_pos h, if_neg (by rw [hb]; simp)]
theorem bisr_end {x : Mk} {xs : List Mk} {lo hi : Nat} (h : ¬ lo < hi) : bisr x xs lo hi = lo := by rw [bisr, dif_neg h]
theorem bisl_lt {x : Mk} {xs : List Mk} {lo hi : Nat} (h : lo < hi) (hb : llt (xs.getD ((lo + hi) / 2) []) x = true) : bisl x xs lo hi = bisl x xs ((lo + hi) / 2 + 1) hi := by
  conv => lhs; rw [bisl]
  rw [dif_pos h, if_pos hb]
theorem bisl_ge {x : Mk} {xs : List Mk} {lo hi : Nat} (h : lo < hi) (hb : llt (xs.getD ((lo + hi) / 2) []) x = false) : bisl x xs lo hi = bisl x xs lo ((lo + hi) / 2) := by
  conv => lhs; rw [bisl]
  rw [dif_pos h, if_neg (by rw [hb]; simp)]
theorem bisl_end {x : Mk} {xs : List Mk} {lo hi : Nat} (h : ¬ lo < hi) : bisl x xs lo hi = lo := by rw [bisl, dif_neg h]
/-- heappop: what is handed out, what is left -/
def hpop (xs : List Mk) : Mk × List Mk :=
  if xs.length = 1 then (xs.getD 0 [], [])
  else (xs.getD 0 [], sup llt (xs.dropLast.set 0 (xs.getD (xs.length - 1) [])) 0)
end Mine
namespace Mine
theorem bisr_le (x : Mk) (xs : List Mk) : ∀ (k lo hi : Nat), hi - lo = k → lo ≤ hi → lo ≤ bisr x xs lo hi ∧ bisr x xs lo hi ≤ hi := by
  intro k
  induction k using Nat.strongRecOn with
  | ind k ih =>
    intro lo hi hk hle
    rw [bisr]
    split
    · rename_i h
      split
      · have := ih _ (by lia) lo ((lo + hi) / 2) rfl (by lia); lia
      · have := ih _ (by lia) ((lo + hi) / 2 + 1) hi rfl (by lia); lia
    · lia
def ins (x : Mk) (xs : List Mk) : List Mk := xs.take (bisr x xs 0 xs.length) ++ x :: xs.drop (bisr x xs 0 xs.length)
theorem length_ins (x : Mk) (xs : List Mk) : (ins x xs).length = xs.length + 1 := by
  unfold ins
  rw [List.length_append, List.length_cons, List.length_take, List.length_drop]
  have := (bisr_le x xs _ 0 xs.length rfl (Nat.zero_le _)).2
  lia
end Mine

end
section
open PySem PySem.W PySem.Calls PyProof.Rows
set_option Elab.async false
set_option maxRecDepth 100000
set_option linter.unusedVariables false
namespace Mine

theorem set_eq {m : Str → Option Value} {x : Str} {v : Value} : (fun y => if y = x then some v else m y) x = some v := if_pos rfl
theorem set_ne {m : Str → Option Value} {x z : Str} {v : Value} {r : Option Value} (h : z ≠ x) (hm : m z = r) : (fun y => if y = x then some v else m y) z = r := (if_neg h).trans hm
theorem binds_dk {s : Shared} {K : Frag} {fd : FuncData} {args : Args} {binds : List (Str × Value)} {T d : Addr} {o od : Obj} {items : Array Value} {n : Nat} {part : Option Value}
    {k : Option (Array Value) → Sem (List (Str × Value))} {k2 : Obj → Sem (List (Str × Value))} (X : K.In s.heap) (hd : fd.defaults = .ref T) (ho : K.lookup T = some o) (hs : o.data = .seq items n)
    (h₁ : bindArgs fd args = seqItems? fd.defaults >>= k) (h₂ : k (some items) = Sem.load d part k2) (hod : K.lookup d = some od) (h₃ : k2 od = pure binds) : BindsTo s fd args binds :=
  fun M A E Q hq => by
    rw [h₁, hd]
    refine wpAny_bind (wpAny_seqItems (X _ _ ho) hs ?_)
    rw [h₂]
    refine (wpAny_bind (f := k2) (wpAny_loadPart (X _ _ hod) ?_) : wpAny M A (loadPart d part >>= k2) Q E s)
    rw [h₃]
    exact wpAny_pure hq
theorem ite_dec_no {p : Prop} [Decidable p] {a b : Prop} (hp : ¬ p) (h : b) : if decide p = true then a else b := by rw [decide_eq_false hp]; simpa using h
theorem ite_dec_yes {p : Prop} [Decidable p] {a b : Prop} (hp : p) (h : a) : if decide p = true then a else b := by rw [decide_eq_true hp]; simpa using h
theorem lk_eq {x : Str} {v : Value} {q : Option Value} : (if x = x then some v else q) = some v := if_pos rfl
theorem lk_ne {x z : Str} {v : Value} {q r : Option Value} (h : z ≠ x) (hm : q = r) : (if z = x then some v else q) = r := (if_neg h).trans hm
theorem Room.u {A : Around} {d u : Nat} (R : Room A d u) : A.units < cLine := Nat.lt_of_le_of_lt (Nat.le_add_right _ _) R.units
theorem Room.d {A : Around} {d u : Nat} (R : Room A d u) : A.depth < recursionLimit := Nat.lt_of_le_of_lt (Nat.le_add_right _ _) R.depth

section
variable {w : World} {H : Heap} {mg mb : Str → Option Value} {prog : Program} {A : Around} {E : Value → Shared → Prop} {e : Ent} {g M : G} {L a D : Addr} {m : Str → Option Value} {cn : Str} {cs : Scope} {ccd : Value} {cl : List (Str × Addr)}
  {x : Str} {pos : Pos} {v : Value} {Q : Value → Shared → Prop} {h : Heap} {gn : Array GenState} {dr : Drawn} {tk : Nat} {os : OsState} {i j : Int} {t u : Tok} {env : Env}

theorem r_store {MM : Model} {Q : Unit → Shared → Prop} (F : Fx H e g M L h m)
    (k : ∀ h' tk', Fx H e g M L h' (fun y => if y = x then some v else m y) → Q () ⟨h', gn, dr, tk', os⟩)
    (hk : cs.kind = .function := by rfl) (hx : (envX cn cs L a ccd cl).kindOf x = some .local := by rfl) : wpAny MM A (storeName (envX cn cs L a ccd cl) x v) Q E ⟨h, gn, dr, tk, os⟩ :=
  fx_store (s := ⟨h, gn, dr, tk, os⟩) F (fun h' F' => k h' _ F') hk hx
theorem r_const {MM : Model} {kk : _} (k : ∀ t tk', Q (.int i t) ⟨h, gn, dr, tk', os⟩) : wpAny MM A (eval (.Constant (.int i) kk pos) env) Q E ⟨h, gn, dr, tk, os⟩ := wpAny_Constant_int (k _ _)
theorem r_add (k : ∀ t tk', Q (.int (i + j) t) ⟨h, gn, dr, tk', os⟩) : wpAny (model prog w) A (binaryOp .Add (.int i t) (.int j u)) Q E ⟨h, gn, dr, tk, os⟩ := PyProof.Rows.add_int (k _ _)
theorem r_sub (k : ∀ t tk', Q (.int (i - j) t) ⟨h, gn, dr, tk', os⟩) : wpAny (model prog w) A (binaryOp .Sub (.int i t) (.int j u)) Q E ⟨h, gn, dr, tk, os⟩ := PyProof.Rows.sub_int (k _ _)
theorem r_iadd (k : ∀ t tk', Q (.int (i + j) t) ⟨h, gn, dr, tk', os⟩) : wpAny (model prog w) A (inplaceOp .Add (.int i t) (.int j u)) Q E ⟨h, gn, dr, tk, os⟩ := PyProof.Rows.iadd_int (k _ _)
theorem r_mul (k : ∀ t tk', Q (.int (i * j) t) ⟨h, gn, dr, tk', os⟩) (hm : IntMulOk i j) : wpAny (model prog w) A (binaryOp .Mult (.int i t) (.int j u)) Q E ⟨h, gn, dr, tk, os⟩ := PySem.P.mul_int (k _ _) hm
theorem r_mod (hj : j ≠ 0) (k : ∀ t tk', Q (.int (i.fmod j) t) ⟨h, gn, dr, tk', os⟩) : wpAny (model prog w) A (binaryOp .Mod (.int i t) (.int j u)) Q E ⟨h, gn, dr, tk, os⟩ := mod_int' hj (k _ _)
theorem r_fdiv (hj : j ≠ 0) (hs : j.natAbs < 1073741824) (k : ∀ t tk', Q (.int (i.fdiv j) t) ⟨h, gn, dr, tk', os⟩) : wpAny (model prog w) A (binaryOp .FloorDiv (.int i t) (.int j u)) Q E ⟨h, gn, dr, tk, os⟩ :=
  floordiv_int hj (k _ _) (.inl (PyProof.noPylong_small hs))
theorem r_shr1 (hi : 0 ≤ i) (k : ∀ t tk', Q (.int (i / 2) t) ⟨h, gn, dr, tk', os⟩) : wpAny (model prog w) A (binaryOp .RShift (.int i t) (.int 1 u)) Q E ⟨h, gn, dr, tk, os⟩ := wpAny_rshift1_int hi (k _ _)
theorem r_len {o : Obj} {its : Array Value} (ho : h.get? D = some o) (hl : IsL o its) (hfit : (its.size : Int) < 2 ^ 63) (k : ∀ t tk', Q (.int (its.size : Int) t) ⟨h, gn, dr, tk', os⟩) : wpAny (model prog w) A (call (.builtin "len") [.ref D]) Q E ⟨h, gn, dr, tk, os⟩ :=
  l_len (s := ⟨h, gn, dr, tk, os⟩) ho hl hfit k
theorem r_item {α : Type} {R : Value → α → Prop} {o : Obj} {its : Array Value} {xs : List α} {y : α} {n : Nat} {value slice : PySem.Expr} {σ : Shared} (ho : σ.heap.get? D = some o) (hl : IsL o its) (hx : Al R its xs) (hn : n < 1000000) (hy : xs[n]? = some y) (k : ∀ v, R v y → Q v σ)
    (hs : subscripted slice false (.ref D) (.int (n : Int) u) = operate [.ref D, .int (n : Int) u] (getItem (.ref D) (.int (n : Int) u)) := by with_unfolding_all rfl) :
    wpAny (model prog w) A (subscriptTail value slice (.ref D) (.int (n : Int) u)) Q E σ :=
  let ⟨v, hv, r⟩ := hx.2 n y hy
  l_item ho hl (by lia) (by lia) (by simpa using hv) (k v r) hs
theorem r_itemM {o : Obj} {its : Array Value} {xs : List Mk} {n : Nat} {value slice : PySem.Expr} {σ : Shared} (ho : σ.heap.get? D = some o) (hl : IsL o its) (hx : Mks g its xs) (hn : n < 1000000) (hy : n < xs.length)
    (k : ∀ a o ts, g a = some o → IsT o ts → Ints ts.toList (xs.getD n []) → Q (.ref a) σ)
    (hs : subscripted slice false (.ref D) (.int (n : Int) u) = operate [.ref D, .int (n : Int) u] (getItem (.ref D) (.int (n : Int) u)) := by with_unfolding_all rfl) :
    wpAny (model prog w) A (subscriptTail value slice (.ref D) (.int (n : Int) u)) Q E σ :=
  let ⟨a, o, ts, hv, h1, h2, h3⟩ := hx.get hy
  l_item ho hl (by lia) (by lia) (by simpa using hv) (k a o ts h1 h2 h3) hs
theorem r_set {o : Obj} {its : Array Value} {n : Nat} {Q : Unit → Shared → Prop} (F : Fx H e g (up M D o) L h m) (hl : IsL o its) (hn : n < 1000000) (hs : n < its.size)
    (k : ∀ h' o', IsL o' (its.setIfInBounds n v) → Fx H e g (up M D o') L h' m → Q () ⟨h', gn, dr, tk, os⟩) : wpAny (model prog w) A (setItem (.ref D) (.int (n : Int) u) v) Q E ⟨h, gn, dr, tk, os⟩ :=
  l_set (s := ⟨h, gn, dr, tk, os⟩) F hl (by lia) (by lia) (by lia) (fun h' o' x F' => k h' o' (by simpa using x) F')
theorem r_append {o : Obj} {its : Array Value} (F : Fx H e g (up M D o) L h m) (hl : IsL o its) (hsz : its.size ≤ 100000)
    (k : ∀ h' tk' o', IsL o' (its.push v) → Fx H e g (up M D o') L h' m → Q .none ⟨h', gn, dr, tk', os⟩) : wpAny (model prog w) A (call (.builtin "list.append") [.ref D, v]) Q E ⟨h, gn, dr, tk, os⟩ :=
  l_append (s := ⟨h, gn, dr, tk, os⟩) F hl hsz (fun h' o' x F' => k h' _ o' x F')
theorem r_pop {o : Obj} {its : Array Value} (F : Fx H e g (up M D o) L h m) (hl : IsL o its) (hy : its[its.size - 1]? = some v) (hsz : its.size ≤ 100000)
    (k : ∀ h' tk' o', IsL o' (its.eraseIdxIfInBounds (its.size - 1)) → Fx H e g (up M D o') L h' m → Q v ⟨h', gn, dr, tk', os⟩) : wpAny (model prog w) A (call (.builtin "list.pop") [.ref D]) Q E ⟨h, gn, dr, tk, os⟩ :=
  l_pop (s := ⟨h, gn, dr, tk, os⟩) F hl hy hsz (fun h' o' x F' => k h' _ o' x F')
theorem r_insert {o : Obj} {its : Array Value} {n : Nat} (F : Fx H e g (up M D o) L h m) (hl : IsL o its) (hk : n ≤ its.size) (hsz : its.size ≤ 100000)
    (k : ∀ h' tk' o', IsL o' ((its.extract 0 n).push v ++ its.extract n) → Fx H e g (up M D o') L h' m → Q .none ⟨h', gn, dr, tk', os⟩) : wpAny (model prog w) A (call (.builtin "list.insert") [.ref D, .int (n : Int) u, v]) Q E ⟨h, gn, dr, tk, os⟩ :=
  l_insert (s := ⟨h, gn, dr, tk, os⟩) F hl (by lia) (by lia) hsz (fun h' tk' o' x F' => k h' tk' o' (by simpa using x) F')
theorem r_truthy {Q : Bool → Shared → Prop} {o : Obj} {its : Array Value} (ho : h.get? D = some o) (hl : IsL o its) (hsz : its.size ≤ 100000) (k : ∀ tk', Q (!its.isEmpty) ⟨h, gn, dr, tk', os⟩) : wpAny (model prog w) A (truthy (.ref D)) Q E ⟨h, gn, dr, tk, os⟩ :=
  l_truthy (s := ⟨h, gn, dr, tk, os⟩) ho hl (by lia) k
end
end Mine

end
section
open PySem PySem.W PySem.Calls PyProof.Rows
set_option Elab.async false
set_option maxRecDepth 100000
set_option linter.unusedVariables false
namespace Mine

/-- the iterator's next item is taken, the tuple that it owns let go -/
def Nx (prog : Program) (w : World) (A : Around) (I : Addr) (tgt : PySem.Expr) (s : Shared) (K : Option Value → Shared → Prop) : Prop :=
  wpAny (model prog w) A (pyNext (.ref I)) (fun r s₁ => match r with
    | none => K none s₁
    | some v => wpAny (model prog w) A (letOwnedTupleGo tgt (.ref I) v) (fun _ s₂ => K (some v) s₂) noE s₁) noE s

structure It (prog : Program) (w : World) (A : Around) (I : Addr) (wr fx : List Addr) (n : Nat) (tgt : PySem.Expr) (P : Nat → Value → Heap → Prop) (St : Nat → Heap → Prop) : Prop where
  frame : ∀ i h h', St i h → (∀ b o, (b ∈ wr ∨ b ∈ fx) → h.get? b = some o → h'.get? b = some o) → St i h'
  live : ∀ i h, St i h → ∀ b ∈ wr, ∃ o, h.get? b = some o
  item : ∀ i (s : Shared) K, i < n → St i s.heap → (∀ v h' tk, P i v h' → St (i + 1) h' → (∀ b o, b ∉ wr → s.heap.get? b = some o → h'.get? b = some o) → K (some v) { s with heap := h', toks := tk }) → Nx prog w A I tgt s K
  done : ∀ (s : Shared) K, St n s.heap → (∀ h' tk, (∀ b o, b ∉ wr → s.heap.get? b = some o → h'.get? b = some o) → K none { s with heap := h', toks := tk }) → Nx prog w A I tgt s K

/-- an iterator that makes no tuple of its own -/
theorem It.of {prog : Program} {w : World} {A : Around} {I : Addr} {fp fx : List Addr} {n : Nat} {x : Str} {px : Pos} {P : Nat → Value → Prop} {St : Nat → Heap → Prop} (W : Walks prog w A I fp [I] n P St)
    (hf : ∀ b ∈ fp, b = I ∨ b ∈ fx) (hlive : ∀ i h, St i h → ∃ o, h.get? I = some o) : It prog w A I [I] fx n (.Name x px) (fun i v _ => P i v) St where
  frame := fun i h h' hst hk => W.frame i h h' hst fun b hb o e => hk b o ((hf b hb).imp (fun q => List.mem_singleton.mpr q) id) e
  live := fun i h hst b hb => List.mem_singleton.mp hb ▸ hlive i h hst
  item := fun i s K hi hst hK => W.item i s _ _ hi hst fun v h' tk hP hS hk => wpAny_of_eq (a := ()) rfl (hK v h' tk hP hS hk)
  done := fun s K hst hK => W.done s _ _ hst fun h' tk hk => hK h' tk hk

theorem It.list {prog : Program} {w : World} {A : Around} (hh : A.handled = none) {I l : Addr} (hne : l ≠ I) {x : Str} {px : Pos} (items : Array Value) :
    It prog w A I [I] [l] items.size (.Name x px) (fun i v _ => items[i]? = some v) (fun i h => h.IsListIter I l i ∧ h.IsList l items) :=
  It.of (Walks.list hh I l hne items) (fun b hb => by
    rcases List.mem_cons.mp hb with q | q
    · exact .inl q
    · exact .inr q) fun i h hst => let ⟨⟨o, ho, _⟩, _⟩ := hst; ⟨o, ho⟩
/-- a list's items, taken apart by the target -/
theorem It.listT {prog : Program} {w : World} {A : Around} (hh : A.handled = none) {I l : Addr} (hne : l ≠ I) {elts : List PySem.Expr} {k : Nat} {px : Pos} (items : Array Value) (ht : ∀ (i : Nat) (v : Value), items[i]? = some v → ∃ T : Addr, v = Value.ref T) :
    It prog w A I [I] [l] items.size (.Tuple elts k px) (fun i v _ => items[i]? = some v) (fun i h => h.IsListIter I l i ∧ h.IsList l items) where
  frame := fun i h h' hst hk => (Walks.list (prog := prog) (w := w) hh I l hne items).frame i h h' hst fun b hb o e => hk b o (by
    rcases List.mem_cons.mp hb with q | q
    · exact .inl (List.mem_singleton.mpr q)
    · exact .inr q) e
  live := fun i h hst b hb => by
    obtain ⟨⟨o, ho, _⟩, _⟩ := hst
    exact ⟨o, List.mem_singleton.mp hb ▸ ho⟩
  item := fun i s K hi hst hK => (Walks.list (prog := prog) (w := w) hh I l hne items).item i s _ _ hi hst fun v h' tk hP hS hk => by
    obtain ⟨T, rfl⟩ := ht i v hP
    exact wpAny_letOwnedTupleGo_listiter hS.1 (hK _ h' tk hP hS hk)
  done := fun s K hst hK => (Walks.list (prog := prog) (w := w) hh I l hne items).done s _ _ hst fun h' tk hk => hK h' tk hk
theorem It.range {prog : Program} {w : World} {A : Around} (hh : A.handled = none) {I : Addr} {x : Str} {px : Pos} (a c : Int) (n : Nat) :
    It prog w A I [I] [] n (.Name x px) (fun i v _ => ∃ t, v = .int (a + i * c) t) (fun i h => IsRangeIter h I (a + (i : Nat) * c) ((n : Int) - (i : Nat)) c) :=
  It.of (Walks.range hh I a c n) (fun b hb => .inl (List.mem_singleton.mp hb)) fun i h hst => ⟨_, hst⟩
theorem It.enum {prog : Program} {w : World} {A : Around} (hh : A.handled = none) {I it l : Addr} (hei : I ≠ it) (hle : l ≠ I) (hli : l ≠ it) {elts : List PySem.Expr} {k : Nat} {px : Pos} (items : Array Value) :
    It prog w A I [I, it] [l] items.size (.Tuple elts k px) (fun i v h => Ex3 fun (T : Addr) (t : Tok) (x : Value) => And3 (v = Value.ref T) (items[i]? = some x) (IsTup h T #[.int (i : Int) t, x]))
      (fun i h => (∃ old, IsEnum h I it i old) ∧ h.IsListIter it l i ∧ h.IsList l items) where
  frame := fun i h h' hst hk => (WalksT.enumerate (prog := prog) (w := w) hh I it l hei hle hli items).frame i h h' hst fun b hb o e => hk b o (by
    rcases List.mem_cons.mp hb with q | q
    · exact .inl (by simp [q])
    · rcases List.mem_cons.mp q with q | q
      · exact .inl (by simp [q])
      · exact .inr q) e
  live := fun i h hst b hb => by
    obtain ⟨⟨old, he⟩, ⟨oi, hoi, _⟩, _⟩ := hst
    rcases List.mem_cons.mp hb with q | q
    · exact ⟨_, q ▸ he⟩
    · exact ⟨_, List.mem_singleton.mp q ▸ hoi⟩
  item := fun i s K hi hst hK => (WalksT.enumerate (prog := prog) (w := w) hh I it l hei hle hli items).item i s _ _ hi hst fun T vals h' tk hP hsz hT hm hk => by
    refine (WalksT.enumerate (prog := prog) (w := w) hh I it l hei hle hli items).go elts k px i T _ _ _ hm fun h'' hS hk'' => ?_
    obtain ⟨t, x, hx, rfl⟩ := hP
    obtain ⟨oT, hoT, hcT, ep, hdT⟩ := hT
    exact hK _ h'' tk ⟨T, t, x, rfl, hx, oT, hk'' T oT ((WalksT.enumerate (prog := prog) (w := w) hh I it l hei hle hli items).apart i T _ hm) hoT, hcT, ep, hdT⟩ hS fun b o hb e => hk'' b o hb (hk b o hb e)
  done := fun s K hst hK => (WalksT.enumerate (prog := prog) (w := w) hh I it l hei hle hli items).done s _ _ hst fun h' tk hk => hK h' tk hk

section
variable {H : Heap} {L : Addr} {gn : Array GenState} {dr : Drawn} {os : OsState}
def LEnd (H : Heap) (e : Ent) (L : Addr) (gn : Array GenState) (dr : Drawn) (os : OsState) (K : G → G → (Str → Option Value) → Prop) (s' : Shared) : Prop :=
  Ex5 fun h' tk' g' M' m' => And3 (s' = ⟨h', gn, dr, tk', os⟩) (Fx H e g' M' L h' m') (K g' M' m')
def mapOf (h : Heap) (wr : List Addr) : G := fun b => if b ∈ wr then h.get? b else none
theorem mapOf_in {h : Heap} {wr : List Addr} {b : Addr} (hb : b ∈ wr) : mapOf h wr b = h.get? b := if_pos hb
theorem mapOf_out {h : Heap} {wr : List Addr} {b : Addr} (hb : b ∉ wr) : mapOf h wr b = none := if_neg hb

variable {prog : Program} {w : World} {A : Around} {e : Ent} {g M : G} {h : Heap} {m : Str → Option Value} {tk : Nat} {env : Env} {I : Addr} {wr fx : List Addr} {n : Nat} {tgt : PySem.Expr} {P : Nat → Value → Heap → Prop} {St : Nat → Heap → Prop} {Q : Flow → Shared → Prop}

/-- a for over an iterator -/
theorem for_it {body : List Stmt} {R : Result → Shared → Prop} (it : It prog w A I wr fx n tgt P St) (J : Nat → G → G → (Str → Option Value) → Prop) (B : G → G → (Str → Option Value) → Prop) (C : Value → G → G → (Str → Option Value) → Prop)
    (F : Fx H e g M L h m) (hst : St 0 h) (hJ : J 0 g M m)
    (off : ∀ b ∈ wr, b ≠ L ∧ e.z b = none ∧ (¬ e.al b) ∧ g b = none ∧ M b = none)
    (hfx : ∀ b ∈ fx, ∃ ob, ∀ i g M m, J i g M m → g b = some ob ∨ M b = some ob)
    (turn : ∀ i v e' g M m h tk, i < n → P i v h → J i g M m → Fx H e' g M L h m → e'.g = g → (∀ a, e'.al a ↔ ∃ o, h.get? a = some o) →
      wpAny (model prog w) A (assign tgt env v) (fun _ s₂ => wpAny (model prog w) A (execs body env) (fun f s' => match f with
        | .next => LEnd H e' L gn dr os (J (i + 1)) s'
        | .cont => LEnd H e' L gn dr os (J (i + 1)) s'
        | .brk => LEnd H e' L gn dr os B s'
        | .ret v => LEnd H e' L gn dr os (C v) s') noE s₂) noE ⟨h, gn, dr, tk, os⟩)
    (done : ∀ g M m h tk, J n g M m → Fx H e g M L h m → R (.ok .next) ⟨h, gn, dr, tk, os⟩)
    (brk : ∀ g M m h tk, B g M m → Fx H e g M L h m → R (.ok .next) ⟨h, gn, dr, tk, os⟩)
    (ret : ∀ v g M m h tk, C v g M m → Fx H e g M L h m → R (.ok (.ret v)) ⟨h, gn, dr, tk, os⟩) :
    codeAny (model prog w) A (.forLoop tgt (.ref I) body [] env) R ⟨h, gn, dr, tk, os⟩ := by
  refine codeAny_forLoop_any (fun k s => Ex6 fun i g M m h tk => And7 (k = n - i) (i ≤ n) (s = ⟨h, gn, dr, tk, os⟩) (St i h) (J i g M m) (Fx H e g M L h m) ((∀ b ∈ wr, g b = none ∧ M b = none))) ?_ n
    ⟨0, g, M, m, h, tk, by lia, Nat.zero_le _, rfl, hst, hJ, F, fun b hb => (off b hb).2.2.2⟩
  rintro k s ⟨i, g, M, m, h, tk, rfl, hi, rfl, hst, hJ, F, hgM⟩
  have hLw : L ∉ wr := fun q => (off L q).1 rfl
  by_cases hin : i < n
  · refine notedNo (A := A) (env := env) ?_
    refine wpAny_mono (it.item i ⟨h, gn, dr, tk, os⟩ (fun r s₁ => match r with
      | none => False
      | some v => wpAny (model prog w) A (assign tgt env v) (fun _ s₂ => wpAny (model prog w) A (execs body env) (fun f s₃ => match f with
            | .next | .cont => ∃ m, m < n - i ∧ Ex6 fun i g M m' h tk => And7 (m = n - i) (i ≤ n) (s₃ = ⟨h, gn, dr, tk, os⟩) (St i h) (J i g M m') (Fx H e g M L h m') ((∀ b ∈ wr, g b = none ∧ M b = none))
            | .brk => R (.ok .next) s₃
            | .ret v => R (.ok (.ret v)) s₃) noE s₂) noE s₁) hin hst fun v h₁ tk₁ hP hst₁ hk₁ => ?_) (fun r s₁ hr => ?_) fun _ _ q => q
    · -- the turn
      have F₁ : Fx H e g M L h₁ m := F.step hk₁ hLw (fun b hb => (off b hb).2.1) (fun b hb => (hgM b hb).1) (fun b hb => (hgM b hb).2) (fun b hb => (off b hb).2.2.1)
      have live := it.live _ _ hst₁
      have hN : Sub (mapOf h₁ wr) h₁ := fun b o q => by
        by_cases hb : b ∈ wr
        · rw [mapOf_in hb] at q; exact q
        · rw [mapOf_out hb] at q; cases q
      have hNz : ∀ a o, mapOf h₁ wr a = some o → e.z a = none := fun a o q => by
        by_cases hb : a ∈ wr
        · exact (off a hb).2.1
        · rw [mapOf_out hb] at q; cases q
      have F₂ := F₁.into hN (mapOf_out hLw) (fun a o q => by
        by_cases hb : a ∈ wr
        · rw [(hgM a hb).2] at q; cases q
        · exact mapOf_out hb)
      have back : ∀ h' tk' g' M' m', Fx H (e.turn (mapOf h₁ wr) h₁ g) g' M' L h' m' → J (i + 1) g' M' m' → (∃ m, m < n - i ∧ Ex6 fun i g M m' h tk => And7 (m = n - i) (i ≤ n) ((⟨h', gn, dr, tk', os⟩ : Shared) = ⟨h, gn, dr, tk, os⟩) (St i h) (J i g M m') (Fx H e g M L h m') ((∀ b ∈ wr, g b = none ∧ M b = none))) := by
        intro h' tk' g' M' m' F' hJ'
        refine ⟨n - (i + 1), by lia, i + 1, g', M', m', h', tk', rfl, hin, rfl, it.frame _ _ _ hst₁ (fun b o hb q => ?_), hJ', F₁.outof F' hNz, fun b hb => ⟨?_, ?_⟩⟩
        · rcases hb with hb | hb
          · exact F'.still b o (by rw [mapOf_in hb]; exact q)
          · obtain ⟨ob, hob⟩ := hfx b hb
            have e1 : h₁.get? b = some ob := (hob i g M m hJ).elim (F₁.keep b ob) (F₁.ours b ob)
            have e2 : h'.get? b = some ob := (hob _ g' M' m' hJ').elim (F'.keep b ob) (F'.ours b ob)
            rw [e1] at q; cases q; exact e2
        · obtain ⟨o, ho⟩ := live b hb
          rw [F'.ext b ⟨o, ho⟩]; exact (hgM b hb).1
        · cases q : M' b with
          | none => rfl
          | some o' =>
            obtain ⟨o, ho⟩ := live b hb
            have := F'.sepz b o' q
            rw [show (e.turn (mapOf h₁ wr) h₁ g).z = ov (mapOf h₁ wr) e.z from rfl, ov_some ((mapOf_in hb).trans ho)] at this
            cases this
      refine wpAny_mono (turn i v _ g M m h₁ tk₁ hin hP hJ F₂ rfl (fun _ => Iff.rfl)) (fun _ s₂ h₂ => wpAny_mono h₂ (fun f s₃ h₃ => ?_) fun _ _ q => q) fun _ _ q => q
      cases f with
      | next => obtain ⟨h', tk', g', M', m', rfl, F', hJ'⟩ := h₃; exact back h' tk' g' M' m' F' hJ'
      | cont => obtain ⟨h', tk', g', M', m', rfl, F', hJ'⟩ := h₃; exact back h' tk' g' M' m' F' hJ'
      | brk => obtain ⟨h', tk', g', M', m', rfl, F', hJ'⟩ := h₃; exact brk _ _ _ _ _ hJ' (F₁.outof F' hNz)
      | ret v => obtain ⟨h', tk', g', M', m', rfl, F', hJ'⟩ := h₃; exact ret _ _ _ _ _ _ hJ' (F₁.outof F' hNz)
    · cases r with
      | none => exact False.elim hr
      | some v =>
        refine notedNo (A := A) (env := env) (wpAny_mono hr (fun _ s₂ h₂ => notedNo (A := A) (env := env) (wpAny_mono h₂ (fun _ s₃ h₃ => notedNo (A := A) (env := env) (wpAny_mono h₃ (fun f s₄ h₄ => ?_) fun _ _ q => q)) fun _ _ q => q)) fun _ _ q => q)
        cases f <;> exact h₄
  · have : i = n := by lia
    subst this
    refine notedNo (A := A) (env := env) ?_
    refine wpAny_mono (it.done ⟨h, gn, dr, tk, os⟩ (fun r s₁ => r = none ∧ R (.ok .next) s₁) hst fun h₁ tk₁ hk₁ => ⟨rfl, ?_⟩) (fun r s₁ hr => ?_) fun _ _ q => q
    · exact done g M m h₁ tk₁ hJ (F.step hk₁ hLw (fun b hb => (off b hb).2.1) (fun b hb => (hgM b hb).1) (fun b hb => (hgM b hb).2) (fun b hb => (off b hb).2.2.1))
    · cases r with
      | none => exact wpAny_execs_nil (And.right hr)
      | some v => exact notedNo (A := A) (env := env) (wpAny_mono hr (fun _ _ q => by cases q.1) fun _ _ q => q)
end
end Mine

end
section
open PySem PySem.W PySem.Calls PyProof.Rows
set_option Elab.async false
set_option maxRecDepth 100000
set_option linter.unusedVariables false
namespace Mine
section
variable {prog : Program} {w : World} {A : Around} {E : Value → Shared → Prop} {s : Shared}

theorem sub_ri_reversed : isSubtype (.type "range_iterator") (.type "reversed") = pure false := by rw [isSubtype_type]; kernel_rfl

theorem range_rev_meets (r : Addr) (a b c : Int) (t u v : Tok) (hs : (Builtin.Range.rangeFitsLong a && Builtin.Range.rangeFitsLong b && Builtin.Range.rangeFitsLong c && Builtin.Range.rangeFitsLong (-c) && Builtin.Range.rangeFitsLong (a - c) && Builtin.Range.rangeFitsLong (Builtin.Range.rangeSize a b c)) = true) :
    Meets (Builtin.«range.__reversed__» ⟨[.ref r], []⟩) (fun _ R s => s.heap.get? r = some { cls := .type "range", dict := none, data := .fields #[.int a t, .int b u, .int c v], slots := #[] } ∧ R (.ok (.ret (Value.ref s.heap.objs.size))) { s with heap := s.heap.push { cls := .type "range_iterator", data := .fields #[rawInt (a + (Builtin.Range.rangeSize a b c - 1) * c), rawInt (Builtin.Range.rangeSize a b c), rawInt (-c)] } }) :=
  .of_wp fun prog w A R s h => by
    obtain ⟨hp, g, d, tk, os⟩ := s; obtain ⟨hl, h⟩ := h
    wp_walk
    simp only [hs, if_true]
    exact ⟨_, rfl, h⟩

theorem revRangeOk {n : Nat} (h : n < 1000000) : (Builtin.Range.rangeFitsLong 0 && Builtin.Range.rangeFitsLong (n : Int) && Builtin.Range.rangeFitsLong 1 && Builtin.Range.rangeFitsLong (-1) && Builtin.Range.rangeFitsLong ((0 : Int) - 1) && Builtin.Range.rangeFitsLong (Builtin.Range.rangeSize 0 (n : Int) 1)) = true := by
  rw [rangeSize_one]
  simp only [Builtin.Range.rangeFitsLong, Bool.and_eq_true, decide_eq_true_eq]
  split <;> lia

theorem call_range_reversed {r : Addr} {n : Nat} {t u v : Tok} {Q : Value → Shared → Prop} (hr : IsRange s.heap r 0 (n : Int) 1 t u v) (hn : n < 1000000)
    (h : Q (.ref s.heap.objs.size) { s with heap := s.heap.push { cls := .type "range_iterator", data := .fields #[rawInt ((n : Int) - 1), rawInt (n : Int), rawInt (-1)] } }) : wpAny (model prog w) A (call (.builtin "range.__reversed__") [.ref r]) Q E s := by
  have hT : s.TypeIs (.ref r) "range" := ⟨_, hr, rfl⟩
  refine call_meets F.slot_range_reversed hT F.entry_range_reversed (F.args_range_reversed_1 _) (range_rev_meets r 0 n 1 t u v (revRangeOk hn)) ⟨hr, ?_⟩
  have e1 : Builtin.Range.rangeSize 0 (n : Int) 1 = (n : Int) := by rw [rangeSize_one]; split <;> lia
  have e2 : (0 : Int) + ((n : Int) - 1) * 1 = (n : Int) - 1 := by lia
  rw [e1, e2]
  exact h

theorem code_reversed_new_range {r : Addr} {n : Nat} {t u v : Tok} {Q₁ : Value → Shared → Prop} (hr : IsRange s.heap r 0 (n : Int) 1 t u v) (hn : n < 1000000)
    (h : Q₁ (.ref s.heap.objs.size) { s with heap := s.heap.push { cls := .type "range_iterator", data := .fields #[rawInt ((n : Int) - 1), rawInt (n : Int), rawInt (-1)] } }) :
    codeAny (model prog w) A (.call (.builtin "reversed.__new__") ⟨[.type "reversed", .ref r], []⟩) (wants Q₁ E) s := by
  have hT : s.TypeIs (.ref r) "range" := ⟨_, hr, rfl⟩
  refine codeAny_of_tree ?_
  show wpAny _ A.in1 (do checkBuiltinCall "reversed.__new__" ⟨[.type "reversed", .ref r], []⟩; again (.builtin "reversed.__new__" ⟨[.type "reversed", .ref r], []⟩)) _ _ s
  refine wpAny_bind (wpAny_of_eq (F.newCall_reversed_1 _) (wpAny_pure ⟨plainId_quiet F.plain_reversed_new _, codeAny_builtin F.entry_reversed_new ?_⟩))
  rw [Around.under_plainId F.plain_reversed_new _]
  unfold Builtin.«reversed.__new__»
  refine wpAny_bind (wpAny_of_eq (newClass_reversed _) ?_)
  try dsimp only
  refine wpAny_bind (wpAny_of_eq (a := ()) (by first | rfl | kernel_rfl) ?_)
  refine wpAny_bind (wpAny_of_eq (a := ()) (by first | rfl | kernel_rfl) ?_)
  try dsimp only
  refine wpAny_bind (wpAny_specialOf hT F.slot_range_reversed.lookup ?_)
  try dsimp only
  refine wpAny_bind (wpAny_of_eq (F.slot_range_reversed.bind _) ?_)
  try dsimp only
  first
  | rw [if_neg (show ¬ ((Value.builtin "range.__reversed__" == Value.none) = true) from Bool.false_ne_true)]
  | (show wpAny _ _ (if (Value.builtin "range.__reversed__" == Value.none) = true then _ else _) _ _ _; rw [if_neg (show ¬ ((Value.builtin "range.__reversed__" == Value.none) = true) from Bool.false_ne_true)])
  refine wpAny_bind (wpAny_rule ?_)
  refine wpAny_bind (m := runValue (.call (.builtin "range.__reversed__") ⟨[.ref r], []⟩)) (show wpAny _ _ (call (.builtin "range.__reversed__") [.ref r]) _ _ _ from call_range_reversed hr hn ?_)
  first
  | exact wpAny_pure h
  | exact wpAny_bind (wpAny_pure (wpAny_pure h))

theorem call_reversed_range {r : Addr} {n : Nat} {t u v : Tok} {Q : Value → Shared → Prop} (hr : IsRange s.heap r 0 (n : Int) 1 t u v) (hn : n < 1000000)
    (h : Q (.ref s.heap.objs.size) { s with heap := s.heap.push { cls := .type "range_iterator", data := .fields #[rawInt ((n : Int) - 1), rawInt (n : Int), rawInt (-1)] } }) : wpAny (model prog w) A (call (.type "reversed") [.ref r]) Q E s := by
  refine callType_other (U := "range_iterator") (Q₁ := fun obj s₁ => obj = .ref s.heap.objs.size ∧ s₁ = { s with heap := s.heap.push { cls := .type "range_iterator", data := .fields #[rawInt ((n : Int) - 1), rawInt (n : Int), rawInt (-1)] } }) (by decide +kernel) F.create_reversed ⟨_, _, F.mro_reversed⟩ F.made_reversed sub_ri_reversed (F.typeCall_reversed_1 _) (code_reversed_new_range hr hn ⟨rfl, rfl⟩) ?_
  rintro obj s₁ ⟨rfl, rfl⟩
  exact ⟨⟨_, Heap.get?_push_size _ rfl, rfl⟩, h⟩
end
/-! with Fx -/
section
variable {w : World} {H : Heap} {prog : Program} {A : Around} {E : Value → Shared → Prop} {e : Ent} {g M : G} {L : Addr} {m : Str → Option Value} {Q : Value → Shared → Prop} {h : Heap} {gn : Array GenState} {dr : Drawn} {tk : Nat} {os : OsState} {t : Tok}
/-- what is new and nobody's -/
structure Off (e : Ent) (g M : G) (L : Addr) (b : Addr) : Prop where
  l : b ≠ L
  z : e.z b = none
  al : ¬ e.al b
  g : g b = none
  m : M b = none
theorem Fx.offNew (F : Fx H e g M L h m) {b : Addr} (hb : h.objs.size ≤ b) : Off e g M L b :=
  ⟨Nat.ne_of_gt (Nat.lt_of_lt_of_le F.lt hb), none_of_ge F.old hb, F.notyet hb, none_of_ge F.keep hb, none_of_ge F.ours hb⟩
theorem Fx.push (F : Fx H e g M L h m) (o : Obj) : Fx H e g M L (h.push o) m := F.grow fun b o' q => Heap.get?_push_of_some _ q

theorem r_range {n : Nat} (F : Fx H e g M L h m) (k : ∀ r h' tk' t u v, Off e g M L r → IsRange h' r 0 (n : Int) 1 t u v → Fx H e g M L h' m → Q (.ref r) ⟨h', gn, dr, tk', os⟩) : wpAny (model prog w) A (call (.type "range") [.int (n : Int) t]) Q E ⟨h, gn, dr, tk, os⟩ :=
  call_range_1 (s := ⟨h, gn, dr, tk, os⟩) (k _ _ _ _ _ _ (F.offNew (Nat.le_refl _)) (IsRange.new ..) (F.push _))
/-- reversed(range(n)), and its iterator -/
theorem r_revrange {r : Addr} {n : Nat} {u v : Tok} (F : Fx H e g M L h m) (hr : IsRange h r 0 (n : Int) 1 t u v) (hn : n < 1000000)
    (k : ∀ I h', Off e g M L I → IsRangeIter h' I ((n : Int) - 1) (n : Int) (-1) → Fx H e g M L h' m → Q (.ref I) ⟨h', gn, dr, tk, os⟩) : wpAny (model prog w) A (call (.type "reversed") [.ref r]) Q E ⟨h, gn, dr, tk, os⟩ :=
  call_reversed_range (s := ⟨h, gn, dr, tk, os⟩) hr hn (k _ _ (F.offNew (Nat.le_refl _)) (Heap.get?_push_size _ rfl) (F.push _))
end
end Mine

end
open PySem PySem.W PySem.Calls PyProof.Rows
set_option Elab.async false
set_option maxRecDepth 100000
set_option linter.unusedVariables false
namespace Mine
theorem fill1 : (PySem.Challenge.rw_pg0239_01, hd.heap_39) = (PySem.Challenge.rw_pg0239_01, hd.heap_39) := by k_fill; rfl
local macro_rules | `(tactic| walk_at "lk") => `(tactic| first | with_reducible assumption | with_reducible exact lk_eq | (with_reducible refine' lk_ne ?hqn ?_; (case hqn => decide); walk_at "lk"))
local macro_rules | `(tactic| walk_at "enter") => `(tactic| (
  refine' wpAny_call (fx_enter (by assumption) ?hH ?hr ?ho ?hcd ?hbind ?hloc ?_ ?hcell ?hco ?hgen ?hk);
  (case ho => k_is);
  (case hcd => k_is);
  (case hbind => first | exact BindsTo.of_eq rfl | walk_at "dk");
  (case hloc => exact locs rfl);
  (case hcell => decide);
  (case hco => exact rfl);
  (case hgen => exact rfl);
  (case hk => exact rfl)))
local macro_rules | `(tactic| walk_at "eval Constant int") => `(tactic| (refine r_const ?_; intro t' tk'))
local macro_rules | `(tactic| walk_at "binaryOp Add int int") => `(tactic| (refine r_add ?_; intro t' tk'))
local macro_rules | `(tactic| walk_at "binaryOp Sub int int") => `(tactic| (refine r_sub ?_; intro t' tk'))
local macro_rules | `(tactic| walk_at "inplaceOp Add int int") => `(tactic| (refine r_iadd ?_; intro t' tk'))
local macro_rules | `(tactic| walk_at "binaryOp RShift int int") => `(tactic| (refine r_shr1 (by lia) ?_; intro t' tk'))
local macro_rules | `(tactic| walk_at "binaryOp FloorDiv int int") => `(tactic| (refine r_fdiv (by decide) (by decide) ?_; intro t' tk'))
local macro_rules | `(tactic| walk_at "binaryOp Mod int int") => `(tactic| (refine r_mod (by decide) ?_; intro t' tk'))
local macro_rules | `(tactic| walk_at "binaryOp Mult int int") => `(tactic| (refine' r_mul ?hk ?hm; (case hm => mul_fits); intro t' tk'))
local macro_rules | `(tactic| walk_at "go") => `(tactic| ((try k_fold); repeat' (first | (k_unfold; (try dsimp only)) | ((with_reducible show wpAny _ _ _ _ _ _); walk1) | ((with_reducible show (ite _ _ _ : Prop)); (first | (refine ite_dec_no (by lia) ?_) | (refine ite_dec_yes (by lia) ?_) | walk1)) | ((with_reducible show Heap.StaysIn _ _ ∧ _); refine And.intro (Fx.Hsub (by assumption)) ?_; (try dsimp only [List.nil_append, List.cons_append])))))
local macro_rules | `(tactic| walk_at "goS") => `(tactic| ((try k_fold); repeat' (first | (k_unfold; (try dsimp only)) | ((fail_if_success (with_reducible show wpAny _ _ (exec (Stmt.If _ _ _ _) _) _ _ _)); (with_reducible show wpAny _ _ _ _ _ _); walk1) | ((with_reducible show (ite _ _ _ : Prop)); (first | (refine ite_dec_no (by lia) ?_) | (refine ite_dec_yes (by lia) ?_) | walk1)) | ((with_reducible show Heap.StaysIn _ _ ∧ _); refine And.intro (Fx.Hsub (by assumption)) ?_; (try dsimp only [List.nil_append, List.cons_append])))))
local macro_rules | `(tactic| walk_at "callWith ref") => `(tactic| (refine' fx_callWith (by assumption) ?hk ?_; (case hk => k_is)))
local macro_rules | `(tactic| walk_at "exec For") => `(tactic| (refine wpAny_For ?_))
local macro_rules | `(tactic| walk_at "dk") => `(tactic| (
  refine' binds_dk ?X rfl ?ho ?hs ?h1 ?h2 ?hod ?h3;
  (case X => exact Frag.In.keeps (Wd.X (by assumption)) (by assumption)); (case ho => k_is); (case hs => exact rfl); (case h1 => exact rfl); (case h2 => exact rfl); (case hod => k_is); (case h3 => exact rfl)))
section
local macro_rules | `(tactic| walk_at "eval Name") => `(tactic| first
  | (refine' fx_local (by assumption) ?hlk ?_; (case hlk => walk_at "lk"))
  | (refine' fx_global (by assumption) (by assumption) ?hlk ?_; (case hlk => k_is))
  | (refine' fx_builtin (by assumption) (by assumption) ?hlk ?hlv ?hln ?_; (case hlk => k_is); (case hlv => boot_fast); (case hln => decide)))
local macro_rules | `(tactic| walk_at "loadName") => `(tactic| (refine' fx_localn (by assumption) ?hlk ?_; (case hlk => walk_at "lk")))
local macro_rules | `(tactic| walk_at "storeName") => `(tactic| (refine r_store (by assumption) ?_; intro h' tk' F'))
section
open PySem PySem.W PySem.Calls PyProof.Rows
set_option Elab.async false
set_option maxRecDepth 100000
set_option maxHeartbeats 4000000
set_option linter.unusedVariables false



def lgt : Mk → Mk → Bool := fun a b => llt b a
variable {w : World} {H : Heap} {mg mb : Str → Option Value} {prog : Program} {A : Around} {E : Value → Shared → Prop} {s : Shared} {g : G} {D : Addr} {o : Obj} {its : Array Value} {Q : Value → Shared → Prop}

theorem siftdown {xs : List Mk} {start pos : Nat} {ts tp : Tok} (W : Wd w H mg mb) (R : Room A 1 8) (hg : Sub g s.heap) (hH : ∀ a o, H.get? a = some o → g a = some o)
    (ho : s.heap.get? D = some o) (hD : g D = none) (hl : IsL o its) (hx : Mks g its xs) (hps : start ≤ pos) (hp : pos < xs.length) (hsz : xs.length ≤ 1000)
    (ret : ∀ h' tk' o' its', Rt (fun b => b = D) g s.heap g h' → h'.get? D = some o' → IsL o' its' → Mks g its' (sdown llt (xs.getD pos []) start pos xs) → Q .none { s with heap := h', toks := tk' }) :
    wpAny (model prog w) A (call (.ref 69) [.ref D, .int start ts, .int pos tp]) Q E s := by
  obtain ⟨h0, gn, dr, tk0, os⟩ := s
  walk_at "enter"
  case hH => exact fun a o e => hg _ _ (hH _ _ e)
  case hr => exact R.d
  intro L h₁ tk hL hns hk
  obtain ⟨m, hm, m1, m2, m3⟩ : ∃ m, h₁.Ns L m ∧ m "heap" = some (.ref D) ∧ m "startpos" = some (.int start ts) ∧ m "pos" = some (.int pos tp) := ⟨_, hns, rfl, rfl, rfl⟩
  have F := enter1 hg hH ho hD hL hm hk
  clear hns hm hk
  have Rd : ∀ env, Room (A.deeper env) 0 5 := fun env => R.deeper env
  walk_at "go"
  refine r_itemM (F.ours D o (up_self _ _ _)) hl hx (by lia) hp fun an on tn n2 n3 n4 => ?_
  walk_at "go"
  rename Fx _ _ _ _ _ _ _ => F1
  -- the loop
  refine wpAny_mono (Q := fun f s' => f = .next ∧ Ex8 fun h tk m' o' its' xs' p t => And10 (s' = ⟨h, gn, dr, tk, os⟩) (Fx H (ent1 g h0 D) g (up none' D o') L h m') (m' "heap" = some (.ref D)) (m' "pos" = some (.int (p : Nat) t)) (m' "newitem" = some (.ref an)) (IsL o' its') (Mks g its' xs') (xs'.length = xs.length) (p < xs.length) (xs'.set p (xs.getD pos []) = sdown llt (xs.getD pos []) start pos xs)) (fx_while
    (fun n s' => Ex8 fun h tk m' o' its' xs' p t => And12 (s' = ⟨h, gn, dr, tk, os⟩) (Fx H (ent1 g h0 D) g (up none' D o') L h m') (m' "heap" = some (.ref D)) (m' "startpos" = some (.int start ts)) (m' "pos" = some (.int (p : Nat) t)) (m' "newitem" = some (.ref an)) (IsL o' its') (Mks g its' xs') (xs'.length = xs.length) (n = p) (p < xs.length) (sdown llt (xs.getD pos []) start p xs' = sdown llt (xs.getD pos []) start pos xs))
    pos ⟨_, _, _, o, its, xs, pos, tp, rfl, F1, by walk_at "lk", by walk_at "lk", by walk_at "lk", by walk_at "lk", hl, hx, rfl, rfl, hp, rfl⟩ ?_) ?_ (fun _ _ q => q)
  · clear m1 m2 m3 F F1
    rintro n s' ⟨h, tk, m, o, its, xs', p, t, rfl, F, m1, m2, m3, m4, hl, hx', hlen, rfl, hp', he⟩
    walk_at "go"
    · rename Fx _ _ _ _ _ _ _ => F1
      have hlt : start < n := by lia
      have en : ((n : Int) - 1) / 2 = (((n - 1) / 2 : Nat) : Int) := by lia
      rw [en] at F1 ⊢
      refine r_itemM (F1.ours D o (up_self _ _ _)) hl hx' (by lia) (by lia) fun ap op tpp p2 p3 p4 => ?_
      walk_at "go"
      rename Fx _ _ _ _ _ _ _ => F2
      refine tuple_lt (Rd _).u (by exact F2.keep _ _ n2) (by exact F2.keep _ _ p2) n3 p3 n4 p4 ?_
      walk1
      walk1
      · rename_i hb
        walk_at "go"
        refine r_set F2 hl (by lia) (by have := hx'.size; lia) fun h3 o3 hl3 F3 => ?_
        walk_at "go"
        rename Fx _ _ _ _ _ _ _ => F4
        refine ⟨(n - 1) / 2, by lia, _, _, _, _, _, xs'.set n (xs'.getD ((n - 1) / 2) []), (n - 1) / 2, _, rfl, F4, by walk_at "lk", by walk_at "lk", by walk_at "lk", by walk_at "lk", hl3, ?_, by simpa using hlen, rfl, by lia, ?_⟩
        · exact hx'.set n ⟨_, _, _, rfl, p2, p3, p4⟩
        · rw [← he, sdown_yes hlt hb]
      · rename_i hb
        walk_at "go"
        exact ⟨rfl, _, _, _, _, _, xs', n, _, rfl, F2, by walk_at "lk", by walk_at "lk", by walk_at "lk", hl, hx', hlen, hp', by rw [← he, sdown_no hb]⟩
    · exact ⟨rfl, _, _, _, _, _, xs', n, _, rfl, F, by walk_at "lk", by walk_at "lk", by walk_at "lk", hl, hx', hlen, hp', by rw [← he, sdown_end (by lia)]⟩
  · rintro f s' ⟨rfl, h, tk, m, o, its, xs', p, t, rfl, F, m1, m3, m4, hl, hx', hlen, hp', he⟩
    dsimp only
    walk_at "go"
    refine r_set F hl (by lia) (by have := hx'.size; lia) fun h3 o3 hl3 F3 => ?_
    walk_at "go"
    refine ret _ _ _ _ F3.end1 (F3.ours D _ (up_self _ _ _)) hl3 ?_
    have := hx'.set p (x := xs.getD pos []) (v := .ref an) ⟨_, _, _, rfl, n2, n3, n4⟩
    rw [he] at this
    exact this

theorem siftup {xs : List Mk} {pos : Nat} {tp : Tok} (W : Wd w H mg mb) (R : Room A 2 12) (hg : Sub g s.heap) (hH : ∀ a o, H.get? a = some o → g a = some o)
    (ho : s.heap.get? D = some o) (hD : g D = none) (hl : IsL o its) (hx : Mks g its xs) (hp : pos < xs.length) (hsz : xs.length ≤ 1000)
    (ret : ∀ h' tk' o' its', Rt (fun b => b = D) g s.heap g h' → h'.get? D = some o' → IsL o' its' → Mks g its' (sup llt xs pos) → Q .none { s with heap := h', toks := tk' }) :
    wpAny (model prog w) A (call (.ref 76) [.ref D, .int pos tp]) Q E s := by
  obtain ⟨h0, gn, dr, tk0, os⟩ := s
  walk_at "enter"
  case hH => exact fun a o e => hg _ _ (hH _ _ e)
  case hr => exact R.d
  intro L h₁ tk hL hns hk
  obtain ⟨m, hm, m1, m2⟩ : ∃ m, h₁.Ns L m ∧ m "heap" = some (.ref D) ∧ m "pos" = some (.int pos tp) := ⟨_, hns, rfl, rfl⟩
  have F := enter1 hg hH ho hD hL hm hk
  clear hns hm hk
  have Rd : ∀ env, Room (A.deeper env) 1 9 := fun env => R.deeper env
  have hsize := hx.size
  walk_at "go"
  refine r_len (F.ours D o (up_self _ _ _)) hl (by lia) fun te tk2 => ?_
  rw [hsize]
  walk_at "go"
  rename Fx _ _ _ _ _ _ _ => F0
  refine r_itemM (F0.ours D o (up_self _ _ _)) hl hx (by lia) hp fun an on tn n2 n3 n4 => ?_
  walk_at "go"
  rename Fx _ _ _ _ _ _ _ => F1
  have en : (2 : Int) * (pos : Int) + 1 = ((2 * pos + 1 : Nat) : Int) := by lia
  rw [en] at F1
  -- the loop
  refine wpAny_mono (Q := fun f s' => f = .next ∧ Ex8 fun h tk m' o' its' xs' p t => And11 (s' = ⟨h, gn, dr, tk, os⟩) (Fx H (ent1 g h0 D) g (up none' D o') L h m') (m' "heap" = some (.ref D)) (m' "startpos" = some (.int pos tp)) (m' "pos" = some (.int (p : Nat) t)) (m' "newitem" = some (.ref an)) (IsL o' its') (Mks g its' xs') (xs'.length = xs.length) (p < xs.length) ((p, xs') = uploop llt pos xs)) (fx_while
    (fun n s' => Ex9 fun h tk m' o' its' xs' p t tc => And14 (s' = ⟨h, gn, dr, tk, os⟩) (Fx H (ent1 g h0 D) g (up none' D o') L h m') (m' "heap" = some (.ref D)) (m' "startpos" = some (.int pos tp)) (m' "pos" = some (.int (p : Nat) t)) (m' "newitem" = some (.ref an)) (m' "endpos" = some (.int (xs.length : Nat) te)) (m' "childpos" = some (.int ((2 * p + 1 : Nat) : Int) tc)) (IsL o' its') (Mks g its' xs') (xs'.length = xs.length) (n = xs.length - p) (p < xs.length) (uploop llt p xs' = uploop llt pos xs))
    (xs.length - pos) ⟨_, _, _, o, its, xs, pos, tp, _, rfl, F1, by walk_at "lk", by walk_at "lk", by walk_at "lk", by walk_at "lk", by walk_at "lk", by walk_at "lk", hl, hx, rfl, rfl, hp, rfl⟩ ?_) ?_ (fun _ _ q => q)
  · clear m1 m2 F F0 F1
    rintro n s' ⟨h, tk, m, o, its, xs', p, t, tc, rfl, F, m1, m2, m3, m4, m5, m6, hl, hx', hlen, rfl, hp', he⟩
    have hsz' := hx'.size
    walk_at "goS"
    · rename Fx _ _ _ _ _ _ _ => F1
      have hlt : 2 * p + 1 < xs'.length := by lia
      have en : ((2 * p + 1 : Nat) : Int) + 1 = ((2 * p + 2 : Nat) : Int) := by lia
      rw [en] at F1
      -- the lesser child
      refine wpAny_mono (Q := fun f s' => f = .next ∧ Ex4 fun h tk m' tc => And8 (s' = ⟨h, gn, dr, tk, os⟩) (Fx H (ent1 g h0 D) g (up none' D o) L h m') (m' "heap" = some (.ref D)) (m' "startpos" = some (.int pos tp)) (m' "pos" = some (.int (p : Nat) t)) (m' "newitem" = some (.ref an)) (m' "endpos" = some (.int (xs.length : Nat) te)) (m' "childpos" = some (.int ((pick llt xs' (2 * p + 1) : Nat) : Int) tc))) ?_ ?_ (fun _ _ q => q)
      · walk_at "go"
        · rename_i hlt2
          have hlt2 : 2 * p + 2 < xs'.length := by lia
          refine r_itemM (F1.ours D o (up_self _ _ _)) hl hx' (by lia) (by lia) fun ac oc tc' c2 c3 c4 => ?_
          walk_at "go"
          refine r_itemM (F1.ours D o (up_self _ _ _)) hl hx' (by lia) (by lia) fun ar or' tr r2 r3 r4 => ?_
          refine tuple_lt (Rd _).u (by exact F1.keep _ _ c2) (by exact F1.keep _ _ r2) c3 r3 c4 r4 ?_
          cases hb : llt (xs'.getD (2 * p + 1) []) (xs'.getD (2 * p + 2) []) with
          | true =>
            walk_at "go"
            have e : pick llt xs' (2 * p + 1) = 2 * p + 1 := by unfold pick; rw [if_neg (fun q => by have q2 : llt (xs'.getD (2 * p + 1) []) (xs'.getD (2 * p + 2) []) = false := q.2; rw [hb] at q2; cases q2)]
            exact ⟨rfl, _, _, _, _, rfl, F1, by walk_at "lk", by walk_at "lk", by walk_at "lk", by walk_at "lk", by walk_at "lk", by rw [e]; walk_at "lk"⟩
          | false =>
            walk_at "go"
            rename Fx _ _ _ _ _ _ _ => F2
            have e : pick llt xs' (2 * p + 1) = 2 * p + 2 := by unfold pick; rw [if_pos ⟨hlt2, hb⟩]
            exact ⟨rfl, _, _, _, _, rfl, F2, by walk_at "lk", by walk_at "lk", by walk_at "lk", by walk_at "lk", by walk_at "lk", by rw [e]; walk_at "lk"⟩
        · rename_i hlt2
          have e : pick llt xs' (2 * p + 1) = 2 * p + 1 := by unfold pick; rw [if_neg (fun q => by lia)]
          exact ⟨rfl, _, _, _, _, rfl, F1, by walk_at "lk", by walk_at "lk", by walk_at "lk", by walk_at "lk", by walk_at "lk", by rw [e]; walk_at "lk"⟩
      · rintro f s' ⟨rfl, h, tk, m, tc, rfl, F, m1, m2, m3, m4, m5, m6⟩
        have hc := pick_lt (lt := llt) hlt
        have hc2 := pick_le llt xs' (2 * p + 1)
        dsimp only
        walk_at "go"
        refine r_itemM (F.ours D o (up_self _ _ _)) hl hx' (by lia) hc fun ac oc tc' c2 c3 c4 => ?_
        walk_at "go"
        refine r_set F hl (by lia) (by lia) fun h3 o3 hl3 F3 => ?_
        walk_at "go"
        rename Fx _ _ _ _ _ _ _ => F4
        have en : (2 : Int) * ((pick llt xs' (2 * p + 1) : Nat) : Int) + 1 = ((2 * pick llt xs' (2 * p + 1) + 1 : Nat) : Int) := by lia
        rw [en] at F4
        refine ⟨xs.length - pick llt xs' (2 * p + 1), by lia, _, _, _, _, _, xs'.set p (xs'.getD (pick llt xs' (2 * p + 1)) []), pick llt xs' (2 * p + 1), _, _, rfl, F4, by walk_at "lk", by walk_at "lk", by walk_at "lk", by walk_at "lk", by walk_at "lk", by walk_at "lk", hl3, ?_, by simpa using hlen, rfl, by lia, ?_⟩
        · exact hx'.set p ⟨_, _, _, rfl, c2, c3, c4⟩
        · rw [← he, uploop_yes hlt]
    · exact ⟨rfl, _, _, _, _, _, xs', p, _, rfl, F, by walk_at "lk", by walk_at "lk", by walk_at "lk", by walk_at "lk", hl, hx', hlen, hp', by rw [← he, uploop_end (by lia)]⟩
  · rintro f s' ⟨rfl, h, tk, m, o, its, xs', p, t, rfl, F, m1, m2, m3, m4, hl, hx', hlen, hp', he⟩
    dsimp only
    have hsz' := hx'.size
    walk_at "go"
    refine r_set F hl (by lia) (by lia) fun h3 o3 hl3 F3 => ?_
    walk_at "go"
    have hx3 := hx'.set p (x := xs.getD pos []) (v := .ref an) ⟨_, _, _, rfl, n2, n3, n4⟩
    have hpp := (uploop_lt llt _ pos xs rfl hp).1
    rw [← he] at hpp
    refine siftdown W ((Rd _).le (by decide) (by decide)) (by exact F3.keep) hH (by exact F3.ours D _ (up_self _ _ _)) hD hl3 hx3 hpp (by simpa using (by lia : p < xs'.length)) (by simpa using (by lia : xs'.length ≤ 1000)) fun h5 tk5 o5 its5 R5 ho5 hl5 hx5 => ?_
    have F5 := F3.back1 (up_self _ _ _) R5 ho5
    walk_at "go"
    refine ret _ _ _ _ F5.end1 (F5.ours D _ (up_self _ _ _)) hl5 ?_
    have e1 : (xs'.set p (xs.getD pos [])).getD p [] = xs.getD pos [] := by
      have : p < xs'.length := by lia
      simp [List.getD, this]
    rw [e1] at hx5
    have e2 : sup llt xs pos = sdown llt (xs.getD pos []) pos p (xs'.set p (xs.getD pos [])) := by
      unfold sup
      rw [← he]
    rw [e2]; exact hx5
theorem siftdown_max {xs : List Mk} {start pos : Nat} {ts tp : Tok} (W : Wd w H mg mb) (R : Room A 1 8) (hg : Sub g s.heap) (hH : ∀ a o, H.get? a = some o → g a = some o)
    (ho : s.heap.get? D = some o) (hD : g D = none) (hl : IsL o its) (hx : Mks g its xs) (hps : start ≤ pos) (hp : pos < xs.length) (hsz : xs.length ≤ 1000)
    (ret : ∀ h' tk' o' its', Rt (fun b => b = D) g s.heap g h' → h'.get? D = some o' → IsL o' its' → Mks g its' (sdown lgt (xs.getD pos []) start pos xs) → Q .none { s with heap := h', toks := tk' }) :
    wpAny (model prog w) A (call (.ref 83) [.ref D, .int start ts, .int pos tp]) Q E s := by
  obtain ⟨h0, gn, dr, tk0, os⟩ := s
  walk_at "enter"
  case hH => exact fun a o e => hg _ _ (hH _ _ e)
  case hr => exact R.d
  intro L h₁ tk hL hns hk
  obtain ⟨m, hm, m1, m2, m3⟩ : ∃ m, h₁.Ns L m ∧ m "heap" = some (.ref D) ∧ m "startpos" = some (.int start ts) ∧ m "pos" = some (.int pos tp) := ⟨_, hns, rfl, rfl, rfl⟩
  have F := enter1 hg hH ho hD hL hm hk
  clear hns hm hk
  have Rd : ∀ env, Room (A.deeper env) 0 5 := fun env => R.deeper env
  walk_at "go"
  refine r_itemM (F.ours D o (up_self _ _ _)) hl hx (by lia) hp fun an on tn n2 n3 n4 => ?_
  walk_at "go"
  rename Fx _ _ _ _ _ _ _ => F1
  -- the loop
  refine wpAny_mono (Q := fun f s' => f = .next ∧ Ex8 fun h tk m' o' its' xs' p t => And10 (s' = ⟨h, gn, dr, tk, os⟩) (Fx H (ent1 g h0 D) g (up none' D o') L h m') (m' "heap" = some (.ref D)) (m' "pos" = some (.int (p : Nat) t)) (m' "newitem" = some (.ref an)) (IsL o' its') (Mks g its' xs') (xs'.length = xs.length) (p < xs.length) (xs'.set p (xs.getD pos []) = sdown lgt (xs.getD pos []) start pos xs)) (fx_while
    (fun n s' => Ex8 fun h tk m' o' its' xs' p t => And12 (s' = ⟨h, gn, dr, tk, os⟩) (Fx H (ent1 g h0 D) g (up none' D o') L h m') (m' "heap" = some (.ref D)) (m' "startpos" = some (.int start ts)) (m' "pos" = some (.int (p : Nat) t)) (m' "newitem" = some (.ref an)) (IsL o' its') (Mks g its' xs') (xs'.length = xs.length) (n = p) (p < xs.length) (sdown lgt (xs.getD pos []) start p xs' = sdown lgt (xs.getD pos []) start pos xs))
    pos ⟨_, _, _, o, its, xs, pos, tp, rfl, F1, by walk_at "lk", by walk_at "lk", by walk_at "lk", by walk_at "lk", hl, hx, rfl, rfl, hp, rfl⟩ ?_) ?_ (fun _ _ q => q)
  · clear m1 m2 m3 F F1
    rintro n s' ⟨h, tk, m, o, its, xs', p, t, rfl, F, m1, m2, m3, m4, hl, hx', hlen, rfl, hp', he⟩
    walk_at "go"
    · rename Fx _ _ _ _ _ _ _ => F1
      have hlt : start < n := by lia
      have en : ((n : Int) - 1) / 2 = (((n - 1) / 2 : Nat) : Int) := by lia
      rw [en] at F1 ⊢
      refine r_itemM (F1.ours D o (up_self _ _ _)) hl hx' (by lia) (by lia) fun ap op tpp p2 p3 p4 => ?_
      walk_at "go"
      rename Fx _ _ _ _ _ _ _ => F2
      refine tuple_lt (Rd _).u (by exact F2.keep _ _ p2) (by exact F2.keep _ _ n2) p3 n3 p4 n4 ?_
      walk1
      walk1
      · rename_i hb
        walk_at "go"
        refine r_set F2 hl (by lia) (by have := hx'.size; lia) fun h3 o3 hl3 F3 => ?_
        walk_at "go"
        rename Fx _ _ _ _ _ _ _ => F4
        refine ⟨(n - 1) / 2, by lia, _, _, _, _, _, xs'.set n (xs'.getD ((n - 1) / 2) []), (n - 1) / 2, _, rfl, F4, by walk_at "lk", by walk_at "lk", by walk_at "lk", by walk_at "lk", hl3, ?_, by simpa using hlen, rfl, by lia, ?_⟩
        · exact hx'.set n ⟨_, _, _, rfl, p2, p3, p4⟩
        · rw [← he, sdown_yes hlt hb]
      · rename_i hb
        walk_at "go"
        exact ⟨rfl, _, _, _, _, _, xs', n, _, rfl, F2, by walk_at "lk", by walk_at "lk", by walk_at "lk", hl, hx', hlen, hp', by rw [← he, sdown_no hb]⟩
    · exact ⟨rfl, _, _, _, _, _, xs', n, _, rfl, F, by walk_at "lk", by walk_at "lk", by walk_at "lk", hl, hx', hlen, hp', by rw [← he, sdown_end (by lia)]⟩
  · rintro f s' ⟨rfl, h, tk, m, o, its, xs', p, t, rfl, F, m1, m3, m4, hl, hx', hlen, hp', he⟩
    dsimp only
    walk_at "go"
    refine r_set F hl (by lia) (by have := hx'.size; lia) fun h3 o3 hl3 F3 => ?_
    walk_at "go"
    refine ret _ _ _ _ F3.end1 (F3.ours D _ (up_self _ _ _)) hl3 ?_
    have := hx'.set p (x := xs.getD pos []) (v := .ref an) ⟨_, _, _, rfl, n2, n3, n4⟩
    rw [he] at this
    exact this

theorem siftup_max {xs : List Mk} {pos : Nat} {tp : Tok} (W : Wd w H mg mb) (R : Room A 2 12) (hg : Sub g s.heap) (hH : ∀ a o, H.get? a = some o → g a = some o)
    (ho : s.heap.get? D = some o) (hD : g D = none) (hl : IsL o its) (hx : Mks g its xs) (hp : pos < xs.length) (hsz : xs.length ≤ 1000)
    (ret : ∀ h' tk' o' its', Rt (fun b => b = D) g s.heap g h' → h'.get? D = some o' → IsL o' its' → Mks g its' (sup lgt xs pos) → Q .none { s with heap := h', toks := tk' }) :
    wpAny (model prog w) A (call (.ref 90) [.ref D, .int pos tp]) Q E s := by
  obtain ⟨h0, gn, dr, tk0, os⟩ := s
  walk_at "enter"
  case hH => exact fun a o e => hg _ _ (hH _ _ e)
  case hr => exact R.d
  intro L h₁ tk hL hns hk
  obtain ⟨m, hm, m1, m2⟩ : ∃ m, h₁.Ns L m ∧ m "heap" = some (.ref D) ∧ m "pos" = some (.int pos tp) := ⟨_, hns, rfl, rfl⟩
  have F := enter1 hg hH ho hD hL hm hk
  clear hns hm hk
  have Rd : ∀ env, Room (A.deeper env) 1 9 := fun env => R.deeper env
  have hsize := hx.size
  walk_at "go"
  refine r_len (F.ours D o (up_self _ _ _)) hl (by lia) fun te tk2 => ?_
  rw [hsize]
  walk_at "go"
  rename Fx _ _ _ _ _ _ _ => F0
  refine r_itemM (F0.ours D o (up_self _ _ _)) hl hx (by lia) hp fun an on tn n2 n3 n4 => ?_
  walk_at "go"
  rename Fx _ _ _ _ _ _ _ => F1
  have en : (2 : Int) * (pos : Int) + 1 = ((2 * pos + 1 : Nat) : Int) := by lia
  rw [en] at F1
  -- the loop
  refine wpAny_mono (Q := fun f s' => f = .next ∧ Ex8 fun h tk m' o' its' xs' p t => And11 (s' = ⟨h, gn, dr, tk, os⟩) (Fx H (ent1 g h0 D) g (up none' D o') L h m') (m' "heap" = some (.ref D)) (m' "startpos" = some (.int pos tp)) (m' "pos" = some (.int (p : Nat) t)) (m' "newitem" = some (.ref an)) (IsL o' its') (Mks g its' xs') (xs'.length = xs.length) (p < xs.length) ((p, xs') = uploop lgt pos xs)) (fx_while
    (fun n s' => Ex9 fun h tk m' o' its' xs' p t tc => And14 (s' = ⟨h, gn, dr, tk, os⟩) (Fx H (ent1 g h0 D) g (up none' D o') L h m') (m' "heap" = some (.ref D)) (m' "startpos" = some (.int pos tp)) (m' "pos" = some (.int (p : Nat) t)) (m' "newitem" = some (.ref an)) (m' "endpos" = some (.int (xs.length : Nat) te)) (m' "childpos" = some (.int ((2 * p + 1 : Nat) : Int) tc)) (IsL o' its') (Mks g its' xs') (xs'.length = xs.length) (n = xs.length - p) (p < xs.length) (uploop lgt p xs' = uploop lgt pos xs))
    (xs.length - pos) ⟨_, _, _, o, its, xs, pos, tp, _, rfl, F1, by walk_at "lk", by walk_at "lk", by walk_at "lk", by walk_at "lk", by walk_at "lk", by walk_at "lk", hl, hx, rfl, rfl, hp, rfl⟩ ?_) ?_ (fun _ _ q => q)
  · clear m1 m2 F F0 F1
    rintro n s' ⟨h, tk, m, o, its, xs', p, t, tc, rfl, F, m1, m2, m3, m4, m5, m6, hl, hx', hlen, rfl, hp', he⟩
    have hsz' := hx'.size
    walk_at "goS"
    · rename Fx _ _ _ _ _ _ _ => F1
      have hlt : 2 * p + 1 < xs'.length := by lia
      have en : ((2 * p + 1 : Nat) : Int) + 1 = ((2 * p + 2 : Nat) : Int) := by lia
      rw [en] at F1
      -- the lesser child
      refine wpAny_mono (Q := fun f s' => f = .next ∧ Ex4 fun h tk m' tc => And8 (s' = ⟨h, gn, dr, tk, os⟩) (Fx H (ent1 g h0 D) g (up none' D o) L h m') (m' "heap" = some (.ref D)) (m' "startpos" = some (.int pos tp)) (m' "pos" = some (.int (p : Nat) t)) (m' "newitem" = some (.ref an)) (m' "endpos" = some (.int (xs.length : Nat) te)) (m' "childpos" = some (.int ((pick lgt xs' (2 * p + 1) : Nat) : Int) tc))) ?_ ?_ (fun _ _ q => q)
      · walk_at "go"
        · rename_i hlt2
          have hlt2 : 2 * p + 2 < xs'.length := by lia
          refine r_itemM (F1.ours D o (up_self _ _ _)) hl hx' (by lia) (by lia) fun ar or' tr r2 r3 r4 => ?_
          walk_at "go"
          refine r_itemM (F1.ours D o (up_self _ _ _)) hl hx' (by lia) (by lia) fun ac oc tc' c2 c3 c4 => ?_
          refine tuple_lt (Rd _).u (by exact F1.keep _ _ r2) (by exact F1.keep _ _ c2) r3 c3 r4 c4 ?_
          cases hb : llt (xs'.getD (2 * p + 2) []) (xs'.getD (2 * p + 1) []) with
          | true =>
            walk_at "go"
            have e : pick lgt xs' (2 * p + 1) = 2 * p + 1 := by unfold pick; rw [if_neg (fun q => by have q2 : llt (xs'.getD (2 * p + 2) []) (xs'.getD (2 * p + 1) []) = false := q.2; rw [hb] at q2; cases q2)]
            exact ⟨rfl, _, _, _, _, rfl, F1, by walk_at "lk", by walk_at "lk", by walk_at "lk", by walk_at "lk", by walk_at "lk", by rw [e]; walk_at "lk"⟩
          | false =>
            walk_at "go"
            rename Fx _ _ _ _ _ _ _ => F2
            have e : pick lgt xs' (2 * p + 1) = 2 * p + 2 := by unfold pick; rw [if_pos ⟨hlt2, hb⟩]
            exact ⟨rfl, _, _, _, _, rfl, F2, by walk_at "lk", by walk_at "lk", by walk_at "lk", by walk_at "lk", by walk_at "lk", by rw [e]; walk_at "lk"⟩
        · rename_i hlt2
          have e : pick lgt xs' (2 * p + 1) = 2 * p + 1 := by unfold pick; rw [if_neg (fun q => by lia)]
          exact ⟨rfl, _, _, _, _, rfl, F1, by walk_at "lk", by walk_at "lk", by walk_at "lk", by walk_at "lk", by walk_at "lk", by rw [e]; walk_at "lk"⟩
      · rintro f s' ⟨rfl, h, tk, m, tc, rfl, F, m1, m2, m3, m4, m5, m6⟩
        have hc := pick_lt (lt := lgt) hlt
        have hc2 := pick_le lgt xs' (2 * p + 1)
        dsimp only
        walk_at "go"
        refine r_itemM (F.ours D o (up_self _ _ _)) hl hx' (by lia) hc fun ac oc tc' c2 c3 c4 => ?_
        walk_at "go"
        refine r_set F hl (by lia) (by lia) fun h3 o3 hl3 F3 => ?_
        walk_at "go"
        rename Fx _ _ _ _ _ _ _ => F4
        have en : (2 : Int) * ((pick lgt xs' (2 * p + 1) : Nat) : Int) + 1 = ((2 * pick lgt xs' (2 * p + 1) + 1 : Nat) : Int) := by lia
        rw [en] at F4
        refine ⟨xs.length - pick lgt xs' (2 * p + 1), by lia, _, _, _, _, _, xs'.set p (xs'.getD (pick lgt xs' (2 * p + 1)) []), pick lgt xs' (2 * p + 1), _, _, rfl, F4, by walk_at "lk", by walk_at "lk", by walk_at "lk", by walk_at "lk", by walk_at "lk", by walk_at "lk", hl3, ?_, by simpa using hlen, rfl, by lia, ?_⟩
        · exact hx'.set p ⟨_, _, _, rfl, c2, c3, c4⟩
        · rw [← he, uploop_yes hlt]
    · exact ⟨rfl, _, _, _, _, _, xs', p, _, rfl, F, by walk_at "lk", by walk_at "lk", by walk_at "lk", by walk_at "lk", hl, hx', hlen, hp', by rw [← he, uploop_end (by lia)]⟩
  · rintro f s' ⟨rfl, h, tk, m, o, its, xs', p, t, rfl, F, m1, m2, m3, m4, hl, hx', hlen, hp', he⟩
    dsimp only
    have hsz' := hx'.size
    walk_at "go"
    refine r_set F hl (by lia) (by lia) fun h3 o3 hl3 F3 => ?_
    walk_at "go"
    have hx3 := hx'.set p (x := xs.getD pos []) (v := .ref an) ⟨_, _, _, rfl, n2, n3, n4⟩
    have hpp := (uploop_lt lgt _ pos xs rfl hp).1
    rw [← he] at hpp
    refine siftdown_max W ((Rd _).le (by decide) (by decide)) (by exact F3.keep) hH (by exact F3.ours D _ (up_self _ _ _)) hD hl3 hx3 hpp (by simpa using (by lia : p < xs'.length)) (by simpa using (by lia : xs'.length ≤ 1000)) fun h5 tk5 o5 its5 R5 ho5 hl5 hx5 => ?_
    have F5 := F3.back1 (up_self _ _ _) R5 ho5
    walk_at "go"
    refine ret _ _ _ _ F5.end1 (F5.ours D _ (up_self _ _ _)) hl5 ?_
    have e1 : (xs'.set p (xs.getD pos [])).getD p [] = xs.getD pos [] := by
      have : p < xs'.length := by lia
      simp [List.getD, this]
    rw [e1] at hx5
    have e2 : sup lgt xs pos = sdown lgt (xs.getD pos []) pos p (xs'.set p (xs.getD pos [])) := by
      unfold sup
      rw [← he]
    rw [e2]; exact hx5


end
section
open PySem PySem.W PySem.Calls PyProof.Rows
set_option Elab.async false
set_option maxRecDepth 100000
set_option maxHeartbeats 4000000
set_option linter.unusedVariables false



variable {w : World} {H : Heap} {mg mb : Str → Option Value} {prog : Program} {A : Around} {E : Value → Shared → Prop} {s : Shared} {g : G} {D : Addr} {o : Obj} {its : Array Value} {Q : Value → Shared → Prop}

theorem heapify {xs : List Mk} (W : Wd w H mg mb) (R : Room A 3 16) (hg : Sub g s.heap) (hH : ∀ a o, H.get? a = some o → g a = some o)
    (ho : s.heap.get? D = some o) (hD : g D = none) (hl : IsL o its) (hx : Mks g its xs) (hsz : xs.length ≤ 1000)
    (ret : ∀ h' tk' o' its', Rt (fun b => b = D) g s.heap g h' → h'.get? D = some o' → IsL o' its' → Mks g its' (hfy llt (xs.length / 2) xs) → Q .none { s with heap := h', toks := tk' }) :
    wpAny (model prog w) A (call (.ref 55) [.ref D]) Q E s := by
  obtain ⟨h0, gn, dr, tk0, os⟩ := s
  walk_at "enter"
  case hH => exact fun a o e => hg _ _ (hH _ _ e)
  case hr => exact R.d
  intro L h₁ tk hL hns hk
  obtain ⟨m, hm, m1⟩ : ∃ m, h₁.Ns L m ∧ m "x" = some (.ref D) := ⟨_, hns, rfl⟩
  have F := enter1 hg hH ho hD hL hm hk
  clear hns hm hk
  have Rd : ∀ env, Room (A.deeper env) 2 13 := fun env => R.deeper env
  have hsize := hx.size
  walk_at "go"
  refine r_len (F.ours D o (up_self _ _ _)) hl (by lia) fun te tk2 => ?_
  rw [hsize]
  walk_at "go"
  rename Fx _ _ _ _ _ _ _ => F0
  have en : ((xs.length : Nat) : Int).fdiv 2 = ((xs.length / 2 : Nat) : Int) := by
    rw [Int.fdiv_eq_ediv_of_nonneg _ (by decide)]; lia
  rw [en]
  refine r_range F0 fun r h2 tk2 t u v offr hr F1 => ?_
  walk_at "go"
  refine r_revrange F1 hr (by lia) fun I h3 offI hit F2 => ?_
  refine wpAny_pyIter_rangeiter hit ?_
  refine for_it (It.range (by exact R.handled) ((xs.length / 2 : Nat) - 1 : Int) (-1) (xs.length / 2))
    (fun i g' M m => And3 (g' = g) (m "x" = some (.ref D)) (Ex3 fun o its xs' => And5 (M = up none' D o) (IsL o its) (Mks g its xs') (xs'.length = xs.length) (hfy llt (xs.length / 2 - i) xs' = hfy llt (xs.length / 2) xs)))
    (fun _ _ _ => False) (fun _ _ _ _ => False) F2 (by simpa using hit) ⟨rfl, by walk_at "lk", o, its, xs, rfl, hl, hx, rfl, rfl⟩ (fun b hb => by cases List.mem_singleton.mp hb; exact ⟨offI.l, offI.z, offI.al, offI.g, offI.m⟩) (fun b hb => nomatch hb) ?_ ?_ (fun _ _ _ _ _ q => q.elim) (fun _ _ _ _ _ _ q => q.elim)
  · rintro i v e' g' M m h tk hi ⟨ti, rfl⟩ ⟨rfl, m1, o, its, xs', rfl, hl, hx', hlen, he⟩ F3 hge hal
    have ei : ((xs.length / 2 : Nat) - 1 : Int) + (i : Int) * (-1) = ((xs.length / 2 - 1 - i : Nat) : Int) := by lia
    rw [ei]
    refine wpAny_assign_Name ?_
    walk_at "go"
    rename Fx _ _ _ _ _ _ _ => F4
    refine siftup W ((Rd _).le (by decide) (by decide)) (by exact F4.keep) hH (by exact F4.ours D _ (up_self _ _ _)) hD hl hx' (by lia) (by lia) fun h5 tk5 o5 its5 R5 ho5 hl5 hx5 => ?_
    have F5 := F4.back1 (up_self _ _ _) R5 ho5
    walk_at "go"
    refine ⟨_, _, _, _, _, rfl, F5, rfl, by walk_at "lk", o5, its5, _, by funext a; simp only [up]; split <;> rfl, hl5, hx5, by rw [length_sup]; exact hlen, ?_⟩
    rw [← he, show xs.length / 2 - i = (xs.length / 2 - 1 - i) + 1 by lia, hfy, show xs.length / 2 - (i + 1) = xs.length / 2 - 1 - i by lia]
  · rintro g' M m h tk ⟨rfl, m1, o, its, xs', rfl, hl, hx', hlen, he⟩ F3
    dsimp only
    walk_at "go"
    rw [Nat.sub_self] at he
    exact ret _ _ _ _ F3.end1 (F3.ours D _ (up_self _ _ _)) hl (by rw [← he]; exact hx')

theorem heapify_max {xs : List Mk} (W : Wd w H mg mb) (R : Room A 3 16) (hg : Sub g s.heap) (hH : ∀ a o, H.get? a = some o → g a = some o)
    (ho : s.heap.get? D = some o) (hD : g D = none) (hl : IsL o its) (hx : Mks g its xs) (hsz : xs.length ≤ 1000)
    (ret : ∀ h' tk' o' its', Rt (fun b => b = D) g s.heap g h' → h'.get? D = some o' → IsL o' its' → Mks g its' (hfy lgt (xs.length / 2) xs) → Q .none { s with heap := h', toks := tk' }) :
    wpAny (model prog w) A (call (.ref 62) [.ref D]) Q E s := by
  obtain ⟨h0, gn, dr, tk0, os⟩ := s
  walk_at "enter"
  case hH => exact fun a o e => hg _ _ (hH _ _ e)
  case hr => exact R.d
  intro L h₁ tk hL hns hk
  obtain ⟨m, hm, m1⟩ : ∃ m, h₁.Ns L m ∧ m "x" = some (.ref D) := ⟨_, hns, rfl⟩
  have F := enter1 hg hH ho hD hL hm hk
  clear hns hm hk
  have Rd : ∀ env, Room (A.deeper env) 2 13 := fun env => R.deeper env
  have hsize := hx.size
  walk_at "go"
  refine r_len (F.ours D o (up_self _ _ _)) hl (by lia) fun te tk2 => ?_
  rw [hsize]
  walk_at "go"
  rename Fx _ _ _ _ _ _ _ => F0
  have en : ((xs.length : Nat) : Int).fdiv 2 = ((xs.length / 2 : Nat) : Int) := by
    rw [Int.fdiv_eq_ediv_of_nonneg _ (by decide)]; lia
  rw [en]
  refine r_range F0 fun r h2 tk2 t u v offr hr F1 => ?_
  walk_at "go"
  refine r_revrange F1 hr (by lia) fun I h3 offI hit F2 => ?_
  refine wpAny_pyIter_rangeiter hit ?_
  refine for_it (It.range (by exact R.handled) ((xs.length / 2 : Nat) - 1 : Int) (-1) (xs.length / 2))
    (fun i g' M m => And3 (g' = g) (m "x" = some (.ref D)) (Ex3 fun o its xs' => And5 (M = up none' D o) (IsL o its) (Mks g its xs') (xs'.length = xs.length) (hfy lgt (xs.length / 2 - i) xs' = hfy lgt (xs.length / 2) xs)))
    (fun _ _ _ => False) (fun _ _ _ _ => False) F2 (by simpa using hit) ⟨rfl, by walk_at "lk", o, its, xs, rfl, hl, hx, rfl, rfl⟩ (fun b hb => by cases List.mem_singleton.mp hb; exact ⟨offI.l, offI.z, offI.al, offI.g, offI.m⟩) (fun b hb => nomatch hb) ?_ ?_ (fun _ _ _ _ _ q => q.elim) (fun _ _ _ _ _ _ q => q.elim)
  · rintro i v e' g' M m h tk hi ⟨ti, rfl⟩ ⟨rfl, m1, o, its, xs', rfl, hl, hx', hlen, he⟩ F3 hge hal
    have ei : ((xs.length / 2 : Nat) - 1 : Int) + (i : Int) * (-1) = ((xs.length / 2 - 1 - i : Nat) : Int) := by lia
    rw [ei]
    refine wpAny_assign_Name ?_
    walk_at "go"
    rename Fx _ _ _ _ _ _ _ => F4
    refine siftup_max W ((Rd _).le (by decide) (by decide)) (by exact F4.keep) hH (by exact F4.ours D _ (up_self _ _ _)) hD hl hx' (by lia) (by lia) fun h5 tk5 o5 its5 R5 ho5 hl5 hx5 => ?_
    have F5 := F4.back1 (up_self _ _ _) R5 ho5
    walk_at "go"
    refine ⟨_, _, _, _, _, rfl, F5, rfl, by walk_at "lk", o5, its5, _, by funext a; simp only [up]; split <;> rfl, hl5, hx5, by rw [length_sup]; exact hlen, ?_⟩
    rw [← he, show xs.length / 2 - i = (xs.length / 2 - 1 - i) + 1 by lia, hfy, show xs.length / 2 - (i + 1) = xs.length / 2 - 1 - i by lia]
  · rintro g' M m h tk ⟨rfl, m1, o, its, xs', rfl, hl, hx', hlen, he⟩ F3
    dsimp only
    walk_at "go"
    rw [Nat.sub_self] at he
    exact ret _ _ _ _ F3.end1 (F3.ours D _ (up_self _ _ _)) hl (by rw [← he]; exact hx')


end
section
open PySem PySem.W PySem.Calls PyProof.Rows
set_option Elab.async false
set_option maxRecDepth 100000
set_option maxHeartbeats 4000000
set_option linter.unusedVariables false



variable {w : World} {H : Heap} {mg mb : Str → Option Value} {prog : Program} {A : Around} {E : Value → Shared → Prop} {s : Shared} {g : G} {D : Addr} {o : Obj} {its : Array Value} {Q : Value → Shared → Prop}

theorem bisect_right {xs : List Mk} {x : Mk} {ax : Addr} {ox : Obj} {tx : Array Value} {tl : Tok} (W : Wd w H mg mb) (R : Room A 1 12) (hg : Sub g s.heap) (hH : ∀ a o, H.get? a = some o → g a = some o)
    (ho : s.heap.get? D = some o) (hl : IsL o its) (hx : Mks g its xs) (x1 : g ax = some ox) (x2 : IsT ox tx) (x3 : Ints tx.toList x) (hsz : xs.length ≤ 1000)
    (ret : ∀ h' tk' t', Rt (fun _ => False) g s.heap g h' → Q (.int (bisr x xs 0 xs.length : Nat) t') { s with heap := h', toks := tk' }) :
    wpAny (model prog w) A (call (.ref 32) [.ref D, .ref ax, .int (0 : Nat) tl, .none]) Q E s := by
  obtain ⟨h0, gn, dr, tk0, os⟩ := s
  have hst : H.StaysIn h0 := fun a o e => hg _ _ (hH _ _ e)
  walk_at "enter"
  case hH => exact hst
  case hr => exact R.d
  intro L h₁ tk hL hns hk
  obtain ⟨m, hm, m1, m2, ⟨tlo, m3⟩, m4, m5⟩ : ∃ m, h₁.Ns L m ∧ m "a" = some (.ref D) ∧ m "x" = some (.ref ax) ∧ (∃ t, m "lo" = some (.int (0 : Nat) t)) ∧ m "hi" = some .none ∧ m "key" = some .none := ⟨_, hns, rfl, rfl, ⟨_, rfl⟩, rfl, rfl⟩
  have F := enter0 hg hH hL hm hk
  clear hns hm hk
  have Rd : ∀ env, Room (A.deeper env) 0 9 := fun env => R.deeper env
  have hsize := hx.size
  walk_at "go"
  rename Fx _ _ _ _ _ _ _ => F0
  refine r_len (F0.old D o ho) hl (by lia) fun te tk2 => ?_
  rw [hsize]
  walk_at "go"
  rename Fx _ _ _ _ _ _ _ => F1
  -- the loop
  refine wpAny_mono (Q := fun f s' => f = .next ∧ Ex5 fun h tk m' lo t => And4 (s' = ⟨h, gn, dr, tk, os⟩) (Fx H (ent0 g h0) g none' L h m') (m' "lo" = some (.int (lo : Nat) t)) (lo = bisr x xs 0 xs.length)) (fx_while
    (fun n s' => Ex7 fun h tk m' lo hi t u => And9 (s' = ⟨h, gn, dr, tk, os⟩) (Fx H (ent0 g h0) g none' L h m') (m' "a" = some (.ref D)) (m' "x" = some (.ref ax)) (m' "lo" = some (.int (lo : Nat) t)) (m' "hi" = some (.int (hi : Nat) u)) (n = hi - lo) (hi ≤ xs.length) (bisr x xs lo hi = bisr x xs 0 xs.length))
    (xs.length - 0) ⟨_, _, _, 0, xs.length, tlo, _, rfl, F1, by walk_at "lk", by walk_at "lk", by walk_at "lk", by walk_at "lk", rfl, Nat.le_refl _, rfl⟩ ?_) ?_ (fun _ _ q => q)
  · clear m1 m2 m3 m4 m5 F0 F1
    rintro n s' ⟨h, tk, m, lo, hi, t, u, rfl, F, m1, m2, m3, m4, rfl, hhi, he⟩
    walk_at "go"
    · rename Fx _ _ _ _ _ _ _ => F1
      have hlt : lo < hi := by lia
      have en : ((lo : Int) + (hi : Int)).fdiv 2 = (((lo + hi) / 2 : Nat) : Int) := by
        rw [Int.fdiv_eq_ediv_of_nonneg _ (by decide)]; lia
      rw [en] at F1 ⊢
      refine r_itemM (F1.old D o ho) hl hx (by lia) (by lia) fun am om tm c2 c3 c4 => ?_
      walk_at "go"
      refine tuple_lt (Rd _).u (by exact F1.keep _ _ x1) (by exact F1.keep _ _ c2) x2 c3 x3 c4 ?_
      cases hb : llt x (xs.getD ((lo + hi) / 2) []) with
      | true =>
        walk_at "go"
        rename Fx _ _ _ _ _ _ _ => F2
        refine ⟨(lo + hi) / 2 - lo, by lia, _, _, _, lo, (lo + hi) / 2, _, _, rfl, F2, by walk_at "lk", by walk_at "lk", by walk_at "lk", by walk_at "lk", rfl, by lia, by rw [← he, bisr_lt hlt hb]⟩
      | false =>
        walk_at "go"
        rename Fx _ _ _ _ _ _ _ => F2
        have e1 : (((lo + hi) / 2 : Nat) : Int) + 1 = (((lo + hi) / 2 + 1 : Nat) : Int) := by lia
        rw [e1] at F2
        refine ⟨hi - ((lo + hi) / 2 + 1), by lia, _, _, _, (lo + hi) / 2 + 1, hi, _, _, rfl, F2, by walk_at "lk", by walk_at "lk", by walk_at "lk", by walk_at "lk", rfl, by lia, by rw [← he, bisr_ge hlt hb]⟩
    · exact ⟨rfl, _, _, _, _, _, rfl, F, by walk_at "lk", by rw [← he, bisr_end (by lia)]⟩
  · rintro f s' ⟨rfl, h, tk, m, lo, t, rfl, F, m3, rfl⟩
    dsimp only
    walk_at "go"
    exact ret _ _ _ F.end0

theorem bisect_left {xs : List Mk} {x : Mk} {ax : Addr} {ox : Obj} {tx : Array Value} (W : Wd w H mg mb) (R : Room A 1 12) (hg : Sub g s.heap) (hH : ∀ a o, H.get? a = some o → g a = some o)
    (ho : s.heap.get? D = some o) (hl : IsL o its) (hx : Mks g its xs) (x1 : g ax = some ox) (x2 : IsT ox tx) (x3 : Ints tx.toList x) (hsz : xs.length ≤ 1000)
    (ret : ∀ h' tk' t', Rt (fun _ => False) g s.heap g h' → Q (.int (bisl x xs 0 xs.length : Nat) t') { s with heap := h', toks := tk' }) :
    wpAny (model prog w) A (call (.ref 41) [.ref D, .ref ax]) Q E s := by
  obtain ⟨h0, gn, dr, tk0, os⟩ := s
  have hst : H.StaysIn h0 := fun a o e => hg _ _ (hH _ _ e)
  walk_at "enter"
  case hH => exact hst
  case hr => exact R.d
  intro L h₁ tk hL hns hk
  obtain ⟨m, hm, m1, m2, ⟨tlo, m3⟩, m4, m5⟩ : ∃ m, h₁.Ns L m ∧ m "a" = some (.ref D) ∧ m "x" = some (.ref ax) ∧ (∃ t, m "lo" = some (.int (0 : Nat) t)) ∧ m "hi" = some .none ∧ m "key" = some .none := ⟨_, hns, rfl, rfl, ⟨_, rfl⟩, rfl, rfl⟩
  have F := enter0 hg hH hL hm hk
  clear hns hm hk
  have Rd : ∀ env, Room (A.deeper env) 0 9 := fun env => R.deeper env
  have hsize := hx.size
  walk_at "go"
  rename Fx _ _ _ _ _ _ _ => F0
  refine r_len (F0.old D o ho) hl (by lia) fun te tk2 => ?_
  rw [hsize]
  walk_at "go"
  rename Fx _ _ _ _ _ _ _ => F1
  -- the loop
  refine wpAny_mono (Q := fun f s' => f = .next ∧ Ex5 fun h tk m' lo t => And4 (s' = ⟨h, gn, dr, tk, os⟩) (Fx H (ent0 g h0) g none' L h m') (m' "lo" = some (.int (lo : Nat) t)) (lo = bisl x xs 0 xs.length)) (fx_while
    (fun n s' => Ex7 fun h tk m' lo hi t u => And9 (s' = ⟨h, gn, dr, tk, os⟩) (Fx H (ent0 g h0) g none' L h m') (m' "a" = some (.ref D)) (m' "x" = some (.ref ax)) (m' "lo" = some (.int (lo : Nat) t)) (m' "hi" = some (.int (hi : Nat) u)) (n = hi - lo) (hi ≤ xs.length) (bisl x xs lo hi = bisl x xs 0 xs.length))
    (xs.length - 0) ⟨_, _, _, 0, xs.length, tlo, _, rfl, F1, by walk_at "lk", by walk_at "lk", by walk_at "lk", by walk_at "lk", rfl, Nat.le_refl _, rfl⟩ ?_) ?_ (fun _ _ q => q)
  · clear m1 m2 m3 m4 m5 F0 F1
    rintro n s' ⟨h, tk, m, lo, hi, t, u, rfl, F, m1, m2, m3, m4, rfl, hhi, he⟩
    walk_at "go"
    · rename Fx _ _ _ _ _ _ _ => F1
      have hlt : lo < hi := by lia
      have en : ((lo : Int) + (hi : Int)).fdiv 2 = (((lo + hi) / 2 : Nat) : Int) := by
        rw [Int.fdiv_eq_ediv_of_nonneg _ (by decide)]; lia
      rw [en] at F1 ⊢
      refine r_itemM (F1.old D o ho) hl hx (by lia) (by lia) fun am om tm c2 c3 c4 => ?_
      walk_at "go"
      refine tuple_lt (Rd _).u (by exact F1.keep _ _ c2) (by exact F1.keep _ _ x1) c3 x2 c4 x3 ?_
      cases hb : llt (xs.getD ((lo + hi) / 2) []) x with
      | true =>
        walk_at "go"
        rename Fx _ _ _ _ _ _ _ => F2
        have e1 : (((lo + hi) / 2 : Nat) : Int) + 1 = (((lo + hi) / 2 + 1 : Nat) : Int) := by lia
        rw [e1] at F2
        refine ⟨hi - ((lo + hi) / 2 + 1), by lia, _, _, _, (lo + hi) / 2 + 1, hi, _, _, rfl, F2, by walk_at "lk", by walk_at "lk", by walk_at "lk", by walk_at "lk", rfl, by lia, by rw [← he, bisl_lt hlt hb]⟩
      | false =>
        walk_at "go"
        rename Fx _ _ _ _ _ _ _ => F2
        refine ⟨(lo + hi) / 2 - lo, by lia, _, _, _, lo, (lo + hi) / 2, _, _, rfl, F2, by walk_at "lk", by walk_at "lk", by walk_at "lk", by walk_at "lk", rfl, by lia, by rw [← he, bisl_ge hlt hb]⟩
    · exact ⟨rfl, _, _, _, _, _, rfl, F, by walk_at "lk", by rw [← he, bisl_end (by lia)]⟩
  · rintro f s' ⟨rfl, h, tk, m, lo, t, rfl, F, m3, rfl⟩
    dsimp only
    walk_at "go"
    exact ret _ _ _ F.end0


end
section
open PySem PySem.W PySem.Calls PyProof.Rows
set_option Elab.async false
set_option maxRecDepth 100000
set_option maxHeartbeats 4000000
set_option linter.unusedVariables false



variable {w : World} {H : Heap} {mg mb : Str → Option Value} {prog : Program} {A : Around} {E : Value → Shared → Prop} {s : Shared} {g : G} {D : Addr} {o : Obj} {its : Array Value} {Q : Value → Shared → Prop}

theorem insort_right {xs : List Mk} {x : Mk} {ax : Addr} {ox : Obj} {tx : Array Value} (W : Wd w H mg mb) (R : Room A 2 16) (hg : Sub g s.heap) (hH : ∀ a o, H.get? a = some o → g a = some o)
    (ho : s.heap.get? D = some o) (hD : g D = none) (hl : IsL o its) (hx : Mks g its xs) (x1 : g ax = some ox) (x2 : IsT ox tx) (x3 : Ints tx.toList x) (hsz : xs.length ≤ 1000)
    (ret : ∀ h' tk' o' its', Rt (fun b => b = D) g s.heap g h' → h'.get? D = some o' → IsL o' its' → Mks g its' (ins x xs) → Q .none { s with heap := h', toks := tk' }) :
    wpAny (model prog w) A (call (.ref 23) [.ref D, .ref ax]) Q E s := by
  obtain ⟨h0, gn, dr, tk0, os⟩ := s
  have hst : H.StaysIn h0 := fun a o e => hg _ _ (hH _ _ e)
  walk_at "enter"
  case hH => exact hst
  case hr => exact R.d
  intro L h₁ tk hL hns hk
  obtain ⟨m, hm, m1, m2, ⟨tlo, m3⟩, m4, m5⟩ : ∃ m, h₁.Ns L m ∧ m "a" = some (.ref D) ∧ m "x" = some (.ref ax) ∧ (∃ t, m "lo" = some (.int (0 : Nat) t)) ∧ m "hi" = some .none ∧ m "key" = some .none := ⟨_, hns, rfl, rfl, ⟨_, rfl⟩, rfl, rfl⟩
  have F := enter1 hg hH ho hD hL hm hk
  clear hns hm hk
  have Rd : ∀ env, Room (A.deeper env) 1 13 := fun env => R.deeper env
  have hsize := hx.size
  walk_at "go"
  refine bisect_right W ((Rd _).le (by decide) (by decide)) (by exact F.keep) hH (by exact F.ours D o (up_self _ _ _)) hl hx x1 x2 x3 hsz fun h2 tk2 t2 R2 => ?_
  have F2 := F.back R2
  walk_at "go"
  rename Fx _ _ _ _ _ _ _ => F3
  refine l_method (by exact F3.ours D o (up_self _ _ _)) hl PySem.F.slot_list_insert PySem.F.type_list_insert ?_
  walk_at "go"
  have hk := (bisr_le x xs _ 0 xs.length rfl (Nat.zero_le _)).2
  refine r_insert F3 hl (by lia) (by lia) fun h4 tk4 o4 hl4 F4 => ?_
  walk_at "go"
  exact ret _ _ _ _ F4.end1 (F4.ours D _ (up_self _ _ _)) hl4 (hx.insert _ ⟨ax, ox, tx, rfl, x1, x2, x3⟩)

theorem heappop {xs : List Mk} (W : Wd w H mg mb) (R : Room A 3 16) (hg : Sub g s.heap) (hH : ∀ a o, H.get? a = some o → g a = some o)
    (ho : s.heap.get? D = some o) (hD : g D = none) (hl : IsL o its) (hx : Mks g its xs) (hne : 0 < xs.length) (hsz : xs.length ≤ 1000)
    (ret : ∀ v h' tk' o' its', Rt (fun b => b = D) g s.heap g h' → h'.get? D = some o' → IsL o' its' → Mks g its' (hpop xs).2 → IsMk g v (hpop xs).1 → Q v { s with heap := h', toks := tk' }) :
    wpAny (model prog w) A (call (.ref 48) [.ref D]) Q E s := by
  obtain ⟨h0, gn, dr, tk0, os⟩ := s
  have hst : H.StaysIn h0 := fun a o e => hg _ _ (hH _ _ e)
  walk_at "enter"
  case hH => exact hst
  case hr => exact R.d
  intro L h₁ tk hL hns hk
  obtain ⟨m, hm, m1⟩ : ∃ m, h₁.Ns L m ∧ m "heap" = some (.ref D) := ⟨_, hns, rfl⟩
  have F := enter1 hg hH ho hD hL hm hk
  clear hns hm hk
  have Rd : ∀ env, Room (A.deeper env) 2 13 := fun env => R.deeper env
  have hsize := hx.size
  obtain ⟨al, ol, tl, l1, l2, l3, l4⟩ := hx.get (i := xs.length - 1) (by lia)
  walk_at "go"
  refine l_method (by exact F.ours D o (up_self _ _ _)) hl PySem.F.slot_list_pop PySem.F.type_list_pop ?_
  walk_at "go"
  refine r_pop (v := .ref al) F hl (by rw [hsize]; exact l1) (by lia) fun h2 tk2 o2 hl2 F2 => ?_
  have hx2 : Mks g _ _ := hx.pop
  generalize its.eraseIdxIfInBounds (its.size - 1) = its2 at hl2 hx2
  have hs2 := hx2.1
  rw [List.length_dropLast] at hs2
  walk_at "goS"
  rename Fx _ _ _ _ _ _ _ => F3
  walk1
  walk1
  walk1
  refine r_truthy (by exact F3.ours D o2 (up_self _ _ _)) hl2 (by lia) fun tk3 => ?_
  by_cases h1 : xs.length = 1
  · have e : its2.isEmpty = true := by unfold Array.isEmpty; exact decide_eq_true (by lia)
    rw [e]
    walk_at "go"
    have e2 : hpop xs = (xs.getD 0 [], []) := by unfold hpop; rw [if_pos h1]
    have e3 : xs.dropLast = [] := by
      exact List.eq_nil_of_length_eq_zero (by rw [List.length_dropLast]; lia)
    rw [e3] at hx2
    refine ret _ _ _ _ _ F3.end1 (F3.ours D _ (up_self _ _ _)) hl2 (by rw [e2]; exact hx2) (by rw [e2]; exact ⟨al, ol, tl, rfl, l2, l3, by rw [h1] at l4; exact l4⟩)
  · have e : its2.isEmpty = false := by unfold Array.isEmpty; exact decide_eq_false (by lia)
    rw [e]
    walk_at "go"
    refine r_itemM (n := 0) (by exact F3.ours D o2 (up_self _ _ _)) hl2 hx2 (by lia) (by rw [List.length_dropLast]; lia) fun ar or' tr r2 r3 r4 => ?_
    walk_at "go"
    rename Fx _ _ _ _ _ _ _ => F4
    refine r_set (n := 0) F4 hl2 (by lia) (by lia) fun h5 o5 hl5 F5 => ?_
    have hx5 := hx2.set 0 (x := xs.getD (xs.length - 1) []) (v := .ref al) ⟨al, ol, tl, rfl, l2, l3, l4⟩
    walk_at "go"
    rename Fx _ _ _ _ _ _ _ => F6
    refine siftup (pos := 0) W ((Rd _).le (by decide) (by decide)) (by exact F6.keep) hH (by exact F6.ours D _ (up_self _ _ _)) hD hl5 hx5 (by rw [List.length_set, List.length_dropLast]; lia) (by rw [List.length_set, List.length_dropLast]; lia) fun h7 tk7 o7 its7 R7 ho7 hl7 hx7 => ?_
    have F7 := F6.back1 (up_self _ _ _) R7 ho7
    walk_at "go"
    have e2 : hpop xs = (xs.getD 0 [], sup llt (xs.dropLast.set 0 (xs.getD (xs.length - 1) [])) 0) := by unfold hpop; rw [if_neg h1]
    have e3 : xs.dropLast.getD 0 [] = xs.getD 0 [] := by
      simp only [List.getD, List.getElem?_dropLast]
      rw [if_pos (by lia)]
    refine ret _ _ _ _ _ F7.end1 (F7.ours D _ (up_self _ _ _)) hl7 (by rw [e2]; exact hx7) (by rw [e2]; exact ⟨ar, or', tr, rfl, r2, r3, by rw [e3] at r4; exact r4⟩)


end
section
open PySem PySem.W PySem.Calls PyProof.Rows
set_option Elab.async false
set_option maxRecDepth 100000
set_option linter.unusedVariables false


/-! dicts from ints to ones; entries -/
structure En where
  cc : Int
  nc : Int
  tt : Int
  ct : Int
  ks : List Int
def IsOnes (kvs : List (Int × Value)) : Prop := ∀ p ∈ kvs, ∃ t, p.2 = Value.int 1 t
def IsCal (prog : Program) (w : World) (g : G) (d : Addr) (ks : List Int) : Prop :=
  Ex2 fun o kvs => And5 (g d = some o) (o.IsDictOf (intKind prog w) kvs) (kvs.map (·.1) = ks) (IsOnes kvs) ((d == sysModules) = false)
def IsEn (prog : Program) (w : World) (g : G) (v : Value) (e : En) : Prop :=
  Ex7 fun a o d t0 t1 t2 t3 => And4 (v = Value.ref a) (g a = some o) (IsT o #[.int e.cc t0, .int e.nc t1, .int e.tt t2, .int e.ct t3, .ref d]) (IsCal prog w g d e.ks)
theorem IsCal.mono {prog : Program} {w : World} {g g' : G} (hm : ∀ a o, g a = some o → g' a = some o) {d : Addr} {ks : List Int} (h : IsCal prog w g d ks) : IsCal prog w g' d ks :=
  let ⟨o, kvs, h1, r2, r3, r4, r5⟩ := h; ⟨o, kvs, hm _ _ h1, r2, r3, r4, r5⟩
theorem IsEn.mono {prog : Program} {w : World} {g g' : G} (hm : ∀ a o, g a = some o → g' a = some o) {v : Value} {e : En} (h : IsEn prog w g v e) : IsEn prog w g' v e :=
  let ⟨a, o, d, t0, t1, t2, t3, h1, h2, h3, h4⟩ := h; ⟨a, o, d, t0, t1, t2, t3, h1, hm _ _ h2, h3, h4.mono hm⟩
theorem IsCal.nodup {prog : Program} {w : World} {g : G} {d : Addr} {ks : List Int} (h : IsCal prog w g d ks) : ks.Nodup := by
  obtain ⟨o, kvs, _, ⟨es, ep, _, _, _, _, hn⟩, rfl, _, _⟩ := h
  exact hn

section
variable {prog : Program} {w : World} {A : Around} {E : Value → Shared → Prop} {s : Shared} {d : Addr} {o : Obj} {kvs : List (Int × Value)}
theorem d_of (ho : s.heap.get? d = some o) (hd : o.IsDictOf (intKind prog w) kvs) : s.heap.DictOf (intKind prog w) d kvs := Heap.dictOf_iff.mpr ⟨o, ho, hd⟩
theorem d_method {name : Str} {id : String} {pl : Sem Bool} {Q : Value × List Value → Shared → Prop} (ho : s.heap.get? d = some o) (hd : o.IsDictOf (intKind prog w) kvs) (slot : Slot "dict" name id) (hty : typeOf (.builtin id) = pure (.type "method_descriptor"))
    (h : Q (.builtin id, [.ref d]) s) : wpAny (model prog w) A (getMethod (.ref d) name pl) Q E s :=
  getMethod_builtin (d_of ho hd).typeIs PySem.F.plainAttrs_dict slot hty (d_of ho hd).mapOf.noDict h
theorem d_in {k : Int} {t : Tok} {Q : Value → Shared → Prop} (ho : s.heap.get? d = some o) (hd : o.IsDictOf (intKind prog w) kvs) (lo : (d == sysModules) = false) (hk : k ∉ kvs.map (·.1))
    (h : ∀ tk, Q (.bool false) { s with toks := tk }) : wpAny (model prog w) A (compareOp .In (.int k t) (.ref d)) Q E s := by
  refine wpAny_in_of (knd := intKind prog w) (k := k) (by simp [intKind, Value.isInt]) lo (d_of ho hd).mapOf ?_
  have e : valueAt kvs k = none := by
    unfold valueAt
    rw [List.find?_eq_none.mpr]
    · rfl
    · intro x hx q
      simp at q
      exact hk (List.mem_map.mpr ⟨x, hx, q⟩)
  rw [e]
  exact h _
end

section
variable {prog : Program} {w : World} {A : Around}
theorem It.items (hh : A.handled = none) {I d : Addr} (hne : d ≠ I) {elts : List PySem.Expr} {k : Nat} {px : Pos} (kvs : List (Int × Value)) (ep : Nat) :
    It prog w A I [I] [d] kvs.length (.Tuple elts k px) (fun i v h => Ex4 fun (T : Addr) (n : Int) (t : Tok) (x : Value) => And3 (v = Value.ref T) (kvs[i]? = some (n, x)) (IsTup h T #[.int n t, x]))
      (fun i h => (∃ ok ov, IsItemIter h I d i kvs.length ep ok ov) ∧ h.DictAt (intKind prog w) d kvs ep) where
  frame := fun i h h' hst hk => by
    obtain ⟨⟨ok, ov, hi⟩, hd⟩ := hst
    exact ⟨⟨ok, ov, hk I _ (.inl (List.mem_singleton.mpr rfl)) hi⟩, hd.at fun o e => hk d o (.inr (List.mem_singleton.mpr rfl)) e⟩
  live := fun i h hst b hb => by
    obtain ⟨⟨ok, ov, hi⟩, hd⟩ := hst
    exact ⟨_, List.mem_singleton.mp hb ▸ hi⟩
  item := fun i s K hi hst hK => by
    obtain ⟨⟨ok, ov, hit⟩, hd⟩ := hst
    obtain ⟨⟨n, x⟩, hx⟩ : ∃ p, kvs[i]? = some p := ⟨kvs[i], by simp [hi]⟩
    refine wpAny_pyNext_items_item (knd := intKind prog w) hit hd hx fun key h' hkey hit' hT hsz hk => ?_
    obtain ⟨t, rfl⟩ := Value.isInt_shape hkey
    have hIlt : I < s.heap.objs.size := Heap.lt_size hit
    refine wpAny_letOwnedTupleGo_items hit' fun h'' hit'' hs'' => ?_
    refine hK _ h'' _ ⟨_, n, t, x, rfl, hx, ⟨_, (hs''.2 _ (Nat.ne_of_gt hIlt)).trans hT, rfl, _, rfl⟩⟩ ⟨⟨_, _, hit''⟩, ?_⟩ fun b o hb e => ?_
    · exact (hd.at fun o e => hk d o hne e).at fun o e => (hs''.2 d hne).trans e
    · have hb' : b ≠ I := fun q => hb (List.mem_singleton.mpr q)
      exact (hs''.2 b hb').trans (hk b o hb' e)
  done := fun s K hst hK => by
    obtain ⟨⟨ok, ov, hit⟩, hd⟩ := hst
    exact wpAny_pyNext_items_end (knd := intKind prog w) hh hit hd (by simp) fun h' he' => hK h' s.toks fun b o hb e => he' b o (fun q => hb (List.mem_singleton.mpr q)) e
theorem It.values (hh : A.handled = none) {I d : Addr} (hne : d ≠ I) {x : Str} {px : Pos} (kvs : List (Int × Value)) (ep : Nat) :
    It prog w A I [I] [d] kvs.length (.Name x px) (fun i v _ => ∃ k, kvs[i]? = some (k, v)) (fun i h => h.IsValIter I d i kvs.length ep ∧ h.DictAt (intKind prog w) d kvs ep) :=
  It.of (Walks.dictValues hh I d hne kvs ep) (fun b hb => by
    rcases List.mem_cons.mp hb with q | q
    · exact .inl q
    · exact .inr q) fun i h hst => let ⟨⟨o, ho, _⟩, _⟩ := hst; ⟨o, ho⟩
end

/-! with Fx -/
section
variable {w : World} {H : Heap} {mg mb : Str → Option Value} {prog : Program} {A : Around} {E : Value → Shared → Prop} {e : Ent} {g M : G} {L D d : Addr} {m : Str → Option Value} {h : Heap} {gn : Array GenState} {dr : Drawn} {tk : Nat} {os : OsState} {t : Tok} {env : Env} {o : Obj} {kvs : List (Int × Value)}

theorem notModules (W : Wd w H mg mb) (F : Fx H e g M L h m) {b : Addr} (hb : h.objs.size ≤ b) : (b == sysModules) = false := by
  have h1 : H.get? 2 = some { cls := Value.none, data := Data.dict #[] } := W.X 2 _ rfl
  have h2 := Heap.lt_size (F.Hsub 2 _ h1)
  have : b ≠ sysModules := fun q => by
    rw [q] at hb
    exact absurd (Nat.lt_of_lt_of_le h2 hb) (by decide)
  simpa using this

/-- {} -/
theorem r_dict {pos : Pos} {Q : Value → Shared → Prop} (W : Wd w H mg mb) (F : Fx H e g M L h m)
    (k : ∀ b o h' tk', Off e g M L b → (b == sysModules) = false → h.objs.size ≤ b → o.IsDictOf (intKind prog w) [] → h'.get? b = some o → Fx H e g (up M b o) L h' m → Q (.ref b) ⟨h', gn, dr, tk', os⟩) :
    wpAny (model prog w) A (eval (.Dict [] [] pos) env) Q E ⟨h, gn, dr, tk, os⟩ := by
  refine wpAny_Dict_empty (s := ⟨h, gn, dr, tk, os⟩) ?_
  have hh : (h.push { cls := .type "dict", data := .dict #[] }).get? h.objs.size = some { cls := .type "dict", data := .dict #[] } := Heap.get?_push_size _ rfl
  obtain ⟨o, ho, hd⟩ := Heap.dictOf_iff.mp (Heap.DictOf.new (knd := intKind prog w) h)
  rw [hh] at ho
  cases ho
  exact k _ _ _ _ (F.offNew (Nat.le_refl _)) (notModules W F (Nat.le_refl _)) (Nat.le_refl _) hd hh (F.newM (fun b o q => Heap.get?_push_of_some _ q) (Nat.le_refl _) hh)
/-- d[k] = v, a new key -/
theorem r_dictset {k : Int} {v : Value} {Q : Unit → Shared → Prop} (F : Fx H e g (up M D o) L h m) (hd : o.IsDictOf (intKind prog w) kvs) (hk : k ∉ kvs.map (·.1)) (hz : kvs.length ≤ 100000)
    (kk : ∀ o' h' tk', o'.IsDictOf (intKind prog w) (kvs ++ [(k, v)]) → Fx H e g (up M D o') L h' m → Q () ⟨h', gn, dr, tk', os⟩) :
    wpAny (model prog w) A (setItem (.ref D) (.int k t) v) Q E ⟨h, gn, dr, tk, os⟩ := by
  have ho := F.ours D o (up_self _ _ _)
  refine wpAny_setItem_pairs (knd := intKind prog w) (k := k) (s := ⟨h, gn, dr, tk, os⟩) (by simp [intKind, Value.isInt]) (d_of (s := ⟨h, gn, dr, tk, os⟩) ho hd) (fun h' hm hs => ?_) (by rw [sizeLine_eq]; lia)
  obtain ⟨o', ho', hd'⟩ := Heap.dictOf_iff.mp hm
  have F' := F.upd (up_self _ _ _) hs ho'
  rw [up_up] at F'
  have es : stored kvs k v = kvs ++ [(k, v)] := by
    unfold stored
    rw [if_neg]
    intro q
    obtain ⟨x, hx, hxk⟩ := List.any_eq_true.mp q
    exact hk (List.mem_map.mpr ⟨x, hx, by simpa using hxk⟩)
  rw [es] at hd'
  exact kk o' h' _ hd' F'
/-- d.items() -/
theorem r_items {Q : Value → Shared → Prop} (F : Fx H e g M L h m) (ho : h.get? d = some o) (hd : o.IsDictOf (intKind prog w) kvs) (lo : (d == sysModules) = false)
    (k : ∀ V h' tk', h'.get? d = some o → h'.IsItemsView V d → Fx H e g M L h' m → Q (.ref V) ⟨h', gn, dr, tk', os⟩) : wpAny (model prog w) A (call (.builtin "dict.items") [.ref d]) Q E ⟨h, gn, dr, tk, os⟩ := by
  have hm := d_of (s := ⟨h, gn, dr, tk, os⟩) ho hd
  exact call_meetsIn PySem.F.slot_dict_items hm.typeIs PySem.F.entry_dict_items (PySem.F.args_dict_items_1 _) (meets_dict_items (intKind prog w) d lo) ⟨⟨kvs, hm⟩, k _ _ _ (Heap.get?_push_of_some _ ho) ⟨_, Heap.get?_push_size _ rfl, rfl, rfl⟩ (F.push _)⟩
theorem r_iteritems {V : Addr} {Q : Value → Shared → Prop} (F : Fx H e g M L h m) (ho : h.get? d = some o) (hd : o.IsDictOf (intKind prog w) kvs) (hv : h.IsItemsView V d)
    (k : ∀ I h' tk' ep, Off e g M L I → d ≠ I → (∃ ok ov, IsItemIter h' I d 0 kvs.length ep ok ov) ∧ h'.DictAt (intKind prog w) d kvs ep → Fx H e g M L h' m → Q (.ref I) ⟨h', gn, dr, tk', os⟩) : wpAny (model prog w) A (pyIter (.ref V)) Q E ⟨h, gn, dr, tk, os⟩ := by
  obtain ⟨ep, hm⟩ := (d_of (s := ⟨h, gn, dr, tk, os⟩) ho hd).dictAt
  refine wpAny_pyIter_items (knd := intKind prog w) (s := ⟨h, gn, dr, tk, os⟩) hv hm ?_
  exact k _ _ _ ep (F.offNew (Nat.le_refl _)) (Nat.ne_of_lt (Heap.lt_size ho)) ⟨⟨_, _, Heap.get?_push_size _ rfl⟩, hm.push _⟩ (F.push _)
/-- d.values() -/
theorem r_values {Q : Value → Shared → Prop} (F : Fx H e g M L h m) (ho : h.get? d = some o) (hd : o.IsDictOf (intKind prog w) kvs) (lo : (d == sysModules) = false)
    (k : ∀ V h' tk', h'.get? d = some o → h'.IsValuesView V d → Fx H e g M L h' m → Q (.ref V) ⟨h', gn, dr, tk', os⟩) : wpAny (model prog w) A (call (.builtin "dict.values") [.ref d]) Q E ⟨h, gn, dr, tk, os⟩ := by
  have hm := d_of (s := ⟨h, gn, dr, tk, os⟩) ho hd
  exact call_meetsIn PySem.F.slot_dict_values hm.typeIs PySem.F.entry_dict_values (PySem.F.args_dict_values_1 _) (meets_dict_values (intKind prog w) d lo) ⟨⟨kvs, hm⟩, k _ _ _ (Heap.get?_push_of_some _ ho) ⟨_, Heap.get?_push_size _ rfl, rfl, rfl⟩ (F.push _)⟩
theorem r_itervalues {V : Addr} {Q : Value → Shared → Prop} (F : Fx H e g M L h m) (ho : h.get? d = some o) (hd : o.IsDictOf (intKind prog w) kvs) (hv : h.IsValuesView V d)
    (k : ∀ I h' tk' ep, Off e g M L I → d ≠ I → h'.IsValIter I d 0 kvs.length ep ∧ h'.DictAt (intKind prog w) d kvs ep → Fx H e g M L h' m → Q (.ref I) ⟨h', gn, dr, tk', os⟩) : wpAny (model prog w) A (pyIter (.ref V)) Q E ⟨h, gn, dr, tk, os⟩ := by
  obtain ⟨ep, hm⟩ := (d_of (s := ⟨h, gn, dr, tk, os⟩) ho hd).dictAt
  refine wpAny_pyIter_values (knd := intKind prog w) (s := ⟨h, gn, dr, tk, os⟩) hv hm ?_
  exact k _ _ _ ep (F.offNew (Nat.le_refl _)) (Nat.ne_of_lt (Heap.lt_size ho)) ⟨⟨_, Heap.get?_push_size _ rfl, rfl, rfl⟩, hm.push _⟩ (F.push _)
/-- a, b, .. = a tuple -/
theorem r_unpack {elts : List PySem.Expr} {x1 : Nat} {pos : Pos} {T : Addr} {items : Array Value} {Q : Unit → Shared → Prop} (hh : A.handled = none) (F : Fx H e g M L h m) (ht : IsTup h T items)
    (hn : (assignEach elts env).length = items.size) (hstar : (assignEach elts env).findIdx? (·.1) = none)
    (k : ∀ h', Fx H e g M L h' m → (∀ b o, h.get? b = some o → h'.get? b = some o) → wpAny (model prog w) A (assignInOrder ((assignEach elts env).map (·.2)) items.toList) Q E ⟨h', gn, dr, tk, os⟩) :
    wpAny (model prog w) A (assign (.Tuple elts x1 pos) env (.ref T)) Q E ⟨h, gn, dr, tk, os⟩ :=
  assign_Tuple_tuple (s := ⟨h, gn, dr, tk, os⟩) hh ht hn hstar fun h' he =>
    have hk : ∀ b o, h.get? b = some o → h'.get? b = some o := fun b o q => he b o (Nat.ne_of_lt (Heap.lt_size q)) q
    k h' (F.grow hk) hk
/-- (a, b, ..) -/
theorem r_tuple {vs : List Value} {Q : Value → Shared → Prop} (F : Fx H e g M L h m) (hz : vs.length ≤ 1000)
    (k : ∀ b o h', Off e g M L b → h.objs.size ≤ b → IsT o vs.toArray → Fx H e (up g b o) M L h' m → (∀ a ob, g a = some ob → up g b o a = some ob) → (∀ b o, h.get? b = some o → h'.get? b = some o) → Q (.ref b) ⟨h', gn, dr, tk, os⟩) :
    wpAny (model prog w) A (newTuple vs) Q E ⟨h, gn, dr, tk, os⟩ := by
  refine wpAny_newObj_type ?_ (by show vs.toArray.size ≤ sizeLine; rw [List.size_toArray, sizeLine_eq]; lia)
  have hk : ∀ b o, h.get? b = some o → (h.push { cls := .type "tuple", data := .seq vs.toArray }).get? b = some o := fun b o q => Heap.get?_push_of_some _ q
  obtain ⟨F', hm⟩ := F.newG hk (Nat.le_refl _) (Heap.get?_push_size h (o := { cls := .type "tuple", data := .seq vs.toArray }) rfl)
  exact k _ _ _ (F.offNew (Nat.le_refl _)) (Nat.le_refl _) ⟨rfl, _, rfl⟩ F' hm hk
/-- [a, b, ..], to be turned -/
theorem r_list {vs : List Value} {Q : Value → Shared → Prop} (F : Fx H e g M L h m) (hz : vs.length ≤ 1000)
    (k : ∀ b o h', Off e g M L b → h.objs.size ≤ b → IsL o vs.toArray → Fx H e g (up M b o) L h' m → Q (.ref b) ⟨h', gn, dr, tk, os⟩) :
    wpAny (model prog w) A (newList vs) Q E ⟨h, gn, dr, tk, os⟩ := by
  refine wpAny_newObj_type ?_ (by show vs.toArray.size ≤ sizeLine; rw [List.size_toArray, sizeLine_eq]; lia)
  have hk : ∀ b o, h.get? b = some o → (h.push (listOf vs.toArray 0)).get? b = some o := fun b o q => Heap.get?_push_of_some _ q
  exact k _ _ _ (F.offNew (Nat.le_refl _)) (Nat.le_refl _) ⟨0, rfl⟩ (F.newM hk (Nat.le_refl _) (Heap.get?_push_size h (o := listOf vs.toArray 0) rfl))
end


end
section
open PySem PySem.W PySem.Calls PyProof.Rows
set_option Elab.async false
set_option maxRecDepth 100000
set_option maxHeartbeats 4000000
set_option linter.unusedVariables false



variable {w : World} {H : Heap} {mg mb : Str → Option Value} {prog : Program} {A : Around} {E : Value → Shared → Prop} {s : Shared} {g : G} {D : Addr} {o : Obj} {its : Array Value} {Q : Value → Shared → Prop}

theorem add_callers {dt ds : Addr} {k1 k2 : List Int} (W : Wd w H mg mb) (R : Room A 1 12) (hg : Sub g s.heap) (hH : ∀ a o, H.get? a = some o → g a = some o)
    (c1 : IsCal prog w g dt k1) (c2 : IsCal prog w g ds k2) (disj : ∀ k ∈ k2, k ∉ k1) (hz : k1.length + k2.length ≤ 1000)
    (ret : ∀ d g' h' tk', Rt (fun _ => False) g s.heap g' h' → IsCal prog w g' d (k1 ++ k2) → Q (.ref d) { s with heap := h', toks := tk' }) :
    wpAny (model prog w) A (call (.ref 132) [.ref dt, .ref ds]) Q E s := by
  obtain ⟨h0, gn, dr, tk0, os⟩ := s
  have nd2 := c2.nodup
  have nd1 := c1.nodup
  obtain ⟨o1, v1, p1, p2, p3, p4, p5⟩ := c1
  obtain ⟨o2, v2, q1, q2, q3, q4, q5⟩ := c2
  have l1 : v1.length = k1.length := by rw [← p3, List.length_map]
  have l2 : v2.length = k2.length := by rw [← q3, List.length_map]
  have hst : H.StaysIn h0 := fun a o e => hg _ _ (hH _ _ e)
  walk_at "enter"
  case hH => exact hst
  case hr => exact R.d
  intro L h₁ tk hL hns hk
  obtain ⟨m, hm, m1, m2⟩ : ∃ m, h₁.Ns L m ∧ m "target" = some (.ref dt) ∧ m "source" = some (.ref ds) := ⟨_, hns, rfl, rfl⟩
  have F := enter0 hg hH hL hm hk
  clear hns hm hk
  have Rd : ∀ env, Room (A.deeper env) 0 9 := fun env => R.deeper env
  walk_at "go"
  refine r_dict W F fun D oD h2 tk2 offD loD hszD dD hD F1 => ?_
  walk_at "go"
  rename Fx _ _ _ _ _ _ _ => F2
  refine d_method (by exact F2.keep _ _ p1) p2 PySem.F.slot_dict_items PySem.F.type_dict_items ?_
  walk_at "go"
  refine r_items F2 (F2.keep _ _ p1) p2 p5 fun V h3 tk3 ho3 hv3 F3 => ?_
  refine r_iteritems F3 ho3 p2 hv3 fun I h4 tk4 ep offI hne hit F4 => ?_
  refine for_it (It.items (by exact R.handled) hne v1 ep)
    (fun i g' M m => And4 (g' = g) (m "new_callers" = some (.ref D)) (m "source" = some (.ref ds)) (Ex2 fun o kvs => And4 (M = up none' D o) (o.IsDictOf (intKind prog w) kvs) (kvs.map (·.1) = k1.take i) (IsOnes kvs)))
    (fun _ _ _ => False) (fun _ _ _ _ => False) F4 hit ⟨rfl, by walk_at "lk", by walk_at "lk", oD, [], rfl, dD, by simp, fun _ h => nomatch h⟩ (fun b hb => by cases List.mem_singleton.mp hb; exact ⟨offI.l, offI.z, offI.al, offI.g, offI.m⟩)
    (fun b hb => by cases List.mem_singleton.mp hb; exact ⟨o1, fun i g' M m hJ => .inl (by rw [hJ.1]; exact p1)⟩) ?_ ?_ (fun _ _ _ _ _ q => q.elim) (fun _ _ _ _ _ _ q => q.elim)
  · rintro i v e' g' M m h tk hi ⟨T, n, t, x, rfl, hx, hT⟩ ⟨rfl, m1, m2, o, kvs, rfl, hd, hks, h1s⟩ F5 hge hal
    have hki : k1[i]? = some n := by rw [← p3, List.getElem?_map, hx]; rfl
    refine r_unpack (by exact R.handled) F5 hT rfl rfl fun h6 F6 _ => ?_
    walk_at "go"
    rename Fx _ _ _ _ _ _ _ => F7
    have hnotin : n ∉ kvs.map (·.1) := by
      rw [hks]
      intro hq
      obtain ⟨j, hj⟩ := List.mem_iff_getElem?.mp hq
      rw [List.getElem?_take] at hj
      split at hj
      · rename_i hji
        exact absurd ((List.getElem?_inj (by have := List.getElem?_eq_some_iff.mp hj; exact this.1) nd1).mp (hj.trans hki.symm)) (Nat.ne_of_lt hji)
      · cases hj
    have hkl : kvs.length ≤ k1.length := by rw [← List.length_map (f := (·.1)), hks, List.length_take]; lia
    refine r_dictset F7 hd hnotin (by lia) fun o8 h8 tk8 hd8 F8 => ?_
    walk_at "go"
    obtain ⟨tx, rfl⟩ := p4 _ (List.mem_of_getElem? hx)
    refine ⟨_, _, _, _, _, rfl, F8, rfl, by walk_at "lk", by walk_at "lk", o8, _, rfl, hd8, ?_, ?_⟩
    · rw [List.map_append, hks, List.take_add_one, hki]; rfl
    · intro p hp
      rcases List.mem_append.mp hp with hp | hp
      · exact h1s p hp
      · cases List.mem_singleton.mp hp; exact ⟨tx, rfl⟩
  · rintro g' M m h tk ⟨rfl, m1, m2, o, kvs, rfl, hd, hks, h1s⟩ F5
    rw [l1, List.take_length] at hks
    dsimp only
    walk_at "go"
    refine d_method (by exact F5.keep _ _ q1) q2 PySem.F.slot_dict_items PySem.F.type_dict_items ?_
    walk_at "go"
    refine r_items F5 (F5.keep _ _ q1) q2 q5 fun V h3 tk3 ho3 hv3 F6 => ?_
    refine r_iteritems F6 ho3 q2 hv3 fun I h4 tk4 ep offI hne hit F7 => ?_
    refine for_it (It.items (by exact R.handled) hne v2 ep)
      (fun i g'' M m => And3 (g'' = g') (m "new_callers" = some (.ref D)) (Ex2 fun o kvs => And4 (M = up none' D o) (o.IsDictOf (intKind prog w) kvs) (kvs.map (·.1) = k1 ++ k2.take i) (IsOnes kvs)))
      (fun _ _ _ => False) (fun _ _ _ _ => False) F7 hit ⟨rfl, by walk_at "lk", o, kvs, rfl, hd, by simpa using hks, h1s⟩ (fun b hb => by cases List.mem_singleton.mp hb; exact ⟨offI.l, offI.z, offI.al, offI.g, offI.m⟩)
      (fun b hb => by cases List.mem_singleton.mp hb; exact ⟨o2, fun i g' M m hJ => .inl (by rw [hJ.1]; exact q1)⟩) ?_ ?_ (fun _ _ _ _ _ q => q.elim) (fun _ _ _ _ _ _ q => q.elim)
    · rintro i v e' g'' M m h tk hi ⟨T, n, t, x, rfl, hx, hT⟩ ⟨rfl, m1, o, kvs, rfl, hd, hks, h1s⟩ F8 hge hal
      have hki : k2[i]? = some n := by rw [← q3, List.getElem?_map, hx]; rfl
      refine r_unpack (by exact R.handled) F8 hT rfl rfl fun h6 F9 _ => ?_
      walk_at "go"
      rename Fx _ _ _ _ _ _ _ => F10
      have hnotin : n ∉ kvs.map (·.1) := by
        rw [hks]
        intro hq
        rcases List.mem_append.mp hq with hq | hq
        · exact disj n (List.mem_of_getElem? hki) hq
        obtain ⟨j, hj⟩ := List.mem_iff_getElem?.mp hq
        rw [List.getElem?_take] at hj
        split at hj
        · rename_i hji
          exact absurd ((List.getElem?_inj (by have := List.getElem?_eq_some_iff.mp hj; exact this.1) nd2).mp (hj.trans hki.symm)) (Nat.ne_of_lt hji)
        · cases hj
      have hkl : kvs.length ≤ k1.length + k2.length := by rw [← List.length_map (f := (·.1)), hks, List.length_append, List.length_take]; lia
      refine d_in (by exact F10.ours D _ (up_self _ _ _)) hd loD hnotin fun tk11 => ?_
      dsimp only
      walk_at "go"
      refine r_dictset F10 hd hnotin (by lia) fun o8 h8 tk8 hd8 F11 => ?_
      walk_at "go"
      obtain ⟨tx, rfl⟩ := q4 _ (List.mem_of_getElem? hx)
      refine ⟨_, _, _, _, _, rfl, F11, rfl, by walk_at "lk", o8, _, rfl, hd8, ?_, ?_⟩
      · rw [List.map_append, hks, List.take_add_one, hki, List.append_assoc]; rfl
      · intro p hp
        rcases List.mem_append.mp hp with hp | hp
        · exact h1s p hp
        · cases List.mem_singleton.mp hp; exact ⟨tx, rfl⟩
    · rintro g'' M m h tk ⟨rfl, m1, o, kvs, rfl, hd, hks, h1s⟩ F8
      rw [l2, List.take_length] at hks
      dsimp only
      walk_at "go"
      have F9 := F8.freeze (up_self _ _ _) offD.al
      exact ret D _ _ _ F9.end0 ⟨o, kvs, up_self _ _ _, hd, hks, h1s, loD⟩

theorem count_calls {d : Addr} {ks : List Int} (W : Wd w H mg mb) (R : Room A 1 12) (hg : Sub g s.heap) (hH : ∀ a o, H.get? a = some o → g a = some o)
    (c1 : IsCal prog w g d ks) (ret : ∀ t h' tk', Rt (fun _ => False) g s.heap g h' → Q (.int (ks.length : Nat) t) { s with heap := h', toks := tk' }) :
    wpAny (model prog w) A (call (.ref 139) [.ref d]) Q E s := by
  obtain ⟨h0, gn, dr, tk0, os⟩ := s
  obtain ⟨o1, v1, p1, p2, p3, p4, p5⟩ := c1
  have l1 : v1.length = ks.length := by rw [← p3, List.length_map]
  walk_at "enter"
  case hH => exact fun a o e => hg _ _ (hH _ _ e)
  case hr => exact R.d
  intro L h₁ tk hL hns hk
  obtain ⟨m, hm, m1⟩ : ∃ m, h₁.Ns L m ∧ m "callers" = some (.ref d) := ⟨_, hns, rfl⟩
  have F := enter0 hg hH hL hm hk
  clear hns hm hk
  walk_at "go"
  rename Fx _ _ _ _ _ _ _ => F2
  refine d_method (by exact F2.keep _ _ p1) p2 PySem.F.slot_dict_values PySem.F.type_dict_values ?_
  walk_at "go"
  refine r_values F2 (F2.keep _ _ p1) p2 p5 fun V h3 tk3 ho3 hv3 F3 => ?_
  refine r_itervalues F3 ho3 p2 hv3 fun I h4 tk4 ep offI hne hit F4 => ?_
  refine for_it (It.values (by exact R.handled) hne v1 ep)
    (fun i g' M m => And3 (g' = g) (M = none') (∃ t, m "nc" = some (.int (i : Nat) t)))
    (fun _ _ _ => False) (fun _ _ _ _ => False) F4 hit ⟨rfl, rfl, _, lk_eq⟩ (fun b hb => by cases List.mem_singleton.mp hb; exact ⟨offI.l, offI.z, offI.al, offI.g, offI.m⟩)
    (fun b hb => by cases List.mem_singleton.mp hb; exact ⟨o1, fun i g' M m hJ => .inl (by rw [hJ.1]; exact p1)⟩) ?_ ?_ (fun _ _ _ _ _ q => q.elim) (fun _ _ _ _ _ _ q => q.elim)
  · rintro i v e' g' M m h tk hi ⟨k, hx⟩ ⟨rfl, rfl, t, m1⟩ F5 hge hal
    obtain ⟨tx, rfl⟩ := p4 _ (List.mem_of_getElem? hx)
    refine wpAny_assign_Name ?_
    walk_at "go"
    rename Fx _ _ _ _ _ _ _ => F6
    have e : (i : Int) + 1 = ((i + 1 : Nat) : Int) := by lia
    rw [e] at F6
    exact ⟨_, _, _, _, _, rfl, F6, rfl, rfl, _, by walk_at "lk"⟩
  · rintro g' M m h tk ⟨rfl, rfl, t, m1⟩ F5
    dsimp only
    walk_at "go"
    rw [l1]
    exact ret _ _ _ F5.end0

theorem add_func_stats {v1 v2 : Value} {e1 e2 : En} (W : Wd w H mg mb) (R : Room A 2 16) (hg : Sub g s.heap) (hH : ∀ a o, H.get? a = some o → g a = some o)
    (c1 : IsEn prog w g v1 e1) (c2 : IsEn prog w g v2 e2) (disj : ∀ k ∈ e2.ks, k ∉ e1.ks) (hz : e1.ks.length + e2.ks.length ≤ 1000)
    (ret : ∀ v g' h' tk', Rt (fun _ => False) g s.heap g' h' → IsEn prog w g' v ⟨e2.cc + e1.cc, e2.nc + e1.nc, e2.tt + e1.tt, e2.ct + e1.ct, e1.ks ++ e2.ks⟩ → Q v { s with heap := h', toks := tk' }) :
    wpAny (model prog w) A (call (.ref 125) [v1, v2]) Q E s := by
  obtain ⟨h0, gn, dr, tk0, os⟩ := s
  obtain ⟨a1, o1, d1, t0, t1, t2, t3, rfl, p2, p3, p4⟩ := c1
  obtain ⟨a2, o2, d2, u0, u1, u2, u3, rfl, q2, q3, q4⟩ := c2
  walk_at "enter"
  case hH => exact fun a o e => hg _ _ (hH _ _ e)
  case hr => exact R.d
  intro L h₁ tk hL hns hk
  obtain ⟨m, hm, m1, m2⟩ : ∃ m, h₁.Ns L m ∧ m "target" = some (.ref a1) ∧ m "source" = some (.ref a2) := ⟨_, hns, rfl, rfl⟩
  have F := enter0 hg hH hL hm hk
  clear hns hm hk
  have Rd : ∀ env, Room (A.deeper env) 1 13 := fun env => R.deeper env
  walk_at "go"
  refine r_unpack (by exact R.handled) F (q3.isTup (F.keep _ _ q2)) rfl rfl fun h2 F2 _ => ?_
  walk_at "go"
  rename Fx _ _ _ _ _ _ _ => F3
  refine r_unpack (by exact R.handled) F3 (p3.isTup (F3.keep _ _ p2)) rfl rfl fun h4 F4 _ => ?_
  walk_at "go"
  rename Fx _ _ _ _ _ _ _ => F5
  refine add_callers W ((Rd _).le (by decide) (by decide)) (by exact F5.keep) (by exact F5.top) p4 q4 disj hz fun d g6 h6 tk6 R6 c6 => ?_
  have F6 := F5.back R6
  walk_at "go"
  refine r_tuple F6 (by simp) fun b o h7 off7 hsz7 t7 F7 hm7 hk7 => ?_
  walk_at "go"
  exact ret _ _ _ _ F7.end0 ⟨b, o, d, _, _, _, _, rfl, up_self _ _ _, t7, c6.mono hm7⟩


end
section
open PySem PySem.W PySem.Calls PyProof.Rows
set_option Elab.async false
set_option maxRecDepth 100000
set_option maxHeartbeats 4000000
set_option linter.unusedVariables false



variable {w : World} {H : Heap} {mg mb : Str → Option Value} {prog : Program} {A : Around} {E : Value → Shared → Prop} {s : Shared} {g : G} {D : Addr} {o : Obj} {its : Array Value} {Q : Value → Shared → Prop}

section
variable {e : Ent} {g M : G} {L l : Addr} {m : Str → Option Value} {h : Heap} {gn : Array GenState} {dr : Drawn} {tk : Nat} {os : OsState} {t : Tok} {i : Int}
theorem r_neg (k : ∀ t tk', Q (.int (-i) t) ⟨h, gn, dr, tk', os⟩) : wpAny (model prog w) A (unaryOp .USub (.int i t)) Q E ⟨h, gn, dr, tk, os⟩ := PyProof.Rows.neg_int (k _ _)
/-- an iterator over a list -/
theorem r_iterlist (F : Fx H e g M L h m) (ho : h.get? l = some o) (hl : IsL o its)
    (k : ∀ I h' tk', Off e g M L I → l ≠ I → h'.IsListIter I l 0 ∧ h'.IsList l its → Fx H e g M L h' m → Q (.ref I) ⟨h', gn, dr, tk', os⟩) : wpAny (model prog w) A (pyIter (.ref l)) Q E ⟨h, gn, dr, tk, os⟩ := by
  refine wpAny_pyIter_list (s := ⟨h, gn, dr, tk, os⟩) (hl.isList ho) ?_
  exact k _ _ _ (F.offNew (Nat.le_refl _)) (Nat.ne_of_lt (Heap.lt_size ho)) ⟨⟨_, Heap.get?_push_size _ rfl, rfl, rfl⟩, hl.isList (Heap.get?_push_of_some _ ho)⟩ (F.push _)
/-- enumerate(a list) -/
theorem r_enum (F : Fx H e g M L h m) (ho : h.get? l = some o) (hl : IsL o its)
    (k : ∀ I it h' tk', Off e g M L I → Off e g M L it → I ≠ it → l ≠ I → l ≠ it → IsEnum h' I it 0 .none → h'.IsListIter it l 0 → h'.IsList l its → Fx H e g M L h' m → Q (.ref I) ⟨h', gn, dr, tk', os⟩) :
    wpAny (model prog w) A (call (.type "enumerate") [.ref l]) Q E ⟨h, gn, dr, tk, os⟩ := by
  refine call_enumerate_list (s := ⟨h, gn, dr, tk, os⟩) (hl.isList ho) fun h' h1 h2 hz hk => ?_
  have hlt : l < h.objs.size := Heap.lt_size ho
  exact k _ _ _ _ (F.offNew (Nat.le_succ _)) (F.offNew (Nat.le_refl _)) (Nat.ne_of_gt (Nat.lt_succ_self _)) (Nat.ne_of_lt (Nat.lt_succ_of_lt hlt)) (Nat.ne_of_lt hlt) h1 h2 (hl.isList (hk _ _ ho)) (F.grow hk)
end

/-- the column of an entry -/
def En.col (e : En) : Nat → Int
  | 0 => e.cc
  | 1 => e.nc
  | 2 => e.tt
  | _ => e.ct
abbrev Pk := List (Nat × Int)
def IsPair (g : G) (v : Value) (q : Nat × Int) : Prop := Ex4 fun a o t u => And3 (v = Value.ref a) (g a = some o) (IsT o #[.int (q.1 : Nat) t, .int q.2 u])
def IsPk (g : G) (p : Addr) (ps : Pk) : Prop := Ex2 fun o its => And3 (g p = some o) (IsL o its) (Al (IsPair g) its ps)
theorem IsPair.mono {g g' : G} (hm : ∀ a o, g a = some o → g' a = some o) {v : Value} {q : Nat × Int} (h : IsPair g v q) : IsPair g' v q :=
  let ⟨a, o, t, u, h1, h2, h3⟩ := h; ⟨a, o, t, u, h1, hm _ _ h2, h3⟩
theorem IsPk.mono {g g' : G} (hm : ∀ a o, g a = some o → g' a = some o) {p : Addr} {ps : Pk} (h : IsPk g p ps) : IsPk g' p ps :=
  let ⟨o, its, h1, h2, h3⟩ := h; ⟨o, its, hm _ _ h1, h2, h3.mono fun _ _ q => q.mono hm⟩
/-- a TupleComp over the list at p -/
def IsTC (g : G) (x p : Addr) : Prop := Ex3 fun dx es n => And4 (g x = some (instObj 114 dx)) (g dx = some (dictOf es n)) (getL "comp_select_list" es = some (some (.ref p))) (getL "compare" es = some none)
theorem IsTC.mono {g g' : G} (hm : ∀ a o, g a = some o → g' a = some o) {x p : Addr} (h : IsTC g x p) : IsTC g' x p :=
  let ⟨dx, es, n, h1, h2, h3, h4⟩ := h; ⟨dx, es, n, hm _ _ h1, hm _ _ h2, h3, h4⟩
def cmp : Pk → En → En → Int
  | [], _, _ => 0
  | (i, d) :: r, a, b => if a.col i < b.col i then -d else if b.col i < a.col i then d else cmp r a b
theorem en_col {a : En} {d : Addr} {t0 t1 t2 t3 : Tok} : ∀ {i : Nat}, i < 4 → ∃ t, (#[.int a.cc t0, .int a.nc t1, .int a.tt t2, .int a.ct t3, .ref d] : Array Value)[i]? = some (.int (a.col i) t)
  | 0, _ => ⟨t0, rfl⟩
  | 1, _ => ⟨t1, rfl⟩
  | 2, _ => ⟨t2, rfl⟩
  | 3, _ => ⟨t3, rfl⟩
  | n + 4, h => absurd h (by lia)

theorem new_tc {p : Addr} (W : Wd w H mg mb) (R : Room A 2 16) (hg : Sub g s.heap) (hH : ∀ a o, H.get? a = some o → g a = some o)
    (ret : ∀ x g' h' tk', Rt (fun _ => False) g s.heap g' h' → IsTC g' x p → Q (.ref x) { s with heap := h', toks := tk' }) :
    wpAny (model prog w) A (call (.ref 114) [.ref p]) Q E s := by
  obtain ⟨h0, gn, dr, tk0, os⟩ := s
  have hst : H.StaysIn h0 := fun a o e => hg _ _ (hH _ _ e)
  have X := W.X.keeps hst
  have hmk : makesIn (hd.heap_39 w.params) 114 = true := by k_is
  have hin : findIn (hd.heap_39 w.params) (.ref 114) "__init__" = some (some (.ref 104)) := by k_is
  have hfn : typeIn (hd.heap_39 w.params) (.ref 104) = some (.type "function") := by k_is
  refine wpAny_call (make_core (makes_of X hmk) (looks_findIn X hin) (fun self => bind_fn X self hfn) (.inl rfl) ?_)
  have kb : ∀ b o, h0.get? b = some o → ((h0.push emptyDict).push (instObj 114 h0.objs.size)).get? b = some o := fun b o q => Heap.get?_push_of_some _ (Heap.get?_push_of_some _ q)
  have hX : ((h0.push emptyDict).push (instObj 114 h0.objs.size)).get? (h0.objs.size + 1) = some (instObj 114 h0.objs.size) := by heap_get
  have hDX : ((h0.push emptyDict).push (instObj 114 h0.objs.size)).get? h0.objs.size = some emptyDict := Heap.get?_push_of_some _ (Heap.get?_push_size _ rfl)
  refine' fx_enter W ?hH ?hr ?ho ?hcd ?hbind ?hloc ?_ ?hcell ?hco ?hgen ?hk
  case hH => exact fun b o q => kb b o (hst b o q)
  case hr =>
    have e : (Around.under A (.builtin "type.__call__" ⟨[.ref 114, .ref p], []⟩)).depth = A.depth + 1 := by with_unfolding_all rfl
    rw [e]; have := R.depth; lia
  case ho => k_is
  case hcd => k_is
  case hbind => exact BindsTo.of_eq rfl
  case hloc => exact locs rfl
  case hcell => decide
  case hco => rfl
  case hgen => rfl
  case hk => rfl
  intro L h₁ tk hL hns hk
  obtain ⟨m, hm, m1, m2⟩ : ∃ m, h₁.Ns L m ∧ m "self" = some (.ref (h0.objs.size + 1)) ∧ m "comp_select_list" = some (.ref p) := ⟨_, hns, rfl, rfl⟩
  have F := enter0 (H := H) (g := g) (h := h0) hg hH (by
    have : h0.objs.size ≤ ((h0.push emptyDict).push (instObj 114 h0.objs.size)).objs.size := by rw [Heap.size_push, Heap.size_push]; lia
    exact Nat.le_trans this hL) hm (fun b o q => hk b o (kb b o q))
  clear hns
  walk_at "go"
  have I : InstAt h₁ (h0.objs.size + 1) (instObj 114 h0.objs.size) 114 (some (dictOf [] 0)) := ⟨hk _ _ hX, rfl, rfl, hk _ _ hDX⟩
  have X1 : (hd.heap_39 w.params).In h₁ := X.keeps fun b o q => hk b o (kb b o q)
  have Fr1 : Fr h0 L h₁ m := ⟨hm, fun b o q => hk b o (kb b o q), by
    have : h0.objs.size ≤ ((h0.push emptyDict).push (instObj 114 h0.objs.size)).objs.size := by rw [Heap.size_push, Heap.size_push]; lia
    exact Nat.le_trans this hL⟩
  have hs1 : ((h0.push emptyDict).push (instObj 114 h0.objs.size)).objs.size = h0.objs.size + 2 := by rw [Heap.size_push, Heap.size_push]
  have hL' : h0.objs.size + 2 ≤ L := by rw [← hs1]; exact hL
  have hge : ∀ a, h0.objs.size ≤ a → h0.get? a = none := fun a ha => none_of_ge (g := h0.get?) (fun _ _ q => q) ha
  have N1 : News h0 L h₁ ([(h0.objs.size + 1, instObj 114 h0.objs.size)] ++ (h0.objs.size, dictOf [] 0) :: []) := by
    intro q hq
    rcases List.mem_cons.mp hq with rfl | hq
    · exact ⟨hk _ _ hX, by show h0.objs.size + 1 ≠ L; lia, hge _ (by show _ ≤ h0.objs.size + 1; lia)⟩
    · cases List.mem_singleton.mp hq
      exact ⟨hk _ _ hDX, by show h0.objs.size ≠ L; lia, hge _ (Nat.le_refl _)⟩
  have hsa : findIn (hd.heap_39 w.params) (.ref 114) "__setattr__" = some (some (.builtin "object.__setattr__")) := by k_is
  have hpo : plainOver (hd.heap_39 w.params) 114 = true := by k_is
  have htk : takerIn (hd.heap_39 w.params) 114 "comp_select_list" = some none := by k_is
  have hhd : hasDictIn (hd.heap_39 w.params) 114 = true := by k_is
  refine set_plain (s := ⟨h₁, gn, dr, tk, os⟩) X1 I hsa (osa_dict (s := ⟨h₁, gn, dr, tk + 1, os⟩) Fr1 N1 X1 I rfl hpo htk hhd rfl (fun q hq => by cases List.mem_singleton.mp hq; show h0.objs.size + 1 ≠ h0.objs.size; lia) (fun q hq => nomatch hq) (putName_dict ..) rfl (by simp [putL]) fun h' F' N' => ?_)
  dsimp only
  walk_at "go"
  refine ⟨rfl, ?_⟩
  have n1 := N' _ (List.mem_cons_self ..)
  have n2 := N' _ (List.mem_cons_of_mem _ (List.mem_cons_self ..))
  have hgn : ∀ a, h0.objs.size ≤ a → g a = none := fun a ha => none_of_ge hg ha
  have hne1 : ∀ a (o : Obj), g a = some o → a ≠ h0.objs.size := fun a o q e => by rw [e, hgn _ (Nat.le_refl _)] at q; cases q
  have hne2 : ∀ a (o : Obj), g a = some o → a ≠ h0.objs.size + 1 := fun a o q e => by rw [e, hgn _ (Nat.le_succ _)] at q; cases q
  exact ret _ (up (up g h0.objs.size _) (h0.objs.size + 1) _) h' _ ⟨fun b o q _ => F'.keep b o q, fun b o q => by
      by_cases e1 : b = h0.objs.size + 1
      · subst e1; rw [up_self] at q; cases q; exact n1.1
      · rw [up_ne _ _ e1] at q
        by_cases e2 : b = h0.objs.size
        · subst e2; rw [up_self] at q; cases q; exact n2.1
        · rw [up_ne _ _ e2] at q; exact F'.keep b o (hg b o q),
    fun a o q => by
      have : a < h0.objs.size := Heap.lt_size q
      rw [up_ne _ _ (Nat.ne_of_lt (Nat.lt_succ_of_lt this)), up_ne _ _ (Nat.ne_of_lt this)],
    fun a o q => by rw [up_ne _ _ (hne2 a o q), up_ne _ _ (hne1 a o q)]; exact q⟩
    ⟨_, _, _, up_self _ _ _, (up_ne _ _ (Nat.ne_of_lt (Nat.lt_succ_self _))).trans (up_self _ _ _), by with_unfolding_all rfl, by with_unfolding_all rfl⟩

theorem compare {x p : Addr} {v1 v2 : Value} {e1 e2 : En} {ps : Pk} (W : Wd w H mg mb) (R : Room A 1 12) (hg : Sub g s.heap) (hH : ∀ a o, H.get? a = some o → g a = some o)
    (tc : IsTC g x p) (pk : IsPk g p ps) (c1 : IsEn prog w g v1 e1) (c2 : IsEn prog w g v2 e2) (h4 : ∀ q ∈ ps, q.1 < 4)
    (ret : ∀ t h' tk', Rt (fun _ => False) g s.heap g h' → Q (.int (cmp ps e1 e2) t) { s with heap := h', toks := tk' }) :
    wpAny (model prog w) A (call (.ref 111) [.ref x, v1, v2]) Q E s := by
  obtain ⟨h0, gn, dr, tk0, os⟩ := s
  obtain ⟨dx, es, n, x1, x2, x3, x4⟩ := tc
  obtain ⟨op, pits, y1, y2, y3⟩ := pk
  obtain ⟨a1, o1, d1, t0, t1, t2, t3, rfl, p2, p3, p4⟩ := c1
  obtain ⟨a2, o2, d2, u0, u1, u2, u3, rfl, q2, q3, q4⟩ := c2
  walk_at "enter"
  case hH => exact fun a o e => hg _ _ (hH _ _ e)
  case hr => exact R.d
  intro L h₁ tk hL hns hk
  obtain ⟨m, hm, m1, m2, m3⟩ : ∃ m, h₁.Ns L m ∧ m "self" = some (.ref x) ∧ m "left" = some (.ref a1) ∧ m "right" = some (.ref a2) := ⟨_, hns, rfl, rfl, rfl⟩
  have F := enter0 hg hH hL hm hk
  clear hns hm hk
  have Rd : ∀ env, Room (A.deeper env) 0 9 := fun env => R.deeper env
  walk_at "go"
  have X1 : (hd.heap_39 w.params).In h₁ := W.X.keeps F.Hsub
  have I : InstAt h₁ x (instObj 114 dx) 114 (some (dictOf es n)) := ⟨F.keep _ _ x1, rfl, rfl, F.keep _ _ x2⟩
  have hpg : plainGet (hd.heap_39 w.params) 114 "comp_select_list" = true := by k_is
  have hhd : hasDictIn (hd.heap_39 w.params) 114 = true := by k_is
  have hfa : findIn (hd.heap_39 w.params) (.ref 114) "comp_select_list" = some none := by k_is
  have hng : noGet (hd.heap_39 w.params) none = true := by k_is
  refine get_value (s := ⟨h₁, gn, dr, tk, os⟩) X1 I (plainGet_of hpg).1 (findObj_own hhd hfa hng ((lookIn_dict _ _ _).trans x3)) rfl ?_
  dsimp only
  walk_at "go"
  refine r_iterlist F (by exact F.keep _ _ y1) y2 fun Ia h2 tk2 offI hne hit F2 => ?_
  refine for_it (It.listT (by exact R.handled) hne pits (fun i v hv => by
      have hlt : i < ps.length := by
        rw [← y3.1]; exact (Array.getElem?_eq_some_iff.mp hv).1
      obtain ⟨v', h1, a, o, t, u, h2, _⟩ := y3.2 i _ (List.getElem?_eq_getElem hlt)
      rw [hv] at h1; cases h1; exact ⟨a, h2⟩))
    (fun i g' M m => And5 (g' = g) (M = none') (m "left" = some (.ref a1)) (m "right" = some (.ref a2)) (cmp (ps.drop i) e1 e2 = cmp ps e1 e2))
    (fun _ _ _ => False) (fun v g' M m => g' = g ∧ ∃ t, v = .int (cmp ps e1 e2) t) F2 hit ⟨rfl, rfl, m2, m3, rfl⟩ (fun b hb => by cases List.mem_singleton.mp hb; exact ⟨offI.l, offI.z, offI.al, offI.g, offI.m⟩)
    (fun b hb => by cases List.mem_singleton.mp hb; exact ⟨op, fun i g' M m hJ => .inl (by rw [hJ.1]; exact y1)⟩) ?_ ?_ (fun _ _ _ _ _ q => q.elim) ?_
  · rintro i v e' g' M m h tk hi hv ⟨rfl, rfl, m2, m3, hc⟩ F3 hge hal
    have hlt : i < ps.length := by rw [← y3.1]; exact hi
    obtain ⟨v', hv', T, oT, t, u, rfl, hoT, hT⟩ := y3.2 i _ (List.getElem?_eq_getElem hlt)
    rw [hv] at hv'
    cases hv'
    have hi4 : (ps[i]).1 < 4 := h4 _ (List.getElem_mem hlt)
    rw [List.drop_eq_getElem_cons hlt] at hc
    generalize ps[i] = q at hc hoT hT hi4
    obtain ⟨ix, d⟩ := q
    refine r_unpack (by exact R.handled) F3 (hT.isTup (F3.keep _ _ hoT)) rfl rfl fun h4 F4 _ => ?_
    obtain ⟨tA, hA⟩ := en_col (a := e1) (d := d1) (t0 := t0) (t1 := t1) (t2 := t2) (t3 := t3) hi4
    obtain ⟨tB, hB⟩ := en_col (a := e2) (d := d2) (t0 := u0) (t1 := u1) (t2 := u2) (t3 := u3) hi4
    dsimp only at hi4 hA hB
    walk_at "go"
    rename Fx _ _ _ _ _ _ _ => F5
    dsimp only at F5 ⊢
    refine t_item (by exact F5.keep _ _ p2) p3 (by exact Int.natCast_nonneg ix) (by lia) (by rw [Int.toNat_natCast]; exact hA) ?_
    walk_at "go"
    rename Fx _ _ _ _ _ _ _ => F6
    refine t_item (by exact F6.keep _ _ q2) q3 (by exact Int.natCast_nonneg ix) (by lia) (by rw [Int.toNat_natCast]; exact hB) ?_
    rw [cmp] at hc
    by_cases c1 : e1.col ix < e2.col ix
    · rw [if_pos c1] at hc
      walk_at "go"
      dsimp only
      rename Fx _ _ _ _ _ _ _ => F7
      exact ⟨_, _, _, _, _, rfl, F7, rfl, _, by rw [hc]⟩
    · rw [if_neg c1] at hc
      by_cases c2 : e2.col ix < e1.col ix
      · rw [if_pos c2] at hc
        walk_at "go"
        rename Fx _ _ _ _ _ _ _ => F7
        exact ⟨_, _, _, _, _, rfl, F7, rfl, _, by rw [hc]⟩
      · rw [if_neg c2] at hc
        walk_at "go"
        rename Fx _ _ _ _ _ _ _ => F7
        exact ⟨_, _, _, _, _, rfl, F7, rfl, rfl, by walk_at "lk", by walk_at "lk", hc⟩
  · rintro g' M m h tk ⟨rfl, rfl, m2, m3, hc⟩ F3
    dsimp only
    rw [List.drop_eq_nil_of_le (by rw [y3.1]; exact Nat.le_refl _)] at hc
    walk_at "go"
    have := ret
    rw [← hc] at this
    exact this _ _ _ F3.end0
  · rintro v g' M m h tk ⟨rfl, t, rfl⟩ F3
    dsimp only
    exact ret _ _ _ F3.end0


end
section
open PySem PySem.W PySem.Calls PyProof.Rows
set_option Elab.async false
set_option maxRecDepth 100000
set_option maxHeartbeats 4000000
set_option linter.unusedVariables false



variable {w : World} {H : Heap} {mg mb : Str → Option Value} {prog : Program} {A : Around} {E : Value → Shared → Prop} {s : Shared} {g : G} {D : Addr} {o : Obj} {its : Array Value} {Q : Value → Shared → Prop}

/-- a list of entries that stays -/
def IsEL (prog : Program) (w : World) (g : G) (l : Addr) (xs : List En) : Prop := Ex2 fun o its => And3 (g l = some o) (IsL o its) (Al (IsEn prog w g) its xs)
theorem IsEL.mono {prog : Program} {w : World} {g g' : G} (hm : ∀ a o, g a = some o → g' a = some o) {l : Addr} {xs : List En} (h : IsEL prog w g l xs) : IsEL prog w g' l xs :=
  let ⟨o, its, h1, h2, h3⟩ := h; ⟨o, its, hm _ _ h1, h2, h3.mono fun _ _ q => q.mono hm⟩
def addE (e1 e2 : En) : En := ⟨e2.cc + e1.cc, e2.nc + e1.nc, e2.tt + e1.tt, e2.ct + e1.ct, e1.ks ++ e2.ks⟩
def zeroE : En := ⟨0, 0, 0, 0, []⟩
def psum (steps : List En) (i : Nat) : En := (steps.take i).foldl addE zeroE
def sumsOf (steps : List En) : List En := (List.range (steps.length + 1)).map (psum steps)
def keysOf (steps : List En) : List Int := steps.flatMap (·.ks)
theorem psum_succ {steps : List En} {i : Nat} {x : En} (h : steps[i]? = some x) : psum steps (i + 1) = addE (psum steps i) x := by
  unfold psum; rw [List.take_add_one, h]; simp
theorem psum_ks (steps : List En) (i : Nat) : (psum steps i).ks = keysOf (steps.take i) := by
  induction i with
  | zero => rfl
  | succ i ih =>
    cases h : steps[i]? with
    | none =>
      have hl : steps.length ≤ i := List.getElem?_eq_none_iff.mp h
      have e1 : steps.take (i + 1) = steps.take i := by rw [List.take_of_length_le hl, List.take_of_length_le (by lia)]
      unfold psum at ih ⊢; rw [e1]; exact ih
    | some x =>
      rw [psum_succ h, List.take_add_one, h]
      simp only [addE, keysOf, Option.toList_some, List.flatMap_append, List.flatMap_cons, List.flatMap_nil, List.append_nil, ih]
theorem keys_sub {steps : List En} {i : Nat} {x : En} (h : steps[i]? = some x) : ∃ r, keysOf steps = keysOf (steps.take i) ++ (x.ks ++ r) := by
  refine ⟨keysOf (steps.drop (i + 1)), ?_⟩
  have hlt : i < steps.length := (List.getElem?_eq_some_iff.mp h).1
  have hx : steps[i] = x := (List.getElem?_eq_some_iff.mp h).2
  conv => lhs; rw [← List.take_append_drop i steps, List.drop_eq_getElem_cons hlt, hx]
  simp [keysOf]
theorem keys_disj {steps : List En} (nd : (keysOf steps).Nodup) {i : Nat} {x : En} (h : steps[i]? = some x) : ∀ k ∈ x.ks, k ∉ (psum steps i).ks := by
  obtain ⟨r, hr⟩ := keys_sub h
  rw [hr] at nd
  rw [psum_ks]
  intro k hk hk'
  exact (List.nodup_append.mp nd).2.2 k hk' k (List.mem_append_left _ hk) rfl
theorem keys_len {steps : List En} {i : Nat} {x : En} (h : steps[i]? = some x) : (psum steps i).ks.length + x.ks.length ≤ (keysOf steps).length := by
  obtain ⟨r, hr⟩ := keys_sub h
  rw [hr, psum_ks, List.length_append, List.length_append]; lia

theorem law_walk {l : Addr} {steps : List En} (W : Wd w H mg mb) (R : Room A 3 24) (hg : Sub g s.heap) (hH : ∀ a o, H.get? a = some o → g a = some o)
    (c1 : IsEL prog w g l steps) (nd : (keysOf steps).Nodup) (hz : (keysOf steps).length ≤ 1000) (hzl : steps.length ≤ 1000)
    (ret : ∀ r g' h' tk', Rt (fun _ => False) g s.heap g' h' → IsEL prog w g' r (sumsOf steps) → Q (.ref r) { s with heap := h', toks := tk' }) :
    wpAny (model prog w) A (call (.ref 146) [.ref l]) Q E s := by
  obtain ⟨h0, gn, dr, tk0, os⟩ := s
  obtain ⟨ol, lits, y1, y2, y3⟩ := c1
  walk_at "enter"
  case hH => exact fun a o e => hg _ _ (hH _ _ e)
  case hr => exact R.d
  intro L h₁ tk hL hns hk
  obtain ⟨m, hm, m1⟩ : ∃ m, h₁.Ns L m ∧ m "steps" = some (.ref l) := ⟨_, hns, rfl⟩
  have F := enter0 hg hH hL hm hk
  clear hns hm hk
  have Rd : ∀ env, Room (A.deeper env) 2 21 := fun env => R.deeper env
  walk_at "go"
  refine r_dict W F fun D oD h2 tk2 offD loD hszD dD hD F1 => ?_
  walk_at "go"
  have F2 := F1.freeze (up_self _ _ _) offD.al
  rw [up_dn, dn_of_none (show none' D = none from rfl)] at F2
  have cD : IsCal prog w (up g D oD) D [] := ⟨oD, [], up_self _ _ _, dD, rfl, fun _ h => (nomatch h), loD⟩
  refine r_tuple F2 (by simp) fun b ob h7 off7 hsz7 t7 F7 hm7 hk7 => ?_
  walk_at "go"
  refine r_list F7 (by simp) fun S oS h8 offS hszS tS F8 => ?_
  have zE : IsEn prog w (up (up g D oD) b ob) (.ref b) zeroE := ⟨b, ob, D, _, _, _, _, rfl, up_self _ _ _, t7, cD.mono hm7⟩
  walk_at "go"
  rename Fx _ _ _ _ _ _ _ => F9
  have hgm : ∀ a o, g a = some o → up (up g D oD) b ob a = some o := fun a o q => by
    have e1 : a ≠ D := fun x => by rw [x, offD.g] at q; cases q
    have q2 : up g D oD a = some o := by rw [up_ne _ _ e1]; exact q
    exact hm7 _ _ q2
  generalize hg1 : up (up g D oD) b ob = g1 at F7 F8 F9 zE hm7 hgm
  refine r_iterlist F9 (by exact F9.keep _ _ (hgm _ _ y1)) y2 fun Ia h10 tk10 offI hne hit F10 => ?_
  refine for_it (It.list (by exact R.handled) hne lits)
    (fun i g' M m => And3 ((∀ a o, g1 a = some o → g' a = some o)) (m "sums" = some (.ref S)) (Ex2 fun o its => And3 (M = up none' S o) (IsL o its) (Al (IsEn prog w g') its ((List.range (i + 1)).map (psum steps)))))
    (fun _ _ _ => False) (fun _ _ _ _ => False) F10 hit ⟨fun _ _ q => q, by walk_at "lk", oS, _, rfl, tS, Al.one zE⟩ (fun b hb => by cases List.mem_singleton.mp hb; exact ⟨offI.l, offI.z, offI.al, offI.g, offI.m⟩)
    (fun b hb => by cases List.mem_singleton.mp hb; exact ⟨ol, fun i g' M m hJ => .inl (hJ.1 _ _ (hgm _ _ y1))⟩) ?_ ?_ (fun _ _ _ _ _ q => q.elim) (fun _ _ _ _ _ _ q => q.elim)
  · rintro i v e' g' M m h tk hi hv ⟨hmg, m1, o, its, rfl, hl, hal⟩ F11 hge hale
    have hlt : i < steps.length := by rw [← y3.1]; exact hi
    have hsi : steps[i]? = some steps[i] := List.getElem?_eq_getElem hlt
    obtain ⟨v', hv', cv⟩ := y3.2 i _ hsi
    rw [hv] at hv'
    cases hv'
    refine wpAny_assign_Name ?_
    walk_at "go"
    rename Fx _ _ _ _ _ _ _ => F12
    have hisz : its.size = i + 1 := by rw [hal.1]; simp
    refine l_method (by exact F12.ours _ _ (up_self _ _ _)) hl PySem.F.slot_list_append PySem.F.type_list_append ?_
    walk_at "go"
    obtain ⟨vl, hvl, cl⟩ := hal.2 i (psum steps i) (by simp)
    refine l_last (by exact F12.ours _ _ (up_self _ _ _)) hl (by lia) (by rw [hisz]; exact hvl) ?_
    walk_at "go"
    refine add_func_stats W ((Rd _).le (by decide) (by decide)) (by exact F12.keep) (by exact F12.top) cl (cv.mono fun a o q => hmg _ _ (hgm _ _ q)) (keys_disj nd hsi) (by have := keys_len hsi; lia) fun v13 g13 h13 tk13 R13 c13 => ?_
    have F13 := F12.back R13
    walk_at "go"
    refine r_append F13 hl (by lia) fun h14 tk14 o14 hl14 F14 => ?_
    walk_at "go"
    refine ⟨_, _, _, _, _, rfl, F14, fun a o q => R13.mono _ _ (hmg _ _ q), by walk_at "lk", o14, _, rfl, hl14, ?_⟩
    rw [List.range_succ, List.map_append]
    have c14 : IsEn prog w g13 v13 (psum steps (i + 1)) := by rw [psum_succ hsi]; exact c13
    exact (hal.mono fun v x q => q.mono R13.mono).push c14
  · rintro g' M m h tk ⟨hmg, m1, o, its, rfl, hl, hal⟩ F11
    dsimp only
    walk_at "go"
    have F12 := F11.freeze (up_self _ _ _) (by exact offS.al)
    rw [y3.1] at hal
    have hmm := F11.up_mono (o' := o) (up_self _ _ _)
    exact ret S _ _ _ F12.end0 ⟨o, its, up_self _ _ _, hl, hal.mono fun v x q => q.mono hmm⟩


end
end
section
open PySem PySem.W PySem.Calls PyProof.Rows
set_option Elab.async false
set_option maxRecDepth 100000
set_option linter.unusedVariables false


section heap
variable {H : Heap} {e : Ent} {g M : G} {L D : Addr} {h h' : Heap} {m m' : Str → Option Value} {o o' : Obj}
/-- something that is nobody's becomes ours -/
theorem Fx.adopt (F : Fx H e g M L h m) (hL : D ≠ L) (hz : e.z D = none) (hg : g D = none) (ho : h.get? D = some o) : Fx H e g (up M D o) L h m where
  ns := F.ns
  old := F.old
  keep := F.keep
  ours := fun b ob q => by
    by_cases hb : b = D
    · subst hb; rw [up_self] at q; cases q; exact ho
    · rw [up_ne _ _ hb] at q; exact F.ours b ob q
  offz := F.offz
  off := F.off
  offM := by rw [up_ne _ _ hL.symm]; exact F.offM
  sepz := fun b ob q => by
    by_cases hb : b = D
    · subst hb; exact hz
    · rw [up_ne _ _ hb] at q; exact F.sepz b ob q
  sepg := fun b ob q => by
    by_cases hb : b = D
    · subst hb; exact hg
    · rw [up_ne _ _ hb] at q; exact F.sepg b ob q
  alive := F.alive
  ext := F.ext
  mono := F.mono
  top := F.top
/-- something that nobody speaks of turns, or goes -/
theorem Fx.turn' (F : Fx H e g M L h m) (hD : D ≠ L) (hz : e.z D = none) (hg : g D = none) (hM : M D = none) (hl : ¬ e.al D) (hs : Heap.SameBut D h h') : Fx H e g M L h' m where
  ns := F.ns.sameBut hs hD.symm
  old := fun b o q => (hs.2 b (fun x => by rw [x, hz] at q; cases q)).trans (F.old b o q)
  keep := fun b o q => (hs.2 b (fun x => by rw [x, hg] at q; cases q)).trans (F.keep b o q)
  ours := fun b o q => (hs.2 b (fun x => by rw [x, hM] at q; cases q)).trans (F.ours b o q)
  offz := F.offz
  off := F.off
  offM := F.offM
  sepz := F.sepz
  sepg := F.sepg
  alive := fun a ha => by
    obtain ⟨o, ho⟩ := F.alive a ha
    exact ⟨o, (hs.2 a (fun x => hl (x ▸ ha))).trans ho⟩
  ext := F.ext
  mono := F.mono
  top := F.top
abbrev Ent.comp (e : Ent) (h : Heap) (g : G) (L : Addr) : Ent := ⟨ov (mapOf h [L]) e.z, fun a => e.al a ∨ a = L, g⟩
/-- into a comprehension's own names -/
theorem Fx.compIn {C : Addr} (F : Fx H e g M L h m) (hC : h.objs.size ≤ C) (hn : h'.Ns C m') (hk : ∀ b o, h.get? b = some o → h'.get? b = some o) :
    Fx H (e.comp h g L) g M C h' m' where
  ns := hn
  old := fun b o q => hk b o (by
    by_cases hb : b = L
    · subst hb
      obtain ⟨oL, _, _, hL, _⟩ := F.ns
      have e1 : mapOf h [b] b = some oL := (mapOf_in (List.mem_singleton.mpr rfl)).trans hL
      rw [show (e.comp h g b).z = ov (mapOf h [b]) e.z from rfl, ov_some e1] at q
      cases q; exact hL
    · rw [show (e.comp h g L).z = ov (mapOf h [L]) e.z from rfl, ov_none (mapOf_out (fun x => hb (List.mem_singleton.mp x)))] at q
      exact F.old b o q)
  keep := fun b o q => hk b o (F.keep b o q)
  ours := fun b o q => hk b o (F.ours b o q)
  offz := by
    have : C ≠ L := Nat.ne_of_gt (Nat.lt_of_lt_of_le F.lt hC)
    show ov (mapOf h [L]) e.z C = none
    rw [ov_none (mapOf_out (fun x => this (List.mem_singleton.mp x)))]
    exact none_of_ge F.old hC
  off := none_of_ge F.keep hC
  offM := none_of_ge F.ours hC
  sepz := fun a o q => by
    show ov (mapOf h [L]) e.z a = none
    rw [ov_none (mapOf_out (fun x => by rw [List.mem_singleton.mp x, F.offM] at q; cases q))]
    exact F.sepz a o q
  sepg := F.sepg
  alive := fun a ha => by
    rcases ha with ha | rfl
    · obtain ⟨o, ho⟩ := F.alive a ha; exact ⟨o, hk _ _ ho⟩
    · obtain ⟨oL, _, _, hL, _⟩ := F.ns; exact ⟨oL, hk _ _ hL⟩
  ext := fun _ _ => rfl
  mono := fun _ _ q => q
  top := F.top
/-- and out of them -/
theorem Fx.compOut {C : Addr} {g' M' : G} (F : Fx H e g M L h m) (F' : Fx H (e.comp h g L) g' M' C h' m') : Fx H e g' M' L h' m where
  ns := by
    obtain ⟨oL, es, ep, hL, r⟩ := F.ns
    exact ⟨oL, es, ep, F'.old L oL (ov_some ((mapOf_in (List.mem_singleton.mpr rfl)).trans hL)), r⟩
  old := fun b o q => F'.old b o (by
    show ov (mapOf h [L]) e.z b = some o
    rw [ov_none (mapOf_out (fun x => by rw [List.mem_singleton.mp x, F.offz] at q; cases q))]; exact q)
  keep := F'.keep
  ours := F'.ours
  offz := F.offz
  off := (F'.ext L (.inr rfl)).trans F.off
  offM := by
    obtain ⟨oL, _, _, hL, _⟩ := F.ns
    cases q : M' L with
    | none => rfl
    | some o =>
      have := F'.sepz L o q
      rw [show (e.comp h g L).z = ov (mapOf h [L]) e.z from rfl, ov_some ((mapOf_in (List.mem_singleton.mpr rfl)).trans hL)] at this
      cases this
  sepz := fun a o q => by
    have := F'.sepz a o q
    by_cases hb : a = L
    · rw [hb]; exact F.offz
    · rw [show (e.comp h g L).z = ov (mapOf h [L]) e.z from rfl, ov_none (mapOf_out (fun x => hb (List.mem_singleton.mp x)))] at this; exact this
  sepg := F'.sepg
  alive := fun a ha => F'.alive a (.inl ha)
  ext := fun a ha => (F'.ext a (.inl ha)).trans (F.ext a ha)
  mono := fun a o q => F'.mono a o (F.mono a o q)
  top := F'.top
end heap

/-! names, in any environment -/
section rules
variable {w : World} {H : Heap} {mg mb : Str → Option Value} {prog : Program} {A : Around} {E : Value → Shared → Prop} {s : Shared} {e : Ent} {g M : G} {L : Addr} {m : Str → Option Value} {env : Env}
  {x : Str} {pos : Pos} {v : Value} {Q : Value → Shared → Prop} {h : Heap} {gn : Array GenState} {dr : Drawn} {tk : Nat} {os : OsState} {c : Addr} {o : Obj}
/-- a cell's content -/
def Gc (g : G) (c : Addr) (v : Value) : Prop := ∃ o, g c = some o ∧ o.data = .cell (some v)
theorem Gc.mono {g g' : G} (hm : ∀ a o, g a = some o → g' a = some o) (h : Gc g c v) : Gc g' c v := let ⟨o, h1, h2⟩ := h; ⟨o, hm _ _ h1, h2⟩
theorem fx_localE {MM : Model} (F : Fx H e g M L s.heap m) (hv : m x = some v) (h : Q v s) (hL : env.locals = L := by rfl)
    (hk : env.scope.kind = .function := by rfl) (hx : env.kindOf x = some .local := by rfl) (hd : (x == ("__debug__" : Str)) = false := by decide) :
    wpAny MM A (eval (.Name x pos) env) Q E s := wpAny_Name (wpAny_loadName_local hk hx (by rw [hL]; exact F.ns) hv h) hd
theorem fx_localnE {MM : Model} (F : Fx H e g M L s.heap m) (hv : m x = some v) (h : Q v s) (hL : env.locals = L := by rfl)
    (hk : env.scope.kind = .function := by rfl) (hx : env.kindOf x = some .local := by rfl) :
    wpAny MM A (loadName env x) Q E s := wpAny_loadName_local hk hx (by rw [hL]; exact F.ns) hv h
theorem fx_cellE {MM : Model} (hx : env.kindOf x = some .cell) (hc : env.cells.lookup x = some c) (F : Fx H e g M L s.heap m) (hv : Gc g c v) (h : Q v s)
    (hk : env.scope.kind = .function := by rfl) (hd : (x == ("__debug__" : Str)) = false := by decide) :
    wpAny MM A (eval (.Name x pos) env) Q E s := wpAny_Name (wpAny_loadName_cell hk hx hc (let ⟨o, h1, h2⟩ := hv; ⟨o, F.keep _ _ h1, h2⟩) h) hd
theorem fx_cellnE {MM : Model} (hx : env.kindOf x = some .cell) (hc : env.cells.lookup x = some c) (F : Fx H e g M L s.heap m) (hv : Gc g c v) (h : Q v s)
    (hk : env.scope.kind = .function := by rfl) :
    wpAny MM A (loadName env x) Q E s := wpAny_loadName_cell hk hx hc (let ⟨o, h1, h2⟩ := hv; ⟨o, F.keep _ _ h1, h2⟩) h
theorem fx_globalE {MM : Model} (W : Wd w H mg mb) (F : Fx H e g M L s.heap m) (he : nsIn (hd.heap_39 w.params) mainGlobals x = some (some v)) (h : Q v s) (hG : env.globals = mainGlobals := by rfl)
    (hk : env.scope.kind = .function := by rfl) (hx : env.kindOf x = some .globalImplicit := by rfl) (hd : (x == ("__debug__" : Str)) = false := by decide) :
    wpAny MM A (eval (.Name x pos) env) Q E s := Name_function_global hk hx (loadGlobal_global (env := env) (by rw [hG]; exact W.g.keeps F.Hsub) (mg_of W.X W.g he) h) hd
theorem fx_builtinE {MM : Model} (W : Wd w H mg mb) (F : Fx H e g M L s.heap m) (he : nsIn (hd.heap_39 w.params) mainGlobals x = some none) (hv : bootBuiltins x = some v) (hn : x ≠ "__name__") (h : Q v s) (hG : env.globals = mainGlobals := by rfl) (hB : env.builtins = builtinsNs := by rfl)
    (hk : env.scope.kind = .function := by rfl) (hx : env.kindOf x = some .globalImplicit := by rfl) (hd : (x == ("__debug__" : Str)) = false := by decide) :
    wpAny MM A (eval (.Name x pos) env) Q E s :=
  Name_function_global hk hx (loadGlobal_builtin (env := env) (by rw [hG]; exact W.g.keeps F.Hsub) (mg_none_of W.X W.g he) (by rw [hB]; exact W.b.keeps F.Hsub) ((W.builtins x hn).trans hv) h) hd
theorem r_storeE {MM : Model} {Q : Unit → Shared → Prop} (F : Fx H e g M L h m)
    (k : ∀ h' tk', Fx H e g M L h' (fun y => if y = x then some v else m y) → Q () ⟨h', gn, dr, tk', os⟩) (hL : env.locals = L := by rfl)
    (hk : env.scope.kind = .function := by rfl) (hx : env.kindOf x = some .local := by rfl) : wpAny MM A (storeName env x v) Q E ⟨h, gn, dr, tk, os⟩ :=
  wpAny_storeName_local (s := ⟨h, gn, dr, tk, os⟩) hx (by rw [hL]; exact F.ns) (fun h' hn hs => k h' _ (F.set (by rw [hL] at hn; exact hn) (by rw [hL] at hs; exact hs))) (by rw [hk]; rfl)
/-- a store into a cell of ours -/
theorem r_storeC {MM : Model} {Q : Unit → Shared → Prop} {v0 : Option Value} (hx : env.kindOf x = some .cell) (hc : env.cells.lookup x = some c) (F : Fx H e g (up M c o) L h m) (ho : o.data = .cell v0)
    (k : ∀ h' o', o'.data = .cell (some v) → Fx H e g (up M c o') L h' m → Q () ⟨h', gn, dr, tk, os⟩)
    (hk : env.scope.kind = .function := by rfl) : wpAny MM A (storeName env x v) Q E ⟨h, gn, dr, tk, os⟩ := by
  refine wpAny_storeName_cell (s := ⟨h, gn, dr, tk, os⟩) hk hx hc ⟨o, F.ours _ _ (up_self _ _ _), ho⟩ fun h' hc' hs => ?_
  obtain ⟨o', h1, h2⟩ := hc'
  have F' := F.upd (up_self _ _ _) hs h1
  rw [up_up] at F'
  exact k h' o' h2 F'

theorem kinds {scope : Scope} {binds : List (Str × Value)} {n : Nat} (h : (binds.all fun x => decide (scope.names.lookup x.1 = some .local) || (decide (scope.names.lookup x.1 = some .cell) && ((cellsFrom n scope.names []).lookup x.1).isSome)) = true) :
    ∀ x ∈ binds, scope.names.lookup x.1 = some .local ∨ (scope.names.lookup x.1 = some .cell ∧ ((cellsFrom n scope.names []).lookup x.1).isSome = true) := fun x hx => by
  have := List.all_eq_true.mp h x hx
  simpa using this
/-- a def with cells is entered -/
theorem fx_enterC {R : Result → Shared → Prop} {name qual : Str} {params : Arguments} {body : List Stmt} {scope : Scope} {dV kV doc pm cdv ct oc : Value} {an od : Option Addr} {osl : Array (Option Value)} {f : Addr} {args : Args} {binds : List (Str × Value)}
    (W : Wd w H mg mb) (hH : H.StaysIn s.heap) (hroom : A.depth < recursionLimit)
    (ho : (hd.heap_39 w.params).lookup f = some ⟨oc, od, .func (fnOf name qual params body scope dV kV doc pm an cdv ct), osl⟩) (hcd : codeIn (hd.heap_39 w.params) cdv qual = true)
    (hbind : BindsTo s (fnOf name qual params body scope dV kV doc pm an cdv ct) args binds)
    (hkind : ∀ n, ∀ x ∈ binds, scope.names.lookup x.1 = some .local ∨ (scope.names.lookup x.1 = some .cell ∧ ((cellsFrom n scope.names []).lookup x.1).isSome = true))
    (h : ∀ L h₁ tk, s.heap.objs.size ≤ L → h₁.Ns L (bindL (envOfC qual scope L f cdv).kindOf binds fun _ => none) → (∀ b o, s.heap.get? b = some o → h₁.get? b = some o) →
      (∀ n c, (cellsFrom (L + 1) scope.names []).lookup n = some c → h₁.IsCell c (bindC (envOfC qual scope L f cdv).kindOf binds (fun _ => none) n)) →
      wpAny (model prog w) (A.deeper (envX qual scope L f cdv (cellsFrom (L + 1) scope.names []))) (execs body (envX qual scope L f cdv (cellsFrom (L + 1) scope.names [])))
        (fun fl s' => R (.ok (.ret (match fl with | .ret v => v | _ => .none))) s') (fun _ _ => False)
        { s with heap := h₁, toks := tk })
    (hco : scope.isCoroutine = false) (hgen : scope.isGenerator = false) (hk : scope.kind = .function) : codeAny (model prog w) A (.call (.ref f) args) R s := by
  refine codeAny_call_function (fd := fnX name qual params body scope [] dV kV doc pm an cdv ct) hroom (W.X.keeps hH _ _ ho) rfl hco hgen rfl (codeRec_of (W.X.keeps hH) hcd) (hbind _ _ _ _ ?_)
  refine wpAny_newFunctionEnv_cells hk (hkind _) fun env' he s' x => ?_
  subst he
  refine ⟨(W.nolimit.keeps hH).keeps x.toInCall.keep, codeAny_func ?_⟩
  obtain ⟨h₁, tk, rfl, _⟩ := x.done
  exact wpAny_mono (h _ h₁ tk (Nat.le_refl _) x.toInCall.ns x.toInCall.keep x.cell) (fun _ _ q => q) fun _ _ q => q.elim
end rules

/-! a list comprehension over an iterator -/
section
variable {prog : Program} {w : World} {A : Around} {env : Env} {s : Shared}
theorem compLoop_any {elt target iter : PySem.Expr} {scope : Scope} {pos : Pos} {Ia : Addr} {acc : Value} {R : Result → Shared → Prop} (I : Nat → Shared → Prop)
    (turn : ∀ n s, I n s → Nx prog w A Ia target s (fun r s₁ => match r with
      | none => R (.ok .next) s₁
      | some v => wpAny (model prog w) A (assign target env v) (fun _ s₂ => wpAny (model prog w) A (eval elt env) (fun x s₃ =>
          wpAny (model prog w) A (call (.builtin "list.append") [acc, x]) (fun _ s₄ => ∃ m, m < n ∧ I m s₄) noE s₃) noE s₂) noE s₁))
    (n : Nat) (h : I n s) : codeAny (model prog w) A (.compLoop (.ListComp elt [⟨target, iter, [], 0⟩] scope pos) 0 (.ref Ia) acc env) R s := by
  refine codeAny_loop rfl I (fun n s hI => ?_) n h
  show wpAny _ _ ((compTurn (.ListComp elt [⟨target, iter, [], 0⟩] scope pos) 0 (.ref Ia) acc env).onRaise (fun x => do noteFrame x env; theTreesLotGoes x)) _ _ s
  refine wpAny_noted ?_
  rw [compTurn_list1]
  refine wpAny_bind (wpAny_standAt (wpAny_bind (wpAny_mono (turn n s hI) (fun r s₁ h₁ => ?_) fun _ _ h' => h'.elim)))
  cases r with
  | none => exact wpAny_pure h₁
  | some v =>
    refine wpAny_bind (wpAny_mono h₁ (fun _ s1 h1' => ?_) fun _ _ h' => h'.elim)
    exact wpAny_bind (wpAny_mono h1' (fun _ s₂ h₂ => wpAny_bind (wpAny_bind (wpAny_mono h₂ (fun x s₃ h₃ => wpAny_bind (wpAny_mono h₃
      (fun _ s₄ h₄ => wpAny_pure (wpAny_pure ⟨rfl, h₄⟩)) fun _ _ h' => h'.elim)) fun _ _ h' => h'.elim))) fun _ _ h' => h'.elim)

variable {H : Heap} {e : Ent} {g M : G} {L C D : Addr} {h : Heap} {m : Str → Option Value} {tk : Nat} {gn : Array GenState} {dr : Drawn} {os : OsState} {Ia : Addr} {wr fx : List Addr} {n : Nat} {tgt : PySem.Expr} {P : Nat → Value → Heap → Prop} {St : Nat → Heap → Prop} {o : Obj}
theorem comp_loop {elt iter : PySem.Expr} {scope : Scope} {pos : Pos} {R : Result → Shared → Prop} (it : It prog w A Ia wr fx n tgt P St) (hz : n ≤ 1000) (K : Nat → G → Array Value → Prop)
    (F : Fx H e g (up M D o) C h m) (hl : IsL o #[]) (hst : St 0 h) (hK : K 0 g #[])
    (off : ∀ b ∈ wr, b ≠ C ∧ e.z b = none ∧ (¬ e.al b) ∧ g b = none ∧ M b = none ∧ b ≠ D)
    (hfx : ∀ b ∈ fx, b ≠ D ∧ ∃ ob, ∀ i g its, K i g its → g b = some ob ∨ M b = some ob)
    (turn : ∀ i v e' g m h tk o its, i < n → P i v h → K i g its → IsL o its → its.size = i → Fx H e' g (up M D o) C h m → e'.g = g → (∀ a, e'.al a ↔ ∃ o, h.get? a = some o) →
      wpAny (model prog w) A (assign tgt env v) (fun _ s₂ => wpAny (model prog w) A (eval elt env) (fun x s' => Ex4 fun h' tk' g' m' => And3 (s' = ⟨h', gn, dr, tk', os⟩) (Fx H e' g' (up M D o) C h' m') (K (i + 1) g' (its.push x))) noE s₂) noE ⟨h, gn, dr, tk, os⟩)
    (done : ∀ g m h tk o its, K n g its → its.size = n → IsL o its → Fx H e g (up M D o) C h m → R (.ok .next) ⟨h, gn, dr, tk, os⟩) :
    codeAny (model prog w) A (.compLoop (.ListComp elt [⟨tgt, iter, [], 0⟩] scope pos) 0 (.ref Ia) (.ref D) env) R ⟨h, gn, dr, tk, os⟩ := by
  refine compLoop_any (fun k s => Ex7 fun i g m h tk o its => And9 (k = n - i) (i ≤ n) (s = ⟨h, gn, dr, tk, os⟩) (St i h) (K i g its) (its.size = i) (IsL o its) (Fx H e g (up M D o) C h m) ((∀ b ∈ wr, g b = none))) ?_ n
    ⟨0, g, m, h, tk, o, #[], by lia, Nat.zero_le _, rfl, hst, hK, rfl, hl, F, fun b hb => (off b hb).2.2.2.1⟩
  rintro k s ⟨i, g, m, h, tk, o, its, rfl, hi, rfl, hst, hK, hsz, hl, F, hgw⟩
  have hLw : C ∉ wr := fun q => (off C q).1 rfl
  have hMw : ∀ b ∈ wr, up M D o b = none := fun b hb => by rw [up_ne _ _ (off b hb).2.2.2.2.2]; exact (off b hb).2.2.2.2.1
  by_cases hin : i < n
  · refine it.item i ⟨h, gn, dr, tk, os⟩ _ hin hst fun v h₁ tk₁ hP hst₁ hk₁ => ?_
    have F₁ : Fx H e g (up M D o) C h₁ m := F.step hk₁ hLw (fun b hb => (off b hb).2.1) (fun b hb => hgw b hb) hMw (fun b hb => (off b hb).2.2.1)
    have live := it.live _ _ hst₁
    have hN : Sub (mapOf h₁ wr) h₁ := fun b o q => by
      by_cases hb : b ∈ wr
      · rw [mapOf_in hb] at q; exact q
      · rw [mapOf_out hb] at q; cases q
    have hNz : ∀ a o, mapOf h₁ wr a = some o → e.z a = none := fun a o q => by
      by_cases hb : a ∈ wr
      · exact (off a hb).2.1
      · rw [mapOf_out hb] at q; cases q
    have F₂ := F₁.into hN (mapOf_out hLw) (fun a o q => by
      by_cases hb : a ∈ wr
      · rw [hMw a hb] at q; cases q
      · exact mapOf_out hb)
    refine wpAny_mono (turn i v _ g m h₁ tk₁ o its hin hP hK hl hsz F₂ rfl (fun _ => Iff.rfl)) (fun _ s₂ h₂ => wpAny_mono h₂ (fun x s₃ h₃ => ?_) fun _ _ q => q) fun _ _ q => q
    obtain ⟨h', tk', g', m', rfl, F', hK'⟩ := h₃
    refine r_append F' hl (by lia) fun h'' tk'' o'' hl'' F'' => ?_
    refine ⟨n - (i + 1), by lia, i + 1, g', m', h'', tk'', o'', its.push x, rfl, hin, rfl, it.frame _ _ _ hst₁ (fun b o hb q => ?_), hK', by simp [hsz], hl'', F₁.outof F'' hNz, fun b hb => ?_⟩
    · rcases hb with hb | hb
      · exact F''.still b o (by rw [mapOf_in hb]; exact q)
      · obtain ⟨hbD, ob, hob⟩ := hfx b hb
        have e1 : h₁.get? b = some ob := (hob i g its hK).elim (F₁.keep b ob) (fun q => F₁.ours b ob (by rw [up_ne _ _ hbD]; exact q))
        have e2 : h''.get? b = some ob := (hob _ g' _ hK').elim (F''.keep b ob) (fun q => F''.ours b ob (by rw [up_ne _ _ hbD]; exact q))
        rw [e1] at q; cases q; exact e2
    · obtain ⟨o, ho⟩ := live b hb
      rw [F'.ext b ⟨o, ho⟩]; exact hgw b hb
  · have : i = n := by lia
    subst this
    refine it.done ⟨h, gn, dr, tk, os⟩ _ hst fun h₁ tk₁ hk₁ => ?_
    exact done g m h₁ tk₁ o its hK hsz hl (F.step hk₁ hLw (fun b hb => (off b hb).2.1) (fun b hb => hgw b hb) hMw (fun b hb => (off b hb).2.2.1))

/-- [a, b, ..], to be turned; all else stands -/
theorem r_listK {vs : List Value} {E : Value → Shared → Prop} {Q : Value → Shared → Prop} (F : Fx H e g M L h m) (hz : vs.length ≤ 1000)
    (k : ∀ b o h', Off e g M L b → h.objs.size ≤ b → IsL o vs.toArray → Fx H e g (up M b o) L h' m → (∀ a ob, h.get? a = some ob → h'.get? a = some ob) → Q (.ref b) ⟨h', gn, dr, tk, os⟩) :
    wpAny (model prog w) A (newList vs) Q E ⟨h, gn, dr, tk, os⟩ := by
  refine wpAny_newObj_type ?_ (by show vs.toArray.size ≤ sizeLine; rw [List.size_toArray, sizeLine_eq]; lia)
  have hk : ∀ b o, h.get? b = some o → (h.push (listOf vs.toArray 0)).get? b = some o := fun b o q => Heap.get?_push_of_some _ q
  exact k _ _ _ (F.offNew (Nat.le_refl _)) (Nat.le_refl _) ⟨0, rfl⟩ (F.newM hk (Nat.le_refl _) (Heap.get?_push_size h (o := listOf vs.toArray 0) rfl)) hk
/-- what stands when the iterator is made -/
theorem comp_block {elt iter : PySem.Expr} {scope : Scope} {pos : Pos} {E : Value → Shared → Prop} {cl : List (Str × Addr)} {PP : Value → Addr → Result → Shared → Prop} (it : It prog w A Ia wr fx n tgt P St) (hz : n ≤ 1000) (K : Nat → G → Array Value → Prop)
    (F : Fx H e g M L h m) (hst : St 0 h) (hK : K 0 g #[]) (off : ∀ b ∈ wr, Off e g M L b)
    (hlt : ∀ b ∈ fx, ∃ ob, h.get? b = some ob)
    (hfx : ∀ b ∈ fx, ∃ ob, ∀ i g its, K i g its → g b = some ob ∨ M b = some ob)
    (hcell : ∀ y ∈ scope.names, y.2 ≠ .cell) (hkind : scope.kind = .function)
    (self : ∀ (s : Shared) (Q : Value → Shared → Prop) (E : Value → Shared → Prop), St 0 s.heap → Q (.ref Ia) s → wpAny (model prog w) A (pyIter (.ref Ia)) Q E s)
    (turn : ∀ C D i v e' g m h tk o its, i < n → P i v h → K i g its → IsL o its → its.size = i → Fx H e' g (up M D o) C h m → e'.g = g → (∀ a, e'.al a ↔ ∃ o, h.get? a = some o) → M D = none →
      wpAny (model prog w) A (assign tgt (compEnvC scope cl C env) v) (fun _ s₂ => wpAny (model prog w) A (eval elt (compEnvC scope cl C env)) (fun x s' => Ex4 fun h' tk' g' m' => And3 (s' = ⟨h', gn, dr, tk', os⟩) (Fx H e' g' (up M D o) C h' m') (K (i + 1) g' (its.push x))) noE s₂) noE ⟨h, gn, dr, tk, os⟩)
    (done : ∀ C D o its g' m' h' tk', h.objs.size ≤ D → Off e g' M L D → IsL o its → its.size = n → K n g' its → Fx H e g' (up M D o) L h' m → (∀ a o, g a = some o → g' a = some o) → h'.Ns C m' → Off e g' (up M D o) L C →
      PP (.ref D) C (.ok .next) ⟨h', gn, dr, tk', os⟩) :
    wpAny (model prog w) A (newList []) (fun acc s₃ => wpAny (model prog w) A (newFunctionEnv scope env.globals cl [] env.qual none .none (some env)) (fun cenv s₄ =>
      codeAny (model prog w) A (.compStart (.ListComp elt [⟨tgt, iter, [], 0⟩] scope pos) 0 (.ref Ia) acc { cenv with scope := relabel scope env }) (PP acc cenv.locals) s₄) E s₃) E ⟨h, gn, dr, tk, os⟩ := by
  refine r_listK F (by simp) fun D oD h2 offD hszD lD F2 hk1 => ?_
  refine wpAny_newFunctionEnv hcell (by intro y hy; simp at hy) (fun h₁ hns₁ hsb₁ => ?_) hkind
  dsimp only at hns₁ hsb₁ ⊢
  have hk2 : ∀ b o, h2.get? b = some o → h₁.get? b = some o := fun b o q => hsb₁.extBut b o (Nat.ne_of_lt (Heap.lt_size q)) (Heap.get?_push_of_some _ q)
  generalize hC : h2.objs.size = C at hns₁ hsb₁ ⊢
  have F3 := F2.compIn (C := C) (by lia) hns₁ hk2
  have offC := F2.offNew (b := C) (by lia)
  have live : ∀ b ∈ wr, (∃ o, h.get? b = some o) := fun b hb => it.live 0 h hst b hb
  have kp : ∀ b, (∃ o, h.get? b = some o) → b ≠ D := fun b ⟨o, q⟩ x => by
    rw [x] at q; exact absurd (Heap.lt_size q) (Nat.not_lt.mpr hszD)
  have alv : ∀ b, (∃ o, h2.get? b = some o) → b ≠ C := fun b ⟨o, q⟩ x => by
    rw [x] at q; exact absurd (Heap.lt_size q) (Nat.not_lt.mpr (Nat.le_of_eq hC))
  have hst₁ : St 0 h₁ := it.frame _ _ _ hst fun b o _ q => hk2 b o (hk1 b o q)
  have loop : ∀ tk', codeAny (model prog w) A (.compLoop (.ListComp elt [⟨tgt, iter, [], 0⟩] scope pos) 0 (.ref Ia) (.ref D) (compEnvC scope cl C env))
      (PP (.ref D) C) ⟨h₁, gn, dr, tk', os⟩ := fun tk' => by
    refine comp_loop it hz K F3 lD hst₁ hK (fun b hb => ⟨alv b (let ⟨o, q⟩ := live b hb; ⟨o, hk1 _ _ q⟩), ?_, ?_, (off b hb).g, (off b hb).m, kp b (live b hb)⟩) (fun b hb => ⟨kp b (hlt b hb), hfx b hb⟩) ?_ ?_
    · show ov (mapOf h2 [L]) e.z b = none
      rw [ov_none (mapOf_out (fun x => (off b hb).l (List.mem_singleton.mp x)))]; exact (off b hb).z
    · rintro (ha | ha)
      · exact (off b hb).al ha
      · exact (off b hb).l ha
    · intro i v e' g m h tk o its hi hP hK hl hsz F hge hal
      exact turn C D i v e' g m h tk o its hi hP hK hl hsz F hge hal offD.m
    · intro g' m' h' tk' o its hK hsz hl F'
      have F4 := F2.compOut F'
      have hgD : g' D = none := F4.sepg _ _ (up_self M D o)
      exact done C D o its g' m' h' tk' hszD ⟨offD.l, offD.z, offD.al, hgD, offD.m⟩ hl hsz hK F4 F'.mono F'.ns ⟨offC.l, offC.z, offC.al, F'.off, F'.offM⟩
  exact codeAny_compStart_list (loop _) (self _ _ _ hst₁ (loop _))
/-- the comprehension's value is handed on -/
theorem comp_post {E : Value → Shared → Prop} {Q : Value → Shared → Prop} {acc : Value} {C : Addr} {m' : Str → Option Value} (F : Fx H e g M L h m) (hn : h.Ns C m') (offC : Off e g M L C)
    (done : ∀ h', Fx H e g M L h' m → Q acc ⟨h', gn, dr, tk, os⟩) : compPost (model prog w) A E none Q acc C (.ok .next) ⟨h, gn, dr, tk, os⟩ :=
  ⟨m', hn, fun h' hs => done h' (F.turn' offC.l offC.z offC.g offC.m offC.al hs)⟩
/-- it is stored under a name -/
theorem comp_postU {E : Value → Shared → Prop} {Q : Value → Shared → Prop} {acc : Value} {C : Addr} {m' : Str → Option Value} {y : Str} {py : Pos} (F : Fx H e g M L h m) (hn : h.Ns C m') (offC : Off e g M L C)
    (hL : env.locals = L) (hk : env.scope.kind = .function) (hy : env.kindOf y = some .local)
    (done : ∀ h' tk', Fx H e g M L h' (fun z => if z = y then some acc else m z) → Q .none ⟨h', gn, dr, tk', os⟩) : compPost (model prog w) A E (some (assign (.Name y py) env)) Q acc C (.ok .next) ⟨h, gn, dr, tk, os⟩ := by
  show wpAny _ A (assign (.Name y py) env acc) _ _ _
  obtain ⟨oC, es, ep, hoC, r⟩ := hn
  have F1 := F.adopt offC.l offC.z offC.g hoC
  refine wpAny_assign_Name (r_storeE F1 (fun h' tk' F2 => ?_) hL hk hy)
  refine ⟨m', ⟨oC, es, ep, F2.ours C oC (up_self _ _ _), r⟩, fun h'' hs => ?_⟩
  have F3 := F2.drop C
  rw [up_dn, dn_of_none offC.m] at F3
  exact done h'' tk' (F3.turn' offC.l offC.z offC.g offC.m offC.al hs)
theorem comp_open {elt iter : PySem.Expr} {scope : Scope} {pos : Pos} {E : Value → Shared → Prop} {cl : List (Str × Addr)} {Q : Value → Shared → Prop}
    (hclos : closureFor scope env = pure cl) (hkind : scope.kind = .function) (hnames : ∀ x ∈ scope.names, x.2 = .local → scope.names.lookup x.1 = some .local)
    (h : wpAny (model prog w) A (eval iter env) (fun x s₁ => wpAny (model prog w) A (pyIter x) (fun it s₂ => wpAny (model prog w) A (newList []) (fun acc s₃ =>
      wpAny (model prog w) A (newFunctionEnv scope env.globals cl [] env.qual none .none (some env)) (fun cenv s₄ =>
        codeAny (model prog w) A (.compStart (.ListComp elt [⟨tgt, iter, [], 0⟩] scope pos) 0 it acc { cenv with scope := relabel scope env }) (compPost (model prog w) A E none Q acc cenv.locals) s₄) E s₃) E s₂) E s₁) E s)
    (hs : ∀ x, foldedSetIterable iter env x = pure x := by intro _; rfl) :
    wpAny (model prog w) A (eval (.ListComp elt [⟨tgt, iter, [], 0⟩] scope pos) env) Q E s := by
  rw [eval_ListComp]
  exact wpAny_comprehension_free (use := none) rfl hs hclos hkind hnames h
theorem comp_openU {elt iter : PySem.Expr} {scope : Scope} {pos spos : Pos} {E : Value → Shared → Prop} {cl : List (Str × Addr)} {Q : Flow → Shared → Prop} {y : Str} {py : Pos}
    (hsw : swapsWith (.ListComp elt [⟨tgt, iter, [], 0⟩] scope pos) (some (.Name y py)) spos.line env = pure true)
    (hclos : closureFor scope env = pure cl) (hkind : scope.kind = .function) (hnames : ∀ x ∈ scope.names, x.2 = .local → scope.names.lookup x.1 = some .local)
    (h : wpAny (model prog w) A (eval iter env) (fun x s₁ => wpAny (model prog w) A (pyIter x) (fun it s₂ => wpAny (model prog w) A (newList []) (fun acc s₃ =>
      wpAny (model prog w) A (newFunctionEnv scope env.globals cl [] env.qual none .none (some env)) (fun cenv s₄ =>
        codeAny (model prog w) A (.compStart (.ListComp elt [⟨tgt, iter, [], 0⟩] scope pos) 0 it acc { cenv with scope := relabel scope env }) (compPost (model prog w) A E (some (assign (.Name y py) env)) (fun _ s' => Q .next s') acc cenv.locals) s₄) E s₃) E s₂) E s₁) E s)
    (hs : ∀ x, foldedSetIterable iter env x = pure x := by intro _; rfl) :
    wpAny (model prog w) A (exec (.Assign [.Name y py] (.ListComp elt [⟨tgt, iter, [], 0⟩] scope pos) spos) env) Q E s := by
  rw [exec_Assign_Name_used _ _ _ _ hsw]
  refine wpAny_bind (wpAny_standAt (wpAny_bind ?_))
  show wpAny _ A (do let _ ← comprehension (.ListComp elt [⟨tgt, iter, [], 0⟩] scope pos) scope env _ (newList []) false (eval iter env) (some (assign (.Name y py) env))) _ _ s
  exact wpAny_bind (wpAny_mono (wpAny_comprehension_free (use := some (assign (.Name y py) env)) (Q := fun _ s' => Q .next s') rfl hs hclos hkind hnames h) (fun _ s' hq => wpAny_pure (wpAny_pure hq)) fun _ _ e => e)
end


end
section
local macro_rules | `(tactic| walk_at "eval Name") => `(tactic| first
  | (refine' fx_localE (by assumption) ?hlk ?_; (case hlk => walk_at "lk"))
  | (refine' fx_cellE (by with_unfolding_all rfl) (by with_unfolding_all rfl) (by assumption) (by assumption) ?_)
  | (refine' fx_globalE (by assumption) (by assumption) ?hlk ?_; (case hlk => k_is))
  | (refine' fx_builtinE (by assumption) (by assumption) ?hlk ?hlv ?hln ?_; (case hlk => k_is); (case hlv => boot_fast); (case hln => decide)))
local macro_rules | `(tactic| walk_at "loadName") => `(tactic| first
  | (refine' fx_localnE (by assumption) ?hlk ?_; (case hlk => walk_at "lk"))
  | (refine' fx_cellnE (by with_unfolding_all rfl) (by with_unfolding_all rfl) (by assumption) (by assumption) ?_))
local macro_rules | `(tactic| walk_at "storeName") => `(tactic| (refine r_storeE (by assumption) ?_; intro h' tk' F'))
local macro_rules | `(tactic| walk_at "enterC") => `(tactic| (
  refine' wpAny_call (fx_enterC (by assumption) ?hH ?hr ?ho ?hcd ?hbind ?hkind ?_ ?hco ?hgen ?hk);
  (case ho => k_is);
  (case hcd => k_is);
  (case hbind => first | exact BindsTo.of_eq rfl | walk_at "dk");
  (case hkind => exact fun n => kinds rfl);
  (case hco => exact rfl);
  (case hgen => exact rfl);
  (case hk => exact rfl)))
section
open PySem PySem.W PySem.Calls PyProof.Rows
set_option Elab.async false
set_option maxRecDepth 100000
set_option maxHeartbeats 4000000
set_option linter.unusedVariables false



variable {w : World} {H : Heap} {mg mb : Str → Option Value} {prog : Program} {A : Around} {E : Value → Shared → Prop} {s : Shared} {g : G} {D : Addr} {o : Obj} {its : Array Value} {Q : Value → Shared → Prop}

def mkOf (ps : Pk) (e : En) : Mk := ps.map fun q => e.col q.1 * q.2
theorem Ints.push {vs : List Value} {ns : List Int} (h : Ints vs ns) (x : Int) (t : Tok) : Ints (vs ++ [.int x t]) (ns ++ [x]) := by
  induction h with
  | nil => exact .cons x t .nil
  | cons a u _ ih => exact .cons a u ih

theorem law_mark {v : Value} {p : Addr} {e : En} {ps : Pk} (W : Wd w H mg mb) (R : Room A 2 16) (hg : Sub g s.heap) (hH : ∀ a o, H.get? a = some o → g a = some o)
    (c1 : IsEn prog w g v e) (pk : IsPk g p ps) (h4 : ∀ q ∈ ps, q.1 < 4) (h1 : ∀ q ∈ ps, q.2 = 1 ∨ q.2 = -1) (hz : ps.length ≤ 100)
    (ret : ∀ r g' h' tk', Rt (fun _ => False) g s.heap g' h' → IsMk g' r (mkOf ps e) → Q r { s with heap := h', toks := tk' }) :
    wpAny (model prog w) A (call (.ref 151) [v, .ref p]) Q E s := by
  obtain ⟨h0, gn, dr, tk0, os⟩ := s
  obtain ⟨a1, o1, d1, t0, t1, t2, t3, rfl, p2, p3, p4⟩ := c1
  obtain ⟨op, pits, y1, y2, y3⟩ := pk
  walk_at "enterC"
  case hH => exact fun a o e => hg _ _ (hH _ _ e)
  case hr => exact R.d
  intro L h₁ tk hL hns hk hcl
  obtain ⟨oc, hoc, hdc⟩ := hcl "entry" (L + 1) rfl
  obtain ⟨m, hm, m1⟩ : ∃ m, h₁.Ns L m ∧ m "picks" = some (.ref p) := ⟨_, hns, by with_unfolding_all rfl⟩
  have hdc' : oc.data = .cell (some (.ref a1)) := hdc.trans (by with_unfolding_all rfl)
  have F := enter0 hg hH hL hm hk
  clear hns hm hk
  have hLc : h0.objs.size ≤ L + 1 := Nat.le_succ_of_le hL
  have offc : e.cc = e.cc := rfl
  have F1 := (F.adopt (D := L + 1) (Nat.ne_of_gt (Nat.lt_succ_self _)) (none_of_ge (g := h0.get?) (fun _ _ q => q) hLc) (none_of_ge hg hLc) hoc).freeze (up_self _ _ _) (fun ⟨o, q⟩ => absurd (Heap.lt_size q) (Nat.not_lt.mpr hLc))
  rw [up_dn, dn_of_none (show none' (L + 1) = none from rfl)] at F1
  have G1 : Gc (up g (L + 1) oc) (L + 1) (.ref a1) := ⟨oc, up_self _ _ _, hdc'⟩
  have hgm : ∀ a o, g a = some o → up g (L + 1) oc a = some o := fun a o q => by
    rw [up_ne _ _ (fun x => by rw [x, none_of_ge hg hLc] at q; cases q)]; exact q
  generalize up g (L + 1) oc = g1 at F1 G1 hgm
  walk_at "go"
  refine comp_open (cl := [("entry", L + 1)]) (by with_unfolding_all rfl) rfl (by decide) ?_
  walk_at "go"
  have y1' := hgm _ _ y1
  refine r_iterlist F1 (by exact F1.keep _ _ y1') y2 fun Ia h2 tk2 offI hne hit F2 => ?_
  refine comp_block (It.listT (by exact R.handled) hne pits (fun i v hv => by
      have hlt : i < ps.length := by
        rw [← y3.1]; exact (Array.getElem?_eq_some_iff.mp hv).1
      obtain ⟨v', h1, a, o, t, u, h2, _⟩ := y3.2 i _ (List.getElem?_eq_getElem hlt)
      rw [hv] at h1; cases h1; exact ⟨a, h2⟩)) (by rw [y3.1]; lia)
    (fun i g' its => (∀ a o, g1 a = some o → g' a = some o) ∧ Ints its.toList (mkOf (ps.take i) e))
    F2 hit ⟨fun _ _ q => q, .nil⟩ (fun b hb => by cases List.mem_singleton.mp hb; exact offI) (fun b hb => by cases List.mem_singleton.mp hb; exact ⟨op, F2.keep _ _ y1'⟩)
    (fun b hb => by cases List.mem_singleton.mp hb; exact ⟨op, fun i g' its hK => .inl (hK.1 _ _ y1')⟩) (by decide) rfl
    (fun s Q E st hq => wpAny_pyIter_listiter st.1 hq) ?_ ?_
  · rintro C D i v e' g' m h tk o its hi hv ⟨hgm', hints⟩ hl hsz F3 hge hal hMD
    have hlt : i < ps.length := by rw [← y3.1]; exact hi
    obtain ⟨v', hv', T, oT, t, u, rfl, hoT, hT⟩ := y3.2 i _ (List.getElem?_eq_getElem hlt)
    rw [hv] at hv'
    cases hv'
    have hi4 : (ps[i]).1 < 4 := h4 _ (List.getElem_mem hlt)
    have hi1 := h1 _ (List.getElem_mem hlt)
    have htake : ps.take (i + 1) = ps.take i ++ [ps[i]] := by rw [List.take_add_one, List.getElem?_eq_getElem hlt]; rfl
    generalize ps[i] = q at hoT hT hi4 htake hi1
    obtain ⟨ix, d⟩ := q
    have G2 := G1.mono hgm'
    refine r_unpack (by exact R.handled) F3 (hT.isTup (F3.keep _ _ (hgm' _ _ (hgm _ _ hoT)))) rfl rfl fun h4 F4 _ => ?_
    obtain ⟨tA, hA⟩ := en_col (a := e) (d := d1) (t0 := t0) (t1 := t1) (t2 := t2) (t3 := t3) hi4
    try dsimp only at hi4 hA hi1
    have hbits : Builtin.Int.intBits d ≤ 64 := by rcases hi1 with rfl | rfl <;> decide
    walk_at "go"
    rename Fx _ _ _ _ _ _ _ => F5
    try dsimp only at F5 ⊢
    refine t_item (by exact F5.keep _ _ (hgm' _ _ (hgm _ _ p2))) p3 (by exact Int.natCast_nonneg ix) (by lia) (by rw [Int.toNat_natCast]; exact hA) ?_
    walk_at "go"
    rename Fx _ _ _ _ _ _ _ => F6
    refine ⟨_, _, _, _, rfl, F6, hgm', ?_⟩
    rw [htake]
    unfold mkOf at hints ⊢
    rw [List.map_append, Array.toList_push]
    exact hints.push _ _
  · intro C D o its g' m' h' tk' hsD offD hl hsz hK F3 hmono hns offC
    refine comp_post F3 hns offC fun h4 F4 => ?_
    try dsimp only
    walk_at "go"
    have hz2 : its.size ≤ 1000 := by rw [hsz, y3.1]; lia
    refine call_tuple_list (s := ⟨h4, gn, dr, _, os⟩) (hl.isList (F4.ours _ _ (up_self _ _ _))) (fun h5 hk5 => ?_) (by rw [sizeLine_eq]; lia)
    have F5 := F4.grow hk5
    obtain ⟨F6, hm6⟩ := F5.newG (h' := h5.push { cls := .type "tuple", data := .seq its }) (fun b o q => Heap.get?_push_of_some _ q) (Nat.le_refl _) (Heap.get?_push_size _ rfl)
    walk_at "go"
    obtain ⟨hK1, hK2⟩ := hK
    rw [y3.1, List.take_length] at hK2
    exact ret _ _ _ _ F6.end0 ⟨_, _, its, rfl, up_self _ _ _, ⟨rfl, _, rfl⟩, hK2⟩


end
section
open PySem PySem.W PySem.Calls PyProof.Rows
set_option Elab.async false
set_option maxRecDepth 100000
set_option maxHeartbeats 4000000
set_option linter.unusedVariables false



variable {w : World} {H : Heap} {mg mb : Str → Option Value} {prog : Program} {A : Around} {E : Value → Shared → Prop} {s : Shared} {g : G} {D : Addr} {o : Obj} {its : Array Value} {Q : Value → Shared → Prop}

section
variable {e : Ent} {g M : G} {L l x p : Addr} {m : Str → Option Value} {h : Heap} {gn : Array GenState} {dr : Drawn} {tk : Nat} {os : OsState} {t : Tok} {i : Int} {o1 o2 : Obj} {its2 : Array Value}
/-- a, b, .. = (.., .., ..), stored backwards -/
theorem r_unpackI {T : Addr} {items : Array Value} {n : Nat} {Q : List Value → Shared → Prop} (hh : A.handled = none) (F : Fx H e g M L h m) (ht : IsTup h T items) (hn : n = items.size)
    (k : ∀ h', Fx H e g M L h' m → (∀ b o, h.get? b = some o → h'.get? b = some o) → Q items.toList ⟨h', gn, dr, tk, os⟩) : wpAny (model prog w) A (unpackItems (.ref T) n none) Q E ⟨h, gn, dr, tk, os⟩ := by
  subst hn
  exact unpackItems_tuple (s := ⟨h, gn, dr, tk, os⟩) hh ht fun h' he =>
    have hk : ∀ b o, h.get? b = some o → h'.get? b = some o := fun b o q => he b o (Nat.ne_of_lt (Heap.lt_size q)) q
    k h' (F.grow hk) hk
/-- rule.compare -/
theorem m_compare {pl : Sem Bool} {Q : Value × List Value → Shared → Prop} (W : Wd w H mg mb) (F : Fx H e g M L s.heap m) (tc : IsTC g x p) (k : Q (.ref 111, [.ref x]) s) : wpAny (model prog w) A (getMethod (.ref x) "compare" pl) Q E s := by
  obtain ⟨dx, es, n, x1, x2, x3, x4⟩ := tc
  have X1 : (hd.heap_39 w.params).In s.heap := W.X.keeps F.Hsub
  have I : InstAt s.heap x (instObj 114 dx) 114 (some (dictOf es n)) := ⟨F.keep _ _ x1, rfl, rfl, F.keep _ _ x2⟩
  have hpg : plainGet (hd.heap_39 w.params) 114 "compare" = true := by k_is
  have hf : findIn (hd.heap_39 w.params) (.ref 114) "compare" = some (some (.ref 111)) := by k_is
  have ht : typeIn (hd.heap_39 w.params) (.ref 111) = some (.type "function") := by k_is
  exact method_fn X1 I (plainGet_of hpg).1 (plainGet_of hpg).2 hf ht (by show (lookIn "compare" (dictOf es n)).map _ = _; rw [lookIn_dict, x4]; rfl) k
/-- l[::-1] -/
theorem r_rev {value slice : PySem.Expr} {S : Addr} (F : Fx H e g M L h m) (ho : h.get? l = some o) (hl : IsL o its) (hS : h.get? S = some { cls := .type "slice", data := .fields #[.none, .none, .int (-1) t] }) (hz : its.size ≤ 1000)
    (k : ∀ b o' h', IsL o' its.toList.reverse.toArray → h.objs.size ≤ b → Off e g M L b → Fx H e g (up M b o') L h' m → Q (.ref b) ⟨h', gn, dr, tk, os⟩)
    (hs : subscripted slice false (.ref l) (.ref S) = operate [.ref l, .ref S] (getItem (.ref l) (.ref S)) := by with_unfolding_all rfl)
    (ht : ∀ r, letTemporaryGo value (.ref l) r = pure () := by intro _; with_unfolding_all rfl) :
    wpAny (model prog w) A (subscriptTail value slice (.ref l) (.ref S)) Q E ⟨h, gn, dr, tk, os⟩ := by
  refine subscriptTail_ops (s := ⟨h, gn, dr, tk, os⟩) ((hl.isList ho).typeIs) list_getitem_lookup
    (wpAny_getItem_list_slice (hl.isList ho) ⟨_, hS, rfl, rfl⟩ .none .none (.int _ _) (by decide) ?_ (by rw [sizeLine_eq]; lia)) hs ht
  rw [krv_pick]
  have hk : ∀ b o, h.get? b = some o → (h.push (listOf its.toList.reverse.toArray 0)).get? b = some o := fun b o q => Heap.get?_push_of_some _ q
  exact k _ _ _ ⟨0, rfl⟩ (Nat.le_refl _) (F.offNew (Nat.le_refl _)) (F.newM hk (Nat.le_refl _) (Heap.get?_push_size h (o := listOf its.toList.reverse.toArray 0) rfl))
/-- l + r -/
theorem r_addlists {l2 : Addr} (F : Fx H e g M L h m) (h1 : h.get? l = some o1) (l1 : IsL o1 its) (h2 : h.get? l2 = some o2) (l2' : IsL o2 its2) (hz : its.size + its2.size ≤ 1000)
    (k : ∀ b o' h', IsL o' (its ++ its2) → h.objs.size ≤ b → Off e g M L b → Fx H e g (up M b o') L h' m → Q (.ref b) ⟨h', gn, dr, tk, os⟩) :
    wpAny (model prog w) A (binaryOp .Add (.ref l) (.ref l2)) Q E ⟨h, gn, dr, tk, os⟩ := by
  obtain ⟨n1, rfl⟩ := l1
  obtain ⟨n2, rfl⟩ := l2'
  refine PySem.P.add_list (s := ⟨h, gn, dr, tk, os⟩) (items := its) (n := n1) (items2 := its2) (n2 := n2) h1 h2 ?_ (by rw [sizeLine_eq]; lia)
  have hk : ∀ b o, h.get? b = some o → (h.push (listOf (its ++ its2) 0)).get? b = some o := fun b o q => Heap.get?_push_of_some _ q
  exact k _ _ _ ⟨0, rfl⟩ (Nat.le_refl _) (F.offNew (Nat.le_refl _)) (F.newM hk (Nat.le_refl _) (Heap.get?_push_size h (o := listOf (its ++ its2) 0) rfl))
end

/-- the walk that `_law_back` takes -/
structure Run (ps : Pk) (LE HE : List En) (lits hits : Array Value) (X : List Value) (top dip : Nat) (a b : Nat → Nat) : Prop where
  ab : ∀ i, i ≤ X.length → a i + b i = i
  le : top + dip ≤ X.length
  atop : a (top + dip) = top
  adip : b (top + dip) = dip
  al : ∀ i, i ≤ X.length → a i ≤ LE.length
  bl : ∀ i, i ≤ X.length → b i ≤ HE.length
  aN : a X.length = LE.length
  bN : b X.length = HE.length
  fwd : ∀ i, i < top + dip → (cmp ps (addE (psum LE (a i)) (psum HE (b i))) (addE (psum LE top) (psum HE dip)) < 0 → a (i + 1) = a i + 1 ∧ b (i + 1) = b i ∧ a i < LE.length ∧ lits[a i]? = X[i]?) ∧
    (¬ cmp ps (addE (psum LE (a i)) (psum HE (b i))) (addE (psum LE top) (psum HE dip)) < 0 → b (i + 1) = b i + 1 ∧ a (i + 1) = a i ∧ b i < HE.length ∧ hits[b i]? = X[i]?)
  bwd : ∀ i, top + dip ≤ i → i < X.length → (cmp ps (addE (psum LE (a (i + 1))) (psum HE (b (i + 1)))) (addE (psum LE top) (psum HE dip)) < 0 → a (i + 1) = a i + 1 ∧ b (i + 1) = b i ∧ a i < LE.length ∧ lits[a i]? = X[i]?) ∧
    (¬ cmp ps (addE (psum LE (a (i + 1))) (psum HE (b (i + 1)))) (addE (psum LE top) (psum HE dip)) < 0 → b (i + 1) = b i + 1 ∧ a (i + 1) = a i ∧ b i < HE.length ∧ hits[b i]? = X[i]?)

theorem apart_psum {LE HE : List En} (nd : (keysOf (LE ++ HE)).Nodup) (i j : Nat) : ∀ k ∈ (psum HE j).ks, k ∉ (psum LE i).ks := by
  intro k hk hk'
  rw [psum_ks] at hk hk'
  have s1 : ∀ (l : List En) (i : Nat), ∀ k ∈ keysOf (l.take i), k ∈ keysOf l := fun l i k q => by
    unfold keysOf at q ⊢
    obtain ⟨x, hx, hk⟩ := List.mem_flatMap.mp q
    exact List.mem_flatMap.mpr ⟨x, List.mem_of_mem_take hx, hk⟩
  have e : keysOf (LE ++ HE) = keysOf LE ++ keysOf HE := by unfold keysOf; rw [List.flatMap_append]
  rw [e] at nd
  exact (List.nodup_append.mp nd).2.2 k (s1 _ _ k hk') k (s1 _ _ k hk) rfl
theorem psum_len (LE : List En) (i : Nat) : (psum LE i).ks.length ≤ (keysOf LE).length := by
  rw [psum_ks]
  have e : keysOf LE = keysOf (LE.take i) ++ keysOf (LE.drop i) := by unfold keysOf; rw [← List.flatMap_append, List.take_append_drop]
  rw [e, List.length_append]; lia
theorem sums_get {LE : List En} {i : Nat} (h : i ≤ LE.length) : (sumsOf LE)[i]? = some (psum LE i) := by
  unfold sumsOf; rw [List.getElem?_map, List.getElem?_range (by lia)]; rfl

theorem law_back {lw hi rl p : Addr} {top dip : Nat} {tt td : Tok} {ol oh : Obj} {lits hits : Array Value} {LE HE : List En} {ps : Pk} {X : List Value} {fa fb : Nat → Nat} (W : Wd w H mg mb) (R : Room A 4 32) (hg : Sub g s.heap) (hH : ∀ a o, H.get? a = some o → g a = some o)
    (l1 : g lw = some ol) (l2 : IsL ol lits) (l3 : Al (IsEn prog w g) lits LE) (r1 : g hi = some oh) (r2 : IsL oh hits) (r3 : Al (IsEn prog w g) hits HE) (tc : IsTC g rl p) (pk : IsPk g p ps) (h4 : ∀ q ∈ ps, q.1 < 4)
    (nd : (keysOf (LE ++ HE)).Nodup) (hz : (keysOf (LE ++ HE)).length ≤ 1000) (hX : X.length ≤ 100) (run : Run ps LE HE lits hits X top dip fa fb)
    (ret : ∀ r o its g' h' tk', Rt (fun _ => False) g s.heap g' h' → g' r = some o → IsL o its → its.toList = X → Q (.ref r) { s with heap := h', toks := tk' }) :
    wpAny (model prog w) A (call (.ref 158) [.ref lw, .ref hi, .int (top : Nat) tt, .int (dip : Nat) td, .ref rl]) Q E s := by
  obtain ⟨h0, gn, dr, tk0, os⟩ := s
  have hLH : LE.length + HE.length = X.length := by rw [← run.aN, ← run.bN]; exact run.ab _ (Nat.le_refl _)
  have eKS : (keysOf LE).length + (keysOf HE).length ≤ 1000 := by unfold keysOf at hz ⊢; rw [List.flatMap_append, List.length_append] at hz; exact hz
  have ndL : (keysOf LE).Nodup := by unfold keysOf at nd ⊢; rw [List.flatMap_append] at nd; exact (List.nodup_append.mp nd).1
  have ndH : (keysOf HE).Nodup := by unfold keysOf at nd ⊢; rw [List.flatMap_append] at nd; exact (List.nodup_append.mp nd).2.1
  walk_at "enter"
  case hH => exact fun a o e => hg _ _ (hH _ _ e)
  case hr => exact R.d
  intro L h₁ tk hL hns hk
  obtain ⟨m, hm, m1, m2, m3, m4, m5⟩ : ∃ m, h₁.Ns L m ∧ m "low" = some (.ref lw) ∧ m "high" = some (.ref hi) ∧ m "top" = some (.int (top : Nat) tt) ∧ m "dip" = some (.int (dip : Nat) td) ∧ m "rule" = some (.ref rl) := ⟨_, hns, rfl, rfl, rfl, rfl, rfl⟩
  have F := enter0 hg hH hL hm hk
  clear hns hm hk
  have Rd : ∀ env, Room (A.deeper env) 3 29 := fun env => R.deeper env
  walk_at "go"
  refine law_walk W ((Rd _).le (by decide) (by decide)) (by exact F.keep) (by exact F.top) ⟨ol, lits, l1, l2, l3⟩ ndL (by lia) (by lia) fun un g2 h2 tk2 R2 u2 => ?_
  have F2 := F.back R2
  walk_at "go"
  rename Fx _ _ _ _ _ _ _ => F3
  refine law_walk W ((Rd _).le (by decide) (by decide)) (by exact F3.keep) (by exact F3.top) ⟨oh, hits, R2.mono _ _ r1, r2, r3.mono fun v x q => q.mono R2.mono⟩ ndH (by lia) (by lia) fun ov' g4 h4' tk4 R4 u4 => ?_
  have F4 := F3.back R4
  have g14 : ∀ a o, g a = some o → g4 a = some o := fun a o q => R4.mono _ _ (R2.mono _ _ q)
  obtain ⟨ou, uits, u21, u22, u23⟩ := u2.mono R4.mono
  obtain ⟨oo, oits, u41, u42, u43⟩ := u4
  walk_at "go"
  have htop : top ≤ LE.length := by have := run.al _ run.le; rw [run.atop] at this; exact this
  have hdip : dip ≤ HE.length := by have := run.bl _ run.le; rw [run.adip] at this; exact this
  rename Fx _ _ _ _ _ _ _ => F5
  refine r_item (by exact F5.keep _ _ u21) u22 u23 (by lia) (sums_get htop) fun v1 c1 => ?_
  walk_at "go"
  refine r_item (by exact F5.keep _ _ u41) u42 u43 (by lia) (sums_get hdip) fun v2 c2 => ?_
  walk_at "go"
  refine add_func_stats W ((Rd _).le (by decide) (by decide)) (by exact F5.keep) (by exact F5.top) c1 c2 (apart_psum nd _ _) (by have := psum_len LE top; have := psum_len HE dip; lia) fun vk g6 h6 tk6 R6 c6 => ?_
  have F6 := F5.back R6
  walk_at "go"
  rename Fx _ _ _ _ _ _ _ => F7
  refine r_list F7 (by simp) fun D oD h8 offD hszD lD F8 => ?_
  walk_at "go"
  refine r_tuple F8 (by simp) fun T oT h9 offT hszT tT F9 hm9 hk9 => ?_
  walk_at "go"
  refine r_unpackI (by exact R.handled) F9 (tT.isTup (F9.keep _ _ (up_self _ _ _))) (by with_unfolding_all rfl) fun h10 F10 _ => ?_
  try dsimp only [List.toArray, Array.toList]
  walk_at "go"
  rename Fx _ _ _ _ _ _ _ => F11
  have g16 : ∀ a o, g4 a = some o → up g6 T oT a = some o := fun a o q => hm9 _ _ (R6.mono _ _ q)
  have ck : IsEn prog w (up g6 T oT) vk (addE (psum LE top) (psum HE dip)) := IsEn.mono hm9 c6
  generalize up g6 T oT = g7 at F11 g16 ck hm9
  have ab0 : fa 0 = 0 ∧ fb 0 = 0 := by have := run.ab 0 (Nat.zero_le _); lia
  have hle := run.le
  have tc1 : IsTC g7 rl p := tc.mono fun a o q => g16 _ _ (g14 _ _ q)
  have pk1 : IsPk g7 p ps := pk.mono fun a o q => g16 _ _ (g14 _ _ q)
  have b1 := g16 _ _ u21
  have b2 := g16 _ _ u41
  have b3 := g16 _ _ (g14 _ _ l1)
  have b4 := g16 _ _ (g14 _ _ r1)
  have n3 := u23.mono fun v x q => IsEn.mono g16 q
  have n4 := u43.mono fun v x q => IsEn.mono g16 q
  refine fx_while (fun n s => Ex7 fun i h tk g' m o its => And18 (n = (top + dip) - i) (i ≤ top + dip) (s = ⟨h, gn, dr, tk, os⟩) (Fx H (ent0 g h0) g' (up none' D o) L h m) ((∀ a o, g7 a = some o → g' a = some o)) ((∃ t, m "a" = some (.int (fa i : Nat) t))) ((∃ t, m "b" = some (.int (fb i : Nat) t))) (m "front" = some (.ref D)) (m "low" = some (.ref lw)) (m "high" = some (.ref hi)) (m "top" = some (.int (top : Nat) tt)) (m "dip" = some (.int (dip : Nat) td)) (m "rule" = some (.ref rl)) (m "under" = some (.ref un)) (m "over" = some (.ref ov')) (m "peak" = some vk) (IsL o its) (its.toList = X.take i)) (top + dip)
    ⟨0, _, _, g7, _, oD, _, rfl, Nat.zero_le _, rfl, F11, fun _ _ q => q, ⟨_, by rw [ab0.1]; exact lk_eq⟩, ⟨_, by rw [ab0.2]; refine lk_ne (by decide) ?_; exact lk_eq⟩, by walk_at "lk", by walk_at "lk", by walk_at "lk", by walk_at "lk", by walk_at "lk", by walk_at "lk", by walk_at "lk", by walk_at "lk", by walk_at "lk", lD, by simp⟩ ?_
  rintro n s ⟨i, h, tk, g', m, o, its, rfl, hi', rfl, F12, hmg, ⟨ta, ma⟩, ⟨tb, mb⟩, mf, ml, mh, mt, md, mr, mu, mo, mp, hl, hXi⟩
  have hab := run.ab i (by lia)
  by_cases hlt : i < top + dip
  · have hal := run.al i (by lia)
    have hbl := run.bl i (by lia)
    walk_at "go"
    refine m_compare W F12 (by exact tc1.mono hmg) ?_
    walk_at "go"
    refine r_item (by exact F12.keep _ _ (hmg _ _ b1)) u22 (n3.mono fun v x q => IsEn.mono hmg q) (by lia) (sums_get hal) fun v1 c1 => ?_
    walk_at "go"
    refine r_item (by exact F12.keep _ _ (hmg _ _ b2)) u42 (n4.mono fun v x q => IsEn.mono hmg q) (by lia) (sums_get hbl) fun v2 c2 => ?_
    walk_at "go"
    refine add_func_stats W ((Rd _).le (by decide) (by decide)) (by exact F12.keep) (by exact F12.top) c1 c2 (apart_psum nd _ _) (by have := psum_len LE (fa i); have := psum_len HE (fb i); lia) fun v13 g13 h13 tk13 R13 c13 => ?_
    have F13 := F12.back R13
    have hmg13 : ∀ a o, g7 a = some o → g13 a = some o := fun a o q => R13.mono _ _ (hmg _ _ q)
    walk_at "go"
    refine compare W ((Rd _).le (by decide) (by decide)) (by exact F13.keep) (by exact F13.top) (tc1.mono hmg13) (pk1.mono hmg13) c13 (ck.mono hmg13) h4 fun t14 h14 tk14 R14 => ?_
    have F14 := F13.back R14
    obtain ⟨hf1, hf2⟩ := run.fwd i hlt
    have hXlt : i < X.length := by lia
    have hXe : X[i]? = some X[i] := List.getElem?_eq_getElem hXlt
    have htk : X.take (i + 1) = X.take i ++ [X[i]] := by rw [List.take_add_one, hXe]; rfl
    have hits' : its.size = i := by rw [← Array.length_toList, hXi, List.length_take]; lia
    have eadd : addE (psum LE (fa i)) (psum HE (fb i)) = ⟨(psum HE (fb i)).cc + (psum LE (fa i)).cc, (psum HE (fb i)).nc + (psum LE (fa i)).nc, (psum HE (fb i)).tt + (psum LE (fa i)).tt, (psum HE (fb i)).ct + (psum LE (fa i)).ct, (psum LE (fa i)).ks ++ (psum HE (fb i)).ks⟩ := rfl
    rw [← eadd]
    generalize cmp ps (addE (psum LE (fa i)) (psum HE (fb i))) (addE (psum LE top) (psum HE dip)) = cv at hf1 hf2 ⊢
    by_cases hc : cv < 0
    · obtain ⟨e1, e2, e3, e4⟩ := hf1 hc
      walk_at "go"
      refine l_method (by exact F14.ours _ _ (up_self _ _ _)) hl PySem.F.slot_list_append PySem.F.type_list_append ?_
      walk_at "go"
      refine l_item (by exact F14.keep _ _ (hmg13 _ _ b3)) l2 (by exact Int.natCast_nonneg _) (by lia) (by rw [Int.toNat_natCast]; exact e4.trans hXe) ?_
      walk_at "go"
      refine r_append F14 hl (by lia) fun h15 tk15 o15 hl15 F15 => ?_
      walk_at "go"
      rename Fx _ _ _ _ _ _ _ => F16
      have en : ((fa i : Nat) : Int) + 1 = ((fa (i + 1) : Nat) : Int) := by rw [e1]; rfl
      rw [en] at F16
      refine ⟨top + dip - (i + 1), by lia, i + 1, _, _, _, _, o15, _, rfl, hlt, rfl, F16, hmg13, ⟨_, by walk_at "lk"⟩, ⟨tb, by rw [e2]; walk_at "lk"⟩, by walk_at "lk", by walk_at "lk", by walk_at "lk", by walk_at "lk", by walk_at "lk", by walk_at "lk", by walk_at "lk", by walk_at "lk", by walk_at "lk", hl15, ?_⟩
      rw [Array.toList_push, hXi, htk]
    · obtain ⟨e1, e2, e3, e4⟩ := hf2 hc
      walk_at "go"
      refine l_method (by exact F14.ours _ _ (up_self _ _ _)) hl PySem.F.slot_list_append PySem.F.type_list_append ?_
      walk_at "go"
      refine l_item (by exact F14.keep _ _ (hmg13 _ _ b4)) r2 (by exact Int.natCast_nonneg _) (by lia) (by rw [Int.toNat_natCast]; exact e4.trans hXe) ?_
      walk_at "go"
      refine r_append F14 hl (by lia) fun h15 tk15 o15 hl15 F15 => ?_
      walk_at "go"
      rename Fx _ _ _ _ _ _ _ => F16
      have en : ((fb i : Nat) : Int) + 1 = ((fb (i + 1) : Nat) : Int) := by rw [e1]; rfl
      rw [en] at F16
      refine ⟨top + dip - (i + 1), by lia, i + 1, _, _, _, _, o15, _, rfl, hlt, rfl, F16, hmg13, ⟨ta, by rw [e2]; walk_at "lk"⟩, ⟨_, by walk_at "lk"⟩, by walk_at "lk", by walk_at "lk", by walk_at "lk", by walk_at "lk", by walk_at "lk", by walk_at "lk", by walk_at "lk", by walk_at "lk", by walk_at "lk", hl15, ?_⟩
      rw [Array.toList_push, hXi, htk]
  · have hip : i = top + dip := by lia
    subst hip
    walk_at "go"
    have hl2z : lits.size ≤ 1000 := by rw [l3.1]; lia
    have hr2z : hits.size ≤ 1000 := by rw [r3.1]; lia
    refine r_len (by exact F12.keep _ _ (hmg _ _ b3)) l2 (by lia) fun t13 tk13 => ?_
    walk_at "go"
    refine r_len (by exact F12.keep _ _ (hmg _ _ b4)) r2 (by lia) fun t14 tk14 => ?_
    walk_at "go"
    refine r_listK F12 (by simp) fun D2 oD2 h15 offD2 hszD2 lD2 F15 hk15 => ?_
    have hDD2 : D2 ≠ D := fun x => by have := offD2.m; rw [x, up_self] at this; cases this
    walk_at "go"
    refine r_tuple F15 (by simp) fun T2 oT2 h16 offT2 hszT2 tT2 F16 hm16 hk16 => ?_
    walk_at "go"
    refine r_unpackI (by exact R.handled) F16 (tT2.isTup (F16.keep _ _ (up_self _ _ _))) (by with_unfolding_all rfl) fun h17 F17 _ => ?_
    try dsimp only [List.toArray, Array.toList]
    walk_at "go"
    rename Fx _ _ _ _ _ _ _ => F18
    rw [l3.1, r3.1] at F18
    have hmg16 : ∀ a o, g7 a = some o → up g' T2 oT2 a = some o := fun a o q => hm16 _ _ (hmg _ _ q)
    generalize up g' T2 oT2 = g18 at F18 hmg16
    have hXn : X.length = LE.length + HE.length := hLH.symm
    refine fx_while (fun n s => Ex7 fun i h tk g' m o' its' => And20 (n = i - (top + dip)) (top + dip ≤ i) (i ≤ X.length) (s = ⟨h, gn, dr, tk, os⟩) (Fx H (ent0 g h0) g' (up (up none' D o) D2 o') L h m) ((∀ a o, g7 a = some o → g' a = some o)) ((∃ t, m "a" = some (.int (fa i : Nat) t))) ((∃ t, m "b" = some (.int (fb i : Nat) t))) (m "front" = some (.ref D)) (m "behind" = some (.ref D2)) (m "low" = some (.ref lw)) (m "high" = some (.ref hi)) (m "top" = some (.int (top : Nat) tt)) (m "dip" = some (.int (dip : Nat) td)) (m "rule" = some (.ref rl)) (m "under" = some (.ref un)) (m "over" = some (.ref ov')) (m "peak" = some vk) (IsL o' its') (its'.toList = (X.drop i).reverse)) (X.length - (top + dip))
      ⟨X.length, _, _, g18, _, oD2, _, rfl, hle, Nat.le_refl _, rfl, F18, hmg16, ⟨_, by rw [run.aN]; walk_at "lk"⟩, ⟨_, by rw [run.bN]; walk_at "lk"⟩, by walk_at "lk", by walk_at "lk", by walk_at "lk", by walk_at "lk", by walk_at "lk", by walk_at "lk", by walk_at "lk", by walk_at "lk", by walk_at "lk", by walk_at "lk", lD2, by simp⟩ ?_
    rintro n s ⟨j, h, tk, g19, m, o', its', rfl, hj1, hj2, rfl, F19, hmg, ⟨ta, ma⟩, ⟨tb, mb⟩, mf, mbe, ml, mh, mt, md, mr, mu, mo, mp, hl', hXj⟩
    have hab := run.ab j hj2
    by_cases hlt : top + dip < j
    · obtain ⟨i, rfl⟩ : ∃ i, j = i + 1 := ⟨j - 1, by lia⟩
      have hal := run.al (i + 1) hj2
      have hbl := run.bl (i + 1) hj2
      walk_at "go"
      refine m_compare W F19 (by exact tc1.mono hmg) ?_
      walk_at "go"
      refine r_item (by exact F19.keep _ _ (hmg _ _ b1)) u22 (n3.mono fun v x q => IsEn.mono hmg q) (by lia) (sums_get hal) fun v1 c1 => ?_
      walk_at "go"
      refine r_item (by exact F19.keep _ _ (hmg _ _ b2)) u42 (n4.mono fun v x q => IsEn.mono hmg q) (by lia) (sums_get hbl) fun v2 c2 => ?_
      walk_at "go"
      refine add_func_stats W ((Rd _).le (by decide) (by decide)) (by exact F19.keep) (by exact F19.top) c1 c2 (apart_psum nd _ _) (by have := psum_len LE (fa (i + 1)); have := psum_len HE (fb (i + 1)); lia) fun v13 g13 h13 tk13 R13 c13 => ?_
      have F20 := F19.back R13
      have hmg13 : ∀ a o, g7 a = some o → g13 a = some o := fun a o q => R13.mono _ _ (hmg _ _ q)
      walk_at "go"
      refine compare W ((Rd _).le (by decide) (by decide)) (by exact F20.keep) (by exact F20.top) (tc1.mono hmg13) (pk1.mono hmg13) c13 (ck.mono hmg13) h4 fun t14 h14 tk14 R14 => ?_
      have F21 := F20.back R14
      obtain ⟨hf1, hf2⟩ := run.bwd i (by lia) hj2
      have hXe : X[i]? = some X[i] := List.getElem?_eq_getElem hj2
      have hdr : (X.drop i).reverse = (X.drop (i + 1)).reverse ++ [X[i]] := by rw [List.drop_eq_getElem_cons hj2, List.reverse_cons]
      have hits' : its'.size = X.length - (i + 1) := by rw [← Array.length_toList, hXj, List.length_reverse, List.length_drop]
      have eadd : addE (psum LE (fa (i + 1))) (psum HE (fb (i + 1))) = ⟨(psum HE (fb (i + 1))).cc + (psum LE (fa (i + 1))).cc, (psum HE (fb (i + 1))).nc + (psum LE (fa (i + 1))).nc, (psum HE (fb (i + 1))).tt + (psum LE (fa (i + 1))).tt, (psum HE (fb (i + 1))).ct + (psum LE (fa (i + 1))).ct, (psum LE (fa (i + 1))).ks ++ (psum HE (fb (i + 1))).ks⟩ := rfl
      rw [← eadd]
      generalize cmp ps (addE (psum LE (fa (i + 1))) (psum HE (fb (i + 1)))) (addE (psum LE top) (psum HE dip)) = cv at hf1 hf2 ⊢
      by_cases hc : cv < 0
      · obtain ⟨e1, e2, e3, e4⟩ := hf1 hc
        walk_at "go"
        rename Fx _ _ _ _ _ _ _ => F22
        have en : ((fa (i + 1) : Nat) : Int) - 1 = ((fa i : Nat) : Int) := by rw [e1]; lia
        rw [en] at F22
        refine l_method (by exact F22.ours _ _ (up_self _ _ _)) hl' PySem.F.slot_list_append PySem.F.type_list_append ?_
        walk_at "go"
        refine l_item (by exact F22.keep _ _ (hmg13 _ _ b3)) l2 (by exact Int.natCast_nonneg _) (by lia) (by rw [Int.toNat_natCast]; exact e4.trans hXe) ?_
        walk_at "go"
        refine r_append F22 hl' (by lia) fun h15 tk15 o15 hl15 F23 => ?_
        walk_at "go"
        refine ⟨i - (top + dip), by lia, i, _, _, _, _, o15, _, rfl, by lia, by lia, rfl, F23, hmg13, ⟨_, by walk_at "lk"⟩, ⟨tb, by rw [← e2]; walk_at "lk"⟩, by walk_at "lk", by walk_at "lk", by walk_at "lk", by walk_at "lk", by walk_at "lk", by walk_at "lk", by walk_at "lk", by walk_at "lk", by walk_at "lk", by walk_at "lk", hl15, ?_⟩
        rw [Array.toList_push, hXj, hdr]
      · obtain ⟨e1, e2, e3, e4⟩ := hf2 hc
        walk_at "go"
        rename Fx _ _ _ _ _ _ _ => F22
        have en : ((fb (i + 1) : Nat) : Int) - 1 = ((fb i : Nat) : Int) := by rw [e1]; lia
        rw [en] at F22
        refine l_method (by exact F22.ours _ _ (up_self _ _ _)) hl' PySem.F.slot_list_append PySem.F.type_list_append ?_
        walk_at "go"
        refine l_item (by exact F22.keep _ _ (hmg13 _ _ b4)) r2 (by exact Int.natCast_nonneg _) (by lia) (by rw [Int.toNat_natCast]; exact e4.trans hXe) ?_
        walk_at "go"
        refine r_append F22 hl' (by lia) fun h15 tk15 o15 hl15 F23 => ?_
        walk_at "go"
        refine ⟨i - (top + dip), by lia, i, _, _, _, _, o15, _, rfl, by lia, by lia, rfl, F23, hmg13, ⟨ta, by rw [← e2]; walk_at "lk"⟩, ⟨_, by walk_at "lk"⟩, by walk_at "lk", by walk_at "lk", by walk_at "lk", by walk_at "lk", by walk_at "lk", by walk_at "lk", by walk_at "lk", by walk_at "lk", by walk_at "lk", by walk_at "lk", hl15, ?_⟩
        rw [Array.toList_push, hXj, hdr]
    · have hip : j = top + dip := by lia
      subst hip
      walk_at "go"
      have F20 := F19.push { cls := .type "slice", data := .fields #[.none, .none, .int (-1) ‹Tok›] }
      have his : its.size ≤ 100 := by rw [← Array.length_toList, hXi, List.length_take]; lia
      have his' : its'.size ≤ 100 := by rw [← Array.length_toList, hXj, List.length_reverse, List.length_drop]; lia
      refine r_rev F20 (by exact F20.ours _ _ (up_self _ _ _)) hl' (Heap.get?_push_size _ rfl) (by lia) (fun D3 o3 h21 l3' hsz3 off3 F21 => ?_)
      have hD3 : D ≠ D3 := fun x => by have := off3.m; rw [← x, up_ne _ _ hDD2.symm, up_self] at this; cases this
      refine r_addlists F21 (F21.ours D o ((up_ne _ _ hD3).trans ((up_ne _ _ hDD2.symm).trans (up_self _ _ _)))) hl (F21.ours D3 o3 (up_self _ _ _)) l3' (by simp only [List.size_toArray, List.length_reverse, Array.length_toList]; lia) fun D4 o4 h22 l4 hsz4 off4 F22 => ?_
      try dsimp only
      have F23 := F22.freeze (up_self _ _ _) off4.al
      refine ret D4 o4 _ _ _ _ F23.end0 (up_self _ _ _) l4 ?_
      rw [Array.toList_append, hXi, hXj]
      simp


end
section
open PySem PySem.W PySem.Calls PyProof.Rows
set_option Elab.async false
set_option maxRecDepth 100000
set_option linter.unusedVariables false

section
variable {prog : Program} {w : World} {A : Around} {E : Value → Shared → Prop} {s : Shared} {g : G}
/-- two values are equal, in this program -/
def EqT (prog : Program) (w : World) (A : Around) (s : Shared) (x y : Value) : Prop := ∀ (E : Value → Shared → Prop) (Q : Bool → Shared → Prop), Q true s → wpAny (model prog w) A (eqBool x y) Q E s
theorem EqT.int (i : Int) (t u : Tok) : EqT prog w A s (.int i t) (.int i u) := fun E Q h => wpAny_eqBool_int (by rw [beq_self_eq_true]; exact h)
theorem EqT.of_in1 {x y : Value} (h : EqT prog w A.in1 s x y) : EqT prog w A s x y := fun E Q q => wpAny_of_in1 (h E Q q)
theorem eqAt_int (i j : Int) (t u : Tok) : SeqAt.EqAt A s (.int i t) (.int j u) (i == j) := fun prog w E Q h => wpAny_eqBool_int h

theorem tuple_ne_tree {a b : Addr} {oa ob : Obj} {xs ys : Array Value} {P : Fin → Shared → Prop} (ha : s.heap.get? a = some oa) (hb : s.heap.get? b = some ob) (ta : IsT oa xs) (tb : IsT ob ys) (hsz : xs.size = ys.size)
    (he : ∀ p ∈ List.zip xs.toList ys.toList, EqT prog w A s p.1 p.2) (h : P (.done (.ret (.bool false))) s) :
    wpAny (model prog w) A (Builtin.«tuple.__ne__» ⟨[.ref a, .ref b], []⟩) P E s := by
  have hTb := (tb.isTup hb).typeIs
  obtain ⟨_, na, hda⟩ := ta
  obtain ⟨_, nb, hdb⟩ := tb
  show wpAny _ _ (isInstance (.ref b) (.type "tuple") >>= _) _ _ s
  refine wpAny_bind (wpAny_isInstance hTb isSubtype_tuple_tuple ?_)
  simp only [Bool.not_true, Bool.false_eq_true, if_false]
  refine wpAny_bind (wpAny_tupleItemsOf ha hda ?_)
  refine wpAny_bind (wpAny_tupleItemsOf hb hdb ?_)
  refine wpAny_bind ?_
  refine wpAny_forIn_list _ (fun rest r s' => And3 (r.1 = none) (s' = s) (∀ p ∈ rest, EqT prog w A s p.1 p.2)) _ ?_ ?_ _ _ ⟨rfl, rfl, he⟩
  · rintro ⟨u, v⟩ rest r s' ⟨hr, rfl, hp⟩
    refine wpAny_bind (hp _ (List.mem_cons_self ..) _ _ ?_)
    simp only [Bool.not_true, Bool.false_eq_true, if_false]
    exact wpAny_pure ⟨rfl, rfl, fun p hp' => hp p (List.mem_cons_of_mem _ hp')⟩
  · rintro ⟨r1, r2⟩ s' ⟨hr, rfl, _⟩
    simp only at hr
    subst hr
    refine wpAny_pure ?_
    have e : Builtin.Tuple.tupleCompareSizes .NotEq xs.size ys.size = .bool false := by rw [hsz]; simp [Builtin.Tuple.tupleCompareSizes]
    rw [e]
    exact h
theorem tuple_ne {a b : Addr} {oa ob : Obj} {xs ys : Array Value} {Q : Value → Shared → Prop} (hu : A.units < cLine) (ha : s.heap.get? a = some oa) (hb : s.heap.get? b = some ob) (ta : IsT oa xs) (tb : IsT ob ys) (hsz : xs.size = ys.size)
    (he : ∀ p ∈ List.zip xs.toList ys.toList, EqT prog w A.in1 s p.1 p.2) (h : Q (.bool false) s) : wpAny (model prog w) A (compareOp .NotEq (.ref a) (.ref b)) Q E s := by
  refine (wpAny_richCompare_same_room (ta.isTup ha).typeIs (tb.isTup hb).typeIs PySem.F.slot_tuple_ne ?_ hu : wpAny (model prog w) A (richCompare .NotEq (.ref a) (.ref b)) Q E s)
  refine wpAny_call_entry PySem.F.slot_tuple_ne (ta.isTup ha).typeIs PySem.F.entry_tuple_ne ?_ (PySem.F.args_tuple_ne_2 _ _)
  exact tuple_ne_tree ha hb ta tb hsz he ⟨_, rfl, (by intro x; cases x), h⟩
theorem Ints.zip {vs us : List Value} {ns : List Int} (h : Ints vs ns) (k : Ints us ns) : ∀ p ∈ List.zip vs us, EqT prog w A s p.1 p.2 := by
  induction h generalizing us with
  | nil => intro p hp; simp at hp
  | @cons i t vs' ns' _ ih =>
    cases k with
    | @cons _ u us' _ k' =>
      intro p hp
      rw [List.zip_cons_cons] at hp
      rcases List.mem_cons.mp hp with rfl | hp
      · exact EqT.int i t u
      · exact ih k' p hp
/-- marks that are equal -/
theorem mk_ne {v u : Value} {x : Mk} {Q : Value → Shared → Prop} (hu : A.units < cLine) (hg : Sub g s.heap) (h1 : IsMk g v x) (h2 : IsMk g u x) (h : Q (.bool false) s) : wpAny (model prog w) A (compareOp .NotEq v u) Q E s := by
  obtain ⟨a, oa, xs, rfl, ha, ta, ia⟩ := h1
  obtain ⟨b, ob, ys, rfl, hb, tb, ib⟩ := h2
  exact tuple_ne hu (hg _ _ ha) (hg _ _ hb) ta tb (by have := ia.length; have := ib.length; simp only [Array.length_toList] at *; lia) (ia.zip ib) h
/-- dicts with the same keys -/
theorem cal_eq {d d' : Addr} {ks ks' : List Int} (hu : A.units < cLine) (hg : Sub g s.heap) (c1 : IsCal prog w g d ks) (c2 : IsCal prog w g d' ks') (hl : ks.length = ks'.length) (hs : ∀ k ∈ ks, k ∈ ks') : EqT prog w A s (.ref d) (.ref d') := by
  intro E Q hq
  unfold eqBool
  refine wpAny_holding ?_
  refine wpAny_ite_split (fun _ => wpAny_bind (wpAny_rule (wpAny_pure hq))) (fun _ => ?_)
  obtain ⟨o1, v1, p1, p2, p3, p4, p5⟩ := c1
  obtain ⟨o2, v2, q1, q2, q3, q4, q5⟩ := c2
  refine wpAny_bind (keq_eq (r := true) p5 q5 (d_of (hg _ _ p1) p2) (d_of (hg _ _ q1) q2) hu (fun hlen => ?_) ?_ : wpAny (model prog w) A (richCompare .Eq (.ref d) (.ref d')) _ E s)
  · have hs' : ∀ p ∈ v1, ∃ y ∈ v2, y.1 = p.1 := fun p hp => by
      have := hs p.1 (by rw [← p3]; exact List.mem_map_of_mem hp)
      rw [← q3] at this
      obtain ⟨y, hy, e⟩ := List.mem_map.mp this
      exact ⟨y, hy, e⟩
    clear p2 p3 hlen
    induction v1 with
    | nil => exact .nil
    | cons p r ih =>
      obtain ⟨k, v⟩ := p
      have hr := ih (fun p hp => p4 p (List.mem_cons_of_mem _ hp)) fun p hp => hs' p (List.mem_cons_of_mem _ hp)
      obtain ⟨t, ht⟩ := p4 _ (List.mem_cons_self ..)
      obtain ⟨y, hy, ey⟩ := hs' _ (List.mem_cons_self ..)
      have hv : ∃ y', valueAt v2 k = some y' ∧ ∃ t, y' = Value.int 1 t := by
        unfold valueAt
        cases hf : v2.find? (fun x => x.1 == k) with
        | none =>
          have := List.find?_eq_none.mp hf y hy
          simp [ey] at this
        | some z => exact ⟨z.2, by simp, q4 z (List.mem_of_find?_eq_some hf)⟩
      obtain ⟨y', hv', u, rfl⟩ := hv
      simp only at ht
      subst ht
      have := KeqHits.hit (A := A.in1) (s := s) hv' (eqAt_int 1 1 t u) hr
      simpa using this
  · have e1 : v1.length = v2.length := by rw [← List.length_map (f := (·.1)) (as := v1), p3, hl, ← q3, List.length_map]
    rw [e1]
    simp only [beq_self_eq_true, Bool.and_self]
    exact wpAny_truthy_bool hq
/-- entries that are equal -/
theorem en_ne {v u : Value} {x y : En} {Q : Value → Shared → Prop} (hu : A.units + 2 < cLine) (hg : Sub g s.heap) (h1 : IsEn prog w g v x) (h2 : IsEn prog w g u y) (e1 : x.cc = y.cc) (e2 : x.nc = y.nc) (e3 : x.tt = y.tt) (e4 : x.ct = y.ct)
    (hl : x.ks.length = y.ks.length) (hs : ∀ k ∈ x.ks, k ∈ y.ks) (h : Q (.bool false) s) : wpAny (model prog w) A (compareOp .NotEq v u) Q E s := by
  obtain ⟨a, oa, d, t0, t1, t2, t3, rfl, ha, ta, ca⟩ := h1
  obtain ⟨b, ob, d', u0, u1, u2, u3, rfl, hb, tb, cb⟩ := h2
  refine tuple_ne (by lia) (hg _ _ ha) (hg _ _ hb) ta tb rfl ?_ h
  intro p hp
  simp only [List.zip_cons_cons, List.zip_nil_left, List.mem_cons, List.not_mem_nil, or_false] at hp
  rcases hp with rfl | rfl | rfl | rfl | rfl
  · rw [e1]; exact EqT.int _ _ _
  · rw [e2]; exact EqT.int _ _ _
  · rw [e3]; exact EqT.int _ _ _
  · rw [e4]; exact EqT.int _ _ _
  · exact cal_eq (by show A.units + 1 < _; lia) hg ca cb hl hs
/-- a list of ints -/
def IsI (v : Value) (x : Int) : Prop := ∃ t, v = Value.int x t
theorem ints_eqAt {xs ys : Array Value} {ns : List Int} (h1 : Al IsI xs ns) (h2 : Al IsI ys ns) : ∀ j (hj1 : j < xs.size) (hj2 : j < ys.size), SeqAt.EqAt A s xs[j] ys[j] true := by
  intro j hj1 hj2
  have hj : j < ns.length := by rw [← h1.1]; exact hj1
  obtain ⟨v, hv, t, rfl⟩ := h1.2 j _ (List.getElem?_eq_getElem hj)
  obtain ⟨u, hu, t', rfl⟩ := h2.2 j _ (List.getElem?_eq_getElem hj)
  rw [Array.getElem?_eq_getElem hj1] at hv
  rw [Array.getElem?_eq_getElem hj2] at hu
  rw [Option.some.inj hv, Option.some.inj hu]
  have := eqAt_int (A := A) (s := s) ns[j] ns[j] t t'
  rw [beq_self_eq_true] at this
  exact this
theorem ints_ne {l b : Addr} {o1 o2 : Obj} {xs ys : Array Value} {ns : List Int} {Q : Value → Shared → Prop} (hu : A.units < cLine) (ho1 : s.heap.get? l = some o1) (l1 : IsL o1 xs) (ho2 : s.heap.get? b = some o2) (l2 : IsL o2 ys) (h1 : Al IsI xs ns) (h2 : Al IsI ys ns)
    (h : Q (.bool false) s) : wpAny (model prog w) A (compareOp .NotEq (.ref l) (.ref b)) Q E s := by
  have := SeqAt.RcNeAt.lists (A := A) (s := s) (e := fun _ => true) (l1.isList ho1) (l2.isList ho2) (by rw [h1.1, h2.1]) hu (ints_eqAt h1 h2)
  refine (this prog w E Q ?_ : wpAny (model prog w) A (richCompare .NotEq (.ref l) (.ref b)) Q E s)
  have e : (List.range xs.size).all (fun _ => true) = true := List.all_eq_true.mpr fun _ _ => rfl
  rw [e]; exact h
/-- lists of the same values -/
theorem list_eq_same {l b : Addr} {o1 o2 : Obj} {xs : Array Value} {Q : Value → Shared → Prop} (hu : A.units < cLine) (ho1 : s.heap.get? l = some o1) (l1 : IsL o1 xs) (ho2 : s.heap.get? b = some o2) (l2 : IsL o2 xs)
    (h : Q (.bool true) s) : wpAny (model prog w) A (compareOp .Eq (.ref l) (.ref b)) Q E s := by
  refine SeqAt.eq_listAt (e := fun _ => true) (l1.isList ho1) (l2.isList ho2) rfl hu (fun j h1 h2 => SeqAt.EqAt.same _) ?_
  have e : (List.range xs.size).all (fun _ => true) = true := List.all_eq_true.mpr fun _ _ => rfl
  rw [e]; exact h
/-- l.index(k) -/
theorem r_index {l : Addr} {o : Obj} {its : Array Value} {ns : List Int} {k : Int} {t : Tok} {p : Nat} {Q : Value → Shared → Prop} (ho : s.heap.get? l = some o) (hl : IsL o its) (hal : Al IsI its ns) (hp : ns[p]? = some k) (hno : ∀ i, i < p → ns[i]? ≠ some k) (hz : ns.length ≤ 1000)
    (h : ∀ t tk', Q (.int (p : Nat) t) { s with toks := tk' }) : wpAny (model prog w) A (call (.builtin "list.index") [.ref l, .int k t]) Q E s := by
  obtain ⟨n, rfl⟩ := hl
  have hpl : p < ns.length := (List.getElem?_eq_some_iff.mp hp).1
  have hps : p < its.size := by rw [hal.1]; exact hpl
  have gi : ∀ (j : Nat) (hj : j < its.size), ∃ x t, ns[j]? = some x ∧ its[j] = Value.int x t := fun j hj => by
    have hj' : j < ns.length := by rw [← hal.1]; exact hj
    obtain ⟨v, hv, t, rfl⟩ := hal.2 j _ (List.getElem?_eq_getElem hj')
    rw [Array.getElem?_eq_getElem hj] at hv
    exact ⟨_, t, List.getElem?_eq_getElem hj', Option.some.inj hv⟩
  refine call_meets PySem.F.slot_list_index ⟨_, ho, rfl⟩ PySem.F.entry_list_index (PySem.F.args_list_index_2 _ _)
    (SeqAt.list_indexAt l its n none #[] (.int k t) (fun y => match y with | .int i _ => i == k | _ => false) p hps (by lia) ?_ ?_) ⟨ho, fun y hy => ?_, h _ _⟩
  · obtain ⟨x, u, h1, h2⟩ := gi p hps
    rw [h2]; rw [hp] at h1; cases h1; simp
  · intro m hm hlt
    obtain ⟨x, u, h1, h2⟩ := gi m hm
    rw [h2]
    have := hno m hlt
    rw [h1] at this
    simpa using this
  · obtain ⟨j, hj, rfl⟩ := Array.mem_iff_getElem.mp hy
    obtain ⟨x, u, h1, h2⟩ := gi j hj
    rw [h2]
    exact eqAt_int x k u t
end


end
section
open PySem PySem.W PySem.Calls PyProof.Rows
set_option Elab.async false
set_option maxRecDepth 100000
set_option linter.unusedVariables false
set_option autoImplicit false

/-! the parting, plainly -/
def cnt (f : Nat → Bool) (i : Nat) : Nat := ((List.range i).filter f).length
def pickL {α : Type} (f : Nat → Bool) (xs : List α) (i : Nat) : List α := ((List.range i).filter f).filterMap (xs[·]?)
theorem cnt_succ (f : Nat → Bool) (i : Nat) : cnt f (i + 1) = cnt f i + (if f i = true then 1 else 0) := by
  unfold cnt; rw [List.range_succ, List.filter_append, List.length_append, List.filter_cons]; split <;> simp
theorem pickL_succ {α : Type} (f : Nat → Bool) (xs : List α) {i : Nat} {x : α} (h : xs[i]? = some x) : pickL f xs (i + 1) = pickL f xs i ++ (if f i = true then [x] else []) := by
  unfold pickL; rw [List.range_succ, List.filter_append, List.filterMap_append, List.filter_cons]; split <;> simp [h]
theorem length_pickL {α : Type} (f : Nat → Bool) (xs : List α) : ∀ {i : Nat}, i ≤ xs.length → (pickL f xs i).length = cnt f i
  | 0, _ => rfl
  | i + 1, h => by
    rw [pickL_succ f xs (List.getElem?_eq_getElem (by lia : i < xs.length)), cnt_succ, List.length_append, length_pickL f xs (by lia : i ≤ xs.length)]
    split <;> simp
theorem cnt_le (f : Nat → Bool) (i : Nat) : cnt f i ≤ i := by unfold cnt; exact Nat.le_trans (List.length_filter_le _ _) (by simp)
def isLow (ps : Pk) (SE : List En) (p i : Nat) : Bool := if i < p then decide (cmp ps (psum SE i) (psum SE p) < 0) else decide (cmp ps (psum SE (i + 1)) (psum SE p) < 0)
def isHigh (ps : Pk) (SE : List En) (p i : Nat) : Bool := !isLow ps SE p i
def lowE (ps : Pk) (SE : List En) (p : Nat) : List En := pickL (isLow ps SE p) SE SE.length
def highE (ps : Pk) (SE : List En) (p : Nat) : List En := pickL (isHigh ps SE p) SE SE.length
/-- all that `_law_parted` needs to answer True -/
structure Part (ps : Pk) (SE : List En) (RK : List Int) (p k : Nat) : Prop where
  hp : p ≤ SE.length
  hn : SE.length ≤ 50
  hk : RK[p]? = some (k : Int)
  first : ∀ i, i < p → RK[i]? ≠ some (k : Int)
  rlen : RK.length = SE.length + 1
  sgn : ∀ (i : Nat) (r : Int), RK[i]? = some r → cmp ps (psum SE i) (psum SE p) = (if (k : Int) < r then 1 else 0) - (if r < (k : Int) then 1 else 0)
  topm : ∃ mt, (hfy lgt ((sumsOf (lowE ps SE p)).length / 2) ((sumsOf (lowE ps SE p)).map (mkOf ps)))[0]? = some mt ∧ mt[3]? = some ((cnt (isLow ps SE p) p : Nat) : Int)
  dipm : ∃ mt, (hfy llt ((sumsOf (highE ps SE p)).length / 2) ((sumsOf (highE ps SE p)).map (mkOf ps)))[0]? = some mt ∧ mt[3]? = some ((cnt (isHigh ps SE p) p : Nat) : Int)
  kcnt : (psum (lowE ps SE p) (lowE ps SE p).length).ks.length = k
  ecc : (addE (psum (lowE ps SE p) (cnt (isLow ps SE p) p)) (psum (highE ps SE p) (cnt (isHigh ps SE p) p))).cc = (psum SE p).cc
  enc : (addE (psum (lowE ps SE p) (cnt (isLow ps SE p) p)) (psum (highE ps SE p) (cnt (isHigh ps SE p) p))).nc = (psum SE p).nc
  ett : (addE (psum (lowE ps SE p) (cnt (isLow ps SE p) p)) (psum (highE ps SE p) (cnt (isHigh ps SE p) p))).tt = (psum SE p).tt
  ect : (addE (psum (lowE ps SE p) (cnt (isLow ps SE p) p)) (psum (highE ps SE p) (cnt (isHigh ps SE p) p))).ct = (psum SE p).ct
  ekl : (addE (psum (lowE ps SE p) (cnt (isLow ps SE p) p)) (psum (highE ps SE p) (cnt (isHigh ps SE p) p))).ks.length = (psum SE p).ks.length
  eks : ∀ k ∈ (addE (psum (lowE ps SE p) (cnt (isLow ps SE p) p)) (psum (highE ps SE p) (cnt (isHigh ps SE p) p))).ks, k ∈ (psum SE p).ks
  run : ∀ (X : List Value) (lits hits : Array Value), X.length = SE.length → lits.toList = pickL (isLow ps SE p) X SE.length → hits.toList = pickL (isHigh ps SE p) X SE.length →
    Run ps (lowE ps SE p) (highE ps SE p) lits hits X (cnt (isLow ps SE p) p) (cnt (isHigh ps SE p) p) (cnt (isLow ps SE p)) (cnt (isHigh ps SE p))
  nd : (keysOf (lowE ps SE p ++ highE ps SE p)).Nodup
  kz : (keysOf (lowE ps SE p ++ highE ps SE p)).length ≤ 1000


end
section
open PySem PySem.W PySem.Calls PyProof.Rows
set_option Elab.async false
set_option maxRecDepth 100000
set_option maxHeartbeats 4000000
set_option linter.unusedVariables false



variable {w : World} {H : Heap} {mg mb : Str → Option Value} {prog : Program} {A : Around} {E : Value → Shared → Prop} {s : Shared} {g : G} {D : Addr} {o : Obj} {its : Array Value} {Q : Value → Shared → Prop}

section
variable {e : Ent} {g M : G} {L l x p : Addr} {m : Str → Option Value} {h : Heap}
theorem Fx.freezeU (F : Fx H e g (up M D o) L h m) (hM : M D = none) (hn : ¬ e.al D) : Fx H e (up g D o) M L h m ∧ (∀ a ob, g a = some ob → up g D o a = some ob) := by
  have F1 := F.freeze (up_self _ _ _) hn
  rw [up_dn, dn_of_none hM] at F1
  exact ⟨F1, F.up_mono (up_self _ _ _)⟩
end
theorem up_comm {M : G} {a b : Addr} {x y : Obj} (h : a ≠ b) : up (up M a x) b y = up (up M b y) a x := by
  funext c; simp only [up]
  by_cases h1 : c = a
  · subst h1; simp [h]
  · simp [h1]
theorem law_parted {st su rk pa : Addr} {k p : Nat} {tkk : Tok} {ost ork : Obj} {sits rits : Array Value} {SE : List En} {RK : List Int} {ps : Pk} (W : Wd w H mg mb) (R : Room A 7 80) (hg : Sub g s.heap) (hH : ∀ a o, H.get? a = some o → g a = some o)
    (s1 : g st = some ost) (s2 : IsL ost sits) (s3 : Al (IsEn prog w g) sits SE) (su1 : IsEL prog w g su (sumsOf SE)) (r1 : g rk = some ork) (r2 : IsL ork rits) (r3 : Al IsI rits RK) (pk : IsPk g pa ps) (h4 : ∀ q ∈ ps, q.1 < 4) (h1 : ∀ q ∈ ps, q.2 = 1 ∨ q.2 = -1) (hpz : ps.length ≤ 100)
    (P : Part ps SE RK p k) (ret : ∀ g' h' tk', Rt (fun _ => False) g s.heap g' h' → Q (.bool true) { s with heap := h', toks := tk' }) :
    wpAny (model prog w) A (call (.ref 163) [.ref st, .ref su, .ref rk, .int (k : Nat) tkk, .ref pa]) Q E s := by
  obtain ⟨h0, gn, dr, tk0, os⟩ := s
  walk_at "enterC"
  case hH => exact fun a o e => hg _ _ (hH _ _ e)
  case hr => exact R.d
  intro L h₁ tk hL hns hk hcl
  obtain ⟨c1, hc1, hd1⟩ := hcl "sums" (L + 1) rfl
  obtain ⟨c2, hc2, hd2⟩ := hcl "k" (L + 2) rfl
  obtain ⟨c3, hc3, hd3⟩ := hcl "picks" (L + 3) rfl
  obtain ⟨c4, hc4, hd4⟩ := hcl "rule" (L + 4) rfl
  obtain ⟨c5, hc5, hd5⟩ := hcl "place" (L + 5) rfl
  obtain ⟨m, hm, m1, m2⟩ : ∃ m, h₁.Ns L m ∧ m "steps" = some (.ref st) ∧ m "ranks" = some (.ref rk) := ⟨_, hns, by with_unfolding_all rfl, by with_unfolding_all rfl⟩
  have hd1' : c1.data = .cell (some (.ref su)) := hd1.trans (by with_unfolding_all rfl)
  have hd2' : c2.data = .cell (some (.int (k : Nat) tkk)) := hd2.trans (by with_unfolding_all rfl)
  have hd3' : c3.data = .cell (some (.ref pa)) := hd3.trans (by with_unfolding_all rfl)
  have hd4' : c4.data = .cell none := hd4.trans (by with_unfolding_all rfl)
  have hd5' : c5.data = .cell none := hd5.trans (by with_unfolding_all rfl)
  clear hcl hd1 hd2 hd3 hd4 hd5
  have F := enter0 hg hH hL hm hk
  clear hns hm hk
  have hLn : ∀ i, h0.objs.size ≤ L + i := fun i => Nat.le_trans hL (Nat.le_add_right _ _)
  have hLz : ∀ i, h0.get? (L + i) = none := fun i => none_of_ge (g := h0.get?) (fun _ _ q => q) (hLn i)
  have hLg : ∀ i, g (L + i) = none := fun i => none_of_ge hg (hLn i)
  have hLa : ∀ i, ¬ ∃ o, h0.get? (L + i) = some o := fun i ⟨o, q⟩ => by rw [hLz i] at q; cases q
  have hne : ∀ i, 0 < i → L + i ≠ L := fun i hi => Nat.ne_of_gt (Nat.lt_add_of_pos_right hi)
  have F1 := F.adopt (D := L + 5) (hne 5 (by decide)) (hLz 5) (hLg 5) hc5
  have F2 := F1.adopt (D := L + 4) (hne 4 (by decide)) (hLz 4) (hLg 4) hc4
  have F3 := F2.adopt (D := L + 3) (hne 3 (by decide)) (hLz 3) (hLg 3) hc3
  have F4 := F3.adopt (D := L + 2) (hne 2 (by decide)) (hLz 2) (hLg 2) hc2
  have F5 := F4.adopt (D := L + 1) (hne 1 (by decide)) (hLz 1) (hLg 1) hc1
  obtain ⟨F6, q6⟩ := F5.freezeU (by simp [up]) (hLa 1)
  obtain ⟨F7, q7⟩ := F6.freezeU (by simp [up]) (hLa 2)
  obtain ⟨F8, q8⟩ := F7.freezeU (by simp [up]) (hLa 3)
  have G1 : Gc (up (up (up g (L + 1) c1) (L + 2) c2) (L + 3) c3) (L + 1) (.ref su) := ⟨c1, by simp [up], hd1'⟩
  have G2 : Gc (up (up (up g (L + 1) c1) (L + 2) c2) (L + 3) c3) (L + 2) (.int (k : Nat) tkk) := ⟨c2, by simp [up], hd2'⟩
  have G3 : Gc (up (up (up g (L + 1) c1) (L + 2) c2) (L + 3) c3) (L + 3) (.ref pa) := ⟨c3, by simp [up], hd3'⟩
  have hgm : ∀ a o, g a = some o → up (up (up g (L + 1) c1) (L + 2) c2) (L + 3) c3 a = some o := fun a o q => q8 _ _ (q7 _ _ (q6 _ _ q))
  generalize up (up (up g (L + 1) c1) (L + 2) c2) (L + 3) c3 = g1 at F8 G1 G2 G3 hgm q8
  clear q6 q7 q8 F F1 F2 F3 F4 F5 F6 F7
  have Rd : ∀ env, Room (A.deeper env) 6 77 := fun env => R.deeper env
  walk_at "go"
  refine new_tc W ((Rd _).le (by decide) (by decide)) (by exact F8.keep) (by exact F8.top) fun x g9 h9 tk9 R9 tc9 => ?_
  have F9 := F8.back R9
  have G1' := G1.mono R9.mono
  have G2' := G2.mono R9.mono
  have G3' := G3.mono R9.mono
  walk_at "go"
  refine r_storeC (by with_unfolding_all rfl) (by with_unfolding_all rfl) F9 hd4' (fun h10 c4' hd4 F10 => ?_)
  obtain ⟨F11, q11⟩ := F10.freezeU (by simp [up]) (hLa 4)
  have G4 : Gc (up g9 (L + 4) c4') (L + 4) (.ref x) := ⟨c4', up_self _ _ _, hd4⟩
  have G1 := G1'.mono q11
  have G2 := G2'.mono q11
  have G3 := G3'.mono q11
  have tc11 := tc9.mono q11
  have hgm := fun a o q => q11 a o (R9.mono _ _ (hgm a o q))
  clear G1' G2' G3' F8 F9 F10
  generalize up g9 (L + 4) c4' = g11 at F11 G1 G2 G3 G4 tc11 hgm q11
  walk_at "go"
  refine l_method (by exact F11.keep _ _ (hgm _ _ r1)) r2 PySem.F.slot_list_index PySem.F.type_list_index ?_
  walk_at "go"
  refine r_index (by exact F11.keep _ _ (hgm _ _ r1)) r2 r3 P.hk P.first (by have := P.rlen; have := P.hn; lia) fun t12 tk12 => ?_
  try dsimp only
  walk_at "go"
  refine r_storeC (by with_unfolding_all rfl) (by with_unfolding_all rfl) F11 hd5' (fun h13 c5' hd5 F13 => ?_)
  obtain ⟨F14, q14⟩ := F13.freezeU rfl (hLa 5)
  have G5 : Gc (up g11 (L + 5) c5') (L + 5) (.int (p : Nat) t12) := ⟨c5', up_self _ _ _, hd5⟩
  have G1' := G1.mono q14
  have G2' := G2.mono q14
  have G3' := G3.mono q14
  have G4' := G4.mono q14
  have tc14 := tc11.mono q14
  have hgm2 := fun a o q => q14 a o (hgm a o q)
  clear G1 G2 G3 G4 F11 F13 hgm q11 tc11 tc9
  generalize up g11 (L + 5) c5' = g14 at F14 G1' G2' G3' G4' G5 tc14 hgm2 q14
  clear q14
  walk_at "go"
  have hn50 := P.hn
  have hhan := R.handled
  obtain ⟨osu, suits, b1, b2, b3⟩ := su1.mono hgm2
  have hsz : suits.size = SE.length + 1 := by rw [b3.1]; unfold sumsOf; simp
  have hpk := pk.mono hgm2
  have hps := P.hp
  refine comp_openU (cl := [("sums", L + 1), ("rule", L + 4), ("place", L + 5)]) (by with_unfolding_all rfl) (by with_unfolding_all rfl) rfl (by decide) ?_
  walk_at "go"
  refine r_iterlist F14 (by exact F14.keep _ _ b1) b2 fun Ia h15 tk15 offI hneI hit F15 => ?_
  refine comp_block (It.list (by exact hhan) hneI suits) (by lia)
    (fun i g' its => (∀ a o, g14 a = some o → g' a = some o) ∧ Al IsI its ((List.range i).map fun j => cmp ps (psum SE j) (psum SE p)))
    F15 hit ⟨fun _ _ q => q, Al.nil⟩ (fun b hb => by cases List.mem_singleton.mp hb; exact offI) (fun b hb => by cases List.mem_singleton.mp hb; exact ⟨osu, F15.keep _ _ b1⟩)
    (fun b hb => by cases List.mem_singleton.mp hb; exact ⟨osu, fun i g' its hK => .inl (hK.1 _ _ b1)⟩) (by decide) rfl
    (fun s Q E st hq => wpAny_pyIter_listiter st.1 hq) ?_ ?_
  · rintro C D i v e' g' m h tk o its hi hv ⟨hgm', hints⟩ hl hsz' F3 hge hal hMD
    rw [hsz] at hi
    obtain ⟨v', hv', cv⟩ := b3.2 i _ (sums_get (by lia : i ≤ SE.length))
    rw [hv] at hv'
    cases hv'
    have G1 := G1'.mono hgm'
    have G4 := G4'.mono hgm'
    have G5 := G5.mono hgm'
    refine wpAny_assign_Name ?_
    walk_at "go"
    rename Fx _ _ _ _ _ _ _ => F4
    refine m_compare W F4 (by exact tc14.mono hgm') ?_
    walk_at "go"
    refine r_item (by exact F4.keep _ _ (hgm' _ _ b1)) b2 (b3.mono fun v x q => IsEn.mono hgm' q) (by lia) (sums_get hps) fun v1 c1 => ?_
    walk_at "go"
    refine compare W ((Rd _).le (by decide) (by decide)) (by exact F4.keep) (by exact F4.top) (tc14.mono hgm') (hpk.mono hgm') (cv.mono hgm') c1 h4 fun t5 h5 tk5 R5 => ?_
    have F5 := F4.back R5
    refine ⟨_, _, _, _, rfl, F5, hgm', ?_⟩
    rw [List.range_succ, List.map_append]
    exact hints.push ⟨t5, rfl⟩
  · intro C D o its g16 m' h16 tk16 hsD offD hl hszS hK F16 hmono hns offC
    refine comp_postU F16 hns offC rfl rfl rfl fun h17 tk17 F17 => ?_
    obtain ⟨hK1, hK2⟩ := hK
    obtain ⟨F18, q18⟩ := F17.freezeU rfl offD.al
    have hS := up_self g16 D o
    have hK2' := hK2
    have hgm3 := fun a ob q => q18 a ob (hK1 a ob q)
    generalize up g16 D o = g18 at F18 q18 hS hgm3
    clear F14 F15 F16 F17 hns offC offI hit
    have G1 := G1'.mono hgm3
    have G2 := G2'.mono hgm3
    have G3 := G3'.mono hgm3
    have G4 := G4'.mono hgm3
    have G5' := G5.mono hgm3
    walk_at "go"
    have r1' := hgm3 _ _ (hgm2 _ _ r1)
    refine comp_open (cl := [("k", L + 2)]) (by with_unfolding_all rfl) rfl (by decide) ?_
    walk_at "go"
    refine r_iterlist F18 (by exact F18.keep _ _ r1') r2 fun Ib h20 tk20 offI hneI hit F20 => ?_
    have hrl := P.rlen
    refine comp_block (It.list (by exact hhan) hneI rits) (by rw [r3.1]; lia)
      (fun i g' its => (∀ a o, g18 a = some o → g' a = some o) ∧ Al IsI its ((List.range i).map fun j => cmp ps (psum SE j) (psum SE p)))
      F20 hit ⟨fun _ _ q => q, Al.nil⟩ (fun b hb => by cases List.mem_singleton.mp hb; exact offI) (fun b hb => by cases List.mem_singleton.mp hb; exact ⟨ork, F20.keep _ _ r1'⟩)
      (fun b hb => by cases List.mem_singleton.mp hb; exact ⟨ork, fun i g' its hK => .inl (hK.1 _ _ r1')⟩) (by decide) rfl
      (fun s Q E st hq => wpAny_pyIter_listiter st.1 hq) ?_ ?_
    · rintro C D2 i v e' g' m h tk o its hi hv ⟨hgm', hints⟩ hl hsz' F3 hge hal hMD
      have hi' : i < RK.length := by rw [← r3.1]; exact hi
      obtain ⟨v', hv', t, rfl⟩ := r3.2 i _ (List.getElem?_eq_getElem hi')
      rw [hv] at hv'
      cases hv'
      have hsg := P.sgn i _ (List.getElem?_eq_getElem hi')
      generalize RK[i] = r at hsg
      have G2 := G2.mono hgm'
      refine wpAny_assign_Name ?_
      walk_at "go"
      rename Fx _ _ _ _ _ _ _ => F4
      refine ⟨_, _, _, _, rfl, F4, hgm', ?_⟩
      have e : b2i (decide ((k : Int) < r)) - b2i (decide (r < (k : Int))) = cmp ps (psum SE i) (psum SE p) := by rw [hsg]; simp only [b2i, decide_eq_true_eq]
      rw [e, List.range_succ, List.map_append]
      exact hints.push ⟨_, rfl⟩
    · intro C D2 o2 its2 g21 m' h21 tk21 hsD2 offD2 hl2 hszS2 hK2 F21 hmono hns offC
      refine comp_post F21 hns offC fun h22 F22 => ?_
      obtain ⟨hK21, hK22⟩ := hK2
      rw [hsz] at hK2'
      rw [r3.1, hrl] at hK22
      walk_at "go"
      refine ints_ne ((Rd _).u) (by exact F22.keep _ _ (hK21 _ _ hS)) hl (by exact F22.ours _ _ (up_self _ _ _)) hl2 hK2' hK22 ?_
      obtain ⟨F23, q23⟩ := F22.freezeU offD2.m offD2.al
      have hgm4 := fun a ob q => q23 a ob (hK21 a ob q)
      have hgm5 := fun a ob q => hgm4 a ob (hgm3 a ob q)
      have hS := hgm4 _ _ hS
      generalize up g21 D2 o2 = g23 at F23 q23 hgm4 hgm5 hS
      clear F18 F20 F21 F22 hns offC offI hit
      have G1 := G1'.mono hgm5
      have G2 := G2'.mono hgm5
      have G3 := G3'.mono hgm5
      have G4 := G4'.mono hgm5
      have G5 := G5'.mono hgm4
      walk_at "go"
      refine r_listK F23 (by simp) fun DL oL h24 offL hszL lL F24 hk24 => ?_
      walk_at "go"
      refine r_listK F24 (by simp) fun DH oH h25 offH hszH lH F25 hk25 => ?_
      have hLH : DH ≠ DL := fun x => by have := offH.m; rw [x, up_self] at this; cases this
      walk_at "go"
      refine r_tuple F25 (by simp) fun T oT h26 offT hszT tT F26 hm26 hk26 => ?_
      walk_at "go"
      refine r_unpackI (by exact hhan) F26 (tT.isTup (F26.keep _ _ (up_self _ _ _))) (by with_unfolding_all rfl) fun h27 F27 _ => ?_
      try dsimp only [List.toArray, Array.toList]
      have hgm6 := fun a ob q => hm26 a ob (hgm5 a ob q)
      have hgm7 := fun a ob q => hm26 a ob (hgm4 a ob q)
      have hS := hm26 _ _ hS
      generalize up g23 T oT = g26 at F27 hm26 hgm6 hgm7 hS
      clear F23 F24 F25 F26 G1 G2 G3 G4 G5
      have G1 := G1'.mono hgm6
      have G2 := G2'.mono hgm6
      have G3 := G3'.mono hgm6
      have G4 := G4'.mono hgm6
      have G5 := G5'.mono hgm7
      have gS := fun a ob q => hgm6 a ob (hgm2 a ob q)
      walk_at "go"
      rename Fx _ _ _ _ _ _ _ => F28
      have s1' := gS _ _ s1
      refine r_enum F28 (by exact F28.keep _ _ s1') s2 fun Ie it h29 tk29 offIe offit hei hle hli he1 he2 he3 F29 => ?_
      walk_at "go"
      refine wpAny_pyIter_enum (by exact he1) ?_
      walk_at "go"
      have hX : sits.toList.length = SE.length := by rw [Array.length_toList, s3.1]
      refine for_it (It.enum (by exact hhan) hei hle hli sits)
        (fun i g' M m => And7 (g' = g26) (m "steps" = some (.ref st)) (m "ranks" = some (.ref rk)) (m "sides" = some (.ref D)) (m "low" = some (.ref DL)) (m "high" = some (.ref DH)) (Ex4 fun o1 its1 o2 its2 => And7 (M = up (up none' DL o1) DH o2) (IsL o1 its1) (IsL o2 its2) (its1.toList = pickL (isLow ps SE p) sits.toList i) (its2.toList = pickL (isHigh ps SE p) sits.toList i) (Al (IsEn prog w g26) its1 (pickL (isLow ps SE p) SE i)) (Al (IsEn prog w g26) its2 (pickL (isHigh ps SE p) SE i))))
        (fun _ _ _ => False) (fun _ _ _ _ => False) F29 ⟨⟨_, he1⟩, he2, he3⟩ ⟨rfl, by walk_at "lk", by walk_at "lk", by walk_at "lk", by walk_at "lk", by walk_at "lk", oL, _, oH, _, rfl, lL, lH, rfl, rfl, Al.nil, Al.nil⟩
        (fun b hb => by
          rcases List.mem_cons.mp hb with rfl | hb
          · exact ⟨offIe.l, offIe.z, offIe.al, offIe.g, offIe.m⟩
          · cases List.mem_singleton.mp hb; exact ⟨offit.l, offit.z, offit.al, offit.g, offit.m⟩)
        (fun b hb => by cases List.mem_singleton.mp hb; exact ⟨ost, fun i g' M m hJ => .inl (by rw [hJ.1]; exact s1')⟩) ?_ ?_ (fun _ _ _ _ _ q => q.elim) (fun _ _ _ _ _ _ q => q.elim)
      · rintro i v e' g' M m h tk hi ⟨T2, t, x, rfl, hx, hT2⟩ ⟨rfl, n1, n2, n3, n4, n5, o1, its1, o2, its2, rfl, l1, l2, e1, e2, a1, a2⟩ F30 hge hale
        have hi' : i < SE.length := by rw [← s3.1]; exact hi
        have hSi : SE[i]? = some SE[i] := List.getElem?_eq_getElem hi'
        obtain ⟨x', hx', cx⟩ := s3.2 i _ hSi
        rw [hx] at hx'
        cases hx'
        have hXi : sits.toList[i]? = some x := by rw [Array.getElem?_toList]; exact hx
        have cxs := cx.mono gS
        have z1 : its1.size ≤ 50 := by rw [a1.1, length_pickL _ _ (by lia)]; have := cnt_le (isLow ps SE p) i; lia
        have z2 : its2.size ≤ 50 := by rw [a2.1, length_pickL _ _ (by lia)]; have := cnt_le (isHigh ps SE p) i; lia
        have lo : isLow ps SE p i = (if i < p then decide (cmp ps (psum SE i) (psum SE p) < 0) else decide (cmp ps (psum SE (i + 1)) (psum SE p) < 0)) := rfl
        have hh : isHigh ps SE p i = !isLow ps SE p i := rfl
        refine r_unpack (by exact hhan) F30 hT2 rfl rfl fun h31 F31 _ => ?_
        by_cases hip : i < p
        · rw [if_pos hip] at lo
          walk_at "go"
          rename Fx _ _ _ _ _ _ _ => F32
          refine r_item (by exact F32.keep _ _ hS) hl hK2' (by lia) (by rw [List.getElem?_map, List.getElem?_range (by lia : i < SE.length + 1)]; rfl) fun v9 hv9 => ?_
          obtain ⟨t9, rfl⟩ := hv9
          by_cases hc : cmp ps (psum SE (i)) (psum SE p) < 0
          · rw [decide_eq_true hc] at lo
            walk_at "go"
            rename Fx _ _ _ _ _ _ _ => F33
            rw [up_comm hLH.symm] at F33
            refine l_method (by exact F33.ours DL o1 (up_self _ _ _)) l1 PySem.F.slot_list_append PySem.F.type_list_append ?_
            walk_at "go"
            refine r_append F33 l1 (by lia) fun h34 tk34 o34 l34 F34 => ?_
            walk_at "go"
            rw [up_comm hLH] at F34
            refine ⟨_, _, _, _, _, rfl, F34, rfl, by walk_at "lk", by walk_at "lk", by walk_at "lk", by walk_at "lk", by walk_at "lk", o34, _, o2, _, rfl, l34, l2, ?_, ?_, ?_, ?_⟩
            · rw [Array.toList_push, e1, pickL_succ _ _ hXi, lo]; rfl
            · rw [e2, pickL_succ _ _ hXi, hh, lo]; simp
            · rw [pickL_succ _ _ hSi, lo]; exact a1.push cxs
            · rw [pickL_succ _ _ hSi, hh, lo]; simpa using a2
          · rw [decide_eq_false hc] at lo
            walk_at "go"
            rename Fx _ _ _ _ _ _ _ => F33
            refine l_method (by exact F33.ours DH o2 (up_self _ _ _)) l2 PySem.F.slot_list_append PySem.F.type_list_append ?_
            walk_at "go"
            refine r_append F33 l2 (by lia) fun h34 tk34 o34 l34 F34 => ?_
            walk_at "go"
            refine ⟨_, _, _, _, _, rfl, F34, rfl, by walk_at "lk", by walk_at "lk", by walk_at "lk", by walk_at "lk", by walk_at "lk", o1, _, o34, _, rfl, l1, l34, ?_, ?_, ?_, ?_⟩
            · rw [e1, pickL_succ _ _ hXi, lo]; simp
            · rw [Array.toList_push, e2, pickL_succ _ _ hXi, hh, lo]; rfl
            · rw [pickL_succ _ _ hSi, lo]; simpa using a1
            · rw [pickL_succ _ _ hSi, hh, lo]; exact a2.push cxs
        · rw [if_neg hip] at lo
          walk_at "go"
          rename Fx _ _ _ _ _ _ _ => F31b
          have en : ((i : Nat) : Int) + 1 = ((i + 1 : Nat) : Int) := by lia
          rw [en]
          refine r_item (by exact F31b.keep _ _ hS) hl hK2' (by lia) (by rw [List.getElem?_map, List.getElem?_range (by lia : i + 1 < SE.length + 1)]; rfl) fun v9 hv9 => ?_
          obtain ⟨t9, rfl⟩ := hv9
          by_cases hc : cmp ps (psum SE (i + 1)) (psum SE p) < 0
          · rw [decide_eq_true hc] at lo
            walk_at "go"
            rename Fx _ _ _ _ _ _ _ => F33
            rw [up_comm hLH.symm] at F33
            refine l_method (by exact F33.ours DL o1 (up_self _ _ _)) l1 PySem.F.slot_list_append PySem.F.type_list_append ?_
            walk_at "go"
            refine r_append F33 l1 (by lia) fun h34 tk34 o34 l34 F34 => ?_
            walk_at "go"
            rw [up_comm hLH] at F34
            refine ⟨_, _, _, _, _, rfl, F34, rfl, by walk_at "lk", by walk_at "lk", by walk_at "lk", by walk_at "lk", by walk_at "lk", o34, _, o2, _, rfl, l34, l2, ?_, ?_, ?_, ?_⟩
            · rw [Array.toList_push, e1, pickL_succ _ _ hXi, lo]; rfl
            · rw [e2, pickL_succ _ _ hXi, hh, lo]; simp
            · rw [pickL_succ _ _ hSi, lo]; exact a1.push cxs
            · rw [pickL_succ _ _ hSi, hh, lo]; simpa using a2
          · rw [decide_eq_false hc] at lo
            walk_at "go"
            rename Fx _ _ _ _ _ _ _ => F33
            refine l_method (by exact F33.ours DH o2 (up_self _ _ _)) l2 PySem.F.slot_list_append PySem.F.type_list_append ?_
            walk_at "go"
            refine r_append F33 l2 (by lia) fun h34 tk34 o34 l34 F34 => ?_
            walk_at "go"
            refine ⟨_, _, _, _, _, rfl, F34, rfl, by walk_at "lk", by walk_at "lk", by walk_at "lk", by walk_at "lk", by walk_at "lk", o1, _, o34, _, rfl, l1, l34, ?_, ?_, ?_, ?_⟩
            · rw [e1, pickL_succ _ _ hXi, lo]; simp
            · rw [Array.toList_push, e2, pickL_succ _ _ hXi, hh, lo]; rfl
            · rw [pickL_succ _ _ hSi, lo]; simpa using a1
            · rw [pickL_succ _ _ hSi, hh, lo]; exact a2.push cxs
      · rintro g' M m h tk ⟨rfl, n1, n2, n3, n4, n5, o1, its1, o2, its2, rfl, l1, l2, e1, e2, a1, a2⟩ F30
        try dsimp only
        walk_at "go"
        rw [s3.1] at e1 e2 a1 a2
        have ndLH := P.nd
        have kzLH := P.kz
        have eKK : keysOf (lowE ps SE p ++ highE ps SE p) = keysOf (lowE ps SE p) ++ keysOf (highE ps SE p) := by unfold keysOf; rw [List.flatMap_append]
        have ndL : (keysOf (lowE ps SE p)).Nodup := by rw [eKK] at ndLH; exact (List.nodup_append.mp ndLH).1
        have ndH : (keysOf (highE ps SE p)).Nodup := by rw [eKK] at ndLH; exact (List.nodup_append.mp ndLH).2.1
        have kz2 : (keysOf (lowE ps SE p)).length + (keysOf (highE ps SE p)).length ≤ 1000 := by rw [eKK, List.length_append] at kzLH; exact kzLH
        have zL : (lowE ps SE p).length ≤ SE.length := by unfold lowE; rw [length_pickL _ _ (Nat.le_refl _)]; exact cnt_le _ _
        have zH : (highE ps SE p).length ≤ SE.length := by unfold highE; rw [length_pickL _ _ (Nat.le_refl _)]; exact cnt_le _ _
        obtain ⟨F31, q31⟩ := F30.freezeU (D := DH) (up_ne _ _ hLH) (by exact offH.al)
        obtain ⟨F32, q32⟩ := F31.freezeU (D := DL) rfl (by exact offL.al)
        have dl := up_self (up g' DH o2) DL o1
        have dh := q32 _ _ (up_self g' DH o2)
        have hq3 := fun a ob q => q32 a ob (q31 a ob q)
        have b1L : Al (IsEn prog w (up (up g' DH o2) DL o1)) its1 (lowE ps SE p) := a1.mono fun v x q => IsEn.mono hq3 q
        have b2H : Al (IsEn prog w (up (up g' DH o2) DL o1)) its2 (highE ps SE p) := a2.mono fun v x q => IsEn.mono hq3 q
        generalize up (up g' DH o2) DL o1 = g33 at F32 dl dh hq3 b1L b2H
        clear F28 F29 F30 F31
        refine law_walk W ((Rd _).le (by decide) (by decide)) (by exact F32.keep) (by exact F32.top) ⟨o1, its1, dl, l1, b1L⟩ ndL (by lia) (by lia) fun un g34 h34 tk34 R34 u34 => ?_
        have F34 := F32.back R34
        walk_at "go"
        rename Fx _ _ _ _ _ _ _ => F35
        refine law_walk W ((Rd _).le (by decide) (by decide)) (by exact F35.keep) (by exact F35.top) ⟨o2, its2, R34.mono _ _ dh, l2, b2H.mono fun v x q => IsEn.mono R34.mono q⟩ ndH (by lia) (by lia) fun vn g36 h36 tk36 R36 u36 => ?_
        have F36 := F35.back R36
        have q36 := fun a ob q => R36.mono a ob (R34.mono a ob (hq3 a ob q))
        have hS36 := q36 _ _ hS
        have G1b := G1.mono q36
        have G2b := G2.mono q36
        have G3b := G3.mono q36
        have G4b := G4.mono q36
        have G5b := G5.mono q36
        have dl36 := R36.mono _ _ (R34.mono _ _ dl)
        have dh36 := R36.mono _ _ (R34.mono _ _ dh)
        have b1L36 := b1L.mono fun v x q => IsEn.mono R36.mono (IsEn.mono R34.mono q)
        have b2H36 := b2H.mono fun v x q => IsEn.mono R36.mono (IsEn.mono R34.mono q)
        obtain ⟨ou, uits, u1, u2, u3⟩ := u34.mono R36.mono
        obtain ⟨ov, vits, v1, v2, v3⟩ := u36
        have gS36 := fun a ob q => q36 a ob (gS a ob q)
        have pk36 := pk.mono gS36
        have tc36 := tc14.mono fun a ob q => q36 a ob (hgm6 a ob q)
        clear F32 F34 F35 G1 G2 G3 G4 G5
        walk_at "go"
        rename Fx _ _ _ _ _ _ _ => F37

        refine comp_openU (cl := [("picks", L + 3)]) (by with_unfolding_all rfl) (by with_unfolding_all rfl) rfl (by decide) ?_
        walk_at "go"
        refine r_iterlist F37 (by exact F37.keep _ _ u1) u2 fun Iu hu tku offIu hneIu hitu Fua => ?_
        refine comp_block (It.list (by exact hhan) hneIu uits) (by rw [u3.1]; unfold sumsOf; rw [List.length_map, List.length_range]; lia)
          (fun i g' its => (∀ a o, g36 a = some o → g' a = some o) ∧ Mks g' its (((sumsOf (lowE ps SE p)).take i).map (mkOf ps)))
          Fua hitu ⟨fun _ _ q => q, Al.nil⟩ (fun b hb => by cases List.mem_singleton.mp hb; exact offIu) (fun b hb => by cases List.mem_singleton.mp hb; exact ⟨ou, Fua.keep _ _ u1⟩)
          (fun b hb => by cases List.mem_singleton.mp hb; exact ⟨ou, fun i g' its hK => .inl (hK.1 _ _ u1)⟩) (by decide) rfl
          (fun s Q E st hq => wpAny_pyIter_listiter st.1 hq) ?_ ?_
        · rintro C D5 i v e' g' m h tk o its hi hv ⟨hgm', hints⟩ hl5 hsz' F3 hge hal hMD
          have hlt : i < (sumsOf (lowE ps SE p)).length := by rw [← u3.1]; exact hi
          obtain ⟨v', hv', cv⟩ := u3.2 i _ (List.getElem?_eq_getElem hlt)
          rw [hv] at hv'
          cases hv'
          have htk : (sumsOf (lowE ps SE p)).take (i + 1) = (sumsOf (lowE ps SE p)).take i ++ [(sumsOf (lowE ps SE p))[i]] := by rw [List.take_add_one, List.getElem?_eq_getElem hlt]; rfl
          have G3 := G3b.mono hgm'
          refine wpAny_assign_Name ?_
          walk_at "go"
          rename Fx _ _ _ _ _ _ _ => F4
          refine law_mark W ((Rd _).le (by decide) (by decide)) (by exact F4.keep) (by exact F4.top) (cv.mono hgm') (pk36.mono hgm') h4 h1 hpz fun r5 g5 h5 tk5 R5 c5 => ?_
          have F5 := F4.back R5
          refine ⟨_, _, _, _, rfl, F5, fun a o q => R5.mono _ _ (hgm' _ _ q), ?_⟩
          rw [htk, List.map_append]
          exact (hints.mono fun v x q => q.mono R5.mono).push c5

        · intro C5 DT oT5 itsT g38 m38 h38 tk38 hsDT offDT lT hszT hKT F38 hmono38 hns38 offC38
          refine comp_postU F38 hns38 offC38 rfl rfl rfl fun h39 tk39 F39 => ?_
          obtain ⟨k39, hT39⟩ := hKT
          rw [u3.1, List.take_length] at hT39
          walk_at "go"
          have zsL : ((sumsOf (lowE ps SE p)).map (mkOf ps)).length ≤ 1000 := by unfold sumsOf; rw [List.length_map, List.length_map, List.length_range]; lia
          refine heapify_max W ((Rd _).le (by decide) (by decide)) (by exact F39.keep) (by exact F39.top) (by exact F39.ours DT _ (up_self _ _ _)) offDT.g lT hT39 zsL fun h40 tk40 o40 its40 R40 ho40 l40 hx40 => ?_
          have F40 := F39.back1 (up_self _ _ _) R40 ho40
          rw [up_up] at F40
          rw [List.length_map] at hx40
          obtain ⟨oy, yits, y1, y2, y3⟩ := IsEL.mono k39 (show IsEL prog w g36 vn (sumsOf (highE ps SE p)) from ⟨ov, vits, v1, v2, v3⟩)
          have G3c := G3b.mono k39
          have pk39 := pk36.mono k39
          clear F36 F37 F38 F39 Fua hns38 offC38 offIu hitu
          walk_at "go"

          refine comp_openU (cl := [("picks", L + 3)]) (by with_unfolding_all rfl) (by with_unfolding_all rfl) rfl (by decide) ?_
          walk_at "go"
          refine r_iterlist F40 (by exact F40.keep _ _ y1) y2 fun Iy hy tky offIy hneIy hity Fya => ?_
          refine comp_block (It.list (by exact hhan) hneIy yits) (by rw [y3.1]; unfold sumsOf; rw [List.length_map, List.length_range]; lia)
            (fun i g' its => (∀ a o, g38 a = some o → g' a = some o) ∧ Mks g' its (((sumsOf (highE ps SE p)).take i).map (mkOf ps)))
            Fya hity ⟨fun _ _ q => q, Al.nil⟩ (fun b hb => by cases List.mem_singleton.mp hb; exact offIy) (fun b hb => by cases List.mem_singleton.mp hb; exact ⟨oy, Fya.keep _ _ y1⟩)
            (fun b hb => by cases List.mem_singleton.mp hb; exact ⟨oy, fun i g' its hK => .inl (hK.1 _ _ y1)⟩) (by decide) rfl
            (fun s Q E st hq => wpAny_pyIter_listiter st.1 hq) ?_ ?_
          · rintro C D5 i v e' g' m h tk o its hi hv ⟨hgm', hints⟩ hl5 hsz' F3 hge hal hMD
            have hlt : i < (sumsOf (highE ps SE p)).length := by rw [← y3.1]; exact hi
            obtain ⟨v', hv', cv⟩ := y3.2 i _ (List.getElem?_eq_getElem hlt)
            rw [hv] at hv'
            cases hv'
            have htk : (sumsOf (highE ps SE p)).take (i + 1) = (sumsOf (highE ps SE p)).take i ++ [(sumsOf (highE ps SE p))[i]] := by rw [List.take_add_one, List.getElem?_eq_getElem hlt]; rfl
            have G3 := G3c.mono hgm'
            refine wpAny_assign_Name ?_
            walk_at "go"
            rename Fx _ _ _ _ _ _ _ => F4
            refine law_mark W ((Rd _).le (by decide) (by decide)) (by exact F4.keep) (by exact F4.top) (cv.mono hgm') (pk39.mono hgm') h4 h1 hpz fun r5 g5 h5 tk5 R5 c5 => ?_
            have F5 := F4.back R5
            refine ⟨_, _, _, _, rfl, F5, fun a o q => R5.mono _ _ (hgm' _ _ q), ?_⟩
            rw [htk, List.map_append]
            exact (hints.mono fun v x q => q.mono R5.mono).push c5

          · intro C6 DD oD6 itsD g41 m41 h41 tk41 hsDD offDD lD hszD hKD F41 hmono41 hns41 offC41
            refine comp_postU F41 hns41 offC41 rfl rfl rfl fun h42 tk42 F42 => ?_
            obtain ⟨k42, hD42⟩ := hKD
            rw [y3.1, List.take_length] at hD42
            walk_at "go"
            have zsH : ((sumsOf (highE ps SE p)).map (mkOf ps)).length ≤ 1000 := by unfold sumsOf; rw [List.length_map, List.length_map, List.length_range]; lia
            refine heapify W ((Rd _).le (by decide) (by decide)) (by exact F42.keep) (by exact F42.top) (by exact F42.ours DD _ (up_self _ _ _)) offDD.g lD hD42 zsH fun h43 tk43 o43 its43 R43 ho43 l43 hx43 => ?_
            have F43 := F42.back1 (up_self _ _ _) R43 ho43
            rw [up_up] at F43
            rw [List.length_map] at hx43
            have hDT : DT ≠ DD := fun x => by have := offDD.m; rw [← x, up_self] at this; cases this
            have hx40' := hx40.mono fun v x q => IsMk.mono k42 q
            have k43 := fun a ob q => k42 a ob (k39 a ob q)
            have G1 := G1b.mono k43
            have G2 := G2b.mono k43
            have G3 := G3b.mono k43
            have G4 := G4b.mono k43
            have G5 := G5b.mono k43
            clear F40 F41 F42 Fya hns41 offC41 offIy hity G1b G2b G3b G4b G5b G3c
            obtain ⟨mt, mt1, mt2⟩ := P.topm
            obtain ⟨md, md1, md2⟩ := P.dipm
            obtain ⟨w1, hw1, a1', oa1, ts1, rfl, ha1, ht1, hi1⟩ := hx40'.2 0 _ mt1
            obtain ⟨w2, hw2, a2', oa2, ts2, rfl, ha2, ht2, hi2⟩ := hx43.2 0 _ md1
            obtain ⟨ttop, htop⟩ := hi1.get 3 _ mt2
            obtain ⟨tdip, hdip⟩ := hi2.get 3 _ md2
            walk_at "go"
            refine l_item (by exact F43.ours DT o40 ((up_ne _ _ hDT).trans (up_self _ _ _))) l40 (by decide) (by decide) hw1 ?_
            walk_at "go"
            refine t_item (by exact F43.keep _ _ ha1) ht1 (by decide) (by decide) (by rw [← Array.getElem?_toList]; exact htop) ?_
            walk_at "go"
            refine l_item (by exact F43.ours DD o43 (up_self _ _ _)) l43 (by decide) (by decide) hw2 ?_
            walk_at "go"
            refine t_item (by exact F43.keep _ _ ha2) ht2 (by decide) (by decide) (by rw [← Array.getElem?_toList]; exact hdip) ?_
            walk_at "go"
            refine r_tuple F43 (by simp) fun T3 oT3 h44 offT3 hszT3 tT3 F44 hm44 hk44 => ?_
            walk_at "go"
            refine r_unpackI (by exact hhan) F44 (tT3.isTup (F44.keep _ _ (up_self _ _ _))) (by with_unfolding_all rfl) fun h45 F45 _ => ?_
            try dsimp only [List.toArray, Array.toList]
            have K44 := fun a ob q => hm44 a ob (k43 a ob q)
            have G1' := G1.mono hm44
            have G2' := G2.mono hm44
            have G4' := G4.mono hm44
            have G5' := G5.mono hm44
            generalize up g41 T3 oT3 = g44 at F45 hm44 K44 G1' G2' G4' G5'
            clear F43 F44 G1 G2 G3 G4 G5
            have qs := fun a ob q => K44 a ob (q36 a ob (hgm6 a ob q))
            have run := P.run sits.toList its1 its2 hX e1 e2
            have htopL := run.al _ run.le
            rw [run.atop] at htopL
            have hdipH := run.bl _ run.le
            rw [run.adip] at hdipH
            obtain ⟨vU, hvU, aU, oU, dU, x0, x1, x2, x3, rfl, hU1, hU2, hU3⟩ := u3.2 (lowE ps SE p).length _ (sums_get (Nat.le_refl _))
            have huz : uits.size = (lowE ps SE p).length + 1 := by rw [u3.1]; unfold sumsOf; rw [List.length_map, List.length_range]
            walk_at "go"
            rename Fx _ _ _ _ _ _ _ => F46
            refine l_last (by exact F46.keep _ _ (K44 _ _ u1)) u2 (by lia) (by rw [huz]; exact hvU) ?_
            walk_at "go"
            refine t_item (by exact F46.keep _ _ (K44 _ _ hU1)) hU2 (by decide) (by decide) (by rfl) ?_
            walk_at "go"
            refine count_calls W ((Rd _).le (by decide) (by decide)) (by exact F46.keep) (by exact F46.top) (hU3.mono K44) fun t47 h47 tk47 R47 => ?_
            have F47 := F46.back R47
            rw [P.kcnt]
            walk_at "go"
            · exact absurd rfl (by assumption)
            have qv := fun a ob q => K44 a ob q
            refine r_item (by exact F47.keep _ _ (K44 _ _ u1)) u2 (u3.mono fun v x q => IsEn.mono K44 q) (by lia) (sums_get htopL) fun w1 cw1 => ?_
            walk_at "go"
            refine r_item (by exact F47.keep _ _ (K44 _ _ v1)) v2 (v3.mono fun v x q => IsEn.mono K44 q) (by lia) (sums_get hdipH) fun w2 cw2 => ?_
            walk_at "go"
            refine add_func_stats W ((Rd _).le (by decide) (by decide)) (by exact F47.keep) (by exact F47.top) cw1 cw2 (apart_psum ndLH _ _) (by have := psum_len (lowE ps SE p) (cnt (isLow ps SE p) p); have := psum_len (highE ps SE p) (cnt (isHigh ps SE p) p); lia) fun v48 g48 h48 tk48 R48 c48 => ?_
            have F48 := F47.back R48
            have q48 := R48.mono
            have G1 := G1'.mono q48
            have G4 := G4'.mono q48
            have G5 := G5'.mono q48
            have qs48 := fun a ob q => q48 a ob (qs a ob q)
            have K48 := fun a ob q => q48 a ob (K44 a ob q)
            walk_at "go"
            refine r_item (by exact F48.keep _ _ (qs48 _ _ b1)) b2 (b3.mono fun v x q => IsEn.mono qs48 q) (by lia) (sums_get hps) fun w3 cw3 => ?_
            walk_at "go"
            refine en_ne (x := addE (psum (lowE ps SE p) (cnt (isLow ps SE p) p)) (psum (highE ps SE p) (cnt (isHigh ps SE p) p))) (by have := (Rd (envX "" ⟨.function, [], false, false, []⟩ 0 0 .none [])).units; exact ((Rd _).le (Nat.zero_le _) (by lia : 2 ≤ 77)).units) F48.keep c48 cw3 P.ecc P.enc P.ett P.ect P.ekl P.eks ?_
            walk_at "go"
            refine law_back W ((Rd _).le (by decide) (by decide)) (by exact F48.keep) (by exact F48.top) (K48 _ _ dl36) l1 (b1L36.mono fun v x q => IsEn.mono K48 q) (K48 _ _ dh36) l2 (b2H36.mono fun v x q => IsEn.mono K48 q) (tc36.mono K48) (pk36.mono K48) h4 ndLH kzLH (by rw [hX]; lia) run fun r49 o49 its49 g49 h49 tk49 R49 r49g r49l r49e => ?_
            have F49 := F48.back R49
            walk_at "go"
            have e49 : its49 = sits := by rw [← Array.toList_inj]; exact r49e
            rw [e49] at r49l
            refine list_eq_same ((Rd _).u) (by exact F49.keep _ _ r49g) r49l (by exact F49.keep _ _ (R49.mono _ _ (q48 _ _ (K44 _ _ (q36 _ _ (gS _ _ s1)))))) s2 ?_
            exact ret _ _ _ F49.end0


end
section
set_option linter.unusedVariables false
open PySem PySem.W PySem.Calls PyProof.Rows
set_option autoImplicit false

/-! heaps, plainly -/
inductive De (s : Nat) : Nat → Prop
  | self : De s s
  | left {q : Nat} : De s q → De s (2 * q + 1)
  | right {q : Nat} : De s q → De s (2 * q + 2)
theorem De.le {s r : Nat} (h : De s r) : s ≤ r := by
  induction h with
  | self => exact Nat.le_refl _
  | left _ ih => lia
  | right _ ih => lia
theorem De.par {s r : Nat} (h : De s r) (hr : s < r) : De s ((r - 1) / 2) := by
  cases h with
  | self => lia
  | @left q hq => rw [show (2 * q + 1 - 1) / 2 = q by lia]; exact hq
  | @right q hq => rw [show (2 * q + 2 - 1) / 2 = q by lia]; exact hq
theorem getD_set (xs : List Mk) (i j : Nat) (x : Mk) (h : i < xs.length) : (xs.set i x).getD j [] = if j = i then x else xs.getD j [] := by
  rw [List.getD_eq_getElem?_getD, List.getD_eq_getElem?_getD, List.getElem?_set]
  by_cases e : i = j
  · subst e; simp [h]
  · rw [if_neg e, if_neg (fun q => e q.symm)]
theorem getD_mem {xs : List Mk} {i : Nat} (h : i < xs.length) : xs.getD i [] ∈ xs := by
  rw [List.getD_eq_getElem?_getD, List.getElem?_eq_getElem h]; exact List.getElem_mem h
abbrev Ch (i j : Nat) : Prop := j = 2 * i + 1 ∨ j = 2 * i + 2
theorem swap_perm {xs : List Mk} {i j : Nat} {x : Mk} (hi : i < xs.length) (hj : j < xs.length) (hij : i ≠ j) : ((xs.set i (xs.getD j [])).set j x).Perm (xs.set i x) := by
  have h1 : i < (xs.set i x).length := by simpa using hi
  have h2 : j < (xs.set i x).length := by simpa using hj
  have := List.set_set_perm (as := xs.set i x) h1 h2
  have e1 : (xs.set i x)[j] = xs.getD j [] := by
    rw [List.getElem_set_ne hij, List.getD_eq_getElem?_getD, List.getElem?_eq_getElem hj]; rfl
  have e2 : (xs.set i x)[i] = x := List.getElem_set_self _
  rw [e1, e2, List.set_set] at this
  exact this
section
variable {lt : Mk → Mk → Bool} {f : Mk → Int} {ok : Mk → Prop}
/-- the heap's order from k on -/
def Edge (f : Mk → Int) (xs : List Mk) (k : Nat) : Prop := ∀ i j, k ≤ i → Ch i j → j < xs.length → f (xs.getD i []) ≤ f (xs.getD j [])

theorem sdown_ok (hlt : ∀ x y, ok x → ok y → lt x y = decide (f x < f y)) (new : Mk) (start : Nat) (hn : ok new) : ∀ (pos : Nat) (xs : List Mk), De start pos → pos < xs.length → (∀ x ∈ xs, ok x) →
    (∀ i j, start ≤ i → Ch i j → j < xs.length → i ≠ pos → j ≠ pos → f (xs.getD i []) ≤ f (xs.getD j [])) →
    (∀ j, Ch pos j → j < xs.length → f new ≤ f (xs.getD j [])) →
    (start < pos → ∀ j, Ch pos j → j < xs.length → f (xs.getD ((pos - 1) / 2) []) ≤ f (xs.getD j [])) →
    Edge f (sdown lt new start pos xs) start ∧ (sdown lt new start pos xs).Perm (xs.set pos new) := by
  intro pos
  induction pos using Nat.strongRecOn with
  | ind pos ih =>
    intro xs hde hpos hok hE hN hQ
    have stop : (start < pos → f (xs.getD ((pos - 1) / 2) []) ≤ f new) → Edge f (xs.set pos new) start := by
      intro hp i j hi hc hj
      rw [List.length_set] at hj
      rw [getD_set _ _ _ _ hpos, getD_set _ _ _ _ hpos]
      by_cases ei : i = pos
      · subst ei
        have : j ≠ i := by rcases hc with rfl | rfl <;> lia
        rw [if_pos rfl, if_neg this]; exact hN j hc hj
      · rw [if_neg ei]
        by_cases ej : j = pos
        · subst ej
          rw [if_pos rfl]
          have hij : i = (j - 1) / 2 := by rcases hc with e | e <;> lia
          have hlt' : start < j := by rcases hc with e | e <;> lia
          have := hp hlt'
          rw [← hij] at this; exact this
        · rw [if_neg ej]; exact hE i j hi hc hj ei ej
    rw [sdown]
    by_cases h : start < pos
    · rw [dif_pos h]
      have hpar : (pos - 1) / 2 < pos := by lia
      have hparl : (pos - 1) / 2 < xs.length := by lia
      have hpde := hde.par h
      have hokp : ok (xs.getD ((pos - 1) / 2) []) := hok _ (getD_mem hparl)
      by_cases hb : lt new (xs.getD ((pos - 1) / 2) []) = true
      · rw [if_pos hb]
        rw [hlt _ _ hn hokp] at hb
        have hb := of_decide_eq_true hb
        have hpc : Ch ((pos - 1) / 2) pos := by unfold Ch; lia
        have := ih _ hpar (xs.set pos (xs.getD ((pos - 1) / 2) [])) hpde (by rw [List.length_set]; exact hparl)
          (fun x hx => by
            rcases List.mem_or_eq_of_mem_set hx with hx | rfl
            · exact hok x hx
            · exact hokp)
          (fun i j hi hc hj ei ej => by
            rw [List.length_set] at hj
            rw [getD_set _ _ _ _ hpos, getD_set _ _ _ _ hpos]
            by_cases e1 : i = pos
            · subst e1
              have : j ≠ i := by rcases hc with rfl | rfl <;> lia
              rw [if_pos rfl, if_neg this]; exact hQ h j hc hj
            · rw [if_neg e1]
              by_cases e2 : j = pos
              · subst e2
                exact absurd (by rcases hc with e | e <;> lia : i = (j - 1) / 2) ei
              · rw [if_neg e2]; exact hE i j hi hc hj e1 e2)
          (fun j hc hj => by
            rw [List.length_set] at hj
            rw [getD_set _ _ _ _ hpos]
            by_cases e2 : j = pos
            · rw [if_pos e2]; lia
            · rw [if_neg e2]
              have := hE ((pos - 1) / 2) j hpde.le hc hj (by lia) e2
              lia)
          (fun hs j hc hj => by
            rw [List.length_set] at hj
            have hpp := (hpde.par hs).le
            have e0 : ((pos - 1) / 2 - 1) / 2 ≠ pos := by lia
            have hcp : Ch (((pos - 1) / 2 - 1) / 2) ((pos - 1) / 2) := by unfold Ch; lia
            have h1 := hE _ _ hpp hcp hparl e0 (by lia)
            rw [getD_set _ _ _ _ hpos, getD_set _ _ _ _ hpos, if_neg e0]
            by_cases e2 : j = pos
            · rw [if_pos e2]; exact h1
            · rw [if_neg e2]
              have := hE ((pos - 1) / 2) j hpde.le hc hj (by lia) e2
              lia)
        exact ⟨this.1, this.2.trans (swap_perm hpos hparl (by lia))⟩
      · rw [if_neg hb]
        rw [hlt _ _ hn hokp] at hb
        exact ⟨stop fun _ => by simpa using hb, List.Perm.refl _⟩
    · rw [dif_neg h]
      exact ⟨stop fun q => absurd q h, List.Perm.refl _⟩
theorem pick_ch (lt : Mk → Mk → Bool) (xs : List Mk) (pos : Nat) : Ch pos (pick lt xs (2 * pos + 1)) := by unfold pick Ch; split <;> lia
theorem pick_min (hlt : ∀ x y, ok x → ok y → lt x y = decide (f x < f y)) {xs : List Mk} {pos : Nat} (h : 2 * pos + 1 < xs.length) (hok : ∀ x ∈ xs, ok x) :
    ∀ j, Ch pos j → j < xs.length → f (xs.getD (pick lt xs (2 * pos + 1)) []) ≤ f (xs.getD j []) := by
  intro j hc hj
  unfold pick
  by_cases h1 : 2 * pos + 1 + 1 < xs.length
  · rw [hlt _ _ (hok _ (getD_mem h)) (hok _ (getD_mem h1))]
    by_cases h2 : f (xs.getD (2 * pos + 1) []) < f (xs.getD (2 * pos + 1 + 1) [])
    · rw [if_neg (fun q => by rw [decide_eq_true h2] at q; cases q.2)]
      rcases hc with rfl | rfl
      · exact Int.le_refl _
      · exact Int.le_of_lt h2
    · rw [if_pos ⟨h1, decide_eq_false h2⟩]
      rcases hc with rfl | rfl
      · exact Int.not_lt.mp h2
      · exact Int.le_refl _
  · rw [if_neg (fun q => h1 q.1)]
    rcases hc with rfl | rfl
    · exact Int.le_refl _
    · exact absurd hj h1
theorem uploop_ok (hlt : ∀ x y, ok x → ok y → lt x y = decide (f x < f y)) (s : Nat) : ∀ (k pos : Nat) (xs : List Mk), xs.length - pos = k → De s pos → pos < xs.length → (∀ x ∈ xs, ok x) →
    (∀ i j, s ≤ i → Ch i j → j < xs.length → i ≠ pos → j ≠ pos → f (xs.getD i []) ≤ f (xs.getD j [])) →
    (s < pos → ∀ j, Ch pos j → j < xs.length → f (xs.getD ((pos - 1) / 2) []) ≤ f (xs.getD j [])) →
    De s (uploop lt pos xs).1 ∧ (uploop lt pos xs).1 < xs.length ∧ (uploop lt pos xs).2.length = xs.length ∧ (∀ x ∈ (uploop lt pos xs).2, ok x) ∧ xs.length ≤ 2 * (uploop lt pos xs).1 + 1 ∧
    (∀ i j, s ≤ i → Ch i j → j < xs.length → i ≠ (uploop lt pos xs).1 → j ≠ (uploop lt pos xs).1 → f ((uploop lt pos xs).2.getD i []) ≤ f ((uploop lt pos xs).2.getD j [])) ∧
    (∀ x, ((uploop lt pos xs).2.set (uploop lt pos xs).1 x).Perm (xs.set pos x)) := by
  intro k
  induction k using Nat.strongRecOn with
  | ind k ih =>
    intro pos xs hk hde hpos hok hE hQ
    rw [uploop]
    by_cases h : 2 * pos + 1 < xs.length
    · rw [dif_pos h]
      have hc1 := pick_ch lt xs pos
      have hcl := pick_lt (lt := lt) h
      have hmin := pick_min hlt h hok
      generalize pick lt xs (2 * pos + 1) = c at hc1 hcl hmin
      have hdc : De s c := by rcases hc1 with rfl | rfl; exact hde.left; exact hde.right
      have hpc : pos < c := by rcases hc1 with rfl | rfl <;> lia
      have hokc := hok _ (getD_mem hcl)
      have := ih (xs.length - c) (by lia) c (xs.set pos (xs.getD c [])) (by rw [List.length_set]) hdc (by rw [List.length_set]; exact hcl)
        (fun x hx => by
          rcases List.mem_or_eq_of_mem_set hx with hx | rfl
          · exact hok x hx
          · exact hokc)
        (fun i j hi hc hj ei ej => by
          rw [List.length_set] at hj
          rw [getD_set _ _ _ _ hpos, getD_set _ _ _ _ hpos]
          by_cases e1 : i = pos
          · subst e1
            have : j ≠ i := by rcases hc with rfl | rfl <;> lia
            rw [if_pos rfl, if_neg this]; exact hmin j hc hj
          · rw [if_neg e1]
            by_cases e2 : j = pos
            · subst e2
              rw [if_pos rfl]
              have e3 : i = (j - 1) / 2 := by rcases hc with e | e <;> lia
              have e4 : s < j := by rcases hc with e | e <;> lia
              rw [e3]; exact hQ e4 c hc1 hcl
            · rw [if_neg e2]; exact hE i j hi hc hj e1 e2)
        (fun hs j hc hj => by
          rw [List.length_set] at hj
          have e3 : (c - 1) / 2 = pos := by rcases hc1 with e | e <;> lia
          have e4 : j ≠ pos := by rcases hc with e | e <;> lia
          rw [e3, getD_set _ _ _ _ hpos, getD_set _ _ _ _ hpos, if_pos rfl, if_neg e4]
          exact hE c j hdc.le hc hj (by lia) e4)
      rw [List.length_set] at this
      obtain ⟨a1, a2, a3, a4, a5, a6, a7⟩ := this
      exact ⟨a1, a2, a3, a4, a5, a6, fun x => (a7 x).trans (swap_perm hpos hcl (by lia))⟩
    · rw [dif_neg h]
      exact ⟨hde, hpos, rfl, hok, by show xs.length ≤ 2 * pos + 1; lia, hE, fun x => List.Perm.refl _⟩
theorem sup_ok (hlt : ∀ x y, ok x → ok y → lt x y = decide (f x < f y)) {xs : List Mk} {pos : Nat} (hpos : pos < xs.length) (hok : ∀ x ∈ xs, ok x) (hE : Edge f xs (pos + 1)) :
    Edge f (sup lt xs pos) pos ∧ (sup lt xs pos).Perm xs := by
  obtain ⟨a1, a2, a3, a4, a5, a6, a7⟩ := uploop_ok (f := f) (ok := ok) hlt pos _ pos xs rfl .self hpos hok
    (fun i j hi hc hj ei ej => hE i j (by lia) hc hj) (fun q => absurd q (Nat.lt_irrefl _))
  unfold sup
  dsimp only
  have hnew : ok (xs.getD pos []) := hok _ (getD_mem hpos)
  have hl : (uploop lt pos xs).1 < (uploop lt pos xs).2.length := by lia
  have := sdown_ok (f := f) (ok := ok) hlt (xs.getD pos []) pos hnew (uploop lt pos xs).1 ((uploop lt pos xs).2.set (uploop lt pos xs).1 (xs.getD pos [])) a1 (by rw [List.length_set]; exact hl)
    (fun x hx => by
      rcases List.mem_or_eq_of_mem_set hx with hx | rfl
      · exact a4 x hx
      · exact hnew)
    (fun i j hi hc hj ei ej => by
      rw [List.length_set] at hj
      rw [getD_set _ _ _ _ hl, getD_set _ _ _ _ hl, if_neg ei, if_neg ej]
      exact a6 i j hi hc (by lia) ei ej)
    (fun j hc hj => by rw [List.length_set] at hj; rcases hc with e | e <;> lia)
    (fun _ j hc hj => by rw [List.length_set] at hj; rcases hc with e | e <;> lia)
  refine ⟨this.1, this.2.trans ?_⟩
  rw [List.set_set]
  refine (a7 _).trans ?_
  have : xs.set pos (xs.getD pos []) = xs := by
    rw [List.getD_eq_getElem?_getD, List.getElem?_eq_getElem hpos]; exact List.set_getElem_self hpos
  rw [this]
theorem hfy_ok (hlt : ∀ x y, ok x → ok y → lt x y = decide (f x < f y)) : ∀ (k : Nat) (xs : List Mk), k ≤ xs.length → (∀ x ∈ xs, ok x) → Edge f xs k → Edge f (hfy lt k xs) 0 ∧ (hfy lt k xs).Perm xs
  | 0, xs, _, _, hE => ⟨hE, List.Perm.refl _⟩
  | k + 1, xs, hk, hok, hE => by
    obtain ⟨h1, h2⟩ := sup_ok (f := f) hlt (by lia : k < xs.length) hok hE
    obtain ⟨h3, h4⟩ := hfy_ok hlt k (sup lt xs k) (by rw [h2.length_eq]; lia) (fun x hx => hok x (h2.mem_iff.mp hx)) h1
    exact ⟨h3, h4.trans h2⟩
/-- heapify makes a heap -/
theorem heap_of (hlt : ∀ x y, ok x → ok y → lt x y = decide (f x < f y)) (xs : List Mk) (hok : ∀ x ∈ xs, ok x) : Edge f (hfy lt (xs.length / 2) xs) 0 ∧ (hfy lt (xs.length / 2) xs).Perm xs :=
  hfy_ok hlt _ xs (by lia) hok fun i j hi hc hj => by rcases hc with e | e <;> lia
/-- the root is least -/
theorem root_le {xs : List Mk} (hE : Edge f xs 0) : ∀ i, i < xs.length → f (xs.getD 0 []) ≤ f (xs.getD i []) := by
  intro i
  induction i using Nat.strongRecOn with
  | ind i ih =>
    intro hi
    by_cases h0 : i = 0
    · subst h0; exact Int.le_refl _
    · have h1 := ih ((i - 1) / 2) (by lia) (by lia)
      have h2 := hE ((i - 1) / 2) i (Nat.zero_le _) (by unfold Ch; lia) hi
      lia
/-- heappop -/
theorem hpop_ok (hlt : ∀ x y, ok x → ok y → llt x y = decide (f x < f y)) {xs : List Mk} (hn : 0 < xs.length) (hok : ∀ x ∈ xs, ok x) (hE : Edge f xs 0) :
    (∀ x ∈ xs, f (hpop xs).1 ≤ f x) ∧ ((hpop xs).1 :: (hpop xs).2).Perm xs ∧ Edge f (hpop xs).2 0 := by
  have hroot : ∀ x ∈ xs, f (xs.getD 0 []) ≤ f x := fun x hx => by
    obtain ⟨i, hi, rfl⟩ := List.mem_iff_getElem.mp hx
    have := root_le hE i hi
    have e : xs.getD i [] = xs[i] := by rw [List.getD_eq_getElem?_getD, List.getElem?_eq_getElem hi]; rfl
    rw [e] at this
    exact this
  unfold hpop
  by_cases h1 : xs.length = 1
  · rw [if_pos h1]
    obtain ⟨x, rfl⟩ := List.length_eq_one_iff.mp h1
    exact ⟨hroot, List.Perm.refl _, fun i j _ _ hj => by simp at hj⟩
  · rw [if_neg h1]
    dsimp only
    have hl : xs.dropLast.length = xs.length - 1 := List.length_dropLast
    have h0 : 0 < xs.dropLast.length := by lia
    have hlast : ok (xs.getD (xs.length - 1) []) := hok _ (getD_mem (by lia))
    have gd : ∀ i, i < xs.length - 1 → xs.dropLast.getD i [] = xs.getD i [] := fun i hi => by
      rw [List.getD_eq_getElem?_getD, List.getD_eq_getElem?_getD, List.getElem?_dropLast, if_pos hi]
    obtain ⟨h2, h3⟩ := sup_ok (f := f) hlt (xs := xs.dropLast.set 0 (xs.getD (xs.length - 1) [])) (pos := 0) (by rw [List.length_set]; exact h0)
      (fun x hx => by
        rcases List.mem_or_eq_of_mem_set hx with hx | rfl
        · exact hok x (List.dropLast_subset _ hx)
        · exact hlast)
      (fun i j hi hc hj => by
        rw [List.length_set, hl] at hj
        rw [getD_set _ _ _ _ h0, getD_set _ _ _ _ h0, if_neg (by lia), if_neg (by rcases hc with e | e <;> lia), gd i (by rcases hc with e | e <;> lia), gd j hj]
        exact hE i j (Nat.zero_le _) hc (by lia))
    refine ⟨hroot, (List.Perm.cons _ h3).trans ?_, h2⟩
    obtain ⟨a, r, rfl⟩ : ∃ a r, xs = a :: r := by
      cases xs with
      | nil => simp at hn
      | cons a r => exact ⟨a, r, rfl⟩
    cases r with
    | nil => simp at h1
    | cons b t =>
      have e1 : (a :: b :: t).getD 0 [] = a := rfl
      have e2 : (a :: b :: t).dropLast = a :: (b :: t).dropLast := rfl
      have e3 : (a :: b :: t).getD ((a :: b :: t).length - 1) [] = (b :: t).getLast (by simp) := by
        rw [List.getD_eq_getElem?_getD]
        have : (a :: b :: t).length - 1 = (b :: t).length - 1 + 1 := by simp
        rw [this, List.getElem?_cons_succ, ← List.getLast?_eq_getElem?, List.getLast?_eq_some_getLast (by simp)]
        rfl
      rw [e1, e2, e3, List.set_cons_zero]
      refine List.Perm.cons _ ?_
      have e4 : (b :: t).dropLast ++ [(b :: t).getLast (by simp)] = b :: t := List.dropLast_concat_getLast (by simp)
      conv => rhs; rw [← e4]
      exact (List.perm_append_singleton _ _).symm
end


end
section
open PySem PySem.W PySem.Calls PyProof.Rows
set_option Elab.async false
set_option maxRecDepth 100000
set_option linter.unusedVariables false
set_option autoImplicit false

/-! a mark of four small ints, as one int -/
def enc : Mk → Int
  | [a, b, c, d] => ((a * 1000 + b) * 1000 + c) * 1000 + d
  | _ => 0
def Sm (z : Int) : Prop := -100 ≤ z ∧ z ≤ 100
def ok4 (x : Mk) : Prop := ∃ a b c d, x = [a, b, c, d] ∧ Sm a ∧ Sm b ∧ Sm c ∧ Sm d
theorem enc_lt : ∀ x y, ok4 x → ok4 y → llt x y = decide (enc x < enc y) := by
  rintro x y ⟨a, b, c, d, rfl, ha, hb, hc, hd⟩ ⟨a', b', c', d', rfl, ha', hb', hc', hd'⟩
  unfold Sm at *
  obtain ⟨X, hX⟩ : ∃ X, X = enc [a, b, c, d] := ⟨_, rfl⟩
  obtain ⟨Y, hY⟩ : ∃ Y, Y = enc [a', b', c', d'] := ⟨_, rfl⟩
  rw [← hX, ← hY]
  simp only [enc] at hX hY
  simp only [llt]
  by_cases e1 : a = a'
  · subst e1
    rw [if_pos rfl]
    by_cases e2 : b = b'
    · subst e2
      rw [if_pos rfl]
      by_cases e3 : c = c'
      · subst e3
        rw [if_pos rfl]
        by_cases e4 : d = d'
        · subst e4
          rw [if_pos rfl]
          symm; rw [decide_eq_false_iff_not]; lia
        · rw [if_neg e4, decide_eq_decide]; lia
      · rw [if_neg e3, decide_eq_decide]; lia
    · rw [if_neg e2, decide_eq_decide]; lia
  · rw [if_neg e1, decide_eq_decide]; lia
theorem enc_gt : ∀ x y, ok4 x → ok4 y → lgt x y = decide (-enc x < -enc y) := by
  intro x y hx hy
  unfold lgt
  rw [enc_lt y x hy hx, decide_eq_decide]; lia
theorem enc_inj : ∀ x y, ok4 x → ok4 y → enc x = enc y → x = y := by
  rintro x y ⟨a, b, c, d, rfl, ha, hb, hc, hd⟩ ⟨a', b', c', d', rfl, ha', hb', hc', hd'⟩ h
  unfold Sm at *
  simp only [enc] at h
  have e4 : d = d' := by lia
  have e3 : c = c' := by lia
  have e2 : b = b' := by lia
  have e1 : a = a' := by lia
  rw [e1, e2, e3, e4]

/-- the picks of the law -/
def Pg (ps : Pk) : Prop := ∃ c0 d0 c1 d1 c2 d2, ps = [(c0, d0), (c1, d1), (c2, d2), (2, 1)] ∧ (c0 < 4 ∧ (d0 = 1 ∨ d0 = -1)) ∧ (c1 < 4 ∧ (d1 = 1 ∨ d1 = -1)) ∧ (c2 < 4 ∧ (d2 = 1 ∨ d2 = -1))
def phi (ps : Pk) (e : En) : Int := enc (mkOf ps e)
def Bd (e : En) : Prop := ∀ c, c < 4 → Sm (e.col c)
theorem col_add (a b : En) : ∀ c, (addE a b).col c = a.col c + b.col c := by
  intro c
  match c with
  | 0 => exact Int.add_comm _ _
  | 1 => exact Int.add_comm _ _
  | 2 => exact Int.add_comm _ _
  | n + 3 => exact Int.add_comm _ _
theorem col_zero : ∀ c, zeroE.col c = 0 := by
  intro c
  match c with
  | 0 => rfl
  | 1 => rfl
  | 2 => rfl
  | n + 3 => rfl
theorem phi_add {ps : Pk} (P : Pg ps) (a b : En) : phi ps (addE a b) = phi ps a + phi ps b := by
  obtain ⟨c0, d0, c1, d1, c2, d2, rfl, ⟨-, h0⟩, ⟨-, h1⟩, ⟨-, h2⟩⟩ := P
  simp only [phi, mkOf, List.map, enc, col_add, Int.add_mul]
  lia
theorem phi_zero {ps : Pk} (P : Pg ps) : phi ps zeroE = 0 := by
  obtain ⟨c0, d0, c1, d1, c2, d2, rfl, ⟨-, h0⟩, ⟨-, h1⟩, ⟨-, h2⟩⟩ := P
  simp only [phi, mkOf, List.map, enc, col_zero, Int.zero_mul]
  lia
theorem sm_mul {z d : Int} (h : Sm z) (hd : d = 1 ∨ d = -1) : Sm (z * d) := by
  unfold Sm at *
  rcases hd with rfl | rfl <;> lia
theorem ok_mk {ps : Pk} (P : Pg ps) {e : En} (h : Bd e) : ok4 (mkOf ps e) := by
  obtain ⟨c0, d0, c1, d1, c2, d2, rfl, ⟨k0, h0⟩, ⟨k1, h1⟩, ⟨k2, h2⟩⟩ := P
  exact ⟨_, _, _, _, rfl, sm_mul (h _ k0) h0, sm_mul (h _ k1) h1, sm_mul (h _ k2) h2, sm_mul (h 2 (by lia)) (Or.inl rfl)⟩
theorem cmp_abs {x0 x1 x2 x3 y0 y1 y2 y3 d0 d1 d2 : Int} (h0 : d0 = 1 ∨ d0 = -1) (h1 : d1 = 1 ∨ d1 = -1) (h2 : d2 = 1 ∨ d2 = -1)
    (a0 : -100 ≤ x0 ∧ x0 ≤ 100) (a1 : -100 ≤ x1 ∧ x1 ≤ 100) (a2 : -100 ≤ x2 ∧ x2 ≤ 100) (a3 : -100 ≤ x3 ∧ x3 ≤ 100)
    (b0 : -100 ≤ y0 ∧ y0 ≤ 100) (b1 : -100 ≤ y1 ∧ y1 ≤ 100) (b2 : -100 ≤ y2 ∧ y2 ≤ 100) (b3 : -100 ≤ y3 ∧ y3 ≤ 100) {X Y : Int}
    (hX : X = ((x0 * d0 * 1000 + x1 * d1) * 1000 + x2 * d2) * 1000 + x3 * 1) (hY : Y = ((y0 * d0 * 1000 + y1 * d1) * 1000 + y2 * d2) * 1000 + y3 * 1) :
    (if x0 < y0 then -d0 else if y0 < x0 then d0 else if x1 < y1 then -d1 else if y1 < x1 then d1 else if x2 < y2 then -d2 else if y2 < x2 then d2 else if x3 < y3 then -1 else if y3 < x3 then 1 else 0) =
      if X < Y then -1 else if Y < X then 1 else 0 := by
  have step : ∀ (x y d T U rest : Int), (d = 1 ∨ d = -1) → (x = y → rest = if T < U then -1 else if U < T then 1 else 0) → (x * d < y * d → T < U) → (y * d < x * d → U < T) →
      (if x < y then -d else if y < x then d else rest) = if T < U then -1 else if U < T then 1 else 0 := by
    intro x y d T U rest hd h1 h2 h3
    rcases hd with rfl | rfl
    · by_cases e1 : x < y
      · rw [if_pos e1, if_pos (h2 (by lia))]
      · by_cases e2 : y < x
        · have := h3 (by lia)
          rw [if_neg e1, if_pos e2, if_neg (by lia), if_pos this]
        · rw [if_neg e1, if_neg e2]; exact h1 (by lia)
    · by_cases e1 : x < y
      · have := h3 (by lia)
        rw [if_pos e1, if_neg (by lia), if_pos this]; rfl
      · by_cases e2 : y < x
        · rw [if_neg e1, if_pos e2, if_pos (h2 (by lia))]
        · rw [if_neg e1, if_neg e2]; exact h1 (by lia)
  have hq : ∀ (z d : Int), -100 ≤ z → z ≤ 100 → (d = 1 ∨ d = -1) → -100 ≤ z * d ∧ z * d ≤ 100 := by
    intro z d h1 h2 hd; rcases hd with rfl | rfl <;> lia
  have A0 := hq x0 d0 a0.1 a0.2 h0; have A1 := hq x1 d1 a1.1 a1.2 h1; have A2 := hq x2 d2 a2.1 a2.2 h2
  have B0 := hq y0 d0 b0.1 b0.2 h0; have B1 := hq y1 d1 b1.1 b1.2 h1; have B2 := hq y2 d2 b2.1 b2.2 h2
  refine step _ _ _ _ _ _ h0 (fun e0 => ?_) (fun q => by lia) (fun q => by lia)
  subst e0
  refine step _ _ _ _ _ _ h1 (fun e1 => ?_) (fun q => by lia) (fun q => by lia)
  subst e1
  refine step _ _ _ _ _ _ h2 (fun e2 => ?_) (fun q => by lia) (fun q => by lia)
  subst e2
  exact step _ _ _ _ _ _ (Or.inl rfl) (fun e3 => by subst e3; rw [if_neg (by lia), if_neg (by lia)]) (fun q => by lia) (fun q => by lia)
theorem cmp_phi {ps : Pk} (P : Pg ps) {a b : En} (ha : Bd a) (hb : Bd b) : cmp ps a b = if phi ps a < phi ps b then -1 else if phi ps b < phi ps a then 1 else 0 := by
  obtain ⟨c0, d0, c1, d1, c2, d2, rfl, ⟨k0, h0⟩, ⟨k1, h1⟩, ⟨k2, h2⟩⟩ := P
  exact cmp_abs h0 h1 h2 (ha _ k0) (ha _ k1) (ha _ k2) (ha 2 (by lia)) (hb _ k0) (hb _ k1) (hb _ k2) (hb 2 (by lia)) rfl rfl
theorem mk_three {ps : Pk} (P : Pg ps) (e : En) : (mkOf ps e)[3]? = some e.tt := by
  obtain ⟨c0, d0, c1, d1, c2, d2, rfl, _⟩ := P
  show some (e.col 2 * 1) = _
  rw [Int.mul_one]; rfl

/-! sums -/
/-- the steps of the law -/
structure St (SE : List En) : Prop where
  len : SE.length ≤ 50
  sm : ∀ e ∈ SE, ∀ c, c < 4 → -1 ≤ e.col c ∧ e.col c ≤ 1
  one : ∀ e ∈ SE, e.tt = 1
  ks : ∀ (i : Nat) (e : En), SE[i]? = some e → e.ks = [(i : Int)]
theorem psum_zero (S : List En) : psum S 0 = zeroE := rfl
theorem psum_step {S : List En} {i : Nat} (h : i < S.length) : psum S (i + 1) = addE (psum S i) S[i] := psum_succ (List.getElem?_eq_getElem h)
theorem psum_add {S : List En} {F : En → Int} (h0 : F zeroE = 0) (ha : ∀ x y, F (addE x y) = F x + F y) {i : Nat} (h : i < S.length) : F (psum S (i + 1)) = F (psum S i) + F S[i] := by
  rw [psum_step h, ha]
theorem psum_bd {S : List En} (h : ∀ e ∈ S, ∀ c, c < 4 → -1 ≤ e.col c ∧ e.col c ≤ 1) : ∀ i, i ≤ S.length → ∀ c, c < 4 → -(i : Int) ≤ (psum S i).col c ∧ (psum S i).col c ≤ (i : Int)
  | 0, _, c, _ => by rw [psum_zero, col_zero]; lia
  | i + 1, hi, c, hc => by
    have h1 := psum_bd h i (by lia) c hc
    have h2 := h S[i] (List.getElem_mem _) c hc
    rw [psum_step (by lia), col_add]
    lia
theorem psum_tt {S : List En} (h : ∀ e ∈ S, e.tt = 1) : ∀ i, i ≤ S.length → (psum S i).tt = (i : Int)
  | 0, _ => rfl
  | i + 1, hi => by
    have h1 := psum_tt h i (by lia)
    have h2 := h S[i] (List.getElem_mem _)
    rw [psum_step (by lia)]
    show S[i].tt + (psum S i).tt = _
    lia
theorem bd_psum {S : List En} (h : ∀ e ∈ S, ∀ c, c < 4 → -1 ≤ e.col c ∧ e.col c ≤ 1) {i : Nat} (hi : i ≤ S.length) (hn : i ≤ 100) : Bd (psum S i) := fun c hc => by
  have := psum_bd h i hi c hc
  unfold Sm; lia

/-! picking out -/
theorem cnt_zero (f : Nat → Bool) : cnt f 0 = 0 := rfl
theorem cnt_mono (f : Nat → Bool) : ∀ {i j : Nat}, i ≤ j → cnt f i ≤ cnt f j := by
  intro i j h
  induction h with
  | refl => exact Nat.le_refl _
  | step _ ih => rw [cnt_succ]; lia
theorem cnt_not (f : Nat → Bool) : ∀ i, cnt f i + cnt (fun j => !f j) i = i
  | 0 => rfl
  | i + 1 => by
    have := cnt_not f i
    rw [cnt_succ, cnt_succ]
    cases f i <;> simp <;> lia
theorem cnt_onto (f : Nat → Bool) : ∀ (n j : Nat), j ≤ cnt f n → ∃ i, i ≤ n ∧ cnt f i = j
  | 0, j, h => ⟨0, Nat.le_refl _, by rw [cnt_zero] at *; lia⟩
  | n + 1, j, h => by
    by_cases e : j = cnt f (n + 1)
    · exact ⟨n + 1, Nat.le_refl _, e.symm⟩
    · rw [cnt_succ] at h e
      obtain ⟨i, h1, h2⟩ := cnt_onto f n j (by split at h <;> rename_i q <;> simp [q] at e <;> lia)
      exact ⟨i, by lia, h2⟩
theorem pickL_get {α : Type} (f : Nat → Bool) (xs : List α) {i : Nat} (hf : f i = true) : ∀ {j : Nat}, i < j → j ≤ xs.length → (pickL f xs j)[cnt f i]? = xs[i]? := by
  intro j
  induction j with
  | zero => intro h; lia
  | succ j ih =>
    intro h1 h2
    rw [pickL_succ f xs (List.getElem?_eq_getElem (by lia : j < xs.length))]
    have hl := length_pickL f xs (by lia : j ≤ xs.length)
    by_cases e : i = j
    · subst e
      rw [List.getElem?_append_right (by lia), hl, hf, if_pos rfl, Nat.sub_self, List.getElem?_eq_getElem (by lia : i < xs.length)]; rfl
    · have := cnt_mono f (by lia : i + 1 ≤ j)
      rw [cnt_succ, hf, if_pos rfl] at this
      rw [List.getElem?_append_left (by lia)]
      exact ih (by lia) (by lia)
theorem pickL_mem {α : Type} (f : Nat → Bool) (xs : List α) (i : Nat) : ∀ x ∈ pickL f xs i, x ∈ xs := by
  intro x hx
  unfold pickL at hx
  obtain ⟨j, _, hj⟩ := List.mem_filterMap.mp hx
  exact List.mem_of_getElem? hj
theorem pickL_perm {α : Type} (f : Nat → Bool) (xs : List α) : ∀ {i : Nat}, i ≤ xs.length → (pickL f xs i ++ pickL (fun j => !f j) xs i).Perm (xs.take i)
  | 0, _ => List.Perm.refl _
  | i + 1, h => by
    have ih := pickL_perm f xs (i := i) (by lia)
    have e := List.getElem?_eq_getElem (by lia : i < xs.length)
    rw [pickL_succ f xs e, pickL_succ _ xs e, List.take_add_one, e]
    show List.Perm _ (_ ++ [xs[i]])
    cases hf : f i
    · simp only [Bool.false_eq_true, if_false, Bool.not_false, if_true, List.append_nil]
      rw [← List.append_assoc]
      exact ih.append_right _
    · simp only [if_true, Bool.not_true, Bool.false_eq_true, if_false, List.append_nil]
      rw [List.append_assoc]
      refine (List.Perm.append_left _ (List.perm_append_comm (l₁ := [xs[i]]))).trans ?_
      rw [← List.append_assoc]
      exact ih.append_right _
section
variable {SE : List En} (f : Nat → Bool)
/-- the picked steps' sum, step by step -/
theorem pick_step {i : Nat} (hi : i < SE.length) : psum (pickL f SE SE.length) (cnt f (i + 1)) = if f i = true then addE (psum (pickL f SE SE.length) (cnt f i)) SE[i] else psum (pickL f SE SE.length) (cnt f i) := by
  rw [cnt_succ]
  by_cases hf : f i = true
  · rw [if_pos hf, if_pos hf]
    refine psum_succ ?_
    rw [pickL_get f SE hf hi (Nat.le_refl _)]
    exact List.getElem?_eq_getElem hi
  · rw [if_neg hf, if_neg hf]; rfl
theorem pick_sum {F : En → Int} (h0 : F zeroE = 0) (ha : ∀ x y, F (addE x y) = F x + F y) : ∀ i, i ≤ SE.length → F (psum (pickL f SE SE.length) (cnt f i)) + F (psum (pickL (fun j => !f j) SE SE.length) (cnt (fun j => !f j) i)) = F (psum SE i)
  | 0, _ => by rw [cnt_zero, cnt_zero, psum_zero, psum_zero, psum_zero, h0]; rfl
  | i + 1, h => by
    have ih := pick_sum h0 ha i (by lia)
    have e1 := pick_step f (by lia : i < SE.length)
    have e2 := pick_step (fun j => !f j) (by lia : i < SE.length)
    rw [psum_step (by lia : i < SE.length), ha, e1, e2]
    cases hf : f i
    · simp only [Bool.false_eq_true, if_false, Bool.not_false, if_true, ha]; lia
    · simp only [if_true, Bool.not_true, Bool.false_eq_true, if_false, ha]; lia
theorem pick_keys : ∀ i, i ≤ SE.length → ∀ k ∈ (psum (pickL f SE SE.length) (cnt f i)).ks, k ∈ (psum SE i).ks
  | 0, _, k, hk => hk
  | i + 1, h, k, hk => by
    rw [psum_step (by lia : i < SE.length)]
    rw [pick_step f (by lia : i < SE.length)] at hk
    show k ∈ (psum SE i).ks ++ SE[i].ks
    split at hk
    · rcases List.mem_append.mp hk with q | q
      · exact List.mem_append_left _ (pick_keys i (by lia) k q)
      · exact List.mem_append_right _ q
    · exact List.mem_append_left _ (pick_keys i (by lia) k hk)
end


end
section
open PySem PySem.W PySem.Calls PyProof.Rows
set_option Elab.async false
set_option maxRecDepth 100000
set_option linter.unusedVariables false
set_option autoImplicit false

/-! counting -/
theorem cnt_countP (f : Nat → Bool) (i : Nat) : cnt f i = (List.range i).countP f := by unfold cnt; rw [List.countP_eq_length_filter]
theorem cnt_le_of {f g : Nat → Bool} : ∀ {n : Nat}, (∀ i, i < n → f i = true → g i = true) → cnt f n ≤ cnt g n
  | 0, _ => Nat.le_refl _
  | n + 1, h => by
    have ih := cnt_le_of (n := n) fun i hi => h i (by lia)
    have := h n (by lia)
    rw [cnt_succ, cnt_succ]
    cases hf : f n
    · simp; lia
    · rw [this hf]; simp; lia
theorem cnt_lt_of {f g : Nat → Bool} {j : Nat} (hf : f j = false) (hg : g j = true) : ∀ {n : Nat}, j < n → (∀ i, i < n → f i = true → g i = true) → cnt f n < cnt g n
  | 0, h, _ => by lia
  | n + 1, hj, h => by
    rw [cnt_succ, cnt_succ]
    by_cases e : j = n
    · subst e
      have := cnt_le_of (n := j) fun i hi => h i (by lia)
      rw [hf, hg]; simp; lia
    · have ih := cnt_lt_of hf hg (n := n) (by lia) fun i hi => h i (by lia)
      have := h n (by lia)
      cases hf' : f n
      · simp; lia
      · rw [this hf']; simp; lia
theorem cnt_congr {f g : Nat → Bool} {n : Nat} (h : ∀ i, i < n → f i = g i) : cnt f n = cnt g n :=
  Nat.le_antisymm (cnt_le_of fun i hi q => (h i hi) ▸ q) (cnt_le_of fun i hi q => (h i hi).symm ▸ q)
/-- leaving out the place p -/
theorem cnt_skip {f h : Nat → Bool} {p : Nat} (hp : f p = false) (lo : ∀ i, i < p → h i = f i) : ∀ n, p ≤ n → (∀ i, p ≤ i → i < n → h i = f (i + 1)) → cnt f (n + 1) = cnt h n
  | 0, hn, _ => by
    obtain rfl : p = 0 := by lia
    rw [cnt_succ, hp]; rfl
  | n + 1, hn, hi => by
    by_cases e : p = n + 1
    · subst e
      rw [cnt_succ f (n + 1), hp]; simp; exact cnt_congr fun i q => (lo i q).symm
    · rw [cnt_succ f (n + 1), cnt_skip hp lo n (by lia) fun i a b => hi i a (by lia), cnt_succ h, hi n (by lia) (by lia)]

section
variable {ps : Pk} {SE : List En}
abbrev T (ps : Pk) (SE : List En) (i : Nat) : Int := phi ps (psum SE i)
def rk (ps : Pk) (SE : List En) (i : Nat) : Nat := cnt (fun j => decide (T ps SE j < T ps SE i)) (SE.length + 1)
theorem T_inj (P : Pg ps) (S : St SE) {i j : Nat} (hi : i ≤ SE.length) (hj : j ≤ SE.length) (h : T ps SE i = T ps SE j) : i = j := by
  have n50 := S.len
  have e := enc_inj _ _ (ok_mk P (bd_psum S.sm hi (by lia))) (ok_mk P (bd_psum S.sm hj (by lia))) h
  have e3 : (mkOf ps (psum SE i))[3]? = (mkOf ps (psum SE j))[3]? := by rw [e]
  rw [mk_three P, mk_three P, psum_tt S.one i hi, psum_tt S.one j hj] at e3
  have := Option.some.inj e3
  lia
theorem rk_lt (S : St SE) {i j : Nat} (hi : i ≤ SE.length) (hj : j ≤ SE.length) : rk ps SE i < rk ps SE j ↔ T ps SE i < T ps SE j := by
  unfold rk
  constructor
  · intro h
    by_cases q : T ps SE i < T ps SE j
    · exact q
    · have := cnt_le_of (n := SE.length + 1) (f := fun m => decide (T ps SE m < T ps SE j)) (g := fun m => decide (T ps SE m < T ps SE i)) fun m _ hm => by
        rw [decide_eq_true_eq] at hm ⊢; lia
      lia
  · intro q
    refine cnt_lt_of (j := i) (by rw [decide_eq_false_iff_not]; lia) (by rw [decide_eq_true_eq]; exact q) (by lia) fun m _ hm => ?_
    rw [decide_eq_true_eq] at hm ⊢; lia
theorem isLow_T (P : Pg ps) (S : St SE) {p i : Nat} (hp : p ≤ SE.length) (hi : i ≤ SE.length) : (cmp ps (psum SE i) (psum SE p) < 0) ↔ T ps SE i < T ps SE p := by
  have n50 := S.len
  rw [cmp_phi P (bd_psum S.sm hi (by lia)) (bd_psum S.sm hp (by lia))]
  show (if T ps SE i < T ps SE p then (-1 : Int) else if T ps SE p < T ps SE i then 1 else 0) < 0 ↔ _
  by_cases h1 : T ps SE i < T ps SE p
  · rw [if_pos h1]; simp [h1]
  · rw [if_neg h1]
    by_cases h2 : T ps SE p < T ps SE i
    · rw [if_pos h2]; simp [h1]
    · rw [if_neg h2]; simp [h1]
theorem low_before (P : Pg ps) (S : St SE) {p i : Nat} (hp : p ≤ SE.length) (hi : i < p) : isLow ps SE p i = decide (T ps SE i < T ps SE p) := by
  unfold isLow; rw [if_pos hi, decide_eq_decide]; exact isLow_T P S hp (by lia)
theorem low_after (P : Pg ps) (S : St SE) {p i : Nat} (hp : p ≤ SE.length) (hi : p ≤ i) (hn : i < SE.length) : isLow ps SE p i = decide (T ps SE (i + 1) < T ps SE p) := by
  unfold isLow; rw [if_neg (by lia), decide_eq_decide]; exact isLow_T P S hp (by lia)

/-- the sum of the low (of the high) steps among the first i -/
abbrev U (ps : Pk) (SE : List En) (p i : Nat) : Int := phi ps (psum (lowE ps SE p) (cnt (isLow ps SE p) i))
abbrev V (ps : Pk) (SE : List En) (p i : Nat) : Int := phi ps (psum (highE ps SE p) (cnt (isHigh ps SE p) i))
theorem high_not (p : Nat) : isHigh ps SE p = fun j => !isLow ps SE p j := rfl
theorem uv (P : Pg ps) (p : Nat) {i : Nat} (hi : i ≤ SE.length) : U ps SE p i + V ps SE p i = T ps SE i := by
  unfold U V T lowE highE
  rw [high_not]
  exact pick_sum (isLow ps SE p) (phi_zero P) (phi_add P) i hi
theorem u_step (P : Pg ps) (p : Nat) {i : Nat} (hi : i < SE.length) : U ps SE p (i + 1) = U ps SE p i + (if isLow ps SE p i = true then phi ps SE[i] else 0) := by
  have := pick_step (SE := SE) (isLow ps SE p) hi
  unfold U lowE
  rw [this]
  split
  · rw [phi_add P]
  · lia
theorem v_step (P : Pg ps) (p : Nat) {i : Nat} (hi : i < SE.length) : V ps SE p (i + 1) = V ps SE p i + (if isLow ps SE p i = true then 0 else phi ps SE[i]) := by
  have := pick_step (SE := SE) (isHigh ps SE p) hi
  unfold V highE
  rw [this]
  unfold isHigh
  cases isLow ps SE p i
  · simp; rw [phi_add P]
  · simp
/-- the peak of the lows and the pit of the highs stand at p -/
theorem up_ok (P : Pg ps) (S : St SE) {p : Nat} (hp : p ≤ SE.length) : ∀ (d i : Nat), i = p + d → i ≤ SE.length → U ps SE p i ≤ U ps SE p p ∧ V ps SE p p ≤ V ps SE p i
  | 0, i, e, _ => by subst e; exact ⟨Int.le_refl _, Int.le_refl _⟩
  | d + 1, i, e, hi => by
    obtain ⟨j, rfl⟩ : ∃ j, i = j + 1 := ⟨p + d, by lia⟩
    obtain ⟨h1, h2⟩ := up_ok P S hp d j (by lia) (by lia)
    have s1 := u_step P p (i := j) (SE := SE) (by lia)
    have s2 := v_step P p (i := j) (SE := SE) (by lia)
    have t1 := uv P p (i := j + 1) (SE := SE) (by lia)
    have t2 := uv P p (i := p) (SE := SE) hp
    have l := low_after P S hp (i := j) (by lia) (by lia)
    by_cases h : T ps SE (j + 1) < T ps SE p
    · rw [l, if_pos (decide_eq_true h)] at s1 s2; lia
    · rw [l, if_neg (by rw [decide_eq_true_eq]; exact h)] at s1 s2; lia
theorem dn_ok (P : Pg ps) (S : St SE) {p : Nat} (hp : p ≤ SE.length) : ∀ (d i : Nat), p = i + d → U ps SE p i ≤ U ps SE p p ∧ V ps SE p p ≤ V ps SE p i
  | 0, i, e => by subst e; exact ⟨Int.le_refl _, Int.le_refl _⟩
  | d + 1, i, e => by
    obtain ⟨h1, h2⟩ := dn_ok P S hp d (i + 1) (by lia)
    have s1 := u_step P p (i := i) (SE := SE) (by lia)
    have s2 := v_step P p (i := i) (SE := SE) (by lia)
    have t1 := uv P p (i := i) (SE := SE) (by lia)
    have t2 := uv P p (i := p) (SE := SE) hp
    have l := low_before P S hp (i := i) (by lia)
    by_cases h : T ps SE i < T ps SE p
    · rw [l, if_pos (decide_eq_true h)] at s1 s2; lia
    · rw [l, if_neg (by rw [decide_eq_true_eq]; exact h)] at s1 s2; lia
theorem uv_peak (P : Pg ps) (S : St SE) {p i : Nat} (hp : p ≤ SE.length) (hi : i ≤ SE.length) : U ps SE p i ≤ U ps SE p p ∧ V ps SE p p ≤ V ps SE p i := by
  by_cases h : i ≤ p
  · exact dn_ok P S hp (p - i) i (by lia)
  · exact up_ok P S hp (i - p) i (by lia) hi

/-! the heaps of the two walks -/
theorem root_is {lt : Mk → Mk → Bool} {f : Mk → Int} {xs : List Mk} {m0 : Mk} (hlt : ∀ x y, ok4 x → ok4 y → lt x y = decide (f x < f y)) (hinj : ∀ x y, ok4 x → ok4 y → f x = f y → x = y)
    (hok : ∀ x ∈ xs, ok4 x) (hm : m0 ∈ xs) (hle : ∀ x ∈ xs, f m0 ≤ f x) : (hfy lt (xs.length / 2) xs)[0]? = some m0 := by
  obtain ⟨h1, h2⟩ := heap_of (f := f) hlt xs hok
  have hn : 0 < xs.length := List.length_pos_of_mem hm
  have hn' : 0 < (hfy lt (xs.length / 2) xs).length := by rw [h2.length_eq]; exact hn
  have e : (hfy lt (xs.length / 2) xs).getD 0 [] = (hfy lt (xs.length / 2) xs)[0] := by rw [List.getD_eq_getElem?_getD, List.getElem?_eq_getElem hn']; rfl
  rw [List.getElem?_eq_getElem hn']
  have hr : (hfy lt (xs.length / 2) xs)[0] ∈ xs := h2.mem_iff.mp (List.getElem_mem _)
  obtain ⟨i, hi, he⟩ := List.mem_iff_getElem.mp (h2.mem_iff.mpr hm)
  have h3 := root_le h1 i hi
  rw [e, List.getD_eq_getElem?_getD, List.getElem?_eq_getElem hi] at h3
  have h4 := hle _ hr
  have h3' : f (hfy lt (xs.length / 2) xs)[0] ≤ f m0 := by rw [← he]; exact h3
  exact congrArg some (hinj _ _ (hok _ hr) (hok _ hm) (by lia))
theorem pick_sm (S : St SE) (f : Nat → Bool) : ∀ e ∈ pickL f SE SE.length, ∀ c, c < 4 → -1 ≤ e.col c ∧ e.col c ≤ 1 := fun e he => S.sm e (pickL_mem f SE _ e he)
theorem pick_one (S : St SE) (f : Nat → Bool) : ∀ e ∈ pickL f SE SE.length, e.tt = 1 := fun e he => S.one e (pickL_mem f SE _ e he)
theorem pick_len (f : Nat → Bool) : (pickL f SE SE.length).length = cnt f SE.length := length_pickL f SE (Nat.le_refl _)
theorem sums_mem {L : List En} {m : Mk} : m ∈ (sumsOf L).map (mkOf ps) ↔ ∃ j, j ≤ L.length ∧ mkOf ps (psum L j) = m := by
  unfold sumsOf
  rw [List.map_map, List.mem_map]
  constructor
  · rintro ⟨j, hj, e⟩; exact ⟨j, by rw [List.mem_range] at hj; lia, e⟩
  · rintro ⟨j, hj, e⟩; exact ⟨j, by rw [List.mem_range]; lia, e⟩
theorem length_sums (L : List En) : (sumsOf L).length = L.length + 1 := by unfold sumsOf; simp
theorem pick_root (P : Pg ps) (S : St SE) (f : Nat → Bool) {p : Nat} (hp : p ≤ SE.length) {lt : Mk → Mk → Bool} {F : Mk → Int} (hlt : ∀ x y, ok4 x → ok4 y → lt x y = decide (F x < F y)) (hinj : ∀ x y, ok4 x → ok4 y → F x = F y → x = y)
    (hle : ∀ i, i ≤ SE.length → F (mkOf ps (psum (pickL f SE SE.length) (cnt f p))) ≤ F (mkOf ps (psum (pickL f SE SE.length) (cnt f i)))) :
    ∃ mt, (hfy lt ((sumsOf (pickL f SE SE.length)).length / 2) ((sumsOf (pickL f SE SE.length)).map (mkOf ps)))[0]? = some mt ∧ mt[3]? = some ((cnt f p : Nat) : Int) := by
  have n50 := S.len
  have hl := pick_len (SE := SE) f
  have hc := cnt_le f SE.length
  refine ⟨mkOf ps (psum (pickL f SE SE.length) (cnt f p)), ?_, ?_⟩
  · have := root_is (xs := (sumsOf (pickL f SE SE.length)).map (mkOf ps)) (m0 := mkOf ps (psum (pickL f SE SE.length) (cnt f p))) hlt hinj ?_ ?_ ?_
    · rwa [List.length_map] at this
    · intro x hx
      obtain ⟨j, hj, rfl⟩ := sums_mem.mp hx
      exact ok_mk P (bd_psum (pick_sm S f) hj (by lia))
    · exact sums_mem.mpr ⟨_, by rw [hl]; exact cnt_mono f hp, rfl⟩
    · intro x hx
      obtain ⟨j, hj, rfl⟩ := sums_mem.mp hx
      obtain ⟨i, hi, rfl⟩ := cnt_onto f SE.length j (by lia)
      exact hle i hi
  · rw [mk_three P, psum_tt (pick_one S f) _ (by rw [hl]; exact cnt_mono f hp)]

/-! keys -/
theorem keys_take (S : St SE) : ∀ i, i ≤ SE.length → keysOf (SE.take i) = (List.range i).map fun (j : Nat) => (j : Int)
  | 0, _ => rfl
  | i + 1, h => by
    rw [List.take_add_one, List.getElem?_eq_getElem (by lia : i < SE.length), List.range_succ, List.map_append, ← keys_take S i (by lia)]
    unfold keysOf
    rw [List.flatMap_append]
    show _ ++ (SE[i].ks ++ []) = _
    rw [S.ks i _ (List.getElem?_eq_getElem (by lia : i < SE.length))]; rfl
theorem keys_all (S : St SE) : (keysOf SE).Nodup ∧ (keysOf SE).length = SE.length := by
  have := keys_take S SE.length (Nat.le_refl _)
  rw [List.take_length] at this
  rw [this]
  refine ⟨?_, by simp⟩
  unfold List.Nodup
  rw [List.pairwise_map]
  refine List.nodup_range.imp ?_
  intro a b h; lia
theorem keys_parts (S : St SE) (f : Nat → Bool) : (keysOf (pickL f SE SE.length ++ pickL (fun j => !f j) SE SE.length)).Perm (keysOf SE) := by
  have := pickL_perm f SE (Nat.le_refl SE.length)
  rw [List.take_length] at this
  exact this.flatMap_right _
theorem keys_pick (S : St SE) (f : Nat → Bool) : (psum (pickL f SE SE.length) (pickL f SE SE.length).length).ks.length = cnt f SE.length := by
  rw [psum_ks, List.take_length, ← pick_len f]
  have : ∀ e ∈ pickL f SE SE.length, e.ks.length = 1 := fun e he => by
    obtain ⟨i, hi, rfl⟩ := List.mem_iff_getElem.mp (pickL_mem f SE _ e he)
    rw [S.ks i _ (List.getElem?_eq_getElem hi)]; rfl
  unfold keysOf
  generalize pickL f SE SE.length = L at this
  induction L with
  | nil => rfl
  | cons x r ih =>
    rw [List.flatMap_cons, List.length_append, this x (List.mem_cons_self ..), ih fun e he => this e (List.mem_cons_of_mem _ he), List.length_cons]; lia

theorem part_ok (P : Pg ps) (S : St SE) {RK : List Int} (hl : RK.length = SE.length + 1) (hr : ∀ i, i ≤ SE.length → RK[i]? = some (rk ps SE i : Int)) {p : Nat} (hp : p ≤ SE.length) : Part ps SE RK p (rk ps SE p) := by
  have n50 := S.len
  have la := pick_len (SE := SE) (isLow ps SE p)
  have lb := pick_len (SE := SE) (isHigh ps SE p)
  have ca := cnt_le (isLow ps SE p) SE.length
  have cb := cnt_le (isHigh ps SE p) SE.length
  have cab : ∀ i, cnt (isLow ps SE p) i + cnt (isHigh ps SE p) i = i := fun i => cnt_not (isLow ps SE p) i
  have ma : ∀ {i}, i ≤ SE.length → cnt (isLow ps SE p) i ≤ SE.length := fun {i} h => Nat.le_trans (cnt_mono _ h) ca
  have add := fun (F : En → Int) h0 ha => pick_sum (SE := SE) (isLow ps SE p) (F := F) h0 ha p hp
  have keyL : ∀ {i}, i ≤ SE.length → Bd (addE (psum (lowE ps SE p) (cnt (isLow ps SE p) i)) (psum (highE ps SE p) (cnt (isHigh ps SE p) i))) := fun {i} h c hc => by
    have c1 := cnt_mono (isLow ps SE p) h
    have c2 := cnt_mono (isHigh ps SE p) h
    have h1 := psum_bd (pick_sm S (isLow ps SE p)) (cnt (isLow ps SE p) i) (by lia) c hc
    have h2 := psum_bd (pick_sm S (isHigh ps SE p)) (cnt (isHigh ps SE p) i) (by lia) c hc
    have h3 := cab i
    rw [col_add]
    unfold lowE highE Sm
    lia
  have cm : ∀ i, i ≤ SE.length → (cmp ps (addE (psum (lowE ps SE p) (cnt (isLow ps SE p) i)) (psum (highE ps SE p) (cnt (isHigh ps SE p) i))) (addE (psum (lowE ps SE p) (cnt (isLow ps SE p) p)) (psum (highE ps SE p) (cnt (isHigh ps SE p) p))) < 0 ↔ T ps SE i < T ps SE p) := fun i hi => by
    rw [cmp_phi P (keyL hi) (keyL hp), phi_add P, phi_add P]
    have t1 := uv P p hi
    have t2 := uv P p hp
    unfold U V at t1 t2
    rw [t1, t2]
    by_cases h1 : T ps SE i < T ps SE p
    · rw [if_pos h1]; simp [h1]
    · rw [if_neg h1]
      by_cases h2 : T ps SE p < T ps SE i
      · rw [if_pos h2]; simp [h1]
      · rw [if_neg h2]; simp [h1]
  have kp := keys_parts S (isLow ps SE p)
  have ka := keys_all S
  refine
    { hp := hp, hn := S.len, hk := hr p hp, rlen := hl
      first := fun i hi q => ?_
      sgn := fun i r q => ?_
      topm := pick_root P S (isLow ps SE p) hp enc_gt (fun x y hx hy h => enc_inj x y hx hy (by lia)) fun i hi => ?_
      dipm := pick_root P S (isHigh ps SE p) hp enc_lt enc_inj fun i hi => (uv_peak P S hp hi).2
      kcnt := ?_
      ecc := (Int.add_comm _ _).trans (add (·.cc) rfl fun x y => Int.add_comm _ _)
      enc := (Int.add_comm _ _).trans (add (·.nc) rfl fun x y => Int.add_comm _ _)
      ett := (Int.add_comm _ _).trans (add (·.tt) rfl fun x y => Int.add_comm _ _)
      ect := (Int.add_comm _ _).trans (add (·.ct) rfl fun x y => Int.add_comm _ _)
      ekl := ?_
      eks := fun k hk => ?_
      run := fun X lits hits hX h1 h2 => ?_
      nd := kp.nodup_iff.mpr ka.1
      kz := by
        have := kp.length_eq
        rw [ka.2] at this
        exact Nat.le_trans (Nat.le_of_eq this) (by lia) }
  · rw [hr i (by lia)] at q
    have e : rk ps SE i = rk ps SE p := by have := Option.some.inj q; lia
    have h1 := rk_lt (ps := ps) S (i := i) (j := p) (by lia) hp
    have h2 := rk_lt (ps := ps) S (i := p) (j := i) hp (by lia)
    have := T_inj P S (i := i) (j := p) (by lia) hp (by lia)
    lia
  · have hi : i ≤ SE.length := by
      have := (List.getElem?_eq_some_iff.mp q).1
      lia
    rw [hr i hi] at q
    have e := Option.some.inj q
    subst e
    rw [cmp_phi P (bd_psum S.sm hi (by lia)) (bd_psum S.sm hp (by lia))]
    have h1 := rk_lt (ps := ps) S hi hp
    have h2 := rk_lt (ps := ps) S hp hi
    show (if T ps SE i < T ps SE p then (-1 : Int) else if T ps SE p < T ps SE i then 1 else 0) = _
    by_cases c1 : T ps SE i < T ps SE p
    · have := h1.mpr c1
      rw [if_pos c1, if_neg (by lia), if_pos (by lia)]; rfl
    · rw [if_neg c1]
      by_cases c2 : T ps SE p < T ps SE i
      · have := h2.mpr c2
        rw [if_pos c2, if_pos (by lia), if_neg (by lia)]; rfl
      · rw [if_neg c2, if_neg (by lia), if_neg (by lia)]; rfl
  · have := (uv_peak P S hp hi).1
    unfold U phi at this
    show -enc _ ≤ -enc _
    unfold lowE at this
    lia
  · show (psum (pickL (isLow ps SE p) SE SE.length) (pickL (isLow ps SE p) SE SE.length).length).ks.length = _
    rw [keys_pick S]
    unfold rk
    refine (cnt_skip (p := p) (by rw [decide_eq_false_iff_not]; lia) (fun i hi => low_before P S hp hi) SE.length hp fun i a b => low_after P S hp a b).symm
  · have := add (fun e => (e.ks.length : Int)) rfl fun x y => by
      show ((x.ks ++ y.ks).length : Int) = _
      rw [List.length_append]; lia
    show ((psum (pickL (isLow ps SE p) SE SE.length) (cnt (isLow ps SE p) p)).ks ++ (psum (pickL (isHigh ps SE p) SE SE.length) (cnt (isHigh ps SE p) p)).ks).length = _
    rw [List.length_append]
    rw [high_not]
    lia
  · rcases List.mem_append.mp hk with q | q
    · exact pick_keys (isLow ps SE p) p hp k q
    · exact pick_keys (isHigh ps SE p) p hp k q
  · have fw : ∀ i, i < SE.length → ∀ (t : Prop), (t ↔ isLow ps SE p i = true) → (t → cnt (isLow ps SE p) (i + 1) = cnt (isLow ps SE p) i + 1 ∧ cnt (isHigh ps SE p) (i + 1) = cnt (isHigh ps SE p) i ∧ cnt (isLow ps SE p) i < (lowE ps SE p).length ∧ lits[cnt (isLow ps SE p) i]? = X[i]?) ∧
        (¬ t → cnt (isHigh ps SE p) (i + 1) = cnt (isHigh ps SE p) i + 1 ∧ cnt (isLow ps SE p) (i + 1) = cnt (isLow ps SE p) i ∧ cnt (isHigh ps SE p) i < (highE ps SE p).length ∧ hits[cnt (isHigh ps SE p) i]? = X[i]?) := fun i hi t ht => by
      have e1 := cnt_succ (isLow ps SE p) i
      have e2 := cnt_succ (isHigh ps SE p) i
      have m1 := cnt_mono (isLow ps SE p) (by lia : i + 1 ≤ SE.length)
      have m2 := cnt_mono (isHigh ps SE p) (by lia : i + 1 ≤ SE.length)
      refine ⟨fun q => ?_, fun q => ?_⟩
      · have hlow := ht.mp q
        have hhigh : isHigh ps SE p i = false := by unfold isHigh; rw [hlow]; rfl
        rw [hlow, if_pos rfl] at e1
        rw [hhigh, if_neg (by simp)] at e2
        refine ⟨e1, e2, ?_, ?_⟩
        · show _ < (pickL (isLow ps SE p) SE SE.length).length; lia
        · rw [← Array.getElem?_toList, h1]
          rw [← hX]
          exact pickL_get _ X hlow (by lia) (Nat.le_refl _)
      · have hlow : isLow ps SE p i = false := by
          cases h : isLow ps SE p i
          · rfl
          · exact absurd (ht.mpr h) q
        have hhigh : isHigh ps SE p i = true := by unfold isHigh; rw [hlow]; rfl
        rw [hlow, if_neg (by simp)] at e1
        rw [hhigh, if_pos rfl] at e2
        refine ⟨e2, e1, ?_, ?_⟩
        · show _ < (pickL (isHigh ps SE p) SE SE.length).length; lia
        · rw [← Array.getElem?_toList, h2]
          rw [← hX]
          exact pickL_get _ X hhigh (by lia) (Nat.le_refl _)
    have cp := cab p
    refine
      { ab := fun i _ => cab i
        le := by lia
        atop := by rw [cp]
        adip := by rw [cp]
        al := fun i hi => by have := cnt_mono (isLow ps SE p) (by lia : i ≤ SE.length); unfold lowE; lia
        bl := fun i hi => by have := cnt_mono (isHigh ps SE p) (by lia : i ≤ SE.length); unfold highE; lia
        aN := by rw [hX]; exact la.symm
        bN := by rw [hX]; exact lb.symm
        fwd := fun i hi => ?_
        bwd := fun i hi hn => ?_ }
    · rw [cp] at hi
      refine fw i (by lia) _ ?_
      rw [cm i (by lia), low_before P S hp hi, decide_eq_true_eq]
    · rw [cp] at hi
      refine fw i (by lia) _ ?_
      rw [cm (i + 1) (by lia), low_after P S hp hi (by lia), decide_eq_true_eq]
end


end
section
open PySem PySem.W PySem.Calls PyProof.Rows
set_option Elab.async false
set_option maxRecDepth 100000
set_option linter.unusedVariables false
set_option autoImplicit false

/-! the row, the ranks, the pops -/
def Srt (xs : List Mk) : Prop := xs.Pairwise fun x y => enc x ≤ enc y
theorem Srt.le {xs : List Mk} (h : Srt xs) {i j : Nat} (hij : i ≤ j) (hj : j < xs.length) : enc (xs.getD i []) ≤ enc (xs.getD j []) := by
  by_cases e : i = j
  · subst e; exact Int.le_refl _
  · have := List.pairwise_iff_getElem.mp h i j (by lia) hj (by lia)
    rw [List.getD_eq_getElem?_getD, List.getD_eq_getElem?_getD, List.getElem?_eq_getElem (by lia : i < xs.length), List.getElem?_eq_getElem hj]
    exact this
theorem bisr_ok {x : Mk} {xs : List Mk} (hx : ok4 x) (hok : ∀ y ∈ xs, ok4 y) (hs : Srt xs) : ∀ (k lo hi : Nat), hi - lo = k → lo ≤ hi → hi ≤ xs.length →
    (∀ i, i < lo → enc (xs.getD i []) ≤ enc x) → (∀ i, hi ≤ i → i < xs.length → enc x < enc (xs.getD i [])) →
    (∀ i, i < bisr x xs lo hi → enc (xs.getD i []) ≤ enc x) ∧ (∀ i, bisr x xs lo hi ≤ i → i < xs.length → enc x < enc (xs.getD i [])) := by
  intro k
  induction k using Nat.strongRecOn with
  | ind k ih =>
    intro lo hi hk hlo hhi h1 h2
    by_cases c : lo < hi
    · have hm : (lo + hi) / 2 < xs.length := by lia
      have e := enc_lt x (xs.getD ((lo + hi) / 2) []) hx (hok _ (getD_mem hm))
      by_cases q : enc x < enc (xs.getD ((lo + hi) / 2) [])
      · rw [bisr_lt c (by rw [e]; exact decide_eq_true q)]
        exact ih _ (by lia) lo ((lo + hi) / 2) rfl (by lia) (by lia) h1 fun i a b => by
          have := hs.le a b; lia
      · rw [bisr_ge c (by rw [e]; exact decide_eq_false q)]
        exact ih _ (by lia) ((lo + hi) / 2 + 1) hi rfl (by lia) (by lia) (fun i a => by
          have := hs.le (i := i) (j := (lo + hi) / 2) (by lia) hm; lia) h2
    · rw [bisr_end c]
      exact ⟨h1, fun i a b => h2 i (by lia) b⟩
theorem bisl_ok {x : Mk} {xs : List Mk} (hx : ok4 x) (hok : ∀ y ∈ xs, ok4 y) (hs : Srt xs) : ∀ (k lo hi : Nat), hi - lo = k → lo ≤ hi → hi ≤ xs.length →
    (∀ i, i < lo → enc (xs.getD i []) < enc x) → (∀ i, hi ≤ i → i < xs.length → enc x ≤ enc (xs.getD i [])) →
    bisl x xs lo hi ≤ xs.length ∧ (∀ i, i < bisl x xs lo hi → enc (xs.getD i []) < enc x) ∧ (∀ i, bisl x xs lo hi ≤ i → i < xs.length → enc x ≤ enc (xs.getD i [])) := by
  intro k
  induction k using Nat.strongRecOn with
  | ind k ih =>
    intro lo hi hk hlo hhi h1 h2
    by_cases c : lo < hi
    · have hm : (lo + hi) / 2 < xs.length := by lia
      have e := enc_lt (xs.getD ((lo + hi) / 2) []) x (hok _ (getD_mem hm)) hx
      by_cases q : enc (xs.getD ((lo + hi) / 2) []) < enc x
      · rw [bisl_lt c (by rw [e]; exact decide_eq_true q)]
        exact ih _ (by lia) ((lo + hi) / 2 + 1) hi rfl (by lia) (by lia) (fun i a => by
          have := hs.le (i := i) (j := (lo + hi) / 2) (by lia) hm; lia) h2
      · rw [bisl_ge c (by rw [e]; exact decide_eq_false q)]
        exact ih _ (by lia) lo ((lo + hi) / 2) rfl (by lia) (by lia) h1 fun i a b => by
          have := hs.le a b; lia
    · rw [bisl_end c]
      exact ⟨by lia, h1, fun i a b => h2 i (by lia) b⟩
theorem take_getD {xs : List Mk} {r : Nat} {y : Mk} (h : y ∈ xs.take r) : ∃ i, i < r ∧ i < xs.length ∧ xs.getD i [] = y := by
  obtain ⟨i, hi, rfl⟩ := List.mem_iff_getElem.mp h
  rw [List.length_take] at hi
  refine ⟨i, by lia, by lia, ?_⟩
  rw [List.getElem_take, List.getD_eq_getElem?_getD, List.getElem?_eq_getElem (by lia : i < xs.length)]; rfl
theorem drop_getD {xs : List Mk} {r : Nat} {y : Mk} (h : y ∈ xs.drop r) : ∃ i, r ≤ i ∧ i < xs.length ∧ xs.getD i [] = y := by
  obtain ⟨i, hi, rfl⟩ := List.mem_iff_getElem.mp h
  rw [List.length_drop] at hi
  refine ⟨r + i, by lia, by lia, ?_⟩
  rw [List.getElem_drop, List.getD_eq_getElem?_getD, List.getElem?_eq_getElem (by lia : r + i < xs.length)]; rfl
theorem ins_perm (x : Mk) (xs : List Mk) : (ins x xs).Perm (x :: xs) := by
  unfold ins
  refine List.perm_middle.trans ?_
  rw [List.take_append_drop]
theorem ins_srt {x : Mk} {xs : List Mk} (hx : ok4 x) (hok : ∀ y ∈ xs, ok4 y) (hs : Srt xs) : Srt (ins x xs) := by
  obtain ⟨h1, h2⟩ := bisr_ok hx hok hs _ 0 xs.length rfl (Nat.zero_le _) (Nat.le_refl _) (fun i h => by lia) (fun i a b => by lia)
  unfold ins Srt
  generalize bisr x xs 0 xs.length = r at *
  rw [List.pairwise_append, List.pairwise_cons]
  refine ⟨hs.sublist (List.take_sublist _ _), ⟨fun y hy => ?_, hs.sublist (List.drop_sublist _ _)⟩, fun y hy z hz => ?_⟩
  · obtain ⟨i, a, b, rfl⟩ := drop_getD hy
    have := h2 i a b; lia
  · obtain ⟨i, a, b, rfl⟩ := take_getD hy
    have q := h1 i a
    rcases List.mem_cons.mp hz with rfl | hz
    · exact q
    · obtain ⟨j, c, d, rfl⟩ := drop_getD hz
      have := h2 j c d; lia
theorem row_ok : ∀ (ms acc : List Mk), (∀ y ∈ ms, ok4 y) → (∀ y ∈ acc, ok4 y) → Srt acc → Srt (ms.foldl (fun r m => ins m r) acc) ∧ (ms.foldl (fun r m => ins m r) acc).Perm (ms ++ acc)
  | [], acc, _, _, h => ⟨h, List.Perm.refl _⟩
  | m :: ms, acc, h1, h2, h => by
    have hm := h1 m (List.mem_cons_self ..)
    obtain ⟨a, b⟩ := row_ok ms (ins m acc) (fun y hy => h1 y (List.mem_cons_of_mem _ hy)) (fun y hy => by
      rcases List.mem_cons.mp ((ins_perm m acc).mem_iff.mp hy) with rfl | q
      · exact hm
      · exact h2 y q) (ins_srt hm h2 h)
    refine ⟨a, b.trans ?_⟩
    exact (List.Perm.append_left ms (ins_perm m acc)).trans List.perm_middle
theorem bisl_rank {x : Mk} {xs : List Mk} (hx : ok4 x) (hok : ∀ y ∈ xs, ok4 y) (hs : Srt xs) : bisl x xs 0 xs.length = xs.countP fun y => decide (enc y < enc x) := by
  obtain ⟨h0, h1, h2⟩ := bisl_ok hx hok hs _ 0 xs.length rfl (Nat.zero_le _) (Nat.le_refl _) (fun i h => by lia) (fun i a b => by lia)
  generalize bisl x xs 0 xs.length = r at *
  conv => rhs; rw [← List.take_append_drop r xs, List.countP_append]
  have e1 : (xs.take r).countP (fun y => decide (enc y < enc x)) = (xs.take r).length := by
    rw [List.countP_eq_length]
    intro y hy
    obtain ⟨i, a, b, rfl⟩ := take_getD hy
    exact decide_eq_true (h1 i a)
  have e2 : (xs.drop r).countP (fun y => decide (enc y < enc x)) = 0 := by
    rw [List.countP_eq_zero]
    intro y hy
    obtain ⟨i, a, b, rfl⟩ := drop_getD hy
    have := h2 i a b
    rw [decide_eq_true_eq]; lia
  rw [e1, e2, List.length_take]; lia

def marks (ps : Pk) (SE : List En) : List Mk := (sumsOf SE).map (mkOf ps)
def rowL (ps : Pk) (SE : List En) : List Mk := (marks ps SE).foldl (fun r m => ins m r) []
def rankOf (ps : Pk) (SE : List En) (m : Mk) : Int := ((bisl m (rowL ps SE) 0 (rowL ps SE).length : Nat) : Int)
def ranksL (ps : Pk) (SE : List En) : List Int := (marks ps SE).map (rankOf ps SE)
def hps (ps : Pk) (SE : List En) : Nat → List Mk
  | 0 => hfy llt ((marks ps SE).length / 2) (marks ps SE)
  | k + 1 => (hpop (hps ps SE k)).2
section
variable {ps : Pk} {SE : List En}
theorem length_marks : (marks ps SE).length = SE.length + 1 := by unfold marks; rw [List.length_map, length_sums]
theorem marks_get {i : Nat} (h : i ≤ SE.length) : (marks ps SE)[i]? = some (mkOf ps (psum SE i)) := by
  unfold marks; rw [List.getElem?_map, sums_get h]; rfl
theorem marks_ok (P : Pg ps) (S : St SE) : ∀ y ∈ marks ps SE, ok4 y := fun y hy => by
  have n50 := S.len
  obtain ⟨j, hj, rfl⟩ := sums_mem.mp hy
  exact ok_mk P (bd_psum S.sm hj (by lia))
theorem row_all (P : Pg ps) (S : St SE) : Srt (rowL ps SE) ∧ (rowL ps SE).Perm (marks ps SE) := by
  have := row_ok (marks ps SE) [] (marks_ok P S) (fun y hy => absurd hy (by simp)) List.Pairwise.nil
  rw [List.append_nil] at this
  exact this
theorem length_row (P : Pg ps) (S : St SE) : (rowL ps SE).length = SE.length + 1 := by rw [(row_all P S).2.length_eq, length_marks]
theorem row_ok4 (P : Pg ps) (S : St SE) : ∀ y ∈ rowL ps SE, ok4 y := fun y hy => marks_ok P S y ((row_all P S).2.mem_iff.mp hy)
theorem rank_is (P : Pg ps) (S : St SE) {i : Nat} (h : i ≤ SE.length) : rankOf ps SE (mkOf ps (psum SE i)) = (rk ps SE i : Int) := by
  obtain ⟨a, b⟩ := row_all P S
  have n50 := S.len
  unfold rankOf
  rw [bisl_rank (ok_mk P (bd_psum S.sm h (by lia))) (row_ok4 P S) a, b.countP_eq]
  unfold marks sumsOf rk
  rw [List.map_map, List.countP_map, cnt_countP]; rfl
theorem ranks_get (P : Pg ps) (S : St SE) {i : Nat} (h : i ≤ SE.length) : (ranksL ps SE)[i]? = some (rk ps SE i : Int) := by
  unfold ranksL; rw [List.getElem?_map, marks_get h]
  exact congrArg some (rank_is P S h)
theorem length_ranks : (ranksL ps SE).length = SE.length + 1 := by unfold ranksL; rw [List.length_map, length_marks]
theorem row_get (P : Pg ps) (S : St SE) {k : Nat} (hk : k ≤ SE.length) : ∃ p, p ≤ SE.length ∧ (rowL ps SE)[k]? = some (mkOf ps (psum SE p)) ∧ rk ps SE p = k := by
  obtain ⟨a, b⟩ := row_all P S
  have n50 := S.len
  have hl := length_row P S
  have hk' : k < (rowL ps SE).length := by lia
  have hm := b.mem_iff.mp (List.getElem_mem hk')
  obtain ⟨p, hp, e⟩ := sums_mem.mp hm
  refine ⟨p, hp, by rw [List.getElem?_eq_getElem hk', e], ?_⟩
  have hx := ok_mk P (bd_psum S.sm hp (by lia))
  have r := rank_is P S hp
  unfold rankOf at r
  obtain ⟨h0, h1, h2⟩ := bisl_ok hx (row_ok4 P S) a _ 0 (rowL ps SE).length rfl (Nat.zero_le _) (Nat.le_refl _) (fun i h => by lia) (fun i a b => by lia)
  have gk : (rowL ps SE).getD k [] = mkOf ps (psum SE p) := by rw [List.getD_eq_getElem?_getD, List.getElem?_eq_getElem hk', e]; rfl
  have r' : bisl (mkOf ps (psum SE p)) (rowL ps SE) 0 (rowL ps SE).length = rk ps SE p := by lia
  rw [r'] at h0 h1 h2
  -- two places of one mark would be two equal sums
  have nd : (rowL ps SE).Nodup := by
    rw [b.nodup_iff]
    unfold marks sumsOf List.Nodup
    rw [List.map_map, List.pairwise_map]
    refine List.Pairwise.imp_of_mem ?_ List.nodup_range
    intro x y hx hy hne q
    rw [List.mem_range] at hx hy
    exact hne (T_inj P S (by lia) (by lia) (congrArg enc q))
  by_cases c : rk ps SE p < k
  · have q1 := h2 (rk ps SE p) (Nat.le_refl _) (by lia)
    have q2 := a.le (i := rk ps SE p) (j := k) (by lia) hk'
    rw [gk] at q2
    have hr : rk ps SE p < (rowL ps SE).length := by lia
    have e2 := enc_inj _ _ (row_ok4 P S _ (getD_mem hr)) hx (by lia)
    have := List.pairwise_iff_getElem.mp nd _ _ hr hk' c
    rw [List.getD_eq_getElem?_getD, List.getElem?_eq_getElem hr] at e2
    exact absurd (e2.trans e) this
  · by_cases d : k < rk ps SE p
    · have := h1 k d
      rw [gk] at this; lia
    · lia
theorem hps_ok (P : Pg ps) (S : St SE) : ∀ k, k ≤ SE.length + 1 → Edge enc (hps ps SE k) 0 ∧ (hps ps SE k).Perm ((rowL ps SE).drop k)
  | 0, _ => by
    obtain ⟨h1, h2⟩ := heap_of (f := enc) enc_lt (marks ps SE) (marks_ok P S)
    exact ⟨h1, h2.trans (row_all P S).2.symm⟩
  | k + 1, hk => by
    obtain ⟨h1, h2⟩ := hps_ok P S k (by lia)
    have hl := length_row P S
    have hn : 0 < (hps ps SE k).length := by rw [h2.length_eq, List.length_drop]; lia
    have hok : ∀ x ∈ hps ps SE k, ok4 x := fun x hx => row_ok4 P S x (List.mem_of_mem_drop (h2.mem_iff.mp hx))
    obtain ⟨h3, h4, h5⟩ := hpop_ok (f := enc) enc_lt hn hok h1
    refine ⟨h5, ?_⟩
    have hk' : k < (rowL ps SE).length := by lia
    have e := List.drop_eq_getElem_cons hk'
    have hmem : (hpop (hps ps SE k)).1 ∈ hps ps SE k := h4.mem_iff.mp (List.mem_cons_self ..)
    have q1 := h3 (rowL ps SE)[k] (h2.mem_iff.mpr (by rw [e]; exact List.mem_cons_self ..))
    have q2 : enc (rowL ps SE)[k] ≤ enc (hpop (hps ps SE k)).1 := by
      have hm := h2.mem_iff.mp hmem
      rw [e] at hm
      have hs := (row_all P S).1.sublist (List.drop_sublist k _)
      rw [e, List.pairwise_cons] at hs
      rcases List.mem_cons.mp hm with q | q
      · rw [q]; exact Int.le_refl _
      · exact hs.1 _ q
    have eq := enc_inj _ _ (hok _ hmem) (row_ok4 P S _ (List.getElem_mem hk')) (by lia)
    have := h4.trans h2
    rw [e, eq] at this
    exact this.cons_inv
theorem pop_is (P : Pg ps) (S : St SE) {k : Nat} (hk : k ≤ SE.length) : (rowL ps SE)[k]? = some (hpop (hps ps SE k)).1 := by
  obtain ⟨h1, h2⟩ := hps_ok P S k (by lia)
  have hl := length_row P S
  have hn : 0 < (hps ps SE k).length := by rw [h2.length_eq, List.length_drop]; lia
  have hok : ∀ x ∈ hps ps SE k, ok4 x := fun x hx => row_ok4 P S x (List.mem_of_mem_drop (h2.mem_iff.mp hx))
  obtain ⟨h3, h4, h5⟩ := hpop_ok (f := enc) enc_lt hn hok h1
  have hk' : k < (rowL ps SE).length := by lia
  have e := List.drop_eq_getElem_cons hk'
  have hmem : (hpop (hps ps SE k)).1 ∈ hps ps SE k := h4.mem_iff.mp (List.mem_cons_self ..)
  have q1 := h3 (rowL ps SE)[k] (h2.mem_iff.mpr (by rw [e]; exact List.mem_cons_self ..))
  have q2 : enc (rowL ps SE)[k] ≤ enc (hpop (hps ps SE k)).1 := by
    have hm := h2.mem_iff.mp hmem
    rw [e] at hm
    have hs := (row_all P S).1.sublist (List.drop_sublist k _)
    rw [e, List.pairwise_cons] at hs
    rcases List.mem_cons.mp hm with q | q
    · rw [q]; exact Int.le_refl _
    · exact hs.1 _ q
  have eq := enc_inj _ _ (hok _ hmem) (row_ok4 P S _ (List.getElem_mem hk')) (by lia)
  rw [List.getElem?_eq_getElem hk', eq]
theorem length_hps (P : Pg ps) (S : St SE) {k : Nat} (hk : k ≤ SE.length + 1) : (hps ps SE k).length = SE.length + 1 - k := by
  rw [(hps_ok P S k hk).2.length_eq, List.length_drop, length_row P S]
/-- all that the law's last loop needs -/
theorem law_plain (P : Pg ps) (S : St SE) {k : Nat} (hk : k ≤ SE.length) : ∃ p, p ≤ SE.length ∧ (rowL ps SE)[k]? = some (mkOf ps (psum SE p)) ∧ (hpop (hps ps SE k)).1 = mkOf ps (psum SE p) ∧ Part ps SE (ranksL ps SE) p k := by
  obtain ⟨p, h1, h2, h3⟩ := row_get P S hk
  have h4 := pop_is P S hk
  rw [h2] at h4
  have h5 := part_ok P S length_ranks (fun i hi => ranks_get P S hi) h1
  rw [h3] at h5
  exact ⟨p, h1, h2, (Option.some.inj h4).symm, h5⟩
end


end
section

open PySem PySem.W PySem.Calls PyProof.Rows
set_option Elab.async false
set_option maxRecDepth 100000
set_option maxHeartbeats 4000000
set_option linter.unusedVariables false



variable {w : World} {H : Heap} {mg mb : Str → Option Value} {prog : Program} {A : Around} {E : Value → Shared → Prop} {s : Shared} {g : G} {D : Addr} {o : Obj} {its : Array Value} {Q : Value → Shared → Prop}

section
theorem al_of_ints {l : List Value} {ns : List Int} (h : IntsAre l ns) : Al IsI l.toArray ns := by
  refine Al.ofL (l := l) ?_ ?_ (by simp)
  · induction h with
    | nil => rfl
    | cons n t _ ih => simp [ih]
  · induction h with
    | nil => intro i x q; simp at q
    | cons n t _ ih =>
      intro i x q
      cases i with
      | zero => simp at q; subst q; exact ⟨_, rfl, t, rfl⟩
      | succ i => simp at q ⊢; exact ih i x q
theorem ints_of_al' : ∀ {l : List Value} {ns : List Int}, l.length = ns.length → (∀ (i : Nat) (x : Int), ns[i]? = some x → ∃ v, l[i]? = some v ∧ IsI v x) → IntsAre l ns
  | [], [], _, _ => .nil
  | v :: l, n :: ns, h, k => by
    obtain ⟨v', e, t, rfl⟩ := k 0 n rfl
    simp at e
    subst e
    exact .cons n t (ints_of_al' (by simpa using h) fun i x q => by simpa using k (i + 1) x (by simpa using q))
  | [], _ :: _, h, _ => by simp at h
  | _ :: _, [], h, _ => by simp at h
theorem ints_of_al {its : Array Value} {ns : List Int} (h : Al IsI its ns) : IntsAre its.toList ns := by
  obtain ⟨h1, h2⟩ := h.toL
  exact ints_of_al' h1 h2
end
section
variable {e : Ent} {g M : G} {L l : Addr} {m : Str → Option Value} {h : Heap} {gn : Array GenState} {dr : Drawn} {tk : Nat} {os : OsState} {t : Tok} {env : Env} {ns : List Int}
/-- sum(l) -/
theorem r_sum (hh : A.handled = none) (F : Fx H e g M L h m) (ho : h.get? l = some o) (hl : IsL o its) (hi : Al IsI its ns) (k : ∀ h' tk' t', Fx H e g M L h' m → Q (.int ns.sum t') ⟨h', gn, dr, tk', os⟩) :
    wpAny (model prog w) A (call (.builtin "sum") [.ref l]) Q E ⟨h, gn, dr, tk, os⟩ := by
  have hi' := ints_of_al hi
  obtain ⟨xs, hx⟩ := hi'.allInts.items
  have hx' : its = intItems xs := by rw [← hx]
  have hl' : Heap.IsList h l (intItems xs) := hx' ▸ hl.isList ho
  refine sum_intListG (s := ⟨h, gn, dr, tk, os⟩) hh hl' fun h' tk' t' hk => ?_
  have e1 : ns = xs.toList.map (·.1) := by
    rw [← nums_intItems, ← hx']
    exact (show numsOf its.toList = ns from hi'.numsOf).symm
  have e2 : preSum (numAt xs) xs.size = ns.sum := by
    rw [preSum_eq, List.take_of_length_le (by simp), e1]
  rw [e2]
  exact k h' tk' t' (F.grow hk)
/-- iter(range(n)) -/
theorem r_iterrange {r : Addr} {n : Nat} {u v : Tok} (F : Fx H e g M L h m) (hr : IsRange h r 0 (n : Int) 1 t u v) (hn : n ≤ 1000)
    (k : ∀ I h', Off e g M L I → IsRangeIter h' I (0 + ((0 : Nat) : Int) * 1) ((n : Int) - ((0 : Nat) : Int)) 1 → Fx H e g M L h' m → Q (.ref I) ⟨h', gn, dr, tk, os⟩) : wpAny (model prog w) A (pyIter (.ref r)) Q E ⟨h, gn, dr, tk, os⟩ := by
  refine wpAny_pyIter_range (s := ⟨h, gn, dr, tk, os⟩) hr (small_one (by lia) (by lia) (by lia) (by lia)) ?_
  have e1 : Builtin.Range.rangeSize 0 (n : Int) 1 = (n : Int) - ((0 : Nat) : Int) := by rw [rangeSize_one]; split <;> lia
  rw [e1]
  exact k _ _ (F.offNew (Nat.le_refl _)) (Heap.get?_push_size _ rfl) (F.push _)
/-- {x: 1} -/
theorem r_dict1 {x : Str} {px cp pos : Pos} {kk : Nat} {j : Int} (W : Wd w H mg mb) (F : Fx H e g M L h m) (hx : m x = some (.int j t))
    (k : ∀ b o h' tk' t', (b == sysModules) = false → o.IsDictOf (intKind prog w) [(j, .int 1 t')] → Fx H e (up g b o) M L h' m → (∀ a ob, g a = some ob → up g b o a = some ob) → Q (.ref b) ⟨h', gn, dr, tk', os⟩)
    (hL : env.locals = L := by rfl) (hk : env.scope.kind = .function := by rfl) (hxk : env.kindOf x = some .local := by rfl) (hd : (x == ("__debug__" : Str)) = false := by decide) :
    wpAny (model prog w) A (eval (.Dict [some (.Name x px)] [.Constant (.int 1) kk cp] pos) env) Q E ⟨h, gn, dr, tk, os⟩ := by
  refine wpAny_Dict_walk (knd := intKind prog w) (s := ⟨h, gn, dr, tk, os⟩) rfl rfl (by simp) (by simp) ?_
  have hh : (h.push { cls := .type "dict", data := .dict #[] }).get? h.objs.size = some { cls := .type "dict", data := .dict #[] } := Heap.get?_push_size _ rfl
  have off := F.offNew (Nat.le_refl _)
  have F1 := F.newM (fun b o q => Heap.get?_push_of_some _ q) (Nat.le_refl _) hh
  have nm := notModules W F (Nat.le_refl _)
  refine pairTrees_cons_walk ?_
  refine fx_localE F1 hx ?_ hL hk hxk hd
  refine r_const fun t' tk' => ?_
  refine pairTrees_nil_walk ?_
  refine ⟨[(j, .int 1 t')], ⟨by simp [intKind, Value.isInt], rfl, trivial⟩, Heap.DictOf.new (knd := intKind prog w) h, fun h' hd' hs => ?_⟩
  obtain ⟨o', ho', hd''⟩ := Heap.dictOf_iff.mp hd'
  have F2 := F1.upd (up_self _ _ _) hs ho'
  rw [up_up] at F2
  obtain ⟨F3, q3⟩ := F2.freezeU off.m off.al
  exact k _ _ _ _ t' nm hd'' F3 q3
/-- l[:y] -/
theorem r_upto {value slice : PySem.Expr} {S : Addr} {y : Nat} (F : Fx H e g M L h m) (hl : Heap.IsList h l its) (hi : IntsAre its.toList ns) (hS : h.get? S = some { cls := .type "slice", data := .fields #[.none, .int (y : Int) t, .none] }) (hz : its.size ≤ 1000)
    (k : ∀ b o' h' its', IsL o' its' → Al IsI its' (ns.take y) → Off e g M L b → Fx H e g (up M b o') L h' m → Q (.ref b) ⟨h', gn, dr, tk, os⟩)
    (hs : subscripted slice false (.ref l) (.ref S) = operate [.ref S, .ref l] (getItem (.ref l) (.ref S)) := by with_unfolding_all rfl)
    (ht : ∀ r, letTemporaryGo value (.ref l) r = pure () := by intro _; with_unfolding_all rfl) :
    wpAny (model prog w) A (subscriptTail value slice (.ref l) (.ref S)) Q E ⟨h, gn, dr, tk, os⟩ := by
  refine subscriptTail_ops (s := ⟨h, gn, dr, tk, os⟩) (Heap.IsList.typeIs (s := ⟨h, gn, dr, tk, os⟩) hl) list_getitem_lookup
    (wpAny_getItem_list_slice hl ⟨_, hS, rfl, rfl⟩ .none (.int _ _) .none (by decide) ?_ (by rw [sizeLine_eq]; lia)) hs ht
  have hp := slice_ints_uptoW hi (y := (y : Int)) (Int.natCast_nonneg y)
  rw [Int.toNat_natCast] at hp
  have hk : ∀ b o, h.get? b = some o → (h.push (listOf (slicePick its none (some (y : Int)) none) 0)).get? b = some o := fun b o q => Heap.get?_push_of_some _ q
  exact k _ _ _ _ ⟨0, rfl⟩ (al_of_ints hp) (F.offNew (Nat.le_refl _)) (F.newM hk (Nat.le_refl _) (Heap.get?_push_size h (o := listOf (slicePick its none (some (y : Int)) none) 0) rfl))
end


end
section

open PySem PySem.W PySem.Calls PyProof.Rows
set_option Elab.async false
set_option maxRecDepth 100000
set_option maxHeartbeats 4000000
set_option linter.unusedVariables false



variable {w : World} {H : Heap} {mg mb : Str → Option Value} {prog : Program} {A : Around} {E : Value → Shared → Prop} {s : Shared} {g : G} {D : Addr} {o : Obj} {its : Array Value} {Q : Value → Shared → Prop}

local macro_rules | `(tactic| walk_at "goL") => `(tactic| repeat' (first | ((fail_if_success (with_reducible show wpAny _ _ (eval (Expr.ListComp _ _ _ _) _) _ _ _)); (with_reducible show wpAny _ _ _ _ _ _); walk1) | ((with_reducible show (ite _ _ _ : Prop)); (first | (refine ite_dec_no (by lia) ?_) | (refine ite_dec_yes (by lia) ?_) | walk1)) | ((with_reducible show Heap.StaysIn _ _ ∧ _); refine And.intro (Fx.Hsub (by assumption)) ?_; (try dsimp only [List.nil_append, List.cons_append]))))
def stepOf (x : Int) (i : Nat) : En := ⟨x.fmod 3 - 1, (x.fdiv 3).fmod 3 - 1, 1, x.fdiv 9 - 1, [(i : Int)]⟩
def stepsOf (DR : List Int) : List En := (List.range DR.length).map fun j => stepOf (DR.getD j 0) j
theorem length_steps (DR : List Int) : (stepsOf DR).length = DR.length := by unfold stepsOf; simp
theorem steps_get {DR : List Int} {i : Nat} (h : i < DR.length) : (stepsOf DR)[i]? = some (stepOf (DR.getD i 0) i) := by
  unfold stepsOf; rw [List.getElem?_map, List.getElem?_range h]; rfl
theorem steps_st {DR : List Int} (h1 : ∀ x ∈ DR, 0 ≤ x ∧ x < 27) (h2 : DR.length ≤ 50) : St (stepsOf DR) := by
  have all : ∀ e ∈ stepsOf DR, ∃ x i, e = stepOf x i ∧ 0 ≤ x ∧ x < 27 := fun e he => by
    unfold stepsOf at he
    obtain ⟨j, hj, rfl⟩ := List.mem_map.mp he
    rw [List.mem_range] at hj
    refine ⟨_, _, rfl, ?_⟩
    rw [List.getD_eq_getElem?_getD, List.getElem?_eq_getElem hj]
    exact h1 _ (List.getElem_mem hj)
  refine ⟨by rw [length_steps]; exact h2, fun e he c hc => ?_, fun e he => ?_, fun i e he => ?_⟩
  · obtain ⟨x, i, rfl, hx0, hx1⟩ := all e he
    have e1 : x.fmod 3 = x % 3 := Int.fmod_eq_emod_of_nonneg _ (by decide)
    have e2 : x.fdiv 3 = x / 3 := Int.fdiv_eq_ediv_of_nonneg _ (by decide)
    have e3 : (x / 3).fmod 3 = x / 3 % 3 := Int.fmod_eq_emod_of_nonneg _ (by decide)
    have e4 : x.fdiv 9 = x / 9 := Int.fdiv_eq_ediv_of_nonneg _ (by decide)
    match c, hc with
    | 0, _ => show -1 ≤ x.fmod 3 - 1 ∧ x.fmod 3 - 1 ≤ 1; lia
    | 1, _ => show -1 ≤ (x.fdiv 3).fmod 3 - 1 ∧ (x.fdiv 3).fmod 3 - 1 ≤ 1; rw [e2, e3]; lia
    | 2, _ => show -1 ≤ (1 : Int) ∧ (1 : Int) ≤ 1; lia
    | 3, _ => show -1 ≤ x.fdiv 9 - 1 ∧ x.fdiv 9 - 1 ≤ 1; lia
  · obtain ⟨x, i, rfl, _⟩ := all e he; rfl
  · have hi : i < DR.length := by
      have := (List.getElem?_eq_some_iff.mp he).1
      rwa [length_steps] at this
    rw [steps_get hi] at he
    rw [← Option.some.inj he]; rfl
theorem length_foldl_ins : ∀ (ms acc : List Mk), (ms.foldl (fun r m => ins m r) acc).length = ms.length + acc.length
  | [], acc => by simp
  | m :: ms, acc => by rw [List.foldl_cons, length_foldl_ins ms, length_ins, List.length_cons]; lia
theorem law_run {l : Addr} {ol : Obj} {sits : Array Value} {ns : List Int} {R : Result → Shared → Prop} (W : Wd w H mg mb) (Rm : Room A 9 110) (hg : Sub g s.heap) (hH : ∀ a o, H.get? a = some o → g a = some o)
    (l1 : g l = some ol) (l2 : ol.cls = .type "list" ∧ ∃ n, ol.data = .seq sits n) (l3 : IntsAre sits.toList ns) (hz : sits.size ≤ 100)
    (ret : ∀ g' h' tk', Rt (fun _ => False) g s.heap g' h' → R (.ok (.ret (.bool true))) { s with heap := h', toks := tk' }) :
    codeAny (model prog w) A (.call (.ref 168) ⟨[.ref l], []⟩) R s := by
  obtain ⟨h0, gn, dr, tk0, os⟩ := s
  refine' fx_enterC (by assumption) ?hH ?hr ?ho ?hcd ?hbind ?hkind ?_ ?hco ?hgen ?hk
  case ho => k_is
  case hcd => k_is
  case hbind => first | exact BindsTo.of_eq rfl | walk_at "dk"
  case hkind => exact fun n => kinds rfl
  case hco => exact rfl
  case hgen => exact rfl
  case hk => exact rfl
  case hH => exact fun a o e => hg _ _ (hH _ _ e)
  case hr => exact (by have := Rm.depth; lia)
  intro L h₁ tk hL hns hk hcl
  obtain ⟨c1, hc1, hd1⟩ := hcl "turn" (L + 1) rfl
  obtain ⟨c2, hc2, hd2⟩ := hcl "ways" (L + 2) rfl
  obtain ⟨c3, hc3, hd3⟩ := hcl "picks" (L + 3) rfl
  obtain ⟨c4, hc4, hd4⟩ := hcl "row" (L + 4) rfl
  obtain ⟨m, hm, m1⟩ : ∃ m, h₁.Ns L m ∧ m "script" = some (.ref l) := ⟨_, hns, by with_unfolding_all rfl⟩
  have hd1' : c1.data = .cell none := hd1.trans (by with_unfolding_all rfl)
  have hd2' : c2.data = .cell none := hd2.trans (by with_unfolding_all rfl)
  have hd3' : c3.data = .cell none := hd3.trans (by with_unfolding_all rfl)
  have hd4' : c4.data = .cell none := hd4.trans (by with_unfolding_all rfl)
  clear hcl hd1 hd2 hd3 hd4
  have F := enter0 hg hH hL hm hk
  clear hns hm hk
  have hLn : ∀ i, h0.objs.size ≤ L + i := fun i => Nat.le_trans hL (Nat.le_add_right _ _)
  have hLz : ∀ i, h0.get? (L + i) = none := fun i => none_of_ge (g := h0.get?) (fun _ _ q => q) (hLn i)
  have hLg : ∀ i, g (L + i) = none := fun i => none_of_ge hg (hLn i)
  have hLa : ∀ i, ¬ ∃ o, h0.get? (L + i) = some o := fun i ⟨o, q⟩ => by rw [hLz i] at q; cases q
  have hne : ∀ i, 0 < i → L + i ≠ L := fun i hi => Nat.ne_of_gt (Nat.lt_add_of_pos_right hi)
  have F1 := F.adopt (D := L + 4) (hne 4 (by decide)) (hLz 4) (hLg 4) hc4
  have F2 := F1.adopt (D := L + 3) (hne 3 (by decide)) (hLz 3) (hLg 3) hc3
  have F3 := F2.adopt (D := L + 2) (hne 2 (by decide)) (hLz 2) (hLg 2) hc2
  have F4 := F3.adopt (D := L + 1) (hne 1 (by decide)) (hLz 1) (hLg 1) hc1
  clear F F1 F2 F3
  have Rd : ∀ env, Room (A.deeper env) 8 107 := fun env => Rm.deeper env
  have hhan := Rm.handled
  walk_at "goL"
  refine comp_open (cl := []) (by with_unfolding_all rfl) rfl (by decide) ?_
  walk_at "go"
  rename_i t5 tk5
  have F5 := F4.push { cls := .type "slice", data := .fields #[.none, .int 4 t5, .none] }
  refine r_upto (y := 4) F5 (by exact ⟨ol, F5.keep _ _ l1, l2⟩) l3 (Heap.get?_push_size _ rfl) (by lia) fun D6 o6 h6 its6 l6 a6 off6 F6 => ?_
  obtain ⟨F7, q7⟩ := F6.freezeU off6.m off6.al
  have k6 := up_self g D6 o6
  generalize up g D6 o6 = g7 at F7 q7 k6
  clear F4 F5 F6
  walk_at "go"
  refine r_iterlist F7 (by exact F7.keep _ _ k6) l6 fun Ia h8 tk8 offI hneI hit F8 => ?_

  have hn4 : (ns.take 4).length ≤ 4 := by rw [List.length_take]; lia
  refine comp_block (It.list (by exact hhan) hneI its6) (by rw [a6.1]; lia)
    (fun i g' its => (∀ a o, g7 a = some o → g' a = some o) ∧ Al IsI its (((ns.take 4).take i).map fun x => x.fmod 27))
    F8 hit ⟨fun _ _ q => q, Al.nil⟩ (fun b hb => by cases List.mem_singleton.mp hb; exact offI) (fun b hb => by cases List.mem_singleton.mp hb; exact ⟨o6, F8.keep _ _ k6⟩)
    (fun b hb => by cases List.mem_singleton.mp hb; exact ⟨o6, fun i g' its hK => .inl (hK.1 _ _ k6)⟩) (by decide) rfl
    (fun s Q E st hq => wpAny_pyIter_listiter st.1 hq) ?_ ?_
  · rintro C D i v e' g' m h tk o its hi hv ⟨hgm', hints⟩ hl hsz' F3 hge hal hMD
    have hlt : i < (ns.take 4).length := by rw [← a6.1]; exact hi
    obtain ⟨v', hv', t, rfl⟩ := a6.2 i _ (List.getElem?_eq_getElem hlt)
    rw [hv] at hv'
    cases hv'
    have htk : (ns.take 4).take (i + 1) = (ns.take 4).take i ++ [(ns.take 4)[i]] := by rw [List.take_add_one, List.getElem?_eq_getElem hlt]; rfl
    generalize (ns.take 4)[i] = x at htk
    refine wpAny_assign_Name ?_
    walk_at "go"
    rename Fx _ _ _ _ _ _ _ => F4
    refine ⟨_, _, _, _, rfl, F4, hgm', ?_⟩
    rw [htk, List.map_append]
    exact hints.push ⟨_, rfl⟩
  · intro C9 D9 o9 its9 g9 m9 h9 tk9 hsD offD hl9 hszS hK F9 hmono hns offC
    refine comp_post F9 hns offC fun h10 F10 => ?_
    obtain ⟨k9, a9⟩ := hK
    rw [a6.1, List.take_length] at a9
    walk_at "go"
    rename_i t7 _ t19 _ t11 _
    refine r_listK F10 (by simp) fun DT oT h11 offT hszT lT F11 hk11 => ?_
    have hDT : D9 ≠ DT := fun x => by have := offT.m; rw [← x, up_self] at this; cases this
    have aT : Al IsI (#[Value.int 7 t7, Value.int 19 t19, Value.int 11 t11]) [7, 19, 11] := al_of_ints (.cons 7 t7 (.cons 19 t19 (.cons 11 t11 .nil)))
    walk_at "go"
    have z9 : its9.size ≤ 4 := by rw [hszS, a6.1]; exact hn4
    refine r_addlists F11 (F11.ours D9 o9 ((up_ne _ _ hDT).trans (up_self _ _ _))) hl9 (F11.ours DT oT (up_self _ _ _)) lT (by simp; lia) fun DD oD h12 lD hszD offD12 F12 => ?_
    have aD := a9.append aT
    obtain ⟨F13, q13⟩ := F12.freezeU offD12.m offD12.al
    obtain ⟨F14, q14⟩ := F13.freezeU offT.m offT.al
    obtain ⟨F15, q15⟩ := F14.freezeU offD.m offD.al
    have kD := q15 _ _ (q14 _ _ (up_self g9 DD oD))
    have q16 := fun a ob q => q15 a ob (q14 a ob (q13 a ob (k9 a ob (q7 a ob q))))
    generalize up (up (up g9 DD oD) DT oT) D9 o9 = g16 at F15 q16 kD
    clear F7 F8 F9 F10 F11 F12 F13 F14 q13 q14 q15 offI hit hns offC
    obtain ⟨DR, hDR⟩ : ∃ DR, DR = ((ns.take 4).map fun x => x.fmod 27) ++ [7, 19, 11] := ⟨_, rfl⟩
    rw [← hDR] at aD
    walk_at "go"
    rename Fx _ _ _ _ _ _ _ => F16
    refine r_sum (by exact hhan) F16 (by exact F16.keep _ _ kD) lD aD fun h17 tk17 t17 F17 => ?_
    walk_at "go"
    obtain ⟨tn, htn⟩ : ∃ tn, tn = DR.sum.fmod 24 := ⟨_, rfl⟩
    have htn0 : 0 ≤ tn ∧ tn < 24 := by rw [htn, Int.fmod_eq_emod_of_nonneg _ (by decide)]; lia
    rw [← htn]
    refine r_storeC (by with_unfolding_all rfl) (by with_unfolding_all rfl) F17 hd1' (fun h18 c1' hd1 F18 => ?_)
    obtain ⟨F19, q19⟩ := F18.freezeU (by simp [up]) (hLa 1)
    rename_i tt tkt
    have G1 : Gc (up g16 (L + 1) c1') (L + 1) (.int tn tt) := ⟨c1', up_self _ _ _, hd1⟩
    have kD := q19 _ _ kD
    have q16 := fun a ob q => q19 a ob (q16 a ob q)
    generalize up g16 (L + 1) c1' = g19 at F19 q16 kD G1
    clear F16 F17 F18 q19
    walk_at "goL"
    refine comp_open (cl := [("turn", L + 1)]) (by with_unfolding_all rfl) rfl (by decide) ?_
    walk_at "go"
    refine r_range (n := 3) F19 fun r20 h20 tk20 t20 u20 v20 off20 hr20 F20 => ?_
    walk_at "go"
    refine r_iterrange F20 hr20 (by decide) fun I21 h21 off21 hI21 F21 => ?_
    walk_at "go"
    refine comp_block (It.range (by exact hhan) 0 1 3) (by decide)
      (fun i g' its => (∀ a o, g19 a = some o → g' a = some o) ∧ ∃ wy : List Int, Al IsI its wy ∧ wy.length = i ∧ ∀ x ∈ wy, x = 1 ∨ x = -1)
      F21 hI21 ⟨fun _ _ q => q, [], Al.nil, rfl, by simp⟩ (fun b hb => by cases List.mem_singleton.mp hb; exact off21) (fun b hb => by cases hb)
      (fun b hb => by cases hb) (by decide) rfl
      (fun s Q E st hq => wpAny_pyIter_rangeiter st hq) ?_ ?_
    · rintro C D i v e' g' m h tk o its hi ⟨t, rfl⟩ ⟨hgm', wy, hints, hwl, hwy⟩ hl hsz' F3 hge hal hMD
      have G1 := G1.mono hgm'
      have hik : (0 + (i : Int) * 1) = (i : Int) := by lia
      rw [hik]
      refine wpAny_assign_Name ?_
      walk_at "go"
      have hp4 : 1 ≤ (2 : Int) ^ (Int.toNat (i : Int)) ∧ (2 : Int) ^ (Int.toNat (i : Int)) ≤ 4 := by
        rw [Int.toNat_natCast]
        obtain rfl | rfl | rfl : i = 0 ∨ i = 1 ∨ i = 2 := by lia
        · decide
        · decide
        · decide
      refine r_fdiv (by lia) (by lia) fun t22 tk22 => ?_
      walk_at "go"
      rename Fx _ _ _ _ _ _ _ => F4
      refine ⟨_, _, _, _, rfl, F4, hgm', wy ++ [_], hints.push ⟨_, rfl⟩, by simp [hwl], fun x hx => ?_⟩
      rcases List.mem_append.mp hx with hx | hx
      · exact hwy x hx
      · rw [List.mem_singleton.mp hx, Int.fmod_eq_emod_of_nonneg _ (by decide)]
        lia
    · intro C23 D23 o23 its23 g23 m23 h23 tk23 hsD23 offD23 hl23 hszS23 hK23 F23 hmono23 hns23 offC23
      refine comp_post F23 hns23 offC23 fun h24 F24 => ?_
      obtain ⟨k23, wy, aw, hwl, hwy⟩ := hK23
      obtain ⟨F25, q25⟩ := F24.freezeU offD23.m offD23.al
      have kW := up_self g23 D23 o23
      have q26 := fun a ob q => q25 a ob (k23 a ob q)
      have G1 := G1.mono q26
      have kD := q26 _ _ kD
      have q16 := fun a ob q => q26 a ob (q16 a ob q)
      generalize up g23 D23 o23 = g26 at F25 q16 kD G1 kW
      clear F19 F20 F21 F23 F24 q25 q26 k23 hns23 offC23 off21 off20 hI21
      walk_at "go"
      refine r_storeC (by with_unfolding_all rfl) (by with_unfolding_all rfl) F25 hd2' (fun h27 c2' hd2 F27 => ?_)
      obtain ⟨F28, q28⟩ := F27.freezeU (by simp [up]) (hLa 2)
      have G2 : Gc (up g26 (L + 2) c2') (L + 2) (.ref D23) := ⟨c2', up_self _ _ _, hd2⟩
      have G1 := G1.mono q28
      have kD := q28 _ _ kD
      have kW := q28 _ _ kW
      have q16 := fun a ob q => q28 a ob (q16 a ob q)
      generalize up g26 (L + 2) c2' = g28 at F28 q16 kD kW G1 G2
      clear F25 F27 q28
      walk_at "goL"
      refine comp_open (cl := [("ways", L + 2), ("turn", L + 1)]) (by with_unfolding_all rfl) rfl (by decide) ?_
      walk_at "go"
      refine r_range (n := 3) F28 fun r29 h29 tk29 t29 u29 v29 off29 hr29 F29 => ?_
      walk_at "go"
      refine r_iterrange F29 hr29 (by decide) fun I30 h30 off30 hI30 F30 => ?_
      walk_at "go"
      refine comp_block (It.range (by exact hhan) 0 1 3) (by decide)
        (fun i g' its => (∀ a o, g28 a = some o → g' a = some o) ∧ ∃ pk : Pk, Al (IsPair g') its pk ∧ pk.length = i ∧ ∀ q ∈ pk, q.1 < 4 ∧ (q.2 = 1 ∨ q.2 = -1))
        F30 hI30 ⟨fun _ _ q => q, [], Al.nil, rfl, by simp⟩ (fun b hb => by cases List.mem_singleton.mp hb; exact off30) (fun b hb => by cases hb)
        (fun b hb => by cases hb) (by decide) rfl
        (fun s Q E st hq => wpAny_pyIter_rangeiter st hq) ?_ ?_
      · rintro C D i v e' g' m h tk o its hi ⟨t, rfl⟩ ⟨hgm', pk, hints, hpl, hpk⟩ hl hsz' F3 hge hal hMD
        have G1 := G1.mono hgm'
        have G2 := G2.mono hgm'
        have hik : (0 + (i : Int) * 1) = (i : Int) := by lia
        rw [hik]
        refine wpAny_assign_Name ?_
        walk_at "go"
        rename Fx _ _ _ _ _ _ _ => F4
        rename_i tL0 _ tL1 _ tL3 _
        refine r_listK F4 (by simp) fun DL oL h31 offL hszL lL F31 hk31 => ?_
        walk_at "go"
        have hix : 0 ≤ (tn + (i : Int)).fmod 3 ∧ (tn + (i : Int)).fmod 3 < 3 := by rw [Int.fmod_eq_emod_of_nonneg _ (by decide)]; lia
        obtain ⟨c, tc, hc4, hcx⟩ : ∃ (c : Nat) (tc : Tok), c < 4 ∧ ([Value.int 0 tL0, Value.int 1 tL1, Value.int 3 tL3].toArray)[((tn + (i : Int)).fmod 3).toNat]? = some (.int (c : Int) tc) := by
          obtain e | e | e : ((tn + (i : Int)).fmod 3).toNat = 0 ∨ ((tn + (i : Int)).fmod 3).toNat = 1 ∨ ((tn + (i : Int)).fmod 3).toNat = 2 := by lia
          · rw [e]; exact ⟨0, tL0, by decide, rfl⟩
          · rw [e]; exact ⟨1, tL1, by decide, rfl⟩
          · rw [e]; exact ⟨3, tL3, by decide, rfl⟩
        refine l_item (by exact F31.ours DL oL (up_self _ _ _)) lL hix.1 (by lia) hcx ?_
        have hwi : wy[i]? = some wy[i] := List.getElem?_eq_getElem (by lia)
        walk_at "go"
        refine r_item (by exact F31.keep _ _ (hgm' _ _ kW)) hl23 aw (by lia) hwi fun v32 hv32 => ?_
        obtain ⟨t32, rfl⟩ := hv32
        have hw1 := hwy _ (List.getElem_mem (by lia : i < wy.length))
        generalize wy[i] = wd at hw1
        walk_at "go"
        refine r_tuple F31 (by simp) fun T oT h33 offT hszT tT F33 hm33 hk33 => ?_
        have F34 := F33.drop DL
        rw [up_dn, dn_of_none offL.m] at F34
        refine ⟨_, _, _, _, rfl, F34, fun a ob q => hm33 _ _ (hgm' a ob q), pk ++ [(c, wd)], (hints.mono fun v x q => q.mono hm33).push ⟨T, oT, tc, t32, rfl, up_self _ _ _, tT⟩, by simp [hpl], fun q hq => ?_⟩
        rcases List.mem_append.mp hq with hq | hq
        · exact hpk q hq
        · rw [List.mem_singleton.mp hq]; exact ⟨hc4, hw1⟩
      · intro C35 D35 o35 its35 g35 m35 h35 tk35 hsD35 offD35 hl35 hszS35 hK35 F35 hmono35 hns35 offC35
        refine comp_post F35 hns35 offC35 fun h36 F36 => ?_
        obtain ⟨k35, pk, ap, hpl, hpk⟩ := hK35
        walk_at "go"
        rename_i tP2 _ tP1 _
        refine r_tuple F36 (by simp) fun T2 oT2 h37 offT2 hszT2 tT2 F37 hm37 hk37 => ?_
        walk_at "go"
        refine r_listK F37 (by simp) fun DP oP h38 offP hszP lP F38 hk38 => ?_
        have hDP : D35 ≠ DP := fun x => by have := offP.m; rw [← x, up_self] at this; cases this
        have aP2 : Al (IsPair (up g35 T2 oT2)) [Value.ref T2].toArray [(2, 1)] := Al.one ⟨T2, oT2, tP2, tP1, rfl, up_self _ _ _, tT2⟩
        walk_at "go"
        refine r_addlists F38 (F38.ours D35 o35 ((up_ne _ _ hDP).trans (up_self _ _ _))) hl35 (F38.ours DP oP (up_self _ _ _)) lP (by simp; lia) fun DK oK h39 lK hszK offK F39 => ?_
        have aK := (ap.mono fun v x q => q.mono hm37).append aP2
        have hPg : Pg (pk ++ [(2, 1)]) ∧ (∀ q ∈ pk ++ [(2, 1)], q.1 < 4) ∧ (∀ q ∈ pk ++ [(2, 1)], q.2 = 1 ∨ q.2 = -1) ∧ (pk ++ [(2, (1 : Int))]).length ≤ 100 := by
          match pk, hpl, hpk with
          | [(a0, b0), (a1, b1), (a2, b2)], _, hq =>
            have q0 := hq (a0, b0) (by simp)
            have q1 := hq (a1, b1) (by simp)
            have q2 := hq (a2, b2) (by simp)
            refine ⟨⟨a0, b0, a1, b1, a2, b2, rfl, q0, q1, q2⟩, fun q hx => ?_, fun q hx => ?_, by simp⟩
            · rcases List.mem_append.mp hx with hx | hx
              · exact (hq q hx).1
              · rw [List.mem_singleton.mp hx]; exact (by decide : 2 < 4)
            · rcases List.mem_append.mp hx with hx | hx
              · exact (hq q hx).2
              · rw [List.mem_singleton.mp hx]; exact Or.inl rfl
        obtain ⟨F40, q40⟩ := F39.freezeU offK.m offK.al
        obtain ⟨F41, q41⟩ := F40.freezeU offP.m offP.al
        obtain ⟨F42, q42⟩ := F41.freezeU offD35.m offD35.al
        have qq := fun a ob q => q42 a ob (q41 a ob (q40 a ob q))
        have q43 := fun a ob q => qq a ob (hm37 a ob (k35 a ob q))
        have kK : IsPk (up (up (up (up g35 T2 oT2) DK oK) DP oP) D35 o35) DK (pk ++ [(2, 1)]) := ⟨oK, _, q42 _ _ (q41 _ _ (up_self _ _ _)), lK, aK.mono fun v x q => q.mono qq⟩
        have kD := q43 _ _ kD
        have q16 := fun a ob q => q43 a ob (q16 a ob q)
        generalize up (up (up (up g35 T2 oT2) DK oK) DP oP) D35 o35 = g43 at F42 q16 kD kK
        generalize pk ++ [(2, (1 : Int))] = ps at kK hPg
        clear F28 F29 F30 F35 F36 F37 F38 F39 F40 F41 q40 q41 q42 qq q43 aK ap aP2 hns35 offC35 off29 off30 hI30 G1 G2 kW
        walk_at "go"
        refine r_storeC (by with_unfolding_all rfl) (by with_unfolding_all rfl) F42 hd3' (fun h44 c3' hd3 F44 => ?_)
        obtain ⟨F45, q45⟩ := F44.freezeU (by simp [up]) (hLa 3)
        have G3 : Gc (up g43 (L + 3) c3') (L + 3) (.ref DK) := ⟨c3', up_self _ _ _, hd3⟩
        have kD := q45 _ _ kD
        have kK := kK.mono q45
        have q16 := fun a ob q => q45 a ob (q16 a ob q)
        generalize up g43 (L + 3) c3' = g45 at F45 q16 kD kK G3
        clear F42 F44 q45
        have hDl : DR.length ≤ 7 := by rw [hDR, List.length_append, List.length_map]; have : [(7 : Int), 19, 11].length = 3 := rfl; lia
        have hDb : ∀ x ∈ DR, 0 ≤ x ∧ x < 27 := fun x hx => by
          rw [hDR] at hx
          rcases List.mem_append.mp hx with hx | hx
          · obtain ⟨y, _, rfl⟩ := List.mem_map.mp hx
            rw [Int.fmod_eq_emod_of_nonneg _ (by decide)]; lia
          · simp only [List.mem_cons, List.not_mem_nil, or_false] at hx
            lia
        have hSt := steps_st hDb (by lia)
        walk_at "goL"
        refine comp_openU (cl := []) (by with_unfolding_all rfl) (by with_unfolding_all rfl) rfl (by decide) ?_
        walk_at "go"
        refine r_enum F45 (by exact F45.keep _ _ kD) lD fun Ie it h46 tk46 offIe offit hei hle hli he1 he2 he3 F46 => ?_
        walk_at "go"
        refine wpAny_pyIter_enum (by exact he1) ?_
        walk_at "go"
        refine comp_block (It.enum (by exact hhan) hei hle hli _) (by rw [aD.1]; lia)
          (fun i g' its => (∀ a o, g45 a = some o → g' a = some o) ∧ Al (IsEn prog w g') its ((stepsOf DR).take i))
          F46 ⟨⟨_, he1⟩, he2, he3⟩ ⟨fun _ _ q => q, Al.nil⟩ (fun b hb => by
            rcases List.mem_cons.mp hb with rfl | hb
            · exact offIe
            · cases List.mem_singleton.mp hb; exact offit) (fun b hb => by cases List.mem_singleton.mp hb; exact ⟨oD, F46.keep _ _ kD⟩)
          (fun b hb => by cases List.mem_singleton.mp hb; exact ⟨oD, fun i g' its hK => .inl (hK.1 _ _ kD)⟩) (by decide) rfl
          (fun s Q E st hq => wpAny_pyIter_enum st.1.choose_spec hq) ?_ ?_
        · rintro C D i v e' g' m h tk o its hi ⟨T, t, x, rfl, hx, hT⟩ ⟨hgm', hints⟩ hl hsz' F3 hge hal hMD
          have hlt : i < DR.length := by rw [← aD.1]; exact hi
          obtain ⟨v', hv', t', rfl⟩ := aD.2 i _ (List.getElem?_eq_getElem hlt)
          rw [hx] at hv'
          cases hv'
          have htk : (stepsOf DR).take (i + 1) = (stepsOf DR).take i ++ [stepOf DR[i] i] := by
            rw [List.take_add_one, steps_get hlt, List.getD_eq_getElem?_getD, List.getElem?_eq_getElem hlt]; rfl
          refine r_unpack (by exact hhan) F3 hT rfl rfl fun h47 F47 _ => ?_
          walk_at "go"
          rename Fx _ _ _ _ _ _ _ => F48
          refine r_dict1 (j := (i : Int)) W F48 (by walk_at "lk") (fun d od h49 tk49 t49 nmd hdd F49 q49 => ?_)
          walk_at "go"
          refine r_tuple F49 (by simp) fun T2 oT2 h50 offT2 hszT2 tT2 F50 hm50 hk50 => ?_
          have qq := fun a ob q => hm50 a ob (q49 a ob q)
          refine ⟨_, _, _, _, rfl, F50, fun a ob q => qq _ _ (hgm' a ob q), ?_⟩
          rw [htk]
          refine (hints.mono fun v x q => IsEn.mono qq q).push ⟨T2, oT2, d, _, _, _, _, rfl, up_self _ _ _, tT2, od, _, hm50 _ _ (up_self _ _ _), hdd, rfl, ?_, nmd⟩
          intro p hp
          rw [List.mem_singleton.mp hp]
          exact ⟨t49, rfl⟩
        · intro C51 DS oS itsS g51 m51 h51 tk51 hsDS offDS lS hszS51 hKS F51 hmono51 hns51 offC51
          refine comp_postU F51 hns51 offC51 rfl rfl rfl fun h52 tk52 F52 => ?_
          obtain ⟨k51, aS⟩ := hKS
          rw [aD.1, ← length_steps, List.take_length] at aS
          have sl := length_steps DR
          generalize stepsOf DR = SE at aS hSt sl
          obtain ⟨F53, q53⟩ := F52.freezeU offDS.m offDS.al
          have kS := up_self g51 DS oS
          have aS := aS.mono fun v x q => IsEn.mono q53 q
          have G3 := G3.mono fun a ob q => q53 _ _ (k51 a ob q)
          have kK := kK.mono fun a ob q => q53 _ _ (k51 a ob q)
          have q16 := fun a ob q => q53 a ob (k51 a ob (q16 a ob q))
          generalize up g51 DS oS = g53 at F53 kS aS q16 kK G3
          clear F45 F46 F51 F52 q53 k51 hns51 offC51 offIe offit he1 he2 he3
          walk_at "go"
          have ka := keys_all hSt
          refine law_walk W ((Rd _).le (by decide) (by decide)) (by exact F53.keep) (by exact F53.top) ⟨oS, itsS, kS, lS, aS⟩ ka.1 (by lia) (by lia) fun su g55 h55 tk55 R55 u55 => ?_
          have F55 := F53.back R55
          have kS := R55.mono _ _ kS
          have aS := aS.mono fun v x q => IsEn.mono R55.mono q
          have G3 := G3.mono R55.mono
          have kK := kK.mono R55.mono
          have q16 := fun a ob q => R55.mono a ob (q16 a ob q)
          clear F53 R55
          obtain ⟨ou, uits, u1, u2, u3⟩ := u55
          have uz : uits.size = SE.length + 1 := by rw [u3.1, length_sums]
          walk_at "go"
          rename Fx _ _ _ _ _ _ _ => F56
          refine comp_openU (cl := [("picks", L + 3)]) (by with_unfolding_all rfl) (by with_unfolding_all rfl) rfl (by decide) ?_
          walk_at "go"
          refine r_iterlist F56 (by exact F56.keep _ _ u1) u2 fun Iu hu tku offIu hneIu hitu Fua => ?_
          obtain ⟨hPg, h4, h1, hpz⟩ := hPg
          refine comp_block (It.list (by exact hhan) hneIu uits) (by lia)
            (fun i g' its => (∀ a o, g55 a = some o → g' a = some o) ∧ Mks g' its (((sumsOf SE).take i).map (mkOf ps)))
            Fua hitu ⟨fun _ _ q => q, Al.nil⟩ (fun b hb => by cases List.mem_singleton.mp hb; exact offIu) (fun b hb => by cases List.mem_singleton.mp hb; exact ⟨ou, Fua.keep _ _ u1⟩)
            (fun b hb => by cases List.mem_singleton.mp hb; exact ⟨ou, fun i g' its hK => .inl (hK.1 _ _ u1)⟩) (by decide) rfl
            (fun s Q E st hq => wpAny_pyIter_listiter st.1 hq) ?_ ?_
          · rintro C D5 i v e' g' m h tk o its hi hv ⟨hgm', hints⟩ hl5 hsz' F3 hge hal hMD
            have hlt : i < (sumsOf SE).length := by rw [← u3.1]; exact hi
            obtain ⟨v', hv', cv⟩ := u3.2 i _ (List.getElem?_eq_getElem hlt)
            rw [hv] at hv'
            cases hv'
            have htk : (sumsOf SE).take (i + 1) = (sumsOf SE).take i ++ [(sumsOf SE)[i]] := by rw [List.take_add_one, List.getElem?_eq_getElem hlt]; rfl
            have G3 := G3.mono hgm'
            refine wpAny_assign_Name ?_
            walk_at "go"
            rename Fx _ _ _ _ _ _ _ => F4
            refine law_mark W ((Rd _).le (by decide) (by decide)) (by exact F4.keep) (by exact F4.top) (cv.mono hgm') (kK.mono hgm') h4 h1 hpz fun r5 g5 h5 tk5 R5 c5 => ?_
            have F5 := F4.back R5
            refine ⟨_, _, _, _, rfl, F5, fun a o q => R5.mono _ _ (hgm' _ _ q), ?_⟩
            rw [htk, List.map_append]
            exact (hints.mono fun v x q => q.mono R5.mono).push c5
          · intro C57 HP oH itsH g57 m57 h57 tk57 hsHP offH lH hszH hKH F57 hmono57 hns57 offC57
            refine comp_postU F57 hns57 offC57 rfl rfl rfl fun h58 tk58 F58 => ?_
            obtain ⟨k57, aH⟩ := hKH
            rw [u3.1, List.take_length] at aH
            have kS := k57 _ _ kS
            have aS := aS.mono fun v x q => IsEn.mono k57 q
            have G3 := G3.mono k57
            have kK := kK.mono k57
            have u1 := k57 _ _ u1
            have u3 := u3.mono fun v x q => IsEn.mono k57 q
            have q16 := fun a ob q => k57 a ob (q16 a ob q)
            clear F55 F56 F57 Fua hns57 offC57 offIu hitu
            have hH4 : HP ≠ L + 4 := fun x => by have := offH.m; rw [x, up_self] at this; cases this
            walk_at "go"
            refine r_listK F58 (by simp) fun DW oW h59 offW hszW lW F59 hk59 => ?_
            have hWH : DW ≠ HP := fun x => by have := offW.m; rw [x, up_self] at this; cases this
            have hW4 : DW ≠ L + 4 := fun x => by have := offW.m; rw [x, up_ne _ _ hH4.symm, up_self] at this; cases this
            rw [up_comm hH4.symm, up_comm hW4.symm] at F59
            walk_at "go"
            refine r_storeC (by with_unfolding_all rfl) (by with_unfolding_all rfl) F59 hd4' (fun h60 c4' hd4 F60 => ?_)
            obtain ⟨F61, q61⟩ := F60.freezeU (by rw [up_ne _ _ hW4.symm, up_ne _ _ hH4.symm]) (hLa 4)
            have G4 : Gc (up g57 (L + 4) c4') (L + 4) (.ref DW) := ⟨c4', up_self _ _ _, hd4⟩
            have kS := q61 _ _ kS
            have aS := aS.mono fun v x q => IsEn.mono q61 q
            have aH := aH.mono fun v x q => IsMk.mono q61 q
            have G3 := G3.mono q61
            have kK := kK.mono q61
            have u1 := q61 _ _ u1
            have u3 := u3.mono fun v x q => IsEn.mono q61 q
            have q16 := fun a ob q => q61 a ob (q16 a ob q)
            generalize up g57 (L + 4) c4' = g61 at F61 kS aS aH G3 G4 kK u1 u3 q16
            clear F58 F59 F60 q61
            walk_at "go"
            refine r_iterlist F61 (by exact F61.ours HP oH ((up_ne _ _ hWH.symm).trans (up_self _ _ _))) lH fun Ih h62 tk62 offIh hneIh hith F62 => ?_
            walk_at "go"
            have hml : (marks ps SE).length = SE.length + 1 := length_marks
            have aHm : Mks g61 itsH (marks ps SE) := aH
            refine for_it (It.list (by exact hhan) hneIh itsH)
              (fun i g' M m => And5 (g' = g61) (m "steps" = some (.ref DS)) (m "sums" = some (.ref su)) (m "heap" = some (.ref HP)) (Ex2 fun oW itsW => And3 (M = up (up none' HP oH) DW oW) (IsL oW itsW) (Mks g61 itsW (((marks ps SE).take i).foldl (fun r m => ins m r) []))))
              (fun _ _ _ => False) (fun _ _ _ _ => False) F62 hith ⟨rfl, by walk_at "lk", by walk_at "lk", by walk_at "lk", oW, _, rfl, lW, Al.nil⟩
              (fun b hb => by cases List.mem_singleton.mp hb; exact ⟨offIh.l, offIh.z, offIh.al, offIh.g, offIh.m⟩)
              (fun b hb => by cases List.mem_singleton.mp hb; exact ⟨oH, fun i g' M m hJ => by
                obtain ⟨_, _, _, _, oW, itsW, rfl, _⟩ := hJ
                exact .inr ((up_ne _ _ hWH.symm).trans (up_self _ _ _))⟩) ?_ ?_ (fun _ _ _ _ _ q => q.elim) (fun _ _ _ _ _ _ q => q.elim)
            · rintro i v e' g' M m h tk hi hv ⟨rfl, n1, n2, n3, oW, itsW, rfl, l1', a1'⟩ F63 hge hale
              have hlt : i < (marks ps SE).length := by rw [← aHm.1]; exact hi
              obtain ⟨v', hv', a, oa, ta, rfl, ha1, ha2, ha3⟩ := aHm.2 i _ (List.getElem?_eq_getElem hlt)
              rw [hv] at hv'
              cases hv'
              have hlen : (((marks ps SE).take i).foldl (fun r m => ins m r) []).length ≤ 1000 := by
                rw [length_foldl_ins, List.length_take]
                have : ([] : List Mk).length = 0 := rfl
                lia
              refine wpAny_assign_Name ?_
              walk_at "go"
              rename Fx _ _ _ _ _ _ _ => F64
              refine insort_right W ((Rd _).le (by decide) (by decide)) (by exact F64.keep) (by exact F64.top) (by exact F64.ours DW _ (up_self _ _ _)) (by exact F64.sepg _ _ (up_self _ _ _)) l1' a1' ha1 ha2 ha3 hlen fun h65 tk65 o65 its65 R65 ho65 l65 hx65 => ?_
              have F65 := F64.back1 (up_self _ _ _) R65 ho65
              rw [up_up] at F65
              walk_at "go"
              refine ⟨_, _, _, _, _, rfl, F65, rfl, by walk_at "lk", by walk_at "lk", by walk_at "lk", o65, its65, rfl, l65, ?_⟩
              rw [List.take_add_one, List.getElem?_eq_getElem hlt, List.foldl_append]
              exact hx65
            · rintro g' M m h tk ⟨rfl, n1, n2, n3, oW, itsW, rfl, l1', a1'⟩ F63
              try dsimp only
              obtain ⟨F64, q64⟩ := F63.freezeU (D := DW) (up_ne _ _ hWH) (by exact offW.al)
              rw [aHm.1, List.take_length] at a1'
              have aR : Mks g' itsW (rowL ps SE) := a1'
              have kR := up_self g' DW oW
              have kS := q64 _ _ kS
              have aS := aS.mono fun v x q => IsEn.mono q64 q
              have aH := aHm.mono fun v x q => IsMk.mono q64 q
              have aR := aR.mono fun v x q => IsMk.mono q64 q
              have G3 := G3.mono q64
              have G4 := G4.mono q64
              have kK := kK.mono q64
              have u1 := q64 _ _ u1
              have u3 := u3.mono fun v x q => IsEn.mono q64 q
              have q16 := fun a ob q => q64 a ob (q16 a ob q)
              generalize up g' DW oW = g64 at F64 kS aS aH G3 G4 kK u1 u3 q16 kR aR
              clear F61 F62 F63 q64 offIh hith a1' aHm
              have hrl : (rowL ps SE).length = SE.length + 1 := length_row hPg hSt
              walk_at "go"
              refine comp_openU (cl := [("row", L + 4)]) (by with_unfolding_all rfl) (by with_unfolding_all rfl) rfl (by decide) ?_
              walk_at "go"
              refine r_iterlist F64 (by exact F64.ours HP oH (up_self _ _ _)) lH fun Ij hj tkj offIj hneIj hitj Fja => ?_
              refine comp_block (It.list (by exact hhan) hneIj itsH) (by rw [aH.1]; lia)
                (fun i g' its => (∀ a o, g64 a = some o → g' a = some o) ∧ Al IsI its (((marks ps SE).take i).map (rankOf ps SE)))
                Fja hitj ⟨fun _ _ q => q, Al.nil⟩ (fun b hb => by cases List.mem_singleton.mp hb; exact offIj) (fun b hb => by cases List.mem_singleton.mp hb; exact ⟨oH, Fja.ours _ _ (up_self _ _ _)⟩)
                (fun b hb => by cases List.mem_singleton.mp hb; exact ⟨oH, fun i g' its hK => .inr (up_self _ _ _)⟩) (by decide) rfl
                (fun s Q E st hq => wpAny_pyIter_listiter st.1 hq) ?_ ?_
              · rintro C D5 i v e' g' m h tk o its hi hv ⟨hgm', hints⟩ hl5 hsz' F3 hge hal hMD
                have hlt : i < (marks ps SE).length := by rw [← aH.1]; exact hi
                obtain ⟨v', hv', a, oa, ta, rfl, ha1, ha2, ha3⟩ := aH.2 i _ (List.getElem?_eq_getElem hlt)
                rw [hv] at hv'
                cases hv'
                have htk : (marks ps SE).take (i + 1) = (marks ps SE).take i ++ [(marks ps SE)[i]] := by rw [List.take_add_one, List.getElem?_eq_getElem hlt]; rfl
                have G4 := G4.mono hgm'
                refine wpAny_assign_Name ?_
                walk_at "go"
                rename Fx _ _ _ _ _ _ _ => F4
                refine bisect_left W ((Rd _).le (by decide) (by decide)) (by exact F4.keep) (by exact F4.top) (by exact F4.keep _ _ (hgm' _ _ kR)) l1' (aR.mono fun v x q => IsMk.mono hgm' q) (hgm' _ _ ha1) ha2 ha3 (by lia) fun h5 tk5 t5 R5 => ?_
                have F5 := F4.back R5
                refine ⟨_, _, _, _, rfl, F5, hgm', ?_⟩
                rw [htk, List.map_append]
                exact hints.push ⟨t5, rfl⟩
              · intro C65 DN oN itsN g65 m65 h65 tk65 hsDN offN lN hszN hKN F65 hmono65 hns65 offC65
                refine comp_postU F65 hns65 offC65 rfl rfl rfl fun h66 tk66 F66 => ?_
                obtain ⟨k65, aN⟩ := hKN
                rw [aH.1, List.take_length] at aN
                have aN : Al IsI itsN (ranksL ps SE) := aN
                obtain ⟨F67, q67⟩ := F66.freezeU offN.m offN.al
                have q68 := fun a ob q => q67 a ob (k65 a ob q)
                have kN := up_self g65 DN oN
                have kS := q68 _ _ kS
                have aS := aS.mono fun v x q => IsEn.mono q68 q
                have aH := aH.mono fun v x q => IsMk.mono q68 q
                have aR := aR.mono fun v x q => IsMk.mono q68 q
                have G3 := G3.mono q68
                have G4 := G4.mono q68
                have kK := kK.mono q68
                have kR := q68 _ _ kR
                have u1 := q68 _ _ u1
                have u3 := u3.mono fun v x q => IsEn.mono q68 q
                have q16 := fun a ob q => q68 a ob (q16 a ob q)
                generalize up g65 DN oN = g68 at F67 kS aS aH G3 G4 kK u1 u3 q16 kR aR kN
                clear F64 F65 F66 Fja q67 q68 offIj hitj hns65 offC65
                walk_at "go"
                refine heapify W ((Rd _).le (by decide) (by decide)) (by exact F67.keep) (by exact F67.top) (by exact F67.ours HP _ (up_self _ _ _)) (by exact F67.sepg _ _ (up_self _ _ _)) lH aH (by lia) fun h69 tk69 o69 its69 R69 ho69 l69 hx69 => ?_
                have F69 := F67.back1 (up_self _ _ _) R69 ho69
                rw [up_up] at F69
                clear F67
                walk_at "go"
                refine r_len (by exact F69.keep _ _ u1) u2 (by lia) fun t70 tk70 => ?_
                walk_at "go"
                refine r_range (n := uits.size) F69 fun r71 h71 tk71 t71 u71 v71 off71 hr71 F71 => ?_
                walk_at "go"
                refine r_iterrange F71 hr71 (by lia) fun I72 h72 off72 hI72 F72 => ?_
                walk_at "go"
                refine for_it (It.range (by exact hhan) 0 1 uits.size)
                  (fun i g' M m => And6 ((∀ a ob, g68 a = some ob → g' a = some ob)) (m "steps" = some (.ref DS)) (m "sums" = some (.ref su)) (m "heap" = some (.ref HP)) (m "ranks" = some (.ref DN)) (Ex2 fun oh ith => And3 (M = up none' HP oh) (IsL oh ith) (Mks g' ith (hps ps SE i))))
                  (fun _ _ _ => False) (fun _ _ _ _ => False) F72 hI72 ⟨fun _ _ q => q, by walk_at "lk", by walk_at "lk", by walk_at "lk", by walk_at "lk", o69, its69, rfl, l69, hx69⟩
                  (fun b hb => by cases List.mem_singleton.mp hb; exact ⟨off72.l, off72.z, off72.al, off72.g, off72.m⟩)
                  (fun b hb => by cases hb) ?_ ?_ (fun _ _ _ _ _ q => q.elim) (fun _ _ _ _ _ _ q => q.elim)
                · rintro i v e' g' M m h tk hi ⟨t, rfl⟩ ⟨hgm', n1, n2, n3, n4, oh, ith, rfl, l1'', a1''⟩ F73 hge hale
                  rw [uz] at hi
                  obtain ⟨p, hp1, hp2, hp3, hP⟩ := law_plain hPg hSt (by lia : i ≤ SE.length)
                  have hlen := length_hps hPg hSt (by lia : i ≤ SE.length + 1)
                  have hik : (0 + (i : Int) * 1) = ((i : Nat) : Int) := by lia
                  rw [hik]
                  refine wpAny_assign_Name ?_
                  walk_at "go"
                  rename Fx _ _ _ _ _ _ _ => F74
                  refine heappop W ((Rd _).le (by decide) (by decide)) (by exact F74.keep) (by exact F74.top) (by exact F74.ours HP _ (up_self _ _ _)) (by exact F74.sepg _ _ (up_self _ _ _)) l1'' a1'' (by lia) (by lia) fun v75 h75 tk75 o75 its75 R75 ho75 l75 hx75 hv75 => ?_
                  have F75 := F74.back1 (up_self _ _ _) R75 ho75
                  rw [up_up] at F75
                  rw [hp3] at hv75
                  have G3 := G3.mono hgm'
                  have G4 := G4.mono hgm'
                  have kR' := hgm' _ _ kR
                  have aR' := aR.mono fun v x q => IsMk.mono hgm' q
                  walk_at "go"
                  refine r_item (by exact F75.keep _ _ kR') l1' aR' (by lia) hp2 fun v76 hv76 => ?_
                  walk_at "go"
                  refine mk_ne ((Rd _).u) F75.keep hv75 hv76 ?_
                  walk_at "go"
                  refine r_item (by exact F75.keep _ _ kR') l1' aR' (by lia) hp2 fun v77 hv77 => ?_
                  walk_at "go"
                  refine l_method (by exact F75.keep _ _ (hgm' _ _ kN)) lN PySem.F.slot_list_index PySem.F.type_list_index ?_
                  walk_at "go"
                  refine r_index (by exact F75.keep _ _ (hgm' _ _ kN)) lN aN hP.hk hP.first (by rw [length_ranks]; lia) fun t78 tk78 => ?_
                  try dsimp only
                  walk_at "go"
                  refine r_item (by exact F75.keep _ _ (hgm' _ _ u1)) u2 (u3.mono fun v x q => IsEn.mono hgm' q) (by lia) (sums_get hp1) fun v79 hv79 => ?_
                  walk_at "go"
                  refine law_mark W ((Rd _).le (by decide) (by decide)) (by exact F75.keep) (by exact F75.top) hv79 (kK.mono hgm') h4 h1 hpz fun r80 g80 h80 tk80 R80 c80 => ?_
                  have F80 := F75.back R80
                  have q80 := fun a ob q => R80.mono a ob (hgm' a ob q)
                  have G3 := G3.mono R80.mono
                  walk_at "go"
                  refine mk_ne ((Rd _).u) F80.keep (hv77.mono R80.mono) c80 ?_
                  walk_at "go"
                  refine law_parted W ((Rd _).le (by decide) (by decide)) (by exact F80.keep) (by exact F80.top) (q80 _ _ kS) lS (aS.mono fun v x q => IsEn.mono q80 q) ⟨ou, uits, q80 _ _ u1, u2, u3.mono fun v x q => IsEn.mono q80 q⟩ (q80 _ _ kN) lN aN (kK.mono q80) h4 h1 hpz hP fun g81 h81 tk81 R81 => ?_
                  have F81 := F80.back R81
                  walk_at "go"
                  refine ⟨_, _, _, _, _, rfl, F81, fun a ob q => R81.mono _ _ (q80 a ob q), by walk_at "lk", by walk_at "lk", by walk_at "lk", by walk_at "lk", o75, its75, rfl, l75, ?_⟩
                  exact hx75.mono fun v x q => IsMk.mono (fun a ob q => R81.mono _ _ (R80.mono a ob q)) q
                · rintro g' M m h tk ⟨hgm', n1, n2, n3, n4, oh, ith, rfl, l1'', a1''⟩ F73
                  try dsimp only
                  rw [uz] at a1''
                  have hz0 : ith = #[] := by
                    have := a1''.1
                    rw [length_hps hPg hSt (Nat.le_refl _), Nat.sub_self] at this
                    exact Array.eq_empty_of_size_eq_zero this
                  subst hz0
                  walk_at "go"
                  refine r_listK F73 (by simp) fun DE oE h82 offE hszE lE F82 hk82 => ?_
                  have hEH : HP ≠ DE := fun x => by have := offE.m; rw [← x, up_self] at this; cases this
                  walk_at "go"
                  refine list_eq_same ((Rd _).u) (by exact F82.ours HP oh ((up_ne _ _ hEH).trans (up_self _ _ _))) l1'' (by exact F82.ours DE oE (up_self _ _ _)) lE ?_

                  exact ret _ _ _ F82.end0


end
end
end Mine
section
open PySem PySem.W PySem.Calls PyProof.Rows
set_option Elab.async false
set_option maxRecDepth 100000
set_option maxHeartbeats 8000000
namespace Mine
theorem fa_is {w : World} {H : Heap} {mg mb : Str → Option Value} {fa : Addr} (W : Wd w H mg mb) (h : mg "law" = some (.ref fa)) : fa = 168 := by
  have e : mg "law" = some (.ref 168) := mg_of W.X W.g (by k_is)
  rw [h] at e
  injection e with e
  injection e
theorem room : Room callerA 9 110 := ⟨rfl, by decide, by decide⟩
theorem fin : PySem.Challenge.rw_pg0239_01.Holds := hd (by w_strict (
  k_fill
  intro w s₀ s₁ mg mb G Y fa o pm cd doc dV kV ho hd' hcd hD hmg hg args vals as hpre hlay hrd hwl hlo
  have KX := kIn_of Y
  refine Ground.open G ?_
  intro T B D TE TW
  try (refine guard_noD D (by decide +kernel) ?_; clear D)
  have W : Wd w s₁.heap mg mb := ⟨KX, T.g, T.b, T.nolimit, T.builtins⟩
  have hfa := fa_is W hmg
  subst hfa
  wrow_args hpre hlay hrd hwl hlo
  rename_i ns _ _ _ _ _ _ _ l vs _ hL _ _ _ hI _ hc _
  refine enter_call ?_
  obtain ⟨ol, hol, hcls⟩ := hL
  have hns : ns.length ≤ 63 := by lia
  refine law_run (g := s₁.heap.get?) W room (fun _ _ q => q) (fun _ _ q => q) hol hcls hI (by rw [List.size_toArray]; have := hI.length; lia) fun g' h' tk' R => ?_
  exact GoodW.toG ⟨.inl ⟨.bool true, .bool true, [], rfl, fun cls => rfl, .bool true, by with_unfolding_all rfl, fun _ => ⟨List.nodup_nil, fun a ha => by cases ha⟩⟩, fun b o q => R.old b o q (fun f => f), rfl, hg⟩))
end Mine

end

theorem PySem.Challenge.cw_pg0239_01_holds : PySem.Challenge.rw_pg0239_01.Holds :=
  Mine.fin
