import PyProof.Rows.All
import Wide.All
import OpenK.AllK
import Wide.FinOn
import Lean
import PySem.Challenge.RW_eu0029_01
open PySem PySem.W PySem.Calls PyProof.Rows
set_option Elab.async false
set_option linter.unusedVariables false
namespace Mine

/-! the ledger -/
structure Led (G : Heap) (l : List (Addr × Obj)) (h : Heap) : Prop where
  gr : ∀ b o, G.get? b = some o → h.get? b = some o
  pt : ∀ p ∈ l, h.get? p.1 = some p.2
  new : ∀ p ∈ l, G.get? p.1 = none
  nd : (l.map Prod.fst).Nodup

inductive Upd : List (Addr × Obj) → Addr → Obj → Obj → List (Addr × Obj) → Prop where
  | head {a : Addr} {o o' : Obj} {l : List (Addr × Obj)} : Upd ((a, o) :: l) a o o' ((a, o') :: l)
  | tail {a : Addr} {o o' : Obj} {l l' : List (Addr × Obj)} {p : Addr × Obj} (u : Upd l a o o' l') : Upd (p :: l) a o o' (p :: l')

theorem Upd.app {l l' : List (Addr × Obj)} {a : Addr} {o o' : Obj} (u : Upd l a o o' l') : ∀ f : List (Addr × Obj), Upd (f ++ l) a o o' (f ++ l')
  | [] => u
  | _ :: f => .tail (u.app f)
theorem Upd.appl {f f' : List (Addr × Obj)} {a : Addr} {o o' : Obj} (u : Upd f a o o' f') (l : List (Addr × Obj)) : Upd (f ++ l) a o o' (f' ++ l) := by
  induction u with
  | head => exact .head
  | tail _ ih => exact .tail ih
theorem Upd.mem {l l' : List (Addr × Obj)} {a : Addr} {o o' : Obj} (u : Upd l a o o' l') : (a, o) ∈ l := by
  induction u with
  | head => exact List.Mem.head _
  | tail _ ih => exact List.Mem.tail _ ih
theorem Upd.mem' {l l' : List (Addr × Obj)} {a : Addr} {o o' : Obj} (u : Upd l a o o' l') : (a, o') ∈ l' := by
  induction u with
  | head => exact List.Mem.head _
  | tail _ ih => exact List.Mem.tail _ ih
theorem Upd.fst {l l' : List (Addr × Obj)} {a : Addr} {o o' : Obj} (u : Upd l a o o' l') : l'.map Prod.fst = l.map Prod.fst := by
  induction u with
  | head => rfl
  | tail _ ih => rw [List.map_cons, List.map_cons, ih]
theorem Upd.old {l l' : List (Addr × Obj)} {a : Addr} {o o' : Obj} (u : Upd l a o o' l') (nd : (l.map Prod.fst).Nodup) : ∀ p ∈ l', p = (a, o') ∨ (p ∈ l ∧ p.1 ≠ a) := by
  induction u with
  | @head a o o' l =>
    intro p hp
    rw [List.map_cons, List.nodup_cons] at nd
    rcases List.mem_cons.mp hp with rfl | hp
    · exact .inl rfl
    · exact .inr ⟨List.mem_cons_of_mem _ hp, fun e => nd.1 (List.mem_map.mpr ⟨p, hp, e⟩)⟩
  | @tail a o o' l l' q u ih =>
    intro p hp
    rw [List.map_cons, List.nodup_cons] at nd
    rcases List.mem_cons.mp hp with rfl | hp
    · exact .inr ⟨List.mem_cons_self, fun e => nd.1 (e ▸ List.mem_map_of_mem u.mem)⟩
    · rcases ih nd.2 p hp with h | ⟨h, h2⟩
      · exact .inl h
      · exact .inr ⟨List.mem_cons_of_mem _ h, h2⟩
/-- the others of the list stay -/
theorem Upd.stay {l l' : List (Addr × Obj)} {a : Addr} {o o' : Obj} (u : Upd l a o o' l') (nd : (l.map Prod.fst).Nodup) : ∀ p ∈ l, p.1 ≠ a → p ∈ l' := by
  induction u with
  | @head a o o' l =>
    intro p hp hne
    rcases List.mem_cons.mp hp with rfl | hp
    · exact absurd rfl hne
    · exact List.mem_cons_of_mem _ hp
  | @tail a o o' l l' q u ih =>
    intro p hp hne
    rw [List.map_cons, List.nodup_cons] at nd
    rcases List.mem_cons.mp hp with rfl | hp
    · exact List.mem_cons_self
    · exact List.mem_cons_of_mem _ (ih nd.2 p hp hne)
theorem Upd.of_mem {a : Addr} {o : Obj} (o' : Obj) : ∀ {l : List (Addr × Obj)}, (a, o) ∈ l → ∃ l', Upd l a o o' l'
  | p :: l, h => by
    rcases List.mem_cons.mp h with rfl | h
    · exact ⟨_, .head⟩
    · obtain ⟨l', u⟩ := Upd.of_mem o' h; exact ⟨_, .tail u⟩

/-- a place of the ledger, open for another object -/
def Hole (lf : Obj → List (Addr × Obj)) (a : Addr) : Prop := ∀ o1 o2, Upd (lf o1) a o1 o2 (lf o2)
theorem Hole.mem {lf : Obj → List (Addr × Obj)} {a : Addr} (H : Hole lf a) (o : Obj) : (a, o) ∈ lf o := (H o o).mem
theorem Hole.app {lf : Obj → List (Addr × Obj)} {a : Addr} (H : Hole lf a) (f : List (Addr × Obj)) : Hole (fun o => f ++ lf o) a := fun o1 o2 => (H o1 o2).app f
/-- p stands in the ledger whatever fills the place -/
def AllHas (lf : Obj → List (Addr × Obj)) (p : Addr × Obj) : Prop := ∀ o, p ∈ lf o
theorem AllHas.mem {lf : Obj → List (Addr × Obj)} {p : Addr × Obj} (H : AllHas lf p) (o : Obj) : p ∈ lf o := H o
theorem Hole.at {lf : Obj → List (Addr × Obj)} {a : Addr} (H : Hole lf a) (o1 o2 : Obj) : Upd (lf o1) a o1 o2 (lf o2) := H o1 o2
theorem Hole.of_mem {a : Addr} {o : Obj} : ∀ {l : List (Addr × Obj)}, (a, o) ∈ l → ∃ lf, Hole lf a ∧ l = lf o
  | p :: l, h => by
    rcases List.mem_cons.mp h with rfl | h
    · exact ⟨fun o => (a, o) :: l, fun _ _ => .head, rfl⟩
    · obtain ⟨lf, H, e⟩ := Hole.of_mem h
      exact ⟨fun o => p :: lf o, fun o1 o2 => .tail (H o1 o2), by rw [e]⟩

namespace Led
variable {G h h' : Heap} {l l' : List (Addr × Obj)} {a : Addr} {o o' : Obj}

theorem upd (I : Led G l h) (u : Upd l a o o' l') (hs : Heap.SameBut a h h') (ho : h'.get? a = some o') : Led G l' h' where
  gr := fun b x e => (hs.2 b (fun hb => by have := I.new _ u.mem; rw [← hb, e] at this; cases this)).trans (I.gr b x e)
  pt := fun p hp => by
    rcases u.old I.nd p hp with rfl | ⟨hp, hne⟩
    · exact ho
    · exact (hs.2 p.1 hne).trans (I.pt p hp)
  new := fun p hp => by
    rcases u.old I.nd p hp with rfl | ⟨hp, _⟩
    · exact I.new (a, o) u.mem
    · exact I.new p hp
  nd := by rw [u.fst]; exact I.nd

theorem keeps (I : Led G l h) (hk : ∀ b o, h.get? b = some o → h'.get? b = some o) : Led G l h' :=
  ⟨fun b o e => hk b o (I.gr b o e), fun p hp => hk _ _ (I.pt p hp), I.new, I.nd⟩

theorem fresh (I : Led G l h) : G.get? h.objs.size = none := by
  cases hq : G.get? h.objs.size with
  | none => rfl
  | some o => exact absurd (Heap.lt_size (I.gr _ _ hq)) (Nat.lt_irrefl _)
theorem lt (I : Led G l h) (hm : (a, o) ∈ l) : a < h.objs.size := Heap.lt_size (I.pt _ hm)
theorem fresh' (I : Led G l h) : h.objs.size ∉ l.map Prod.fst := fun hm => by
  obtain ⟨p, hp, e⟩ := List.mem_map.mp hm
  have := I.lt (a := p.1) (o := p.2) hp
  rw [e] at this; exact Nat.lt_irrefl _ this

/-- a new object on an address that the old heap did not have -/
theorem cons (I : Led G l h) (hk : ∀ b o, h.get? b = some o → h'.get? b = some o) (ha : h.objs.size ≤ a) (ho : h'.get? a = some o) : Led G ((a, o) :: l) h' where
  gr := fun b o e => hk b o (I.gr b o e)
  pt := fun p hp => by
    rcases List.mem_cons.mp hp with rfl | hp
    · exact ho
    · exact hk _ _ (I.pt p hp)
  new := fun p hp => by
    rcases List.mem_cons.mp hp with rfl | hp
    · cases hq : G.get? a with
      | none => rfl
      | some x => exact absurd (Heap.lt_size (I.gr _ _ hq)) (Nat.not_lt.mpr ha)
    · exact I.new p hp
  nd := by
    rw [List.map_cons, List.nodup_cons]
    refine ⟨fun hm => ?_, I.nd⟩
    obtain ⟨p, hp, e⟩ := List.mem_map.mp hm
    have := I.lt (a := p.1) (o := p.2) hp
    rw [e] at this; exact absurd this (Nat.not_lt.mpr ha)

theorem push (I : Led G l h) (o : Obj) (hf : o.isFreed = false := by rfl) : Led G ((h.objs.size, o) :: l) (h.push o) :=
  I.cons (fun _ _ e => Heap.get?_push_of_some _ e) (Nat.le_refl _) (Heap.get?_push_size _ hf)

theorem perm (I : Led G l h) (p : l'.Perm l) : Led G l' h :=
  ⟨I.gr, fun q hq => I.pt q (p.mem_iff.mp hq), fun q hq => I.new q (p.mem_iff.mp hq), (p.map Prod.fst).nodup_iff.mpr I.nd⟩
theorem sub (I : Led G l h) (s : l'.Sublist l) : Led G l' h :=
  ⟨I.gr, fun q hq => I.pt q (s.mem hq), fun q hq => I.new q (s.mem hq), I.nd.sublist (s.map Prod.fst)⟩
theorem drop {p : Addr × Obj} (I : Led G (p :: l) h) : Led G l h := I.sub (List.sublist_cons_self ..)
theorem dropl (f : List (Addr × Obj)) (I : Led G (f ++ l) h) : Led G l h := I.sub (List.sublist_append_right ..)
theorem dropr {f : List (Addr × Obj)} (I : Led G (f ++ l) h) : Led G f h := I.sub (List.sublist_append_left ..)
theorem hole {lf : Obj → List (Addr × Obj)} (I : Led G (lf o) h) (H : Hole lf a) (hs : Heap.SameBut a h h') (ho : h'.get? a = some o') : Led G (lf o') h' := I.upd (H o o') hs ho
theorem get (I : Led G l h) (hm : (a, o) ∈ l) : h.get? a = some o := I.pt _ hm
theorem inj (I : Led G l h) (hm : (a, o) ∈ l) (hm' : (a, o') ∈ l) : o = o' := by
  have h1 := I.pt _ hm; have h2 := I.pt _ hm'
  dsimp only at h1 h2; rw [h1] at h2; exact Option.some.inj h2
end Led

/-! a frame's names -/
inductive SetV : List (Str × Option Value) → Str → Value → List (Str × Option Value) → Prop where
  | head {x : Str} {w : Option Value} {v : Value} {r : List (Str × Option Value)} : SetV ((x, w) :: r) x v ((x, some v) :: r)
  | tail {x : Str} {v : Value} {r r' : List (Str × Option Value)} {p : Str × Option Value} (u : SetV r x v r') : SetV (p :: r) x v (p :: r')
theorem SetV.fst {r r' : List (Str × Option Value)} {x : Str} {v : Value} (u : SetV r x v r') : r'.map Prod.fst = r.map Prod.fst := by
  induction u with
  | head => rfl
  | tail _ ih => rw [List.map_cons, List.map_cons, ih]
theorem SetV.mem {r r' : List (Str × Option Value)} {x : Str} {v : Value} (u : SetV r x v r') : ∃ w, (x, w) ∈ r := by
  induction u with
  | head => exact ⟨_, List.Mem.head _⟩
  | tail _ ih => obtain ⟨w, h⟩ := ih; exact ⟨w, List.Mem.tail _ h⟩
theorem SetV.old {r r' : List (Str × Option Value)} {x : Str} {v : Value} (u : SetV r x v r') (nd : (r.map Prod.fst).Nodup) : ∀ p ∈ r', p = (x, some v) ∨ (p ∈ r ∧ p.1 ≠ x) := by
  induction u with
  | @head x w v r =>
    intro p hp
    rw [List.map_cons, List.nodup_cons] at nd
    rcases List.mem_cons.mp hp with rfl | hp
    · exact .inl rfl
    · exact .inr ⟨List.mem_cons_of_mem _ hp, fun e => nd.1 (List.mem_map.mpr ⟨p, hp, e⟩)⟩
  | @tail x v r r' q u ih =>
    intro p hp
    rw [List.map_cons, List.nodup_cons] at nd
    rcases List.mem_cons.mp hp with rfl | hp
    · obtain ⟨w, hw⟩ := u.mem
      exact .inr ⟨List.mem_cons_self, fun e => nd.1 (e ▸ List.mem_map_of_mem hw)⟩
    · rcases ih nd.2 p hp with h | ⟨h, h2⟩
      · exact .inl h
      · exact .inr ⟨List.mem_cons_of_mem _ h, h2⟩

structure Frm (env : Env) (fo : List (Addr × Obj)) (vars : List (Str × Option Value)) : Prop where
  kind : env.scope.kind = .function
  glob : env.globals = mainGlobals
  bi : env.builtins = builtinsNs
  dict : ∃ o es ep, (env.locals, o) ∈ fo ∧ o.data = .dict es ep ∧ StrKeys es ∧ ∀ x v, (x, some v) ∈ vars → env.kindOf x = some .local → nsFind es x = some v
  kinds : ∀ x v0, (x, v0) ∈ vars → env.kindOf x = some .local ∨ (env.kindOf x = some .cell ∧ ∃ c o cv, env.cells.lookup x = some c ∧ (c, o) ∈ fo ∧ o.data = .cell cv ∧ ∀ v, v0 = some v → cv = some v)
  nd : (vars.map Prod.fst).Nodup
  apart : ∀ x y c, x ∈ vars.map Prod.fst → y ∈ vars.map Prod.fst → env.kindOf x = some .cell → env.kindOf y = some .cell → env.cells.lookup x = some c → env.cells.lookup y = some c → x = y

section
variable {M : Model} {A : Around} {E : Value → Shared → Prop} {h G : Heap} {g : Array GenState} {d : Drawn} {t : Nat} {os : OsState}
  {env cenv : Env} {fo l lg : List (Addr × Obj)} {vars vars' : List (Str × Option Value)} {x : Str} {v : Value} {pos : Pos}

theorem ldName (I : Led G lg h) (F : Frm env fo vars) (hs : ∀ p ∈ fo, p ∈ lg) (hm : (x, some v) ∈ vars) {Q : Value → Shared → Prop} (hQ : Q v ⟨h, g, d, t, os⟩) :
    wpAny M A (loadName env x) Q E ⟨h, g, d, t, os⟩ := by
  rcases F.kinds x _ hm with hl | ⟨hl, c, o, cv, hc, hco, hd, hv⟩
  · obtain ⟨o, es, ep, hL, hd, hk, hf⟩ := F.dict
    exact wpAny_loadName_local (m := nsFind es) F.kind hl ⟨o, es, ep, I.get (hs _ hL), hd, hk, fun _ => rfl⟩ (hf x v hm hl) hQ
  · exact wpAny_loadName_cell F.kind hl hc ⟨o, I.get (hs _ hco), by rw [hd, hv v rfl]⟩ hQ

theorem ld (I : Led G (fo ++ l) h) (F : Frm env fo vars) (hm : (x, some v) ∈ vars) {Q : Value → Shared → Prop} (hQ : Q v ⟨h, g, d, t, os⟩)
    (hd : (x == ("__debug__" : Str)) = false := by decide) : wpAny M A (eval (.Name x pos) env) Q E ⟨h, g, d, t, os⟩ :=
  wpAny_Name (ldName I F (fun _ hp => List.mem_append_left _ hp) hm hQ) hd

/-- a name of the frame around, read in a block that captures it -/
theorem ldF (I : Led G lg h) (F : Frm env fo vars) (hs : ∀ p ∈ fo, p ∈ lg) (hm : (x, some v) ∈ vars) (hcell : env.kindOf x = some .cell) (hk : cenv.scope.kind = .function)
    (hfree : cenv.kindOf x = some .free ∨ cenv.kindOf x = some .cell) (hc : cenv.cells.lookup x = env.cells.lookup x) {Q : Value → Shared → Prop} (hQ : Q v ⟨h, g, d, t, os⟩)
    (hd : (x == ("__debug__" : Str)) = false := by decide) (hn : (x == ("__classdict__" : Str)) = false := by decide) : wpAny M A (eval (.Name x pos) cenv) Q E ⟨h, g, d, t, os⟩ := by
  rcases F.kinds x _ hm with hl | ⟨hl, c, o, cv, hcl, hco, hd', hv⟩
  · rw [hcell] at hl; cases hl
  · have hcell : (⟨h, g, d, t, os⟩ : Shared).heap.IsCell c (some v) := ⟨o, I.get (hs _ hco), by rw [hd', hv v rfl]⟩
    rcases hfree with hfree | hfree
    · exact wpAny_Name (wpAny_loadName_free hk hfree (hc.trans hcl) hcell hQ hn) hd
    · exact wpAny_Name (wpAny_loadName_cell hk hfree (hc.trans hcl) hcell hQ) hd

theorem st (I : Led G (fo ++ l) h) (F : Frm env fo vars) (hs : SetV vars x v vars') {Q : Unit → Shared → Prop}
    (hQ : ∀ h' t' fo', Led G (fo' ++ l) h' → Frm env fo' vars' → Q () ⟨h', g, d, t', os⟩) : wpAny M A (storeName env x v) Q E ⟨h, g, d, t, os⟩ := by
  obtain ⟨w, hw⟩ := hs.mem
  have hfo : Led G fo h := I.dropr
  obtain ⟨oL, es, ep, hL, hdL, hkL, hfL⟩ := F.dict
  rcases F.kinds x w hw with hl | ⟨hl, c, o, cv, hc, hco, hdo, hv⟩
  · refine wpAny_storeName_local (m := nsFind es) hl ⟨oL, es, ep, I.get (List.mem_append_left _ hL), hdL, hkL, fun _ => rfl⟩ (fun h' hn' hsb => ?_) (by rw [F.kind]; rfl)
    obtain ⟨o', es', ep', ho', hd', hk', hf'⟩ := hn'
    obtain ⟨fo', u⟩ := Upd.of_mem o' hL
    refine hQ h' _ fo' (I.upd (u.appl l) hsb ho') ⟨F.kind, F.glob, F.bi, ⟨o', es', ep', u.mem', hd', hk', fun y v' hy hly => ?_⟩, fun y v0 hy => ?_, by rw [hs.fst]; exact F.nd, by rw [hs.fst]; exact F.apart⟩
    · rw [hf' y]
      rcases hs.old F.nd _ hy with e | ⟨hy, hne⟩
      · cases e; exact if_pos rfl
      · exact (if_neg hne).trans (hfL y v' hy hly)
    · rcases hs.old F.nd _ hy with e | ⟨hy, hne⟩
      · cases e; exact .inl hl
      · rcases F.kinds y v0 hy with hl2 | ⟨hl2, c, o, cv, hc, hco, hdo, hv⟩
        · exact .inl hl2
        · refine .inr ⟨hl2, c, o, cv, hc, u.stay hfo.nd _ hco (fun e => ?_), hdo, hv⟩
          have : (env.locals, o) ∈ fo := by rw [show c = env.locals from e] at hco; exact hco
          rw [hfo.inj hL this, hdo] at hdL; cases hdL
  · refine wpAny_storeName_cell F.kind hl hc ⟨o, I.get (List.mem_append_left _ hco), hdo⟩ fun h' hc' hsb => ?_
    obtain ⟨o', ho', hd'⟩ := hc'
    obtain ⟨fo', u⟩ := Upd.of_mem o' hco
    have hLc : env.locals ≠ c := fun e => by
      rw [← e] at hco
      rw [hfo.inj hL hco, hdo] at hdL; cases hdL
    refine hQ h' _ fo' (I.upd (u.appl l) hsb ho') ⟨F.kind, F.glob, F.bi, ⟨oL, es, ep, u.stay hfo.nd _ hL hLc, hdL, hkL, fun y v' hy hly => ?_⟩, fun y v0 hy => ?_, by rw [hs.fst]; exact F.nd, by rw [hs.fst]; exact F.apart⟩
    · rcases hs.old F.nd _ hy with e | ⟨hy, hne⟩
      · cases e; rw [hl] at hly; cases hly
      · exact hfL y v' hy hly
    · rcases hs.old F.nd _ hy with e | ⟨hy, hne⟩
      · cases e; exact .inr ⟨hl, c, o', some v, hc, u.mem', hd', fun v' e => e⟩
      · rcases F.kinds y v0 hy with hl2 | ⟨hl2, c2, o2, cv2, hc2, hco2, hdo2, hv2⟩
        · exact .inl hl2
        · exact .inr ⟨hl2, c2, o2, cv2, hc2, u.stay hfo.nd _ hco2 (fun e => hne (F.apart y x c (List.mem_map.mpr ⟨_, hy, rfl⟩) (List.mem_map.mpr ⟨_, hw, rfl⟩) hl2 hl (hc2.trans (by rw [show c2 = c from e])) hc)), hdo2, hv2⟩
end
end Mine
namespace Mine

/-- room on the stack -/
structure Ok (A : Around) (k : Nat) : Prop where
  hd : A.handled = none
  dp : A.depth + k ≤ 900
  un : A.units + 20 * k ≤ 9000
namespace Ok
variable {A : Around} {k : Nat}
theorem room (x : Ok A k) : A.depth < recursionLimit := by have := x.dp; show A.depth < 1000; omega
theorem units (x : Ok A k) : A.units < cLine := by have := x.un; show A.units < 9900; omega
theorem units64 (x : Ok A k) : A.units + 64 < cLine := by have := x.un; show A.units + 64 < 9900; omega
theorem deeper (x : Ok A (k + 1)) (env : Env) : Ok (A.deeper env) k :=
  ⟨x.hd, by have := x.dp; show A.depth + 1 + k ≤ 900; omega, by have := x.un; show A.units + 3 + 20 * k ≤ 9000; omega⟩
theorem in1 (x : Ok A (k + 1)) : Ok A.in1 k :=
  ⟨x.hd, by have := x.dp; show A.depth + k ≤ 900; omega, by have := x.un; show A.units + 1 + 20 * k ≤ 9000; omega⟩
theorem less {j : Nat} (x : Ok A k) (h : j ≤ k) : Ok A j :=
  ⟨x.hd, by have := x.dp; omega, by have := x.un; omega⟩
theorem pred (x : Ok A (k + 1)) : Ok A k := x.less (Nat.le_succ k)
end Ok

structure Gd (G : Heap) (mg mb : Str → Option Value) : Prop where
  g : G.Ns mainGlobals mg
  b : G.Ns builtinsNs mb
  bi : ∀ x : Str, x ≠ "__name__" → mb x = bootBuiltins x
  lim : G.NoLimit

def Gls (env : Env) (gl : List Str) : Prop := ∀ x ∈ gl, env.kindOf x = some .globalImplicit

/-- a plain def stands at f -/
def FnIs (G : Heap) (f : Addr) (name : Str) (params : Arguments) (body : List Stmt) (sc : Scope) : Prop :=
  ∃ o pm cd doc, G.get? f = some o ∧ o.data = .func (docDef name params body sc pm cd doc) ∧ G.CodeRec cd name

theorem bindL_get {kindOf : Str → Option NameKind} : ∀ {binds : List (Str × Value)} {m0 : Str → Option Value} {x : Str} {v : Value}, (binds.map Prod.fst).Nodup → kindOf x = some .local →
    ((x, v) ∈ binds ∨ (x ∉ binds.map Prod.fst ∧ m0 x = some v)) → bindL kindOf binds m0 x = some v
  | [], m0, x, v, _, _, h => by
    rcases h with h | h
    · cases h
    · exact h.2
  | (y, w) :: r, m0, x, v, nd, hk, h => by
    rw [List.map_cons, List.nodup_cons] at nd
    unfold bindL
    refine bindL_get nd.2 hk ?_
    rcases h with h | ⟨h, h2⟩
    · rcases List.mem_cons.mp h with e | h
      · cases e; rw [if_pos hk]; exact .inr ⟨nd.1, if_pos rfl⟩
      · exact .inl h
    · rw [List.map_cons, List.mem_cons, not_or] at h
      refine .inr ⟨h.2, ?_⟩
      split
      · exact (if_neg h.1).trans h2
      · exact h2
theorem bindC_get {kindOf : Str → Option NameKind} : ∀ {binds : List (Str × Value)} {m0 : Str → Option Value} {x : Str} {v : Value}, (binds.map Prod.fst).Nodup → ¬ kindOf x = some .local →
    ((x, v) ∈ binds ∨ (x ∉ binds.map Prod.fst ∧ m0 x = some v)) → bindC kindOf binds m0 x = some v
  | [], m0, x, v, _, _, h => by
    rcases h with h | h
    · cases h
    · exact h.2
  | (y, w) :: r, m0, x, v, nd, hk, h => by
    rw [List.map_cons, List.nodup_cons] at nd
    unfold bindC
    refine bindC_get nd.2 hk ?_
    rcases h with h | ⟨h, h2⟩
    · rcases List.mem_cons.mp h with e | h
      · cases e; rw [if_neg hk]; exact .inr ⟨nd.1, if_pos rfl⟩
      · exact .inl h
    · rw [List.map_cons, List.mem_cons, not_or] at h
      refine .inr ⟨h.2, ?_⟩
      split
      · exact h2
      · exact (if_neg h.1).trans h2

theorem cellsFrom_names : ∀ (names : List (Str × NameKind)) (n : Nat) (acc : List (Str × Addr)), ((cellsFrom n names acc).map Prod.fst) = ((names.filter (·.2 == .cell)).map Prod.fst).reverse ++ acc.map Prod.fst
  | [], _, _ => by simp [cellsFrom]
  | (x, k) :: r, n, acc => by
    unfold cellsFrom
    by_cases hk : (k == NameKind.cell) = true
    · rw [if_pos hk, cellsFrom_names r, List.filter_cons_of_pos (by simpa using hk)]; simp
    · rw [if_neg hk, cellsFrom_names r, List.filter_cons_of_neg (by simpa using hk)]
theorem cells_nodup {sc : Scope} (h : (sc.names.map Prod.fst).Nodup) (n : Nat) : ((cellsFrom n sc.names []).map Prod.fst).Nodup := by
  rw [cellsFrom_names, List.map_nil, List.append_nil, (List.reverse_perm _).nodup_iff]
  exact h.sublist (List.filter_sublist.map _)
theorem lookup_of_mem {α : Type} : ∀ {l : List (Str × α)} {n : Str} {c : α}, (l.map Prod.fst).Nodup → (n, c) ∈ l → l.lookup n = some c
  | (k, v) :: r, n, c, nd, h => by
    rw [List.map_cons, List.nodup_cons] at nd
    rw [List.lookup_cons]
    rcases List.mem_cons.mp h with e | h
    · cases e; simp
    · have hne : n ≠ k := fun e => nd.1 (e ▸ List.mem_map.mpr ⟨(n, c), h, rfl⟩)
      rw [beq_eq_false_iff_ne.mpr hne]
      exact lookup_of_mem nd.2 h
theorem cell_some {sc : Scope} (h : (sc.names.map Prod.fst).Nodup) {n : Nat} {x : Str} (hx : sc.names.lookup x = some .cell) : ∃ c, (cellsFrom n sc.names []).lookup x = some c := by
  have hm : x ∈ (cellsFrom n sc.names []).map Prod.fst := by
    rw [cellsFrom_names, List.map_nil, List.append_nil, List.mem_reverse]
    exact List.mem_map.mpr ⟨(x, .cell), List.mem_filter.mpr ⟨mem_of_lookup hx, rfl⟩, rfl⟩
  obtain ⟨p, hp, e⟩ := List.mem_map.mp hm
  exact ⟨p.2, lookup_of_mem (cells_nodup h n) (by rw [← e]; exact hp)⟩

/-- the ledger of a new frame -/
theorem frame_led {G : Heap} {l : List (Addr × Obj)} {s s₁ : Shared} {env : Env} {m cm : Str → Option Value} (I : Led G l s.heap) (x : InCallC s env.locals m env.cells cm s₁)
    (nd : (env.cells.map Prod.fst).Nodup) : ∃ fo, Led G (fo ++ l) s₁.heap ∧ (∃ o es ep, (env.locals, o) ∈ fo ∧ o.data = .dict es ep ∧ StrKeys es ∧ ∀ y, nsFind es y = m y) ∧
      ∀ n c, env.cells.lookup n = some c → ∃ o, (c, o) ∈ fo ∧ o.data = .cell (cm n) := by
  obtain ⟨oL, es, ep, hL, hd, hk, hm⟩ := x.toInCall.ns
  have hLe := x.toInCall.fresh
  have base : Led G ((env.locals, oL) :: l) s₁.heap := I.cons x.toInCall.keep hLe hL
  have key : ∀ cs : List (Str × Addr), (∀ p ∈ cs, p ∈ env.cells) → (cs.Pairwise fun a b => a.2 ≠ b.2) → ∃ fo, Led G (fo ++ ((env.locals, oL) :: l)) s₁.heap ∧ (∀ p ∈ fo, p.1 ∈ cs.map Prod.snd) ∧ ∀ n c, (n, c) ∈ cs → ∃ o, (c, o) ∈ fo ∧ o.data = .cell (cm n) := by
    intro cs
    induction cs with
    | nil => exact fun _ _ => ⟨[], base, (fun p hp => by cases hp), (fun n c hp => by cases hp)⟩
    | cons q r ih =>
      intro hs hp
      obtain ⟨h1, h2⟩ := List.pairwise_cons.mp hp
      obtain ⟨fo, hI, hin, hc⟩ := ih (fun p hp => hs p (List.mem_cons_of_mem _ hp)) h2
      obtain ⟨n, c⟩ := q
      have hmem := hs (n, c) List.mem_cons_self
      obtain ⟨o, ho, hod⟩ := x.cell n c (lookup_of_mem nd hmem)
      have hLc := x.above n c hmem
      refine ⟨(c, o) :: fo, ⟨hI.gr, ?_, ?_, ?_⟩, ?_, ?_⟩
      · intro p hp; rw [List.cons_append] at hp
        rcases List.mem_cons.mp hp with rfl | hp
        · exact ho
        · exact hI.pt p hp
      · intro p hp; rw [List.cons_append] at hp
        rcases List.mem_cons.mp hp with rfl | hp
        · cases hq : G.get? c with
          | none => rfl
          | some z => exact absurd (Heap.lt_size (I.gr _ _ hq)) (Nat.not_lt.mpr (Nat.le_of_lt (Nat.lt_of_le_of_lt hLe hLc)))
        · exact hI.new p hp
      · rw [List.cons_append, List.map_cons, List.nodup_cons]
        refine ⟨fun hm => ?_, hI.nd⟩
        obtain ⟨p, hp, e⟩ := List.mem_map.mp hm
        rcases List.mem_append.mp hp with hp | hp
        · obtain ⟨q, hq, e2⟩ := List.mem_map.mp (hin p hp)
          exact h1 q hq (e.symm.trans e2.symm)
        · rcases List.mem_cons.mp hp with rfl | hp
          · have e' : env.locals = c := e
            exact Nat.lt_irrefl _ (e' ▸ hLc)
          · have := I.lt (a := p.1) (o := p.2) hp
            rw [e] at this
            exact absurd this (Nat.not_lt.mpr (Nat.le_of_lt (Nat.lt_of_le_of_lt hLe hLc)))
      · intro p hp
        rcases List.mem_cons.mp hp with rfl | hp
        · exact List.mem_cons_self
        · exact List.mem_cons_of_mem _ (hin p hp)
      · intro n' c' hm
        rcases List.mem_cons.mp hm with e | hm
        · cases e; exact ⟨o, List.mem_cons_self, hod⟩
        · obtain ⟨o', h1', h2'⟩ := hc n' c' hm
          exact ⟨o', List.mem_cons_of_mem _ h1', h2'⟩
  obtain ⟨fo, hI, _, hc⟩ := key env.cells (fun _ h => h) x.apart
  refine ⟨fo ++ [(env.locals, oL)], by rw [List.append_assoc]; exact hI, ⟨oL, es, ep, List.mem_append_right _ List.mem_cons_self, hd, hk, hm⟩, fun n c h => ?_⟩
  obtain ⟨o, h1, h2⟩ := hc n c (mem_of_lookup h)
  exact ⟨o, List.mem_append_left _ h1, h2⟩

def varsOf (binds : List (Str × Value)) (others : List Str) : List (Str × Option Value) := binds.map (fun p => (p.1, some p.2)) ++ others.map fun x => (x, none)

/-- the static look at a frame -/
def fnLook (sc : Scope) (bs others gl : List Str) : Bool :=
  sc.kind == .function && !sc.isCoroutine && decide (sc.names.map Prod.fst).Nodup && decide (bs ++ others).Nodup &&
  (bs ++ others).all (fun x => sc.names.lookup x == some .local || sc.names.lookup x == some .cell) && gl.all (fun x => sc.names.lookup x == some .globalImplicit)

theorem frm_of {G : Heap} {l : List (Addr × Obj)} {s s₁ : Shared} {env : Env} {binds : List (Str × Value)} {others gl : List Str} (I : Led G l s.heap)
    (x : InCallC s env.locals (bindL env.kindOf binds fun _ => none) env.cells (bindC env.kindOf binds fun _ => none) s₁) {n : Nat} (hcells : env.cells = cellsFrom n env.scope.names [])
    (look : fnLook env.scope (binds.map Prod.fst) others gl = true) (hg : env.globals = mainGlobals) (hb : env.builtins = builtinsNs) :
    ∃ fo, Led G (fo ++ l) s₁.heap ∧ Frm env fo (varsOf binds others) ∧ Gls env gl := by
  simp only [fnLook, Bool.and_eq_true, decide_eq_true_eq, beq_iff_eq] at look
  obtain ⟨⟨⟨⟨⟨hk, _⟩, hnd⟩, hnd2⟩, hall⟩, hgl⟩ := look
  have ndc : (env.cells.map Prod.fst).Nodup := by rw [hcells]; exact cells_nodup hnd n
  obtain ⟨fo, hI, ⟨o, es, ep, hL, hd, hks, hm⟩, hc⟩ := frame_led I x ndc
  have ndb : (binds.map Prod.fst).Nodup := (List.nodup_append.mp hnd2).1
  have hfst : (varsOf binds others).map Prod.fst = binds.map Prod.fst ++ others := by
    unfold varsOf
    rw [List.map_append, List.map_map, List.map_map]
    congr 1
    · exact List.map_id'' (fun _ => rfl) _
  have hmem : ∀ y v, (y, some v) ∈ varsOf binds others → (y, v) ∈ binds := fun y v h => by
    rcases List.mem_append.mp h with h | h
    · obtain ⟨p, hp, e⟩ := List.mem_map.mp h; cases e; exact hp
    · obtain ⟨p, _, e⟩ := List.mem_map.mp h; cases e
  refine ⟨fo, hI, ⟨hk, hg, hb, ⟨o, es, ep, hL, hd, hks, fun y v hy hly => ?_⟩, fun y v0 hy => ?_, by rw [hfst]; exact hnd2, fun a b c _ _ _ _ ha hb => ?_⟩, fun y hy => ?_⟩
  · rw [hm y]; exact bindL_get ndb hly (.inl (hmem y v hy))
  · have hy' : y ∈ binds.map Prod.fst ++ others := by rw [← hfst]; exact List.mem_map.mpr ⟨_, hy, rfl⟩
    have := List.all_eq_true.mp hall y hy'
    rcases Bool.or_eq_true_iff.mp this with q | q
    · have q' : env.scope.names.lookup y = some .local := by simpa using q
      exact .inl q'
    · have q' : env.scope.names.lookup y = some .cell := by simpa using q
      obtain ⟨c, hcl⟩ := cell_some hnd (n := n) (show env.scope.names.lookup y = some .cell from q')
      rw [← hcells] at hcl
      obtain ⟨o', h1, h2⟩ := hc y c hcl
      refine .inr ⟨q', c, o', _, hcl, h1, h2, fun v hv => ?_⟩
      subst hv
      exact bindC_get ndb (by rw [show env.kindOf y = some .cell from q']; intro e; cases e) (.inl (hmem y v hy))
  · exact name_of_addr x.apart (mem_of_lookup ha) (mem_of_lookup hb)
  · have := List.all_eq_true.mp hgl y hy
    show env.scope.names.lookup y = some .globalImplicit
    simpa using this

section
variable {prog : Program} {w : World} {A : Around} {E : Value → Shared → Prop} {h G : Heap} {g : Array GenState} {d : Drawn} {t : Nat} {os : OsState}
  {env : Env} {fo l lg : List (Addr × Obj)} {vars vars' : List (Str × Option Value)} {gl : List Str} {mg mb : Str → Option Value} {x : Str} {v : Value} {pos : Pos} {k : Nat}

theorem callFn {name : Str} {params : Arguments} {body : List Stmt} {sc : Scope} {f : Addr} {vals : List Value} {binds : List (Str × Value)} {Q : Value → Shared → Prop} (bs others gl : List Str)
    (ok : Ok A (k + 1)) (gd : Gd G mg mb) (I : Led G l h) (hf : FnIs G f name params body sc)
    (hb : ∀ pm cd doc, bindArgs (docDef name params body sc pm cd doc) ⟨vals, []⟩ = pure binds) (hgen : sc.isGenerator = false) (look : fnLook sc bs others gl = true) (hbs : binds.map Prod.fst = bs)
    (hbody : ∀ env fo h' t', env.scope = sc → Led G (fo ++ l) h' → Frm env fo (varsOf binds others) → Gls env gl → Ok (A.deeper env) k →
      wpAny (model prog w) (A.deeper env) (execs body env) (fun fl s' => Q (match fl with | .ret v => v | _ => .none) s') (fun _ _ => False) ⟨h', g, d, t', os⟩) :
    wpAny (model prog w) A (call (.ref f) vals) Q E ⟨h, g, d, t, os⟩ := by
  obtain ⟨o, pm, cd, doc, ho, hd, hcd⟩ := hf
  subst hbs
  have look' := look
  simp only [fnLook, Bool.and_eq_true, decide_eq_true_eq, beq_iff_eq, Bool.not_eq_true'] at look'
  obtain ⟨⟨⟨⟨⟨hk, hco⟩, hnd⟩, hnd2⟩, hall⟩, hgl⟩ := look'
  refine wpAny_call (codeAny_call_cells (body := body) (binds := binds) ok.room (I.gr _ _ ho) hd (gd.lim.keeps I.gr) (hcd.keeps I.gr) rfl (hb pm cd doc) rfl (fun y hy => ?_) (fun s₁ x => ?_) hco hgen hk)
  · have := List.all_eq_true.mp hall y.1 (List.mem_append_left _ (List.mem_map.mpr ⟨y, hy, rfl⟩))
    rcases Bool.or_eq_true_iff.mp this with q | q
    · have q' : sc.names.lookup y.1 = some .local := by simpa using q
      exact .inl q'
    · have q' : sc.names.lookup y.1 = some .cell := by simpa using q
      obtain ⟨c, hc⟩ := cell_some hnd (n := (⟨h, g, d, t, os⟩ : Shared).heap.objs.size + 1) q'
      exact .inr ⟨q', by rw [show (docDef name params body sc pm cd doc).scope = sc from rfl, hc]; rfl⟩
  · obtain ⟨fo, hI, F, hG⟩ := frm_of (gl := gl) (others := others) (s := ⟨h, g, d, t, os⟩) I x (n := h.objs.size + 1) rfl look rfl rfl
    obtain ⟨h', tk, rfl⟩ := x.toInCall.same
    exact wpAny_mono (hbody _ fo h' tk rfl hI F hG (ok.deeper _)) (fun fl s' hq => hq) (fun _ _ e => e.elim)

theorem ldG (I : Led G lg h) (F : Frm env fo vars) (gls : Gls env gl) (gd : Gd G mg mb) (hx : x ∈ gl) (hv : mg x = some v) {Q : Value → Shared → Prop} (hQ : Q v ⟨h, g, d, t, os⟩)
    (hd : (x == ("__debug__" : Str)) = false := by decide) : wpAny (model prog w) A (eval (.Name x pos) env) Q E ⟨h, g, d, t, os⟩ :=
  Name_function_global F.kind (gls x hx) (loadGlobal_global (mg := mg) (by rw [F.glob]; exact gd.g.keeps I.gr) hv hQ) hd
theorem ldB (I : Led G lg h) (F : Frm env fo vars) (gls : Gls env gl) (gd : Gd G mg mb) (hx : x ∈ gl) (hmiss : mg x = none) (hv : bootBuiltins x = some v) (hn : x ≠ "__name__") {Q : Value → Shared → Prop} (hQ : Q v ⟨h, g, d, t, os⟩)
    (hd : (x == ("__debug__" : Str)) = false := by decide) : wpAny (model prog w) A (eval (.Name x pos) env) Q E ⟨h, g, d, t, os⟩ :=
  Name_function_global F.kind (gls x hx) (loadGlobal_builtin (mg := mg) (mb := mb) (by rw [F.glob]; exact gd.g.keeps I.gr) hmiss (by rw [F.bi]; exact gd.b.keeps I.gr) ((gd.bi x hn).trans hv) hQ) hd
end
end Mine
namespace Mine

def big : Nat := 1048576
/-- a list object -/
def LstO (o : Obj) (vs : List Value) : Prop := (∃ n, o = listOf vs.toArray n) ∧ vs.length ≤ 2 * big
def IntsO (o : Obj) (ns : List Int) : Prop := ∃ vs, LstO o vs ∧ IntsAre vs ns
theorem bigs : 2 * big ≤ sizeLine := by rw [sizeLine_eq]; decide
theorem LstO.freed {o : Obj} {vs : List Value} (x : LstO o vs) : o.isFreed = false := by obtain ⟨⟨n, rfl⟩, _⟩ := x; rfl

section
variable {h G : Heap} {lg lg' : List (Addr × Obj)} {a : Addr} {o : Obj} {vs : List Value} {t : Nat} {g : Array GenState} {d : Drawn} {os : OsState}
theorem Led.isList (I : Led G lg h) (hm : (a, o) ∈ lg) (hL : LstO o vs) : h.IsList a vs.toArray := by
  obtain ⟨⟨n, rfl⟩, _⟩ := hL; exact ⟨_, I.get hm, rfl, n, rfl⟩
theorem Led.plainList (I : Led G lg h) (hm : (a, o) ∈ lg) (hL : LstO o vs) : h.PlainList a vs.toArray := by
  obtain ⟨⟨n, rfl⟩, _⟩ := hL; exact ⟨n, I.get hm⟩
/-- an object of the ledger is another one -/
theorem Led.turn {h' : Heap} (I : Led G lg h) (hm : (a, o) ∈ lg) (hs : Heap.SameBut a h h') {o' : Obj} (ho : h'.get? a = some o') : ∃ lg', Upd lg a o o' lg' ∧ Led G lg' h' := by
  obtain ⟨lg', u⟩ := Upd.of_mem o' hm
  exact ⟨lg', u, I.upd u hs ho⟩
end

section
variable {prog : Program} {w : World} {A : Around} {E : Value → Shared → Prop} {h G : Heap} {g : Array GenState} {d : Drawn} {t : Nat} {os : OsState}
  {env : Env} {lg lg' : List (Addr × Obj)} {a : Addr} {o : Obj} {vs : List Value} {k : Int} {u : Tok} {x v : Value} {kk : Nat}

/-- xs[k] -/
theorem subL {value slice : Expr} {Q : Value → Shared → Prop} (I : Led G lg h) (hm : (a, o) ∈ lg) (hL : LstO o vs) (h0 : 0 ≤ k) (hx : vs[k.toNat]? = some x) (hQ : Q x ⟨h, g, d, t, os⟩)
    (hs : subscripted slice false (.ref a) (.int k u) = operate [.ref a, .int k u] (getItem (.ref a) (.int k u)) := by with_unfolding_all rfl) :
    wpAny (model prog w) A (subscriptTail value slice (.ref a) (.int k u)) Q E ⟨h, g, d, t, os⟩ := by
  have hl : (⟨h, g, d, t, os⟩ : Shared).heap.IsList a vs.toArray := I.isList hm hL
  have hlt : k.toNat < vs.length := (List.getElem?_eq_some_iff.mp hx).1
  have hb := hL.2
  have e : big = 1048576 := rfl
  exact tail_any hl.typeIs slot_list_getitem.lookup (wpAny_getItem_list hl h0 (by omega) (by simpa using hx) hQ) hs

theorem setL {lf : Obj → List (Addr × Obj)} {vs' : List Value} {Q : Unit → Shared → Prop} (I : Led G lg h) (hm : (a, o) ∈ lg) (hL : LstO o vs) (e : lg = lf o) (H : Hole lf a) (h0 : 0 ≤ k) (hk : k.toNat < vs.length) (hv : vs.set k.toNat v = vs')
    (hQ : ∀ h' t' o', LstO o' vs' → Led G (lf o') h' → Q () ⟨h', g, d, t', os⟩) :
    wpAny (model prog w) A (setItem (.ref a) (.int k u) v) Q E ⟨h, g, d, t, os⟩ := by
  obtain ⟨⟨n, rfl⟩, hb⟩ := hL
  subst e; subst hv
  have e : big = 1048576 := rfl
  have ho : (⟨h, g, d, t, os⟩ : Shared).heap.get? a = some (listOf vs.toArray n) := I.get (H.mem _)
  refine ki_setAt ho h0 (by omega) (by simp; omega) ?_
  have hg : (h.update a (Obj.mapSeq (·.setIfInBounds k.toNat v))).get? a = some (listOf (vs.set k.toNat v).toArray n) := by
    have := Heap.get?_update_self (Obj.mapSeq (·.setIfInBounds k.toNat v)) (I.get (H.mem _)) rfl
    rw [this]; simp [Obj.mapSeq]
  exact hQ _ _ _ ⟨⟨n, rfl⟩, by simpa using hb⟩ (I.hole H (Heap.SameBut.update h a _) hg)

theorem lenL {Q : Value → Shared → Prop} (I : Led G lg h) (hm : (a, o) ∈ lg) (hL : LstO o vs) (hQ : ∀ u t', Q (.int vs.length u) ⟨h, g, d, t', os⟩) :
    wpAny (model prog w) A (call (.builtin "len") [.ref a]) Q E ⟨h, g, d, t, os⟩ := by
  have hb := hL.2
  have e : big = 1048576 := rfl
  exact call_len_list (s := ⟨h, g, d, t, os⟩) (I.isList hm hL) (by simp; omega) (by simpa using hQ _ _)

theorem cInt {i : Int} {kd : Nat} {pos : Pos} {Q : Value → Shared → Prop} (hQ : Q (.int i t) ⟨h, g, d, t + 1, os⟩) : wpAny (model prog w) A (eval (.Constant (.int i) kd pos) env) Q E ⟨h, g, d, t, os⟩ := wpAny_Constant_int hQ
theorem addI {a b : Int} {t1 t2 : Tok} {Q : Value → Shared → Prop} (hQ : Q (.int (a + b) t) ⟨h, g, d, t + 1, os⟩) : wpAny (model prog w) A (binaryOp .Add (.int a t1) (.int b t2)) Q E ⟨h, g, d, t, os⟩ := PySem.P.add_int hQ
theorem subI {a b : Int} {t1 t2 : Tok} {Q : Value → Shared → Prop} (hQ : Q (.int (a - b) t) ⟨h, g, d, t + 1, os⟩) : wpAny (model prog w) A (binaryOp .Sub (.int a t1) (.int b t2)) Q E ⟨h, g, d, t, os⟩ := PySem.P.sub_int hQ
theorem modI {a b : Int} {t1 t2 : Tok} {Q : Value → Shared → Prop} (hb : 0 < b) (hQ : Q (.int (a % b) t) ⟨h, g, d, t + 1, os⟩) : wpAny (model prog w) A (binaryOp .Mod (.int a t1) (.int b t2)) Q E ⟨h, g, d, t, os⟩ :=
  PyProof.Rows.mod_int (by omega) (by rw [Int.fmod_eq_emod_of_nonneg _ (Int.le_of_lt hb)]; exact hQ)
theorem divI {a b : Int} {t1 t2 : Tok} {Q : Value → Shared → Prop} (hb : 0 < b) (hp : Builtin.divisionGoesByPylong a b = false) (hQ : Q (.int (a / b) t) ⟨h, g, d, t + 1, os⟩) :
    wpAny (model prog w) A (binaryOp .FloorDiv (.int a t1) (.int b t2)) Q E ⟨h, g, d, t, os⟩ :=
  PyProof.Rows.floordiv_int (by omega) (by rw [Int.fdiv_eq_ediv_of_nonneg _ (Int.le_of_lt hb)]; exact hQ) (.inl hp)
theorem negI {a : Int} {t1 : Tok} {Q : Value → Shared → Prop} (hQ : Q (.int (-a) t) ⟨h, g, d, t + 1, os⟩) : wpAny (model prog w) A (unaryOp .USub (.int a t1)) Q E ⟨h, g, d, t, os⟩ := PySem.P.neg_int hQ
theorem mulI {a b : Int} {t1 t2 : Tok} {Q : Value → Shared → Prop} (hm : IntMulOk a b) (hQ : Q (.int (a * b) t) ⟨h, g, d, t + 1, os⟩) : wpAny (model prog w) A (binaryOp .Mult (.int a t1) (.int b t2)) Q E ⟨h, g, d, t, os⟩ := PySem.P.mul_int hQ hm
theorem absI {a : Int} {t1 : Tok} {Q : Value → Shared → Prop} (hQ : ∀ u t', Q (.int (a.natAbs : Int) u) ⟨h, g, d, t', os⟩) : wpAny (model prog w) A (call (.builtin "abs") [.int a t1]) Q E ⟨h, g, d, t, os⟩ :=
  PyProof.Rows.call_abs_int fun u tk => by
    have e : (if a < 0 then -a else a) = (a.natAbs : Int) := by split <;> omega
    rw [e]; exact hQ u tk
theorem ltI {a b : Int} {t1 t2 : Tok} {Q : Value → Shared → Prop} (hQ : Q (.bool (decide (a < b))) ⟨h, g, d, t, os⟩) : wpAny (model prog w) A (compareOp .Lt (.int a t1) (.int b t2)) Q E ⟨h, g, d, t, os⟩ := PySem.P.lt_int hQ
theorem leI {a b : Int} {t1 t2 : Tok} {Q : Value → Shared → Prop} (hQ : Q (.bool (decide (a ≤ b))) ⟨h, g, d, t, os⟩) : wpAny (model prog w) A (compareOp .LtE (.int a t1) (.int b t2)) Q E ⟨h, g, d, t, os⟩ := PySem.P.le_int hQ
theorem gtI {a b : Int} {t1 t2 : Tok} {Q : Value → Shared → Prop} (hQ : Q (.bool (decide (b < a))) ⟨h, g, d, t, os⟩) : wpAny (model prog w) A (compareOp .Gt (.int a t1) (.int b t2)) Q E ⟨h, g, d, t, os⟩ := PyProof.Rows.gt_int hQ
theorem eqI {a b : Int} {t1 t2 : Tok} {Q : Value → Shared → Prop} (hQ : Q (.bool (a == b)) ⟨h, g, d, t, os⟩) : wpAny (model prog w) A (compareOp .Eq (.int a t1) (.int b t2)) Q E ⟨h, g, d, t, os⟩ := PySem.P.eq_int hQ
theorem neI {a b : Int} {t1 t2 : Tok} {Q : Value → Shared → Prop} (hQ : Q (.bool (a != b)) ⟨h, g, d, t, os⟩) : wpAny (model prog w) A (compareOp .NotEq (.int a t1) (.int b t2)) Q E ⟨h, g, d, t, os⟩ := PySem.P.ne_int hQ
end
end Mine
namespace Mine

namespace Led
variable {G h h' : Heap} {l l' f fr : List (Addr × Obj)} {a : Addr} {o o' : Obj}
theorem pushm (I : Led G (f ++ l) h) (o : Obj) (hf : o.isFreed = false := by rfl) : Led G (f ++ (h.objs.size, o) :: l) (h.push o) := (I.push o hf).perm List.perm_middle
theorem mid (I : Led G ((a, o) :: (l ++ fr)) h) : Led G (l ++ (a, o) :: fr) h := I.perm List.perm_middle
theorem extBut (I : Led G (l ++ (a, o) :: fr) h) (hs : Heap.ExtBut a h h') : Led G (l ++ fr) h' := by
  have I2 : Led G ((a, o) :: (l ++ fr)) h := I.perm List.perm_middle.symm
  have nd := I2.nd
  rw [List.map_cons, List.nodup_cons] at nd
  exact ⟨fun b x e => hs b x (fun hb => by have := I2.new (a, o) List.mem_cons_self; dsimp only at this; rw [← hb, e] at this; cases this) (I2.gr b x e),
    fun p hp => hs p.1 p.2 (fun e => nd.1 (List.mem_map.mpr ⟨p, hp, e⟩)) (I2.pt p (List.mem_cons_of_mem _ hp)), fun p hp => I2.new p (List.mem_cons_of_mem _ hp), nd.2⟩
theorem midset (I : Led G (l ++ (a, o) :: fr) h) (hs : Heap.SameBut a h h') (ho : h'.get? a = some o') : Led G (l ++ (a, o') :: fr) h' :=
  I.upd (Upd.app Upd.head l) hs ho
end Led

theorem rsUp {a b : Int} (n : Nat) (h : b - a = n) : Builtin.Range.rangeSize a b 1 = n := by
  unfold Builtin.Range.rangeSize
  rw [if_pos (by decide)]
  split
  · rw [Int.ediv_one]; omega
  · omega
theorem rsDown {a b : Int} (n : Nat) (h : (a - b).toNat = n) : Builtin.Range.rangeSize a b (-1) = n := by
  unfold Builtin.Range.rangeSize
  rw [if_neg (by decide)]
  split
  · rw [show (- -1 : Int) = 1 from rfl, Int.ediv_one]; omega
  · omega
theorem small_of {a b c : Int} (ha : a.natAbs ≤ 1000000000) (hb : b.natAbs ≤ 1000000000) (hc : c = 1 ∨ c = -1) : Builtin.Range.small a b c = true := by
  have hr : Builtin.Range.rangeSize a b c = ((if c = 1 then b - a else a - b).toNat : Int) := by
    rcases hc with rfl | rfl
    · rw [if_pos rfl]
      by_cases h : a ≤ b
      · rw [rsUp (b - a).toNat (by omega)]
      · unfold Builtin.Range.rangeSize; rw [if_pos (by decide), if_neg (by omega)]; omega
    · rw [if_neg (by decide), rsDown (a - b).toNat rfl]
  unfold Builtin.Range.small
  rw [hr]
  unfold Builtin.Range.rangeFitsLong
  rcases hc with rfl | rfl <;> simp <;> omega

/-- an iterator of n items -/
structure Cur (prog : Program) (w : World) (G : Heap) (J : Addr) (fx : List (Addr × Obj)) (n : Nat) (P : Nat → Value → Prop) (C : Nat → Obj → Prop) : Prop where
  item : ∀ {A : Around} {k i : Nat} {l fr : List (Addr × Obj)} {h : Heap} {g : Array GenState} {d : Drawn} {t : Nat} {os : OsState} {o : Obj} {Q : Option Value → Shared → Prop} {E : Value → Shared → Prop},
    Ok A k → i < n → C i o → (∀ p ∈ fx, p ∈ l ++ fr) → Led G (l ++ (J, o) :: fr) h → (∀ v h' t' o', P i v → C (i + 1) o' → Led G (l ++ (J, o') :: fr) h' → Q (some v) ⟨h', g, d, t', os⟩) →
    wpAny (model prog w) A (pyNext (.ref J)) Q E ⟨h, g, d, t, os⟩
  done : ∀ {A : Around} {k : Nat} {l fr : List (Addr × Obj)} {h : Heap} {g : Array GenState} {d : Drawn} {t : Nat} {os : OsState} {o : Obj} {Q : Option Value → Shared → Prop} {E : Value → Shared → Prop},
    Ok A k → C n o → (∀ p ∈ fx, p ∈ l ++ fr) → Led G (l ++ (J, o) :: fr) h → (∀ h' t', Led G (l ++ fr) h' → Q none ⟨h', g, d, t', os⟩) →
    wpAny (model prog w) A (pyNext (.ref J)) Q E ⟨h, g, d, t, os⟩
  cls : ∀ i o, C i o → ∃ c, o.cls = .type c ∧ ["enumerate", "zip", "dict_itemiterator", "dict_reverseitemiterator", "odict_iterator", "itertools.zip_longest", "itertools.pairwise"].contains c = false

section
variable {prog : Program} {w : World} {G : Heap}

def RIter (a c : Int) (n i : Nat) (o : Obj) : Prop := o = { cls := .type "range_iterator", dict := none, data := .fields #[rawInt (a + i * c), rawInt ((n : Int) - i), rawInt c], slots := #[] }
theorem Cur.range (J : Addr) (a c : Int) (n : Nat) : Cur prog w G J [] n (fun i v => ∃ t, v = .int (a + i * c) t) (RIter a c n) where
  item := fun {A k i l fr h g d t os o Q E} ok hi hC _ I hQ => by
    subst hC
    refine wpAny_pyNext_range_item (s := ⟨h, g, d, t, os⟩) (I.get (List.mem_append_right _ List.mem_cons_self)) (by omega) fun h' hit hs => ?_
    refine hQ _ h' _ _ ⟨_, rfl⟩ ?_ (I.midset hs hit)
    unfold RIter
    rw [show a + (i : Int) * c + c = a + ((i + 1 : Nat) : Int) * c by rw [Int.natCast_succ, Int.add_mul]; omega, show (n : Int) - (i : Int) - 1 = (n : Int) - ((i + 1 : Nat) : Int) by omega]
  done := fun {A k l fr h g d t os o Q E} ok hC _ I hQ => by
    subst hC
    exact wpAny_pyNext_range_end (s := ⟨h, g, d, t, os⟩) ok.hd (I.get (List.mem_append_right _ List.mem_cons_self)) (by omega) fun h' hs => hQ h' _ (I.extBut hs)
  cls := fun i o hC => by subst hC; exact ⟨_, rfl, by decide⟩

def LIter (al : Addr) (i : Nat) (o : Obj) : Prop := o.cls = .type "list_iterator" ∧ o.data = .fields #[.ref al, .int i 0]
theorem Cur.list (J al : Addr) (ol : Obj) (vs : List Value) (hL : LstO ol vs) : Cur prog w G J [(al, ol)] vs.length (fun i v => vs[i]? = some v) (LIter al) where
  item := fun {A k i l fr h g d t os o Q E} ok hi hC hfx I hQ => by
    have hJ : (J, o) ∈ l ++ (J, o) :: fr := List.mem_append_right _ List.mem_cons_self
    have hal : (al, ol) ∈ l ++ (J, o) :: fr := (List.perm_middle (a := (J, o)) (l₁ := l) (l₂ := fr)).mem_iff.mpr (List.mem_cons_of_mem _ (hfx _ List.mem_cons_self))
    refine wpAny_pyNext_list_item (s := ⟨h, g, d, t, os⟩) ⟨o, I.get hJ, hC.1, hC.2⟩ (I.isList hal hL) (x := vs[i]) (by simp [hi]) fun h' hit hs => ?_
    obtain ⟨o', ho', hc', hd'⟩ := hit
    exact hQ _ h' _ o' (by simp [hi]) ⟨hc', hd'⟩ (I.midset hs ho')
  done := fun {A k l fr h g d t os o Q E} ok hC hfx I hQ => by
    have hJ : (J, o) ∈ l ++ (J, o) :: fr := List.mem_append_right _ List.mem_cons_self
    have hal : (al, ol) ∈ l ++ (J, o) :: fr := (List.perm_middle (a := (J, o)) (l₁ := l) (l₂ := fr)).mem_iff.mpr (List.mem_cons_of_mem _ (hfx _ List.mem_cons_self))
    exact wpAny_pyNext_list_end (s := ⟨h, g, d, t, os⟩) ok.hd ⟨o, I.get hJ, hC.1, hC.2⟩ (I.isList hal hL) (by simp) fun h' hs => hQ h' _ (I.extBut hs)
  cls := fun i o hC => ⟨_, hC.1, by decide⟩
end

section
variable {prog : Program} {w : World} {A : Around} {E : Value → Shared → Prop} {h G : Heap} {g : Array GenState} {d : Drawn} {t : Nat} {os : OsState}
  {env : Env} {lg l0 fr0 fx f l : List (Addr × Obj)} {J r : Addr} {o ol : Obj} {vs : List Value} {k n : Nat} {P : Nat → Value → Prop} {C : Nat → Obj → Prop} {R : Result → Shared → Prop}

/-- a for loop over an iterator -/
theorem forCur {target : Expr} {body : List Stmt} (cur : Cur prog w G J fx n P C) (ok : Ok A k) (Inv : Nat → List (Addr × Obj) → Prop) (e : lg = l0 ++ fr0) (I : Led G ((J, o) :: lg) h) (hC : C 0 o) (h0 : Inv 0 l0)
    (hfx : ∀ i l, Inv i l → ∀ p ∈ fx, p ∈ l ++ fr0)
    (step : ∀ i v l fr h d t, (∀ l h, Led G (l ++ fr) h → Led G (l ++ fr0) h) → i < n → P i v → Inv i l → Led G (l ++ fr) h →
      wpAny (model prog w) A (assign target env v) (fun _ s₂ => wpAny (model prog w) A (execs body env) (fun fl s₃ => match fl with
        | .next | .cont => ∃ h' d' t' l', s₃ = ⟨h', g, d', t', os⟩ ∧ Led G (l' ++ fr) h' ∧ Inv (i + 1) l'
        | .brk => R (.ok .next) s₃
        | .ret v => R (.ok (.ret v)) s₃) (notedBy (model prog w) A env fun e s' => R (.error e) s') s₂) (notedBy (model prog w) A env fun e s' => R (.error e) s') ⟨h, g, d, t, os⟩)
    (hdone : ∀ l h d t, Inv n l → Led G (l ++ fr0) h → R (.ok .next) ⟨h, g, d, t, os⟩) : codeAny (model prog w) A (.forLoop target (.ref J) body [] env) R ⟨h, g, d, t, os⟩ := by
  subst e
  refine codeAny_forLoop_any (fun m s => ∃ i l o h d t, s = ⟨h, g, d, t, os⟩ ∧ Led G (l ++ (J, o) :: fr0) h ∧ C i o ∧ Inv i l ∧ i ≤ n ∧ m = n + 1 - i) ?_ (n + 1)
    ⟨0, l0, o, h, d, t, rfl, I.mid, hC, h0, Nat.zero_le _, rfl⟩
  rintro m s ⟨i, l, o, h, d, t, rfl, I, hC, hI, hi, rfl⟩
  have hf : ∀ p ∈ fx, p ∈ l ++ fr0 := hfx i l hI
  by_cases hlt : i < n
  · refine cur.item ok hlt hC hf I fun v h' t' o' hP hC' I' => ?_
    dsimp only
    obtain ⟨c, hcls, hno⟩ := cur.cls _ _ hC'
    have hJ : (⟨h', g, d, t', os⟩ : Shared).heap.get? J = some o' := I'.get (List.mem_append_right _ List.mem_cons_self)
    have hgo : ∀ (Q : Unit → Shared → Prop) (E' : Value → Shared → Prop), Q () ⟨h', g, d, t', os⟩ → wpAny (model prog w) A (letOwnedTupleGo target (.ref J) v) Q E' ⟨h', g, d, t', os⟩ := fun Q E' hq => by
      unfold letOwnedTupleGo
      split
      · split
        · rename_i r' a' heq
          cases heq
          refine wpAny_bind (wpAny_load hJ ?_)
          rw [hcls]
          split
          · rename_i n' vs' heq' hdat
            cases heq'
            rw [hno]
            simp only [Bool.false_and, Bool.false_eq_true, if_false]
            exact wpAny_pure hq
          · exact wpAny_pure hq
        · exact wpAny_pure hq
      · split
        · rename_i r' a' heq
          cases heq
          refine wpAny_bind (wpAny_load hJ ?_)
          rw [hcls]
          split
          · rename_i n' vs' heq' hdat
            cases heq'
            rw [hno]
            simp only [Bool.false_and, Bool.false_eq_true, if_false]
            exact wpAny_pure hq
          · exact wpAny_pure hq
        · exact wpAny_pure hq
      · exact wpAny_pure hq
    refine hgo _ _ (wpAny_mono (step i v l ((J, o') :: fr0) h' d t' (fun l h x => (x.perm List.perm_middle.symm).drop) hlt hP hI I') (fun _ s₂ h₂ => wpAny_mono h₂ (fun fl s₃ h₃ => ?_) fun _ _ e => e) fun _ _ e => e)
    cases fl with
    | next => obtain ⟨h1, d1, t1, l1, e1, I1, hI1⟩ := h₃; exact ⟨n + 1 - (i + 1), by omega, i + 1, l1, o', h1, d1, t1, e1, I1, hC', hI1, hlt, rfl⟩
    | cont => obtain ⟨h1, d1, t1, l1, e1, I1, hI1⟩ := h₃; exact ⟨n + 1 - (i + 1), by omega, i + 1, l1, o', h1, d1, t1, e1, I1, hC', hI1, hlt, rfl⟩
    | brk => exact h₃
    | ret v => exact h₃
  · have e : i = n := by omega
    subst e
    exact cur.done ok hC hf I fun h' t' I' => wpAny_execs_nil (hdone l h' d t' hI I')

/-- a range -/
def RngO (o : Obj) (a b c : Int) : Prop := ∃ t u v, o = { cls := .type "range", dict := none, data := .fields #[.int a t, .int b u, .int c v], slots := #[] }

theorem iterRange {a b c : Int} {n : Nat} {Q : Value → Shared → Prop} (I : Led G lg h) (hm : (r, o) ∈ lg) (hR : RngO o a b c) (hs : Builtin.Range.small a b c = true) (hn : Builtin.Range.rangeSize a b c = n)
    (hQ : ∀ J o h', RIter a c n 0 o → Led G ((J, o) :: lg) h' → Q (.ref J) ⟨h', g, d, t, os⟩) : wpAny (model prog w) A (pyIter (.ref r)) Q E ⟨h, g, d, t, os⟩ := by
  obtain ⟨t1, t2, t3, rfl⟩ := hR
  refine wpAny_pyIter_range (s := ⟨h, g, d, t, os⟩) (I.get hm) hs (hQ _ _ _ ?_ (I.push _))
  unfold RIter; rw [hn]; simp

theorem iterList {al : Addr} {Q : Value → Shared → Prop} (I : Led G lg h) (hm : (al, ol) ∈ lg) (hL : LstO ol vs)
    (hQ : ∀ J o h', LIter al 0 o → Led G ((J, o) :: lg) h' → Q (.ref J) ⟨h', g, d, t, os⟩) : wpAny (model prog w) A (pyIter (.ref al)) Q E ⟨h, g, d, t, os⟩ :=
  wpAny_pyIter_list (s := ⟨h, g, d, t, os⟩) (I.isList hm hL) (hQ _ _ _ ⟨rfl, rfl⟩ (I.push _))

theorem loopRange {target : Expr} {body : List Stmt} {a b c : Int} (n : Nat) (ok : Ok A k) (I : Led G lg h) (hm : (r, o) ∈ lg) (hR : RngO o a b c) (hs : Builtin.Range.small a b c = true) (hn : Builtin.Range.rangeSize a b c = n)
    (Inv : Nat → List (Addr × Obj) → Prop) (l0 fr0 : List (Addr × Obj)) (e : lg = l0 ++ fr0) (h0 : Inv 0 l0)
    (step : ∀ i v l fr h d t, (∀ l h, Led G (l ++ fr) h → Led G (l ++ fr0) h) → i < n → (∃ t, v = .int (a + i * c) t) → Inv i l → Led G (l ++ fr) h →
      wpAny (model prog w) A (assign target env v) (fun _ s₂ => wpAny (model prog w) A (execs body env) (fun fl s₃ => match fl with
        | .next | .cont => ∃ h' d' t' l', s₃ = ⟨h', g, d', t', os⟩ ∧ Led G (l' ++ fr) h' ∧ Inv (i + 1) l'
        | .brk => R (.ok .next) s₃
        | .ret v => R (.ok (.ret v)) s₃) (notedBy (model prog w) A env fun e s' => R (.error e) s') s₂) (notedBy (model prog w) A env fun e s' => R (.error e) s') ⟨h, g, d, t, os⟩)
    (hdone : ∀ l h d t, Inv n l → Led G (l ++ fr0) h → R (.ok .next) ⟨h, g, d, t, os⟩) :
    wpAny (model prog w) A (pyIter (.ref r)) (fun it s₂ => codeAny (model prog w) A (.forLoop target it body [] env) R s₂) E ⟨h, g, d, t, os⟩ :=
  iterRange I hm hR hs hn fun J o h' hC I' => forCur (Cur.range J a c n) ok Inv e I' hC h0 (fun _ _ _ _ hp => by cases hp) step hdone

theorem loopList {target : Expr} {body : List Stmt} {al : Addr} (ok : Ok A k) (I : Led G lg h) (hm : (al, ol) ∈ lg) (hL : LstO ol vs)
    (Inv : Nat → List (Addr × Obj) → Prop) (l0 fr0 : List (Addr × Obj)) (e : lg = l0 ++ fr0) (h0 : Inv 0 l0) (hfx : ∀ i l, Inv i l → (al, ol) ∈ l ++ fr0)
    (step : ∀ i v l fr h d t, (∀ l h, Led G (l ++ fr) h → Led G (l ++ fr0) h) → i < vs.length → vs[i]? = some v → Inv i l → Led G (l ++ fr) h →
      wpAny (model prog w) A (assign target env v) (fun _ s₂ => wpAny (model prog w) A (execs body env) (fun fl s₃ => match fl with
        | .next | .cont => ∃ h' d' t' l', s₃ = ⟨h', g, d', t', os⟩ ∧ Led G (l' ++ fr) h' ∧ Inv (i + 1) l'
        | .brk => R (.ok .next) s₃
        | .ret v => R (.ok (.ret v)) s₃) (notedBy (model prog w) A env fun e s' => R (.error e) s') s₂) (notedBy (model prog w) A env fun e s' => R (.error e) s') ⟨h, g, d, t, os⟩)
    (hdone : ∀ l h d t, Inv vs.length l → Led G (l ++ fr0) h → R (.ok .next) ⟨h, g, d, t, os⟩) :
    wpAny (model prog w) A (pyIter (.ref al)) (fun it s₂ => codeAny (model prog w) A (.forLoop target it body [] env) R s₂) E ⟨h, g, d, t, os⟩ :=
  iterList I hm hL fun J o h' hC I' => forCur (Cur.list J al ol vs hL) ok Inv e I' hC h0 (fun i l hI p hp => by rw [List.mem_singleton.mp hp]; exact hfx i l hI) step hdone

theorem asName {env : Env} {fo : List (Addr × Obj)} {vars vars' : List (Str × Option Value)} {x : Str} {pos : Pos} {v : Value} {Q : Unit → Shared → Prop} (I : Led G (fo ++ l) h) (F : Frm env fo vars) (hs : SetV vars x v vars')
    (hQ : ∀ h' t' fo', Led G (fo' ++ l) h' → Frm env fo' vars' → Q () ⟨h', g, d, t', os⟩) : wpAny (model prog w) A (assign (.Name x pos) env v) Q E ⟨h, g, d, t, os⟩ :=
  wpAny_assign_Name (st I F hs hQ)
end
end Mine
namespace Mine

def Grd (G : Heap) (s : Shared) : Prop := ∀ b o, G.get? b = some o → s.heap.get? b = some o
theorem Grd.of {G h : Heap} {lg : List (Addr × Obj)} {g : Array GenState} {d : Drawn} {t : Nat} {os : OsState} (I : Led G lg h) : Grd G ⟨h, g, d, t, os⟩ := I.gr

def TupO (o : Obj) (vs : List Value) : Prop := ∃ n, o = { cls := .type "tuple", dict := none, data := .seq vs.toArray n, slots := #[] }

theorem _root_.PyProof.Rows.IntsAre.setM {vs : List Value} {ns : List Int} (h : IntsAre vs ns) (n : Int) (t : Tok) : ∀ i, IntsAre (vs.set i (.int n t)) (ns.set i n) := by
  induction h with
  | nil => intro i; exact .nil
  | cons m u _ ih => intro i; cases i with
    | zero => exact .cons n t (by assumption)
    | succ i => exact .cons m u (ih i)
theorem intAt {vs : List Value} {ns : List Int} (h : IntsAre vs ns) {i : Nat} (hi : i < ns.length) : ∃ t, vs[i]? = some (.int ns[i] t) := h.get i _ (List.getElem?_eq_getElem hi)

theorem intsAre_range (a c : Int) : ∀ (n : Nat) (acc : Array Value), ItemsOf (fun i v => ∃ t, v = .int (a + (i : Int) * c) t) acc n → IntsAre acc.toList ((List.range n).map fun i : Nat => a + (i : Int) * c) := by
  intro n acc ⟨hs, hp⟩
  have key : ∀ (l : List Value) (f : Nat → Int) (j : Nat), (∀ i v, l[i]? = some v → ∃ t, v = Value.int (f (j + i)) t) → IntsAre l ((List.range l.length).map fun i => f (j + i)) := by
    intro l
    induction l with
    | nil => intro f j _; exact .nil
    | cons x r ih =>
      intro f j hx
      obtain ⟨t, rfl⟩ := hx 0 x rfl
      have := ih f (j + 1) (fun i v h => by have := hx (i + 1) v (by simpa using h); rwa [show j + (i + 1) = j + 1 + i by omega] at this)
      rw [List.length_cons, List.range_succ_eq_map, List.map_cons, List.map_map]
      refine .cons _ t ?_
      have e : (List.range r.length).map ((fun i => f (j + i)) ∘ Nat.succ) = (List.range r.length).map fun i => f (j + 1 + i) := List.map_congr_left fun i _ => by simp only [Function.comp]; congr 1; omega
      rw [e]; exact this
  have := key acc.toList (fun i : Nat => a + (i : Int) * c) 0 (fun i v h => by
    rw [Nat.zero_add]; exact hp i v (by simpa using h))
  have hl : acc.toList.length = n := by simpa using hs
  rw [hl] at this
  simpa using this

section
variable {prog : Program} {w : World} {A : Around} {E : Value → Shared → Prop} {h G : Heap} {g : Array GenState} {d : Drawn} {t : Nat} {os : OsState}
  {env : Env} {lg l0 fr0 fx f l fo : List (Addr × Obj)} {J r a : Addr} {o ol : Obj} {vs : List Value} {k n : Nat} {pos : Pos} {mg mb : Str → Option Value}

theorem rangeC1 {n : Int} {u : Tok} {Q : Value → Shared → Prop} (I : Led G (f ++ l) h) (hQ : ∀ r o h' t', RngO o 0 n 1 → Led G (f ++ (r, o) :: l) h' → Q (.ref r) ⟨h', g, d, t', os⟩) :
    wpAny (model prog w) A (call (.type "range") [.int n u]) Q E ⟨h, g, d, t, os⟩ :=
  call_range_1 (s := ⟨h, g, d, t, os⟩) (hQ _ _ _ _ ⟨_, _, _, rfl⟩ (I.pushm _))
theorem rangeC2 {a b : Int} {u v : Tok} {Q : Value → Shared → Prop} (I : Led G (f ++ l) h) (hQ : ∀ r o h' t', RngO o a b 1 → Led G (f ++ (r, o) :: l) h' → Q (.ref r) ⟨h', g, d, t', os⟩) :
    wpAny (model prog w) A (call (.type "range") [.int a u, .int b v]) Q E ⟨h, g, d, t, os⟩ :=
  call_range_2 (s := ⟨h, g, d, t, os⟩) (hQ _ _ _ _ ⟨_, _, _, rfl⟩ (I.pushm _))
theorem rangeC3 {a b c : Int} {u v x : Tok} {Q : Value → Shared → Prop} (I : Led G (f ++ l) h) (hc : c ≠ 0) (hp : Builtin.divisionGoesByPylong (b - a) c = false) (hQ : ∀ r o h' t', RngO o a b c → Led G (f ++ (r, o) :: l) h' → Q (.ref r) ⟨h', g, d, t', os⟩) :
    wpAny (model prog w) A (call (.type "range") [.int a u, .int b v, .int c x]) Q E ⟨h, g, d, t, os⟩ :=
  call_range_3 (s := ⟨h, g, d, t, os⟩) hc (hQ _ _ _ _ ⟨_, _, _, rfl⟩ (I.pushm _)) (.inl hp)

theorem Led.grow {h' : Heap} {o : Obj} (I : Led G (f ++ l) h) (hk : ∀ b o, h.get? b = some o → h'.get? b = some o) (ho : h'.get? h.objs.size = some o) : Led G (f ++ (h.objs.size, o) :: l) h' :=
  (I.cons hk (Nat.le_refl _) ho).perm List.perm_middle

theorem listRange {a b c : Int} {n : Nat} {Q : Value → Shared → Prop} (ok : Ok A k) (I : Led G (f ++ l) h) (hm : (r, o) ∈ f ++ l) (hR : RngO o a b c) (hs : Builtin.Range.small a b c = true) (hn : Builtin.Range.rangeSize a b c = n) (hb : n ≤ 1048576)
    (hQ : ∀ D o h' t', IntsO o ((List.range n).map fun i : Nat => a + (i : Int) * c) → Led G (f ++ (D, o) :: l) h' → Q (.ref D) ⟨h', g, d, t', os⟩) :
    wpAny (model prog w) A (call (.type "list") [.ref r]) Q E ⟨h, g, d, t, os⟩ := by
  obtain ⟨t1, t2, t3, rfl⟩ := hR
  refine call_list_range (s := ⟨h, g, d, t, os⟩) ok.hd (I.get hm) hs hn (by omega) fun h' tk acc c' hk hD hacc => ?_
  have hi := intsAre_range a c n acc hacc
  refine hQ _ _ h' tk ⟨acc.toList, ⟨⟨c', rfl⟩, ?_⟩, hi⟩ (I.grow hk ?_)
  · have := hacc.1; have e : big = 1048576 := rfl; simp; omega
  · simpa using hD

theorem listList {Q : Value → Shared → Prop} (I : Led G (f ++ l) h) (hm : (a, o) ∈ f ++ l) (hL : LstO o vs)
    (hQ : ∀ D o' h', LstO o' vs → Led G (f ++ (D, o') :: l) h' → Q (.ref D) ⟨h', g, d, t, os⟩) :
    wpAny (model prog w) A (call (.type "list") [.ref a]) Q E ⟨h, g, d, t, os⟩ := by
  have hb := hL.2
  have hz := bigs
  obtain ⟨⟨n, rfl⟩, _⟩ := hL
  exact call_list_seq (s := ⟨h, g, d, t, os⟩) a (.inl rfl) (I.get hm) rfl rfl (fun h' c' hk hD => hQ _ _ h' ⟨⟨c', rfl⟩, hb⟩ (I.grow hk hD)) (by simp; omega)

theorem tupleN {Q : Value → Shared → Prop} (I : Led G (f ++ l) h) (hb : vs.length ≤ 1048576) (hQ : ∀ D o h', TupO o vs → Led G (f ++ (D, o) :: l) h' → Q (.ref D) ⟨h', g, d, t, os⟩) :
    wpAny (model prog w) A (newTuple vs) Q E ⟨h, g, d, t, os⟩ :=
  wpAny_newObj_type (s := ⟨h, g, d, t, os⟩) (hQ _ _ _ ⟨_, rfl⟩ (I.pushm _)) (by show vs.toArray.size ≤ sizeLine; rw [List.size_toArray, sizeLine_eq]; omega)
theorem listN {Q : Value → Shared → Prop} (I : Led G (f ++ l) h) (hb : vs.length ≤ 1048576) (hQ : ∀ D o h', LstO o vs → Led G (f ++ (D, o) :: l) h' → Q (.ref D) ⟨h', g, d, t, os⟩) :
    wpAny (model prog w) A (newList vs) Q E ⟨h, g, d, t, os⟩ :=
  wpAny_newObj_type (s := ⟨h, g, d, t, os⟩) (hQ _ _ _ ⟨⟨_, rfl⟩, by have e : big = 1048576 := rfl; omega⟩ (I.pushm _)) (by show vs.toArray.size ≤ sizeLine; rw [List.size_toArray, sizeLine_eq]; omega)

theorem Led.isTup (I : Led G lg h) (hm : (a, o) ∈ lg) (hT : TupO o vs) : IsTup h a vs.toArray := by
  obtain ⟨n, rfl⟩ := hT; exact ⟨_, I.get hm, rfl, n, rfl⟩

theorem asTuple {elts : List Expr} {kd : Nat} {Q : Unit → Shared → Prop} (ok : Ok A k) (I : Led G lg h) (hm : (a, o) ∈ lg) (hT : TupO o vs) (hn : (assignEach elts env).length = vs.length) (hstar : (assignEach elts env).findIdx? (·.1) = none)
    (hQ : ∀ h', Led G lg h' → wpAny (model prog w) A (assignInOrder ((assignEach elts env).map (·.2)) vs) Q E ⟨h', g, d, t, os⟩) :
    wpAny (model prog w) A (assign (.Tuple elts kd pos) env (.ref a)) Q E ⟨h, g, d, t, os⟩ := by
  refine assign_Tuple_tuple (s := ⟨h, g, d, t, os⟩) ok.hd (I.isTup hm hT) (by simpa using hn) hstar fun h' he => ?_
  simpa using hQ h' (I.keeps fun b x e => he b x (Nat.ne_of_lt (Heap.lt_size e)) e)

def nameLoc (env : Env) : Expr → Bool
  | .Name id _ => env.kindOf id == some .local
  | _ => false
theorem swNone {t1 t2 v1 v2 : Expr} {k1 k2 : Nat} {p1 p2 : Pos} (hn : (nameLoc env t1 && nameLoc env t2) = false) :
    swappedStores [.Tuple [t1, t2] k1 p1] (.Tuple [v1, v2] k2 p2) env = pure none := by
  unfold swappedStores
  have key : ([t1, t2].filterMap fun
    | .Name id pos => if env.kindOf id == some .local && pos.line == (([t1, t2].head?.map (·.pos.line)).getD 0) then some id else none
    | _ => none).length ≠ 2 := by
    have one : ∀ (t : Expr) (n : Nat), nameLoc env t = false → (match t with
      | .Name id pos => if env.kindOf id == some .local && pos.line == n then some id else none
      | _ => none) = none := by
      intro t n h
      cases t <;> simp_all [nameLoc]
    have len1 : ∀ (f : Expr → Option Str), (f t1 = none ∨ f t2 = none) → ([t1, t2].filterMap f).length ≠ 2 := by
      intro f hf
      rcases hf with h | h
      · rw [List.filterMap_cons, h]
        have := List.length_filterMap_le f [t2]
        simp only [List.length_cons, List.length_nil] at this
        dsimp only
        omega
      · cases h1 : f t1 with
        | none => rw [List.filterMap_cons, h1]; have := List.length_filterMap_le f [t2]; simp only [List.length_cons, List.length_nil] at this; dsimp only; omega
        | some x => rw [List.filterMap_cons, h1, List.filterMap_cons, h]; simp
    refine len1 _ ?_
    rcases Bool.and_eq_false_iff.mp hn with h | h
    · exact .inl (one t1 _ h)
    · exact .inr (one t2 _ h)
  simp only
  split
  · rfl
  · split
    · rfl
    · exact if_pos (Bool.or_eq_true_iff.mpr (.inl (bne_iff_ne.mpr key)))
theorem inOrder_nil {Q : Unit → Shared → Prop} {s : Shared} (h : Q () s) : wpAny (model prog w) A (assignInOrder [] []) Q E s := wpAny_pure h
theorem inOrder_cons {tr : Value → Sem Unit} {ts : List (Value → Sem Unit)} {x : Value} {xs : List Value} {Q : Unit → Shared → Prop} {s : Shared} (h : wpAny (model prog w) A (tr x) (fun _ s' => wpAny (model prog w) A (assignInOrder ts xs) Q E s') E s) :
    wpAny (model prog w) A (assignInOrder (tr :: ts) (x :: xs)) Q E s :=
  wpAny_bind (wpAny_holding (wpAny_mono h (fun _ _ x => x) fun _ _ x => x))
theorem asSub {o i : Expr} {v : Value} {Q : Unit → Shared → Prop} {s : Shared} (h : wpAny (model prog w) A (eval o env) (fun ov s₂ => wpAny (model prog w) A (eval i env) (fun iv s₃ => wpAny (model prog w) A (setItem ov iv v) Q E s₃) E s₂) E s) :
    wpAny (model prog w) A (assign (.Subscript o i pos) env v) Q E s := by
  rw [assign_Subscript]
  refine wpAny_bind (wpAny_holding (wpAny_mono h (fun ov s₂ h₂ => wpAny_bind (wpAny_holding (wpAny_mono h₂ (fun iv s₃ h₃ => wpAny_bind (wpAny_standAt (wpAny_bind (wpAny_holding (wpAny_mono h₃ (fun _ s₄ h₄ => wpAny_release h₄) fun _ _ x => x)))) ) fun _ _ x => x))) fun _ _ x => x))

theorem callW {e : Expr} {rest : List Expr} {fa : Addr} {name : Str} {params : Arguments} {body : List Stmt} {sc : Scope} {Q : Value → Shared → Prop} {s : Shared} (hf : FnIs G fa name params body sc)
    (h : wpAny (model prog w) A (spliced (backTo pos (starEach (e :: rest) env))) (fun vs s₁ => Grd G s₁ ∧ wpAny (model prog w) A (call (.ref fa) vs) Q E s₁) E s)
    (he : starEach (e :: rest) env = (false, eval e env) :: starEach rest env := by rfl) :
    wpAny (model prog w) A (callWith pos (.ref fa) [] (backTo pos (starEach (e :: rest) env)) []) Q E s := by
  obtain ⟨o, pm, cd, doc, ho, hd, hcd⟩ := hf
  exact callWith_def hd (wpAny_mono h (fun vs s₁ h₁ => ⟨h₁.1 _ _ ho, h₁.2⟩) fun _ _ x => x) he
end
end Mine
namespace Mine

/-! a table laid anew always has room -/
def lcg (m i : Nat) : Nat := (i * 5 + 1) % m
def lcgs (m : Nat) : Nat → Nat → Nat
  | 0, i => i
  | k + 1, i => lcgs m k (lcg m i)
/-- one cycle through every slot -/
def cyc (m : Nat) : Bool := lcgs m m 0 == 0 && (List.range m).all fun j => (List.range m).any fun k => lcgs m k 0 == j

theorem lcgs_add (m : Nat) : ∀ (a b i : Nat), lcgs m (a + b) i = lcgs m b (lcgs m a i)
  | 0, b, i => by rw [Nat.zero_add]; rfl
  | a + 1, b, i => by rw [Nat.succ_add]; exact lcgs_add m a b (lcg m i)
theorem cyc_reach {m : Nat} (h : cyc m = true) {i j : Nat} (hi : i < m) (hj : j < m) : ∃ k, k < m ∧ lcgs m k i = j := by
  obtain ⟨h0, h1⟩ := Bool.and_eq_true_iff.mp h
  have h0 : lcgs m m 0 = 0 := by simpa using h0
  have get : ∀ j, j < m → ∃ k, k < m ∧ lcgs m k 0 = j := fun j hj => by
    have := List.all_eq_true.mp h1 j (List.mem_range.mpr hj)
    obtain ⟨k, hk, e⟩ := List.any_eq_true.mp this
    exact ⟨k, List.mem_range.mp hk, by simpa using e⟩
  obtain ⟨a, ha, ea⟩ := get i hi
  obtain ⟨b, hb, eb⟩ := get j hj
  by_cases hab : a ≤ b
  · exact ⟨b - a, by omega, by rw [← ea, ← lcgs_add, show a + (b - a) = b by omega, eb]⟩
  · exact ⟨b + m - a, by omega, by rw [← ea, ← lcgs_add, show a + (b + m - a) = m + b by omega, lcgs_add, h0, eb]⟩

open SetTable
theorem free_some {mask : Nat} {owner : Array (Option Nat)} : ∀ (fuel i p j : Nat), layClean.free mask owner fuel i p = some j → j < owner.size ∧ owner[j]? = some none
  | 0, _, _, _, h => by simp [layClean.free] at h
  | fuel + 1, i, p, j, h => by
    unfold layClean.free at h
    split at h
    · rename_i k hk
      cases h
      have hp := List.find?_some hk
      have hlt : i + k < owner.size := by
        rcases Nat.lt_or_ge (i + k) owner.size with hl | hl
        · exact hl
        · simp [Array.getD_eq_getD_getElem?, Array.getElem?_eq_none hl] at hp
      refine ⟨hlt, ?_⟩
      have := Array.getElem?_eq_getElem hlt
      rw [Array.getD_eq_getD_getElem?, this] at hp
      rw [this]
      cases ho : owner[i + k] with
      | none => rfl
      | some x => rw [ho] at hp; simp at hp
    · exact free_some fuel _ _ j h

/-- the slots that are looked at -/
def spots (mask : Nat) : Nat → Nat → Nat → List Nat
  | 0, _, _ => []
  | f + 1, i, p => i :: spots mask f (leap mask i p).1 (leap mask i p).2
theorem free_none {mask : Nat} {owner : Array (Option Nat)} : ∀ (fuel i p : Nat), layClean.free mask owner fuel i p = none → ∀ j ∈ spots mask fuel i p, owner.getD j (some 0) ≠ none
  | 0, _, _, _, j, hj => by simp [spots] at hj
  | fuel + 1, i, p, h, j, hj => by
    unfold layClean.free at h
    split at h
    · cases h
    · rename_i hf
      unfold spots at hj
      rcases List.mem_cons.mp hj with rfl | hj
      · have := List.find?_eq_none.mp hf 0 (List.mem_range.mpr (by unfold runEnd; split <;> omega))
        intro e
        simp only [Nat.add_zero] at this
        rw [e] at this; exact this rfl
      · exact free_none fuel _ _ h j hj

theorem spots_zero {mask : Nat} : ∀ (f i k : Nat), k < f → lcgs (mask + 1) k i ∈ spots mask f i 0
  | f + 1, i, 0, _ => List.mem_cons_self
  | f + 1, i, k + 1, h => by
    unfold spots
    have e : leap mask i 0 = (lcg (mask + 1) i, 0) := by simp [leap, lcg]
    rw [e]
    exact List.mem_cons_of_mem _ (spots_zero f _ k (by omega))
theorem spots_small {mask : Nat} {p : Nat} (hp : p < 32) : ∀ (f i k : Nat), k < f → lcgs (mask + 1) k i ∈ spots mask f i p
  | f + 1, i, 0, _ => List.mem_cons_self
  | f + 1, i, k + 1, h => by
    unfold spots
    have hz : p / 32 = 0 := Nat.div_eq_of_lt hp
    have e : leap mask i p = (lcg (mask + 1) i, 0) := by simp [leap, lcg, hz]
    rw [e]
    exact List.mem_cons_of_mem _ (spots_zero f _ k (by omega))
theorem spots_all {mask : Nat} (hc : cyc (mask + 1) = true) : ∀ (n f i p : Nat), p < 32 ^ (n + 1) → i < mask + 1 → n + mask + 1 ≤ f → ∀ j, j < mask + 1 → j ∈ spots mask f i p
  | 0, f, i, p, hp, hi, hf, j, hj => by
    obtain ⟨k, hk, e⟩ := cyc_reach hc hi hj
    rw [← e]; exact spots_small (by simpa using hp) f i k (by omega)
  | n + 1, 0, i, p, hp, hi, hf, j, hj => by omega
  | n + 1, f + 1, i, p, hp, hi, hf, j, hj => by
    unfold spots
    refine List.mem_cons_of_mem _ (spots_all hc n f _ _ ?_ ?_ (by omega) j hj)
    · show p / 32 < 32 ^ (n + 1)
      rw [Nat.pow_succ] at hp
      exact Nat.div_lt_of_lt_mul (by rw [Nat.mul_comm]; exact hp)
    · exact Nat.mod_lt _ (Nat.succ_pos _)

theorem free_room {mask : Nat} (hc : cyc (mask + 1) = true) {owner : Array (Option Nat)} (hs : owner.size = mask + 1) {i p : Nat} (hi : i < mask + 1) (hp : p < 2 ^ 64) (hr : ∃ j : Nat, owner[j]? = some none) :
    ∃ j, layClean.free mask owner (turns mask) i p = some j ∧ j < owner.size ∧ owner[j]? = some none := by
  cases h : layClean.free mask owner (turns mask) i p with
  | some j => exact ⟨j, rfl, free_some _ _ _ _ h⟩
  | none =>
    obtain ⟨j, hj⟩ := hr
    have hlt : j < owner.size := (Array.getElem?_eq_some_iff.mp hj).1
    have hm := spots_all hc 12 (turns mask) i p (Nat.lt_of_lt_of_le hp (by decide)) hi (by unfold turns; omega) j (by omega)
    exact absurd (by rw [Array.getD_eq_getD_getElem?, hj]; rfl) (free_none _ _ _ h j hm)

theorem bits_lt (h : Int) : bits h < 2 ^ 64 := by
  unfold bits
  have h1 := Int.emod_nonneg h (show (2 ^ 64 : Int) ≠ 0 by decide)
  have h2 := Int.emod_lt_of_pos h (show (0 : Int) < 2 ^ 64 by decide)
  omega

theorem set_perm {l : List (Option Nat)} {k : Nat} : ∀ {j : Nat}, l[j]? = some none → ((l.set j (some k)).filterMap id).Perm (k :: l.filterMap id) := by
  induction l with
  | nil => intro j h; simp at h
  | cons x r ih =>
    intro j h
    cases j with
    | zero =>
      simp at h; subst h
      simp
    | succ j =>
      rw [List.getElem?_cons_succ] at h
      rw [List.set_cons_succ]
      cases x with
      | none => simpa using ih h
      | some y =>
        simp only [List.filterMap_cons, id_eq]
        exact ((ih h).cons y).trans (List.Perm.swap ..)

theorem lay_fold {mask : Nat} (hc : cyc (mask + 1) = true) : ∀ (hs : List Int) (owner : Array (Option Nat)) (k : Nat), owner.size = mask + 1 → (owner.toList.filterMap id).Perm (List.range k) → k + hs.length ≤ mask →
    ∃ owner' : Array (Option Nat), (hs.foldl (init := some (owner, k)) fun acc h => do
      let (owner, k) ← acc
      let j ← layClean.free mask owner (turns mask) (bits h % (mask + 1)) (bits h)
      pure (owner.setIfInBounds j (some k), k + 1)) = some (owner', k + hs.length) ∧ owner'.size = mask + 1 ∧ (owner'.toList.filterMap id).Perm (List.range (k + hs.length))
  | [], owner, k, hs, hp, _ => ⟨owner, rfl, hs, hp⟩
  | h :: r, owner, k, hs, hp, hk => by
    rw [List.length_cons] at hk
    have hr : ∃ j : Nat, owner[j]? = some none := by
      apply Classical.byContradiction
      intro hno
      have hall : ∀ x ∈ owner.toList, x.isSome = true := fun x hx => by
        obtain ⟨j, hj, rfl⟩ := List.mem_iff_getElem.mp hx
        cases hx' : owner.toList[j] with
        | some y => rfl
        | none => exact absurd ⟨j, by rw [← Array.getElem?_toList, List.getElem?_eq_getElem hj, hx']⟩ hno
      have hlen : (owner.toList.filterMap id).length = owner.toList.length := by
        have : ∀ l : List (Option Nat), (∀ x ∈ l, x.isSome = true) → (l.filterMap id).length = l.length := by
          intro l
          induction l with
          | nil => intro _; rfl
          | cons x r ih =>
            intro hl
            obtain ⟨y, rfl⟩ := Option.isSome_iff_exists.mp (hl x List.mem_cons_self)
            simp only [List.filterMap_cons, id_eq, List.length_cons]
            rw [ih fun z hz => hl z (List.mem_cons_of_mem _ hz)]
        exact this _ hall
      rw [hp.length_eq, List.length_range] at hlen
      simp at hlen; omega
    obtain ⟨j, ej, hj, hn⟩ := free_room hc hs (i := bits h % (mask + 1)) (Nat.mod_lt _ (Nat.succ_pos _)) (bits_lt h) hr
    have hp' : ((owner.setIfInBounds j (some k)).toList.filterMap id).Perm (List.range (k + 1)) := by
      have e : (owner.setIfInBounds j (some k)).toList = owner.toList.set j (some k) := by simp
      rw [e, List.range_succ]
      refine (set_perm (by rw [Array.getElem?_toList]; exact hn)).trans ((hp.cons k).trans ?_)
      exact (List.perm_append_singleton k _).symm
    obtain ⟨owner', e', hs', hq⟩ := lay_fold hc r (owner.setIfInBounds j (some k)) (k + 1) (by simpa using hs) hp' (by omega)
    refine ⟨owner', ?_, hs', ?_⟩
    · rw [List.foldl_cons]
      have e0 : (do
          let (owner, k) ← some (owner, k)
          let j ← layClean.free mask owner (turns mask) (bits h % (mask + 1)) (bits h)
          pure (owner.setIfInBounds j (some k), k + 1) : Option (Array (Option Nat) × Nat)) = some (owner.setIfInBounds j (some k), k + 1) := by
        simp [ej]
      rw [e0, e', List.length_cons, show k + 1 + r.length = k + (r.length + 1) by omega]
    · rw [List.length_cons, show k + (r.length + 1) = k + 1 + r.length by omega]; exact hq

theorem fm_congr {α β : Type} {f g : α → Option β} : ∀ {l : List α}, (∀ x ∈ l, f x = g x) → l.filterMap f = l.filterMap g
  | [], _ => rfl
  | x :: r, h => by rw [List.filterMap_cons, List.filterMap_cons, h x List.mem_cons_self, fm_congr fun y hy => h y (List.mem_cons_of_mem _ hy)]
theorem laid_some {mask : Nat} (hc : cyc (mask + 1) = true) (finger moves : Nat) (led plain : Bool) (hs : Array Int) (hn : hs.size ≤ mask) :
    ∃ t order, laid mask finger moves led plain hs = some (t, order) ∧ order.toList.Perm (List.range hs.size) ∧ t.fits hs.size = true ∧ t.led = led ∧ t.plain = plain ∧ t.dummies = #[] ∧ t.mask = mask := by
  have h0 : (((Array.replicate (mask + 1) none : Array (Option Nat)).toList).filterMap id).Perm (List.range 0) := by
    have : ∀ n, ((List.replicate n (none : Option Nat)).filterMap id) = [] := by
      intro n
      induction n with
      | zero => rfl
      | succ n ih => rw [List.replicate_succ, List.filterMap_cons]; exact ih
    simp [this]
  obtain ⟨owner, e, hsz, hp⟩ := lay_fold hc hs.toList (Array.replicate (mask + 1) none) 0 (by simp) h0 (by simpa using hn)
  rw [Nat.zero_add] at e hp
  have el : layClean mask hs = some owner := by
    unfold layClean
    rw [← Array.foldl_toList, e]; rfl
  have hlive : ((List.range (mask + 1)).filterMap fun j => (owner.getD j none).map (j, ·)).map (·.2) = owner.toList.filterMap id := by
    have gen : ∀ (l : List (Option Nat)) (s : Nat), (((List.range' s l.length).filterMap fun j => (l.getD (j - s) none).map (j, ·)).map (·.2)) = l.filterMap id := by
      intro l
      induction l with
      | nil => intro s; rfl
      | cons x r ih =>
        intro s
        rw [List.length_cons, List.range'_succ, List.filterMap_cons]
        have tl : ((List.range' (s + 1) r.length).filterMap fun j => ((x :: r).getD (j - s) none).map (j, ·)) = (List.range' (s + 1) r.length).filterMap fun j => (r.getD (j - (s + 1)) none).map (j, ·) := by
          refine fm_congr fun j hj => ?_
          have hj' := List.mem_range'_1.mp hj
          rw [show j - s = (j - (s + 1)) + 1 by omega, List.getD_cons_succ]
        cases x with
        | none => simp only [Nat.sub_self, List.getD_cons_zero, Option.map_none, List.filterMap_cons, id_eq]; rw [tl]; exact ih (s + 1)
        | some y => simp only [Nat.sub_self, List.getD_cons_zero, Option.map_some, List.filterMap_cons, id_eq, List.map_cons]; rw [tl, ih (s + 1)]
    have := gen owner.toList 0
    rw [Array.length_toList, hsz, ← List.range_eq_range'] at this
    rw [← this]
    congr 1
    refine fm_congr fun j hj => ?_
    simp [Array.getD_eq_getD_getElem?, List.getD_eq_getElem?_getD]
  have hlen : ((List.range (mask + 1)).filterMap fun j => (owner.getD j none).map (j, ·)).length = hs.size := by
    have := congrArg List.length hlive
    rw [List.length_map, hp.length_eq, List.length_range, Array.length_toList] at this
    exact this
  refine ⟨_, _, by unfold laid; rw [el]; rfl, ?_, ?_, rfl, rfl, rfl, rfl⟩
  · rw [List.toList_toArray, hlive]; simpa using hp
  · unfold SetTable.fits SetTable.fill
    simp only [List.size_toArray, List.length_map, hlen, beq_self_eq_true, Bool.true_and, decide_eq_true_eq]
    simpa using hn

theorem cyc8 : cyc 8 = true := by decide +kernel
theorem cyc16 : cyc 16 = true := by decide +kernel
theorem cyc32 : cyc 32 = true := by decide +kernel
theorem cyc64 : cyc 64 = true := by decide +kernel
theorem cyc128 : cyc 128 = true := by decide +kernel
theorem cyc256 : cyc 256 = true := by decide +kernel
end Mine
namespace Mine

theorem perm_of_len {α : Type} [DecidableEq α] : ∀ {m l : List α}, m.Nodup → (∀ x ∈ m, x ∈ l) → l.length ≤ m.length → l.Perm m
  | [], l, _, _, h => by have : l = [] := List.eq_nil_of_length_eq_zero (by simpa using h); rw [this]
  | x :: m, l, nd, hs, hl => by
    rw [List.nodup_cons] at nd
    have hx := hs x List.mem_cons_self
    have p := List.perm_cons_erase hx
    have ih := perm_of_len (m := m) (l := l.erase x) nd.2 (fun y hy => by
      have hne : y ≠ x := fun e => nd.1 (e ▸ hy)
      exact (List.mem_erase_of_ne hne).mpr (hs y (List.mem_cons_of_mem _ hy))) (by
      have := p.length_eq; rw [List.length_cons] at this hl; omega)
    exact p.trans (ih.cons x)

def keyOf : Int × Value → Int
  | (_, .int i _) => i
  | _ => 0

/-- a set of ints -/
def ISet (o : Obj) (m : List Int) : Prop := m.Nodup ∧ m.length < 2000 ∧ o.IntSetOf (fun x => decide (x ∈ m)) m.length

theorem scan_lt {n : Nat} (h : n < 2000) : n + 1 < scanBound := by show n + 1 < 4096; omega
theorem scan_lt' {n : Nat} (h : n < 2000) : n < scanBound := by show n < 4096; omega

theorem intIs {prog : Program} {w : World} {i : Int} {t : Tok} : (intKind prog w).is i (.int i t) = true := by simp [intKind, Value.isInt]

theorem elems_int {prog : Program} {w : World} {es : List (Int × Value)} (h : ElemsOf (intKind prog w) es) : ∀ e ∈ es, ∃ t, e.2 = .int (keyOf e) t ∧ e.1 = (intKind prog w).hash (keyOf e) := fun e he => by
  obtain ⟨⟨k, hk, hh⟩, _⟩ := h e he
  obtain ⟨t, ht⟩ := Value.isInt_shape (k := k) (v := e.2) hk
  obtain ⟨a, b⟩ := e
  dsimp only at ht hh
  subst ht
  exact ⟨t, rfl, hh⟩

theorem ISet.parts {o : Obj} {m : List Int} (x : ISet o m) (prog : Program) (w : World) : o.ExactSet ∧ ∃ es ep t, o.data = .set es ep t ∧ ElemsOf (intKind prog w) es.toList ∧ (es.toList.map keyOf).Perm m ∧ es.size = m.length ∧ t.fits es.size = true := by
  obtain ⟨nd, hlt, hS⟩ := x
  obtain ⟨hex, es, ep, t, hd, hel, hmem, hn, hf⟩ := hS prog w
  refine ⟨hex, es, ep, t, hd, hel, ?_, hn, hf⟩
  refine perm_of_len nd (fun k hk => ?_) (by simp [hn])
  obtain ⟨e, he, hi⟩ := (hmem k).mp (decide_eq_true hk)
  obtain ⟨t', ht'⟩ := Value.isInt_shape (k := k) (v := e.2) hi
  exact List.mem_map.mpr ⟨e, he, by obtain ⟨a, b⟩ := e; dsimp only at ht'; subst ht'; rfl⟩

theorem ISet.of_parts {prog : Program} {w : World} {o : Obj} {m : List Int} {es : Array (Int × Value)} {ep : Nat} {t : SetTable} (hex : o.ExactSet) (hd : o.data = .set es ep t) (hel : ElemsOf (intKind prog w) es.toList) (hp : (es.toList.map keyOf).Perm m)
    (nd : m.Nodup) (hlt : m.length < 2000) (hf : t.fits es.size = true) : ISet o m := by
  refine ⟨nd, hlt, Obj.SetObjOf.intSetOf (prog := prog) (w := w) ⟨hex, es, ep, t, hd, hel, fun k => ?_, ?_, hf⟩⟩
  · rw [decide_eq_true_eq, ← hp.mem_iff]
    constructor
    · intro hk
      obtain ⟨e, he, rfl⟩ := List.mem_map.mp hk
      obtain ⟨t', ht', _⟩ := elems_int hel e he
      exact ⟨e, he, by rw [ht']; exact intIs⟩
    · rintro ⟨e, he, hi⟩
      obtain ⟨t', ht'⟩ := Value.isInt_shape (k := k) (v := e.2) hi
      exact List.mem_map.mpr ⟨e, he, by obtain ⟨a, b⟩ := e; dsimp only at ht'; subst ht'; rfl⟩
  · have := hp.length_eq; simpa using this

theorem ISet.perm {o : Obj} {m m' : List Int} (x : ISet o m) (p : m.Perm m') : ISet o m' := by
  obtain ⟨nd, hlt, hS⟩ := x
  refine ⟨p.nodup_iff.mp nd, by rw [← p.length_eq]; exact hlt, ?_⟩
  rw [← p.length_eq]
  have : (fun x => decide (x ∈ m)) = fun x => decide (x ∈ m') := funext fun x => by simp [p.mem_iff]
  rw [← this]; exact hS

section
variable {prog : Program} {w : World} {h G : Heap} {lg : List (Addr × Obj)} {a : Addr} {o : Obj} {m : List Int}
theorem Led.setOf (I : Led G lg h) (hm : (a, o) ∈ lg) (hS : ISet o m) : h.SetOf (intKind prog w) a (fun x => decide (x ∈ m)) m.length :=
  (hS.2.2 prog w).setOf (I.get hm) (scan_lt' hS.2.1)
theorem iset_of {S : Int → Bool} {n : Nat} (hS : h.SetOf (intKind prog w) a S n) (nd : m.Nodup) (hlt : m.length < 2000) (he : ∀ x, S x = decide (x ∈ m)) (hn : n = m.length) : ∃ o, h.get? a = some o ∧ ISet o m := by
  obtain ⟨o, ho, hS'⟩ := hS.objOf
  have : S = fun x => decide (x ∈ m) := funext he
  subst this; subst hn
  exact ⟨o, ho, nd, hlt, hS'.intSetOf⟩
end

section
variable {prog : Program} {w : World} {A : Around} {E : Value → Shared → Prop} {h G : Heap} {g : Array GenState} {d : Drawn} {t : Nat} {os : OsState}
  {env : Env} {lg l0 fr0 fx f l fo : List (Addr × Obj)} {lf : Obj → List (Addr × Obj)} {J r a : Addr} {o ol : Obj} {vs : List Value} {m : List Int} {x : Int} {u : Tok} {k n : Nat} {pos : Pos} {mg mb : Str → Option Value}

theorem inS {Q : Value → Shared → Prop} (I : Led G lg h) (hm : (a, o) ∈ lg) (hS : ISet o m) (hQ : ∀ t', Q (.bool (decide (x ∈ m))) ⟨h, g, d, t', os⟩) :
    wpAny (model prog w) A (compareOp .In (.int x u) (.ref a)) Q E ⟨h, g, d, t, os⟩ :=
  wpAny_inSet_of (s := ⟨h, g, d, t, os⟩) intIs rfl (I.setOf hm hS) (hQ _)
theorem notInS {Q : Value → Shared → Prop} (I : Led G lg h) (hm : (a, o) ∈ lg) (hS : ISet o m) (hQ : ∀ t', Q (.bool (!decide (x ∈ m))) ⟨h, g, d, t', os⟩) :
    wpAny (model prog w) A (compareOp .NotIn (.int x u) (.ref a)) Q E ⟨h, g, d, t, os⟩ :=
  wpAny_notInSet_of (s := ⟨h, g, d, t, os⟩) intIs rfl (I.setOf hm hS) (hQ _)

def ins (x : Int) (m : List Int) : List Int := if x ∈ m then m else x :: m
theorem ins_nodup {x : Int} {m : List Int} (h : m.Nodup) : (ins x m).Nodup := by
  unfold ins; split
  · exact h
  · exact List.nodup_cons.mpr ⟨by assumption, h⟩
theorem mem_ins {x y : Int} {m : List Int} : y ∈ ins x m ↔ y = x ∨ y ∈ m := by
  unfold ins; split
  · constructor
    · exact .inr
    · rintro (rfl | h) <;> assumption
  · exact List.mem_cons
theorem ins_len {x : Int} {m : List Int} : (ins x m).length ≤ m.length + 1 := by
  unfold ins; split
  · omega
  · rw [List.length_cons]; omega

theorem addS {Q : Value → Shared → Prop} (I : Led G lg h) (hm : (a, o) ∈ lg) (hS : ISet o m) (e : lg = lf o) (H : Hole lf a) (hb : m.length < 1990)
    (hQ : ∀ h' t' o', ISet o' (ins x m) → Led G (lf o') h' → Q .none ⟨h', g, d, t', os⟩) :
    wpAny (model prog w) A (call (.builtin "set.add") [.ref a, .int x u]) Q E ⟨h, g, d, t, os⟩ := by
  subst e
  refine call_set_add (s := ⟨h, g, d, t, os⟩) (k := x) intIs rfl (I.setOf hm hS) (scan_lt hS.2.1) fun h' hs hS' => ?_
  obtain ⟨o', ho', hI⟩ := iset_of (m := ins x m) hS' (ins_nodup hS.1) (by have := @ins_len x m; omega) (fun y => by
    rw [Bool.eq_iff_iff]; simp only [Bool.or_eq_true, decide_eq_true_eq, mem_ins]; exact or_comm) (by
    unfold ins; by_cases hx : x ∈ m <;> simp [hx])
  exact hQ h' _ o' hI (I.hole H hs ho')

theorem newS {Q : Value → Shared → Prop} (I : Led G (f ++ l) h) (hQ : ∀ a o h', ISet o [] → Led G (f ++ (a, o) :: l) h' → Q (.ref a) ⟨h', g, d, t, os⟩) :
    wpAny (model prog w) A (call (.type "set") []) Q E ⟨h, g, d, t, os⟩ :=
  call_set_0 (s := ⟨h, g, d, t, os⟩) fun led => hQ _ _ _ ⟨List.nodup_nil, by decide, by simpa using intSetOf_fresh led⟩ (I.pushm _)

def dedup (ns : List Int) : List Int := ns.foldl step_dedup []
theorem firstMet_dedup (ns : List Int) : firstMet (fun i => ns.getD i 0) ns.length = dedup ns := by
  unfold firstMet dedup
  congr 1
  apply List.ext_getElem
  · simp
  · intro i h1 h2; simp at h1; simp [h1]
theorem step_nodup {σ : List Int} {v : Int} (h : σ.Nodup) : (step_dedup σ v).Nodup := by
  unfold step_dedup; split
  · exact h
  · rename_i hv
    rw [(List.perm_append_singleton v σ).nodup_iff, List.nodup_cons]
    exact ⟨fun hm => hv (List.any_eq_true.mpr ⟨v, hm, by simp⟩), h⟩
theorem mem_step {σ : List Int} {v y : Int} : y ∈ step_dedup σ v ↔ y ∈ σ ∨ y = v := by
  unfold step_dedup; split
  · rename_i hv
    obtain ⟨z, hz, e⟩ := List.any_eq_true.mp hv
    have e : z = v := by simpa using e
    subst e
    exact ⟨.inl, fun h => h.elim id (fun e => e ▸ hz)⟩
  · simp
theorem dedup_gen : ∀ (ns σ : List Int), σ.Nodup → (ns.foldl step_dedup σ).Nodup ∧ ∀ y, y ∈ ns.foldl step_dedup σ ↔ y ∈ σ ∨ y ∈ ns
  | [], σ, h => ⟨h, fun y => by simp⟩
  | n :: r, σ, h => by
    obtain ⟨h1, h2⟩ := dedup_gen r (step_dedup σ n) (step_nodup h)
    refine ⟨h1, fun y => ?_⟩
    rw [List.foldl_cons, h2, mem_step, List.mem_cons, or_assoc]
theorem dedup_nodup (ns : List Int) : (dedup ns).Nodup := (dedup_gen ns [] List.nodup_nil).1
theorem mem_dedup {ns : List Int} {y : Int} : y ∈ dedup ns ↔ y ∈ ns := by rw [dedup, (dedup_gen ns [] List.nodup_nil).2]; simp
theorem dedup_len (ns : List Int) : (dedup ns).length ≤ ns.length := by rw [← firstMet_dedup]; exact firstMet_length_le _ _

theorem setList {ns : List Int} {Q : Value → Shared → Prop} (ok : Ok A k) (I : Led G (f ++ l) h) (hm : (r, o) ∈ f ++ l) (hL : LstO o vs) (hi : IntsAre vs ns) (hb : ns.length < 1990)
    (hQ : ∀ a o h' t', ISet o (dedup ns) → Led G (f ++ (a, o) :: l) h' → Q (.ref a) ⟨h', g, d, t', os⟩) :
    wpAny (model prog w) A (call (.type "set") [.ref r]) Q E ⟨h, g, d, t, os⟩ := by
  have hlen := hi.length
  refine call_set_list (s := ⟨h, g, d, t, os⟩) ok.hd (I.isList hm hL) (by simpa using hi) (by simp; exact scan_lt (by omega)) fun h' tk hS hk => ?_
  have e1 : vs.toArray.size = ns.length := by simpa using hlen
  rw [e1, firstMet_dedup] at hS
  obtain ⟨o', ho', hI⟩ := iset_of (m := dedup ns) hS (dedup_nodup ns) (by have := dedup_len ns; omega) (fun y => by
    rw [Bool.eq_iff_iff]; simp) rfl
  exact hQ _ o' h' tk hI (I.grow (fun b o e => hk b o (Heap.lt_size e) e) ho')
end
end Mine
namespace Mine

theorem above_ok : ∀ w, w < 256 → (SetTable.sizeAbove w = 8 ∨ SetTable.sizeAbove w = 16 ∨ SetTable.sizeAbove w = 32 ∨ SetTable.sizeAbove w = 64 ∨ SetTable.sizeAbove w = 128 ∨ SetTable.sizeAbove w = 256) ∧ w < SetTable.sizeAbove w := by decide +kernel
theorem above_cyc {w : Nat} (h : w < 256) : cyc (SetTable.sizeAbove w - 1 + 1) = true ∧ w ≤ SetTable.sizeAbove w - 1 ∧ SetTable.sizeAbove w ≤ 256 := by
  obtain ⟨h1, h2⟩ := above_ok w h
  refine ⟨?_, by omega, by omega⟩
  rcases h1 with e | e | e | e | e | e <;> rw [e]
  · exact cyc8
  · exact cyc16
  · exact cyc32
  · exact cyc64
  · exact cyc128
  · exact cyc256

theorem eraseAt_toList {α : Type} (xs : Array α) (i : Nat) : (SetTable.eraseAt xs i).toList = xs.toList.eraseIdx i := by
  unfold SetTable.eraseAt
  rw [Array.toList_append, Array.toList_extract, Array.toList_extract, List.eraseIdx_eq_take_drop_succ]
  simp only [List.extract_eq_take_drop, List.drop_zero, Nat.sub_zero, List.extract]
  congr 1
  rw [List.take_of_length_le]
  rw [List.length_drop, Array.length_toList]; exact Nat.le_refl _

section
variable {prog : Program} {w : World} {A : Around} {E : Value → Shared → Prop} {s : Shared} {a : Addr} {o : Obj} {m : List Int} {x : Int} {u : Tok}

/-- the place of x -/
theorem setFind_idx {es : Array (Int × Value)} {ep : Nat} {t : SetTable} {y : Value} {k : Int} {Q : Option Nat → Shared → Prop} (hkey : (intKind prog w).is k y = true) (hsc : y.scannable = true)
    (ho : s.heap.get? a = some o) (hd : o.data = .set es ep t) (hf : t.fits es.size = true) (hel : ElemsOf (intKind prog w) es.toList) (hb : es.size < scanBound)
    (hQ : Q (es.toList.findIdx? fun e => (intKind prog w).is k e.2) s) : wpAny (model prog w) A (setFind a y ((intKind prog w).hash k)) Q E s := by
  unfold setFind setFindIn
  refine wpAny_bind (wpAny_setState_of ho hd hf ?_)
  dsimp only
  rw [byScan_of hsc hb hel]
  simp only [↓reduceIte]
  refine wpAny_bind (wpAny_rule (wpAny_bind (wpAny_setScan_of hkey ho hd hf hel ?_)))
  cases hr : List.findIdx? (fun e => (intKind prog w).is k e.2) es.toList with
  | none => rw [hr] at hQ; exact wpAny_pure hQ
  | some j => rw [hr] at hQ; dsimp only; rw [Nat.zero_add]; exact wpAny_pure hQ
end

theorem erase_idx_key {prog : Program} {w : World} {es : List (Int × Value)} {k : Int} {i : Nat} (hel : ElemsOf (intKind prog w) es) (nd : (es.map keyOf).Nodup) (hi : es.findIdx? (fun e => (intKind prog w).is k e.2) = some i) :
    (es.eraseIdx i).map keyOf = (es.map keyOf).erase k := by
  induction es generalizing i with
  | nil => simp at hi
  | cons e r ih =>
    rw [List.map_cons, List.nodup_cons] at nd
    obtain ⟨t, ht, _⟩ := elems_int hel e List.mem_cons_self
    rw [List.findIdx?_cons] at hi
    by_cases hk : keyOf e = k
    · have : (intKind prog w).is k e.2 = true := by rw [ht, hk]; exact intIs
      rw [this] at hi
      cases hi
      rw [List.eraseIdx_cons_zero, List.map_cons, hk, List.erase_cons_head]
    · have : (intKind prog w).is k e.2 = false := by
        rw [ht]
        have := KeyKind.is_eq_decide (knd := intKind prog w) (k := keyOf e) (v := .int (keyOf e) t) intIs k
        rw [this]; exact decide_eq_false (Ne.symm hk)
      rw [this] at hi
      simp only [Bool.false_eq_true, if_false, Option.map_eq_some_iff] at hi
      obtain ⟨j, hj, rfl⟩ := hi
      rw [List.eraseIdx_cons_succ, List.map_cons, List.map_cons, ih hel.tail nd.2 hj, List.erase_cons_tail (by simpa using hk)]

theorem find_none_key {prog : Program} {w : World} {es : List (Int × Value)} {k : Int} (hel : ElemsOf (intKind prog w) es) (hi : es.findIdx? (fun e => (intKind prog w).is k e.2) = none) : k ∉ es.map keyOf := fun hm => by
  obtain ⟨e, he, rfl⟩ := List.mem_map.mp hm
  obtain ⟨t, ht, _⟩ := elems_int hel e he
  have := List.findIdx?_eq_none_iff.mp hi e he
  rw [ht, intIs] at this; cases this

theorem drop_fits {t : SetTable} {n i : Nat} (hf : t.fits n = true) (hi : i < n) : (t.drop i).fits (n - 1) = true := by
  simp only [SetTable.fits, Bool.and_eq_true, beq_iff_eq, decide_eq_true_eq] at hf
  have hp : i < t.place.size := by omega
  have e : t.place[i]? = some t.place[i] := Array.getElem?_eq_getElem hp
  unfold SetTable.drop
  rw [e]
  dsimp only
  have h1 : (SetTable.eraseAt t.place i).size = t.place.size - 1 := by
    rw [← Array.length_toList, eraseAt_toList, List.length_eraseIdx, Array.length_toList, if_pos hp]
  have h2 : (SetTable.insertAt t.dummies (SetTable.below t.dummies t.place[i]) t.place[i]).size = t.dummies.size + 1 := by
    rw [← Array.length_toList, (SetTable.insertAt_perm ..).length_eq]; simp
  simp only [SetTable.fits, SetTable.fill, Bool.and_eq_true, beq_iff_eq, decide_eq_true_eq, h1, h2]
  unfold SetTable.fill at hf
  omega

section
variable {prog : Program} {w : World} {A : Around} {E : Value → Shared → Prop} {h G : Heap} {g : Array GenState} {d : Drawn} {t : Nat} {os : OsState}
  {env : Env} {lg l0 fr0 fx f l fo : List (Addr × Obj)} {lf : Obj → List (Addr × Obj)} {J r a : Addr} {o ol : Obj} {vs : List Value} {m : List Int} {x : Int} {u : Tok} {k n : Nat} {pos : Pos} {mg mb : Str → Option Value}

theorem put_get {h : Heap} {a : Addr} {o : Obj} {es : Array (Int × Value)} {ep : Nat} {t : SetTable} (ho : h.get? a = some o) (hd : o.data = .set es ep t) (es' : Array (Int × Value)) (t' : SetTable) :
    (h.update a (Obj.putSet es' t')).get? a = some { o with data := .set es' (ep + 1) t' } := by
  have := Heap.get?_update_self (Obj.putSet es' t') ho (by rw [putSet_of es' t' hd]; rfl)
  rw [putSet_of es' t' hd] at this; exact this

theorem discardH {Q : Bool → Shared → Prop} (I : Led G (lf o) h) (H : Hole lf a) (hS : ISet o m) (hQ : ∀ h' o', ISet o' (m.erase x) → Led G (lf o') h' → Q (decide (x ∈ m)) ⟨h', g, d, t, os⟩) :
    wpAny (model prog w) A (setDiscardHashed a (.int x u) ((intKind prog w).hash x)) Q E ⟨h, g, d, t, os⟩ := by
  obtain ⟨hex, es, ep, tb, hd, hel, hp, hn, hf⟩ := hS.parts prog w
  have ho : (⟨h, g, d, t, os⟩ : Shared).heap.get? a = some o := I.get (H.mem o)
  have hlt := hS.2.1
  have nd : (es.toList.map keyOf).Nodup := hp.nodup_iff.mpr hS.1
  unfold setDiscardHashed
  refine wpAny_bind (setFind_idx (k := x) intIs rfl ho hd hf hel (scan_lt' (by omega)) ?_)
  cases hr : es.toList.findIdx? (fun e => (intKind prog w).is x e.2) with
  | none =>
    have hx : x ∉ m := fun hx => find_none_key hel hr (hp.mem_iff.mpr hx)
    have := hQ h o (by rw [List.erase_of_not_mem hx]; exact hS) I
    rw [decide_eq_false hx] at this
    exact wpAny_pure this
  | some i =>
    have hi : i < es.toList.length := (List.findIdx?_eq_some_iff_getElem.mp hr).1
    have hi' : i < es.size := by simpa using hi
    refine wpAny_bind (wpAny_setState_of ho hd hf ?_)
    dsimp only
    have hsz : (SetTable.eraseAt es i).size = es.size - 1 := by rw [← Array.length_toList, eraseAt_toList, List.length_eraseIdx, if_pos hi]; simp
    refine wpAny_bind (wpAny_storeSet_of ho hd ?_ (by rw [hsz, sizeLine_eq]; omega))
    refine wpAny_bind (wpAny_point (wpAny_pure ?_))
    have hk := erase_idx_key hel nd hr
    have hx : x ∈ m := by
      have := List.findIdx?_eq_some_iff_getElem.mp hr
      obtain ⟨h1, h2, _⟩ := this
      obtain ⟨t', ht', _⟩ := elems_int hel _ (List.getElem_mem h1)
      rw [ht'] at h2
      have e := (intKind prog w).inj _ _ _ h2 intIs
      rw [e]; exact hp.mem_iff.mp (List.mem_map.mpr ⟨_, List.getElem_mem h1, rfl⟩)
    have hS' : ISet { o with data := .set (SetTable.eraseAt es i) (ep + 1) (tb.drop i) } (m.erase x) := by
      refine ISet.of_parts (prog := prog) (w := w) hex rfl ?_ ?_ (hS.1.erase x) ?_ ?_
      · rw [eraseAt_toList]; exact fun e he => hel e (List.mem_of_mem_eraseIdx he)
      · rw [eraseAt_toList, hk]; exact hp.erase x
      · have := List.length_erase_of_mem hx; omega
      · rw [hsz]; exact drop_fits hf hi'
    have := hQ _ _ hS' (I.hole H (Heap.SameBut.update h a _) (put_get (I.get (H.mem o)) hd _ _))
    rw [decide_eq_true hx] at this
    exact this

theorem discardS {Q : Bool → Shared → Prop} (I : Led G (lf o) h) (H : Hole lf a) (hS : ISet o m) (hQ : ∀ h' t' o', ISet o' (m.erase x) → Led G (lf o') h' → Q (decide (x ∈ m)) ⟨h', g, d, t', os⟩) :
    wpAny (model prog w) A (setDiscard a (.int x u)) Q E ⟨h, g, d, t, os⟩ := by
  unfold setDiscard
  exact wpAny_holding (wpAny_bind ((intKind prog w).pyHash (s := ⟨h, g, d, t, os⟩) intIs (discardH I H hS fun h' o' h1 h2 => hQ h' _ o' h1 h2)))

theorem relayS {wanted : Nat} {Q : Unit → Shared → Prop} (I : Led G (lf o) h) (H : Hole lf a) (hS : ISet o m) (hw : wanted < 256) (hle : m.length ≤ wanted) (hQ : ∀ h' o', ISet o' m → Led G (lf o') h' → Q () ⟨h', g, d, t, os⟩) :
    wpAny (model prog w) A (setRelay a wanted) Q E ⟨h, g, d, t, os⟩ := by
  obtain ⟨hex, es, ep, tb, hd, hel, hp, hn, hf⟩ := hS.parts prog w
  have ho : (⟨h, g, d, t, os⟩ : Shared).heap.get? a = some o := I.get (H.mem o)
  obtain ⟨hc, h1, h2⟩ := above_cyc hw
  obtain ⟨t', order, he, hperm, hfit, _, _, _, _⟩ := laid_some hc tb.finger (tb.movedTo (SetTable.sizeAbove wanted - 1)) tb.led tb.plain (es.map (·.1)) (by simp; omega)
  have he' : tb.relaid (es.map (·.1)) wanted = some (t', order) := he
  unfold setRelay
  refine wpAny_bind (wpAny_setState_of ho hd hf ?_)
  dsimp only
  rw [if_neg (by rw [sizeLine_eq]; omega)]
  have hsz : (order.filterMap (es[·]?)).size = es.size := by
    have : ((order.filterMap (es[·]?)).toList).length = es.size := by
      rw [Array.toList_filterMap, (hperm.filterMap _).length_eq]
      rw [show (es.map (·.1)).size = es.size by simp, filterMap_getElem?_range]
      simp
    rw [Array.length_toList] at this; exact this
  have hpm : (order.filterMap (es[·]?)).toList.Perm es.toList := by
    rw [Array.toList_filterMap]
    refine (hperm.filterMap _).trans ?_
    rw [show (es.map (·.1)).size = es.size by simp, filterMap_getElem?_range]
  have hS' : ISet { o with data := .set (order.filterMap (es[·]?)) (ep + 1) t' } m := by
    refine ISet.of_parts (prog := prog) (w := w) hex rfl (hel.perm hpm) ((hpm.map keyOf).trans hp) hS.1 hS.2.1 ?_
    rw [hsz]; simpa using hfit
  have fin : Q () ⟨h.update a (Obj.putSet (order.filterMap (es[·]?)) t'), g, d, t, os⟩ := hQ _ _ hS' (I.hole H (Heap.SameBut.update h a _) (put_get (I.get (H.mem o)) hd _ _))
  rw [he']
  refine wpAny_bind ?_
  show wpAny _ _ (if ((order.filterMap (es[·]?)).size != es.size) = true then _ else _) _ _ _
  rw [if_neg (by rw [hsz]; simp)]
  exact wpAny_pure (wpAny_storeSet_of ho hd fin (by rw [hsz, sizeLine_eq]; have := hS.2.1; omega))

theorem tidyS {Q : Unit → Shared → Prop} (I : Led G (lf o) h) (H : Hole lf a) (hS : ISet o m) (hw : m.length < 60) (hQ : ∀ h' o', ISet o' m → Led G (lf o') h' → Q () ⟨h', g, d, t, os⟩) :
    wpAny (model prog w) A (setTidy a) Q E ⟨h, g, d, t, os⟩ := by
  obtain ⟨hex, es, ep, tb, hd, hel, hp, hn, hf⟩ := hS.parts prog w
  have ho : (⟨h, g, d, t, os⟩ : Shared).heap.get? a = some o := I.get (H.mem o)
  unfold setTidy
  refine wpAny_bind (wpAny_setState_of ho hd hf ?_)
  dsimp only
  have hg : SetTable.grown es.size = es.size * 4 := by unfold SetTable.grown; rw [if_neg (by omega)]
  cases tb.tooManyDummies with
  | false => exact wpAny_pure (hQ h o hS I)
  | true =>
    simp only [if_true]
    rw [hg]
    exact relayS I H hS (by omega) (by omega) hQ
end
end Mine
namespace Mine
open PySem.Builtin PySem.Builtin.Frozenset

section
variable {prog : Program} {w : World} {A : Around} {E : Value → Shared → Prop} {h G : Heap} {g : Array GenState} {d : Drawn} {t : Nat} {os : OsState}
  {env : Env} {lg l0 fr0 fx f l fo : List (Addr × Obj)} {lf : Obj → List (Addr × Obj)} {J r a b : Addr} {o ol oa ob : Obj} {vs : List Value} {m ma mb : List Int} {x : Int} {u : Tok} {k n : Nat} {pos : Pos}

theorem findS {Q : Option Nat → Shared → Prop} (I : Led G lg h) (hm : (a, o) ∈ lg) (hS : ISet o m) (hQ : ∀ r : Option Nat, r.isSome = decide (x ∈ m) → Q r ⟨h, g, d, t, os⟩) :
    wpAny (model prog w) A (setFind a (.int x u) ((intKind prog w).hash x)) Q E ⟨h, g, d, t, os⟩ := by
  obtain ⟨hex, es, ep, tb, hd, hel, hp, hn, hf⟩ := hS.parts prog w
  have ho : (⟨h, g, d, t, os⟩ : Shared).heap.get? a = some o := I.get hm
  have hlt := hS.2.1
  refine setFind_idx (k := x) intIs rfl ho hd hf hel (scan_lt' (by omega)) (hQ _ ?_)
  cases hr : es.toList.findIdx? (fun e => (intKind prog w).is x e.2) with
  | none =>
    have hx : x ∉ m := fun hx => find_none_key hel hr (hp.mem_iff.mpr hx)
    simp [hx]
  | some i =>
    obtain ⟨h1, h2, _⟩ := List.findIdx?_eq_some_iff_getElem.mp hr
    obtain ⟨t', ht', _⟩ := elems_int hel _ (List.getElem_mem h1)
    rw [ht'] at h2
    have e := (intKind prog w).inj _ _ _ h2 intIs
    have : x ∈ m := by rw [e]; exact hp.mem_iff.mp (List.mem_map.mpr ⟨_, List.getElem_mem h1, rfl⟩)
    simp [this]

theorem entriesS {Q : Array (Int × Value) → Shared → Prop} (I : Led G lg h) (hm : (a, o) ∈ lg) (hS : ISet o m)
    (hQ : ∀ es : Array (Int × Value), ElemsOf (intKind prog w) es.toList → (es.toList.map keyOf).Perm m → es.size = m.length → Q es ⟨h, g, d, t, os⟩) :
    wpAny (model prog w) A (setEntries a) Q E ⟨h, g, d, t, os⟩ := by
  obtain ⟨hex, es, ep, tb, hd, hel, hp, hn, hf⟩ := hS.parts prog w
  have ho : (⟨h, g, d, t, os⟩ : Shared).heap.get? a = some o := I.get hm
  unfold setEntries
  exact wpAny_bind (wpAny_setState_of ho hd hf (wpAny_pure (hQ es hel hp hn)))

def epochOf (o : Obj) : Nat := match o.data with | .set _ e _ => e | _ => 0
theorem epochS {Q : Nat → Shared → Prop} (I : Led G lg h) (hm : (a, o) ∈ lg) (hS : ISet o m) (hQ : Q (epochOf o) ⟨h, g, d, t, os⟩) :
    wpAny (model prog w) A (setEpoch a) Q E ⟨h, g, d, t, os⟩ := by
  obtain ⟨hex, es, ep, tb, hd, hel, hp, hn, hf⟩ := hS.parts prog w
  have ho : (⟨h, g, d, t, os⟩ : Shared).heap.get? a = some o := I.get hm
  unfold setEpoch
  have : epochOf o = ep := by unfold epochOf; rw [hd]
  rw [this] at hQ
  exact wpAny_bind (wpAny_setState_of ho hd hf (wpAny_pure hQ))

/-- the turns of isdisjoint -/
theorem disjLoop {β : Type} {F : Int × Value → β → Sem (ForInStep β)} {b0 : β} {Q : β → Shared → Prop} {ks : List Int}
    (hF : ∀ (k : Int) u, k ∈ ks → wpAny (model prog w) A (F ((intKind prog w).hash k, .int k u) b0) (fun r s => s = ⟨h, g, d, t, os⟩ ∧ if k ∈ m then (∃ b, r = .done b ∧ Q b ⟨h, g, d, t, os⟩) else r = .yield b0) E ⟨h, g, d, t, os⟩) :
    ∀ (es : List (Int × Value)), (∀ e ∈ es, keyOf e ∈ ks) → ElemsOf (intKind prog w) es → ((∀ e ∈ es, keyOf e ∉ m) → Q b0 ⟨h, g, d, t, os⟩) → wpAny (model prog w) A (forIn es b0 F) Q E ⟨h, g, d, t, os⟩
  | [], _, _, hQ => by rw [List.forIn_nil]; exact wpAny_pure (hQ nofun)
  | e :: es, hks, hel, hQ => by
    obtain ⟨t', ht, hh⟩ := elems_int hel e List.mem_cons_self
    have hk1 := hks e List.mem_cons_self
    obtain ⟨e1, e2⟩ := e
    generalize hk0 : keyOf (e1, e2) = kk at ht hh hk1
    dsimp only at ht hh
    rw [List.forIn_cons, hh, ht]
    refine wpAny_bind (wpAny_mono (hF _ _ hk1) (fun r s h1 => ?_) fun _ _ h => h)
    obtain ⟨rfl, h1⟩ := h1
    by_cases hk : kk ∈ m
    · rw [if_pos hk] at h1
      obtain ⟨b, rfl, hb⟩ := h1
      exact wpAny_pure hb
    · rw [if_neg hk] at h1
      subst h1
      refine disjLoop hF es (fun e he => hks e (List.mem_cons_of_mem _ he)) (fun e he => hel e (List.mem_cons_of_mem _ he)) fun hall => hQ fun e he => ?_
      rcases List.mem_cons.mp he with rfl | he
      · rw [hk0]; exact hk
      · exact hall e he

/-- a loop that every turn leaves as it was -/
theorem idleLoop {β : Type} {F : Int × Value → β → Sem (ForInStep β)} {b0 : β} {Q : β → Shared → Prop}
    (hF : ∀ (k : Int) u, wpAny (model prog w) A (F ((intKind prog w).hash k, .int k u) b0) (fun r s => s = ⟨h, g, d, t, os⟩ ∧ r = .yield b0) E ⟨h, g, d, t, os⟩)
    (es : List (Int × Value)) (hel : ElemsOf (intKind prog w) es) (hQ : Q b0 ⟨h, g, d, t, os⟩) : wpAny (model prog w) A (forIn es b0 F) Q E ⟨h, g, d, t, os⟩ :=
  disjLoop (m := []) (ks := es.map keyOf) (fun k u _ => wpAny_mono (hF k u) (fun r s h1 => ⟨h1.1, by simpa using h1.2⟩) fun _ _ h => h) es (fun e he => List.mem_map.mpr ⟨e, he, rfl⟩) hel fun _ => hQ

theorem walkU {Q : List (Int × Value) → Shared → Prop} (I : Led G lg h) (ha : (a, oa) ∈ lg) (hb : (b, ob) ∈ lg) (hA : ISet oa ma) (hB : ISet ob mb)
    (hQ : ∀ es : List (Int × Value), ElemsOf (intKind prog w) es → (es.map keyOf).Perm ma → Q es ⟨h, g, d, t, os⟩) :
    wpAny (model prog w) A (walkUnseen a b) Q E ⟨h, g, d, t, os⟩ := by
  unfold walkUnseen
  refine wpAny_bind (entriesS I ha hA fun ea ha1 ha2 ha3 => ?_)
  refine wpAny_bind (entriesS I hb hB fun eb hb1 hb2 hb3 => ?_)
  refine wpAny_bind (idleLoop (fun k u => ?_) _ (fun e he => (List.mem_append.mp he).elim (ha1 e) (hb1 e)) ?_)
  · unfold quietEq
    refine wpAny_bind (wpAny_pure ?_)
    exact wpAny_pure ⟨rfl, rfl⟩
  · exact wpAny_pure (hQ _ ha1 ha2)

theorem disjWalk {Q : Fin → Shared → Prop} {id : String} (I : Led G lg h) (ha : (a, oa) ∈ lg) (hb : (b, ob) ∈ lg) (hA : ISet oa ma) (hB : ISet ob mb)
    (hQ : Q (.done (.ret (.bool (decide (∀ x ∈ ma, x ∉ mb))))) ⟨h, g, d, t, os⟩) :
    wpAny (model prog w) A (do
      let was ← setEpoch a
      for (h, x) in ← walkUnseen a b do
        if (← holding [x] (setFind b x h)).isSome then return ← ret (.bool false)
        unchanged id a was
      return ← ret (.bool true)) Q E ⟨h, g, d, t, os⟩ := by
  refine wpAny_bind (epochS I ha hA ?_)
  refine wpAny_bind (walkU I ha hb hA hB fun es he hp => ?_)
  refine wpAny_bind (disjLoop (m := mb) (ks := ma) (Q := fun b s => wpAny _ _ _ _ _ s) (fun k u hkm => ?_) es (fun e h1 => hp.mem_iff.mp (List.mem_map.mpr ⟨e, h1, rfl⟩)) he fun hall => ?_)
  · refine wpAny_bind (wpAny_holding (findS I hb hB fun r hr => ?_))
    by_cases hk : k ∈ mb
    · rw [if_pos (by rw [hr]; simpa using hk)]
      refine wpAny_bind (wpAny_pure ?_)
      refine wpAny_pure ⟨rfl, ?_⟩
      rw [if_pos hk]
      refine ⟨_, rfl, ?_⟩
      have : decide (∀ x ∈ ma, x ∉ mb) = false := decide_eq_false fun h => h k hkm hk
      rw [this] at hQ
      exact wpAny_pure hQ
    · rw [if_neg (by rw [hr]; simpa using hk)]
      unfold unchanged
      refine wpAny_bind (wpAny_bind (epochS I ha hA ?_))
      rw [if_neg (by simp)]
      exact wpAny_pure (wpAny_pure ⟨rfl, by rw [if_neg hk]⟩)
  · have : decide (∀ x ∈ ma, x ∉ mb) = true := decide_eq_true fun x hx => by
      obtain ⟨e, he, rfl⟩ := List.mem_map.mp (hp.mem_iff.mpr hx)
      exact hall e he
    rw [this] at hQ
    exact wpAny_pure hQ

theorem callDisj {Q : Value → Shared → Prop} (I : Led G lg h) (ha : (a, oa) ∈ lg) (hb : (b, ob) ∈ lg) (hne : a ≠ b) (hA : ISet oa ma) (hB : ISet ob mb)
    (hQ : ∀ t', Q (.bool (decide (∀ x ∈ mb, x ∉ ma))) ⟨h, g, d, t', os⟩) :
    wpAny (model prog w) A (call (.builtin "set.isdisjoint") [.ref a, .ref b]) Q E ⟨h, g, d, t, os⟩ := by
  have hT : (⟨h, g, d, t, os⟩ : Shared).TypeIs (.ref a) "set" := (I.setOf ha hA (prog := prog) (w := w)).typeIs
  have hTb : (⟨h, g, d, t, os⟩ : Shared).TypeIs (.ref b) "set" := (I.setOf hb hB (prog := prog) (w := w)).typeIs
  refine wpAny_call_entry F.slot_set_isdisjoint hT (entryFor_alias (id' := "frozenset.isdisjoint") (b := Builtin.«frozenset.isdisjoint») (by kernel_rfl) rfl (by decide +kernel) (by kernel_rfl)) ?_ (F.args_set_isdisjoint_2 _ _)
  unfold Builtin.«frozenset.isdisjoint» oneOther addrOf
  dsimp only [List.isEmpty]
  refine wpAny_bind (wpAny_bind (wpAny_pure (wpAny_pure ?_)))
  rw [if_neg (by simp; exact fun e => hne e.symm)]
  refine wpAny_bind (wpAny_typeOf hTb ?_)
  dsimp only
  rw [if_pos (by decide +kernel)]
  refine wpAny_bind (wpAny_pure ?_)
  unfold Frozenset.sizeOf
  refine wpAny_bind (wpAny_bind (entriesS I hb hB fun eb hb1 hb2 hb3 => wpAny_pure ?_))
  refine wpAny_bind (wpAny_bind (entriesS I ha hA fun ea ha1 ha2 ha3 => wpAny_pure ?_))
  by_cases hsz : eb.size > ea.size
  · simp only [hsz, if_true]
    refine disjWalk I ha hb hA hB ⟨_, rfl, ?_⟩
    have : decide (∀ x ∈ mb, x ∉ ma) = decide (∀ x ∈ ma, x ∉ mb) := decide_eq_decide.mpr ⟨fun h x hx hy => h x hy hx, fun h x hx hy => h x hy hx⟩
    rw [← this]; exact hQ _
  · simp only [hsz, if_false]
    exact disjWalk I hb ha hB hA ⟨_, rfl, hQ _⟩
end
end Mine
namespace Mine
open PySem.Builtin PySem.Builtin.Frozenset

def diff (m ns : List Int) : List Int := ns.foldl List.erase m

theorem diff_nodup : ∀ (ns m : List Int), m.Nodup → (diff m ns).Nodup
  | [], m, h => h
  | n :: r, m, h => diff_nodup r _ (h.erase n)
theorem mem_diff : ∀ (ns m : List Int) (x : Int), m.Nodup → (x ∈ diff m ns ↔ x ∈ m ∧ x ∉ ns)
  | [], m, x, h => by simp [diff]
  | n :: r, m, x, h => by
    have := mem_diff r (m.erase n) x (h.erase n)
    show x ∈ diff (m.erase n) r ↔ _
    rw [this, h.mem_erase_iff, List.mem_cons]
    constructor
    · rintro ⟨⟨h1, h2⟩, h3⟩; exact ⟨h2, fun h => h.elim h1 h3⟩
    · rintro ⟨h1, h2⟩; exact ⟨⟨fun e => h2 (.inl e), h1⟩, fun h => h2 (.inr h)⟩
theorem diff_len : ∀ (ns m : List Int), (diff m ns).length ≤ m.length
  | [], m => Nat.le_refl _
  | n :: r, m => Nat.le_trans (diff_len r (m.erase n)) List.length_erase_le

section
variable {prog : Program} {w : World} {A : Around} {E : Value → Shared → Prop} {h G : Heap} {g : Array GenState} {d : Drawn} {t : Nat} {os : OsState}
  {env : Env} {lg l0 fr0 fx f l fo : List (Addr × Obj)} {lf : Obj → List (Addr × Obj)} {J r a b al : Addr} {o ol oa ob : Obj} {vs : List Value} {m ma mb ns : List Int} {x : Int} {u : Tok} {k n : Nat} {pos : Pos}

/-- what a call's code leaves -/
def RetQ (Q : Value → Shared → Prop) (E : Value → Shared → Prop) : Result → Shared → Prop := fun r s' => match r with | .ok (.ret v) => Q v s' | .ok _ => False | .error e => E e s'

theorem callEntryR {T : String} {name : Str} {id : String} {B : Builtin} {self : Value} {rest : List Value} {Q : Value → Shared → Prop} {s : Shared} (slot : Slot T name id) (hT : s.TypeIs self T)
    (entry : entryFor table id = some B) (args : argsOk id ⟨self :: rest, []⟩)
    (h : wpAny (model prog w) A.in1 (B ⟨self :: rest, []⟩) (fun fin s' => match fin with | .done f => RetQ Q E (.ok f) s' | .again c' => c'.quiet = true ∧ codeAny (model prog w) A c' (RetQ Q E) s') E s) :
    wpAny (model prog w) A (call (.builtin id) (self :: rest)) Q E s := by
  refine wpAny_call (codeAny_call_builtin slot.plain entry (slot.check _ _ _ _ _ _ _ _ hT args (wpAny_mono h (fun fin s' h' => ?_) fun _ _ h' => h')))
  cases fin with
  | done f => exact h'
  | again c => exact h'

theorem codeB {id : String} {B : Builtin} {args : List Value} {R : Result → Shared → Prop} {s : Shared} (hq : plainId id = true) (entry : entryFor table id = some B)
    (h : wpAny (model prog w) A.in1 (B ⟨args, []⟩) (fun fin s' => match fin with | .done f => R (.ok f) s' | .again c' => c'.quiet = true ∧ codeAny (model prog w) A c' R s') (fun e s' => R (.error e) s') s) :
    codeAny (model prog w) A (.builtin id ⟨args, []⟩) R s :=
  codeAny_builtin entry (by rw [Around.under_plainId hq]; exact h)

theorem callDisjT {Q : Value → Shared → Prop} (ok : Ok A (k + 1)) (I : Led G (f ++ l) h) (ha : (a, oa) ∈ f ++ l) (hb : (b, ob) ∈ f ++ l) (hne : a ≠ b) (hA : ISet oa ma) (hB : TupO ob [])
    (hQ : ∀ h' t', Led G (f ++ l) h' → Q (.bool true) ⟨h', g, d, t', os⟩) :
    wpAny (model prog w) A (call (.builtin "set.isdisjoint") [.ref a, .ref b]) Q E ⟨h, g, d, t, os⟩ := by
  have hT : (⟨h, g, d, t, os⟩ : Shared).TypeIs (.ref a) "set" := (I.setOf ha hA (prog := prog) (w := w)).typeIs
  obtain ⟨nb, rfl⟩ := hB
  have htup : h.IsTuple b #[] := ⟨_, I.get hb, rfl, _, rfl⟩
  refine callEntryR F.slot_set_isdisjoint hT (entryFor_alias (id' := "frozenset.isdisjoint") (b := Builtin.«frozenset.isdisjoint») (by kernel_rfl) rfl (by decide +kernel) (by kernel_rfl)) (F.args_set_isdisjoint_2 _ _) ?_
  unfold Builtin.«frozenset.isdisjoint» oneOther addrOf
  dsimp only [List.isEmpty]
  refine wpAny_bind (wpAny_bind (wpAny_pure (wpAny_pure ?_)))
  rw [if_neg (by simp; exact fun e => hne e.symm)]
  refine wpAny_bind (wpAny_typeOf (s := ⟨h, g, d, t, os⟩) htup.typeIs ?_)
  dsimp only
  rw [if_neg (by decide +kernel)]
  refine wpAny_bind (wpAny_pyIter_tuple (s := ⟨h, g, d, t, os⟩) htup ?_)
  refine wpAny_pure ⟨plainId_quiet (by decide +kernel) _, ?_⟩
  refine codeB (by decide +kernel) (entryFor_of_tree (b := Builtin.«frozenset.isdisjoint.loop») (by kernel_rfl)) ?_
  unfold Builtin.«frozenset.isdisjoint.loop»
  dsimp only
  refine wpAny_bind (wpAny_pyNext_tuple_end (s := ⟨_, g, d, t, os⟩) ok.in1.hd ⟨_, Heap.get?_push_size _ rfl, rfl, rfl⟩ (htup.push _) (i := 0) rfl fun h' hs => ?_)
  refine wpAny_pure ?_
  have I2 := I.push { cls := .type "tuple_iterator", data := .fields #[.ref b, .int 0 0] }
  exact hQ h' _ (Led.extBut (l := []) (fr := f ++ l) I2 hs)

theorem diff_snoc (m ns : List Int) (x : Int) : diff m (ns ++ [x]) = (diff m ns).erase x := by unfold diff; rw [List.foldl_append]; rfl

theorem diffLoop (ok : Ok A (k + 1)) (hL : LstO ol vs) (hi : IntsAre vs ns) (H : Hole lf a) (hal : AllHas lf (al, ol)) {Q : Value → Shared → Prop}
    (hQ : ∀ h' t' o', ISet o' (diff m ns) → Led G (lf o') h' → Q .none ⟨h', g, d, t', os⟩) : ∀ (n i : Nat) (h : Heap) (t : Nat) (o oJ : Obj), i + n = ns.length → ISet o (diff m (ns.take i)) → LIter al i oJ → Led G (lf o ++ [(J, oJ)]) h →
    codeAny (model prog w) A (.builtin "set.difference_update.loop" ⟨[.ref a, .ref J], []⟩) (RetQ Q E) ⟨h, g, d, t, os⟩ := by
  have hlen := hi.length
  intro n
  induction n with
  | zero =>
    intro i h t o oJ e hS hC I
    refine codeB (by decide +kernel) (entryFor_of_tree (b := Builtin.«set.difference_update.loop») (by kernel_rfl)) ?_
    unfold Builtin.«set.difference_update.loop»
    dsimp only
    have : i = vs.length := by omega
    subst this
    refine wpAny_bind ((Cur.list (prog := prog) (w := w) (G := G) J al ol vs hL).done (l := lf o) (fr := []) ok.in1 hC (fun p hp => by rw [List.mem_singleton.mp hp, List.append_nil]; exact hal.mem o) I fun h' t' I' => ?_)
    refine wpAny_pure ?_
    rw [List.append_nil] at I'
    rw [List.take_of_length_le (by omega)] at hS
    exact hQ h' t' o hS I'
  | succ n ih =>
    intro i h t o oJ e hS hC I
    refine codeB (by decide +kernel) (entryFor_of_tree (b := Builtin.«set.difference_update.loop») (by kernel_rfl)) ?_
    unfold Builtin.«set.difference_update.loop»
    dsimp only
    refine wpAny_bind ((Cur.list (prog := prog) (w := w) (G := G) J al ol vs hL).item (l := lf o) (fr := []) ok.in1 (by omega) hC (fun p hp => by rw [List.mem_singleton.mp hp, List.append_nil]; exact hal.mem o) I fun v h' t' o' hv hC' I' => ?_)
    obtain ⟨tv, hx⟩ := intAt hi (i := i) (by omega)
    rw [hx] at hv
    cases hv
    dsimp only
    have H' : Hole (fun o => lf o ++ [(J, o')]) a := fun o1 o2 => (H o1 o2).appl _
    refine wpAny_bind (wpAny_holding (discardS (lf := fun o => lf o ++ [(J, o')]) I' H' hS fun h2 t2 o2 hS2 I2 => ?_))
    refine wpAny_pure ⟨plainId_quiet (by decide +kernel) _, ?_⟩
    refine ih (i + 1) h2 t2 o2 o' (by omega) ?_ hC' I2
    rw [List.take_succ_eq_append_getElem (by omega), diff_snoc]
    exact hS2

theorem anyNo {v : Value} {T : String} {Q : Bool → Shared → Prop} {s : Shared} (hT : s.TypeIs v T) (h1 : isSubtype (.type T) (.type "set") = pure false) (h2 : isSubtype (.type T) (.type "frozenset") = pure false) (hQ : Q false s) :
    wpAny (model prog w) A (isAnySet v) Q E s := by
  unfold isAnySet orM
  refine wpAny_bind (wpAny_isInstance hT h1 ?_)
  exact wpAny_isInstance hT h2 hQ

theorem callDiff (ok : Ok A (k + 2)) (hL : LstO ol vs) (hi : IntsAre vs ns) (H : Hole lf a) (hal : AllHas lf (al, ol)) (hne : al ≠ a) (hS : ISet o m) (I : Led G (lf o) h) (hlt : m.length < 60) {Q : Value → Shared → Prop}
    (hQ : ∀ h' t' o', ISet o' (diff m ns) → Led G (lf o') h' → Q .none ⟨h', g, d, t', os⟩) :
    wpAny (model prog w) A (call (.builtin "set.difference_update") [.ref a, .ref al]) Q E ⟨h, g, d, t, os⟩ := by
  have hT : (⟨h, g, d, t, os⟩ : Shared).TypeIs (.ref a) "set" := (I.setOf (H.mem o) hS (prog := prog) (w := w)).typeIs
  have hTl : (⟨h, g, d, t, os⟩ : Shared).TypeIs (.ref al) "list" := (I.isList (hal.mem o) hL).typeIs
  refine callEntryR F.slot_set_difference_update hT F.entry_set_difference_update (F.args_set_difference_update_2 _ _) ?_
  unfold Builtin.«set.difference_update» manyOthers
  dsimp only
  refine wpAny_bind (wpAny_bind (wpAny_pure (wpAny_pure ?_)))
  dsimp only
  refine wpAny_bind ?_
  rw [List.forIn_cons]
  refine wpAny_bind (wpAny_bind ?_)
  unfold differenceUpdate
  rw [if_neg (by simp; exact hne)]
  refine wpAny_bind (anyNo hTl (by rw [isSubtype_type]; kernel_rfl) (by rw [isSubtype_type]; kernel_rfl) ?_)
  rw [if_neg Bool.false_ne_true]
  refine wpAny_bind (wpAny_pyIter_list (s := ⟨h, g, d, t, os⟩) (I.isList (hal.mem o) hL) ?_)
  have I2 := I.push { cls := .type "list_iterator", data := .fields #[.ref al, .int 0 0] }
  refine wpAny_bind (wpAny_runValue (diffLoop ok.in1 hL hi H hal (fun h' t' o' hS' I' => ?_) ns.length 0 _ _ o { cls := .type "list_iterator", data := .fields #[.ref al, .int 0 0] } (by omega) hS ⟨rfl, rfl⟩ (I2.perm (List.perm_append_singleton _ _))))
  refine tidyS I' H hS' (by have := diff_len ns m; omega) fun h3 o3 hS3 I3 => ?_
  refine wpAny_pure ?_
  simp only [List.forIn_nil]
  refine wpAny_pure (wpAny_pure ?_)
  exact hQ h3 t' o3 hS3 I3
end
end Mine
namespace Mine

def Seg1 (M : Model) (A : Around) (P : End → Shared → Prop) (c : Code) (t : Sem Fin) (fs : List Frame) (s : Shared) : Prop :=
  ∀ Γ p, Γ.code = c → Γ.Woken A → ∃ e s', Runs M Γ p t fs s e s' ∧ e.quiet = true ∧ P e s'

section
variable {M : Model} {A : Around} {P : End → Shared → Prop} {c : Code} {fs : List Frame} {s : Shared} {env : Env}
  {K : Flow → Sem Fin} {H : Value → Sem Fin} {gd : Bool → Bool} {lv : List Value → List Value}

theorem s1_wrap {α : Type} {m : Sem α} {K : α → Sem Fin} {H : Value → Sem Fin}
    (h : wpAny M (A.over c fs) m (fun a s' => Seg1 M A P c (K a) fs s') (fun x s' => Seg1 M A P c (H x) fs s') s) :
    Seg1 M A P c (m.wrap K H gd lv) fs s := by
  rintro Γ p rfl hΓ
  exact runs_wrap_of_wp K H gd lv m (Φ := fun e s' => e.quiet = true ∧ P e s') (h (Γ.over fs) p (hΓ.over fs)) (fun a p' s' h' => h' Γ p' rfl hΓ) (fun x p' s' h' => h' Γ p' rfl hΓ)

theorem s1_bind {α : Type} {m : Sem α} {K : α → Sem Fin}
    (h : wpAny M (A.over c fs) m (fun a s' => Seg1 M A P c (K a) fs s') (fun x s' => Seg1 M A P c (.raise x) fs s') s) :
    Seg1 M A P c (m >>= K) fs s := by
  rw [Sem.bind_eq_wrap']; exact s1_wrap h

theorem s1_at {p' : Pos} {k : Unit → Sem Fin} (h : Seg1 M A P c (k ()) fs s) : Seg1 M A P c (.at p' k) fs s :=
  s1_wrap (m := standAt p') (K := k) (H := .raise) (gd := id) (lv := id) (wpAny_standAt h)
theorem s1_point {l : List Value} {k : Unit → Sem Fin} (h : Seg1 M A P c (k ()) fs s) : Seg1 M A P c (.point l k) fs s :=
  s1_wrap (m := point) (K := k) (H := .raise) (gd := id) (lv := fun _ => l) (wpAny_point h)
theorem s1_rule {tag : String} {k : Unit → Sem Fin} (h : Seg1 M A P c (k ()) fs s) : Seg1 M A P c (.rule tag k) fs s :=
  s1_wrap (m := rule tag) (K := k) (H := .raise) (gd := id) (lv := id) (wpAny_rule h)

theorem s1_call {c' : Code} {h g l} {k : Result → Sem Fin} (hc : ∀ p, Seg1 M A P c' (M.den c') (.ret k h g l c p [] :: fs) s) :
    Seg1 M A P c (.call c' h g l k) fs s := by
  rintro Γ p rfl hΓ
  obtain ⟨e, s', hr, he⟩ := hc p (Γ.goto c') p rfl (hΓ.goto c')
  exact ⟨e, s', runs_call_seg hr, he⟩

theorem s1_leaf {k h g l c₁ p₁ kp} (r : Result) (hk : Seg1 M A P c₁ (k r) fs s) : Seg1 M A P c (leafOf r) (.ret k h g l c₁ p₁ kp :: fs) s := by
  rintro Γ p rfl hΓ
  obtain ⟨e, s', hr, he⟩ := hk (Γ.goto c₁) p₁ rfl (hΓ.goto c₁)
  exact ⟨e, s', Runs.pop r hr, he⟩

theorem s1_again {c' : Code} (hq : c'.quiet = true) (hc : Seg1 M A P c' (M.den c') fs s) : Seg1 M A P c (.pure (.again c')) fs s := by
  rintro Γ p rfl hΓ
  obtain ⟨e, s', hr, he⟩ := hc (Γ.goto c') p rfl (hΓ.goto c')
  exact ⟨e, s', Runs.head (c₁ := c') (fun _ _ x => .again hq x) hr, he⟩

theorem s1_end (r : Result) (h : P (.ret r) s) : Seg1 M A P c (leafOf r) [] s := by
  rintro Γ p rfl _
  exact ⟨.ret r, s, Runs.leaf r, rfl, h⟩

theorem s1_yield {v g l} {k : Resume → Sem Fin} (hfs : splitAtGen fs = none) (hg : g = false) (hfg : fs.any Frame.guarded = false)
    (h : ∀ p, P (.susp v g l k c p fs) s) : Seg1 M A P c (.yield v g l k) fs s := by
  rintro Γ p rfl _
  exact ⟨_, s, Runs.yield' fs hfs, by simp [End.quiet, hg, hfg], h p⟩

theorem s1_nil (h : Seg1 M A P c (K .next) fs s) : Seg1 M A P c ((execs [] env).wrap K H gd lv) fs s := h

theorem s1_cons {st : Stmt} {rest : List Stmt}
    (h : Seg1 M A P c ((exec st env).wrap (fun f => match f with | .next => (execs rest env).wrap K H gd lv | f => K f) H gd lv) fs s) :
    Seg1 M A P c ((execs (st :: rest) env).wrap K H gd lv) fs s := by rw [execs_cons_wrap]; exact h

/-- a statement without a yield -/
theorem s1_plain {st : Stmt} {rest : List Stmt}
    (h : wpAny M (A.over c fs) (exec st env) (fun fl s' => Seg1 M A P c (match fl with | .next => (execs rest env).wrap K H gd lv | f => K f) fs s') (fun x s' => Seg1 M A P c (H x) fs s') s) :
    Seg1 M A P c ((execs (st :: rest) env).wrap K H gd lv) fs s := s1_cons (s1_wrap h)

theorem s1_Yield {e : Expr} {rest : List Stmt} {ypos pos : Pos} (hfs : splitAtGen fs = none) (hgd : gd false = false) (hfg : fs.any Frame.guarded = false)
    (h : wpAny M (A.over c fs) (eval e env) (fun v s' => ∀ (l : List Value) (k : Resume → Sem Fin) (p : Pos),
        (∀ A' P' x s'', (∀ a, x ≠ .ref a) → Seg1 M A' P' c ((execs rest env).wrap K H gd lv) fs s'' → Seg1 M A' P' c (k (.send x)) fs s'') → P (.susp v false l k c p fs) s')
      (fun x s' => Seg1 M A P c (H x) fs s') s) (hco : env.scope.isCoroutine = false := by rfl) (hi : interactive env = false := by rfl) :
    Seg1 M A P c ((execs (.Expr (.Yield (some e) ypos) pos :: rest) env).wrap K H gd lv) fs s := by
  refine s1_cons ?_
  rw [exec_Expr env _ pos hi rfl]
  show Seg1 M A P c (.at pos fun _ => ((eval e env >>= fun v => (standAt ypos >>= fun _ => yieldOut env v)) >>= fun x =>
    dropValue (.Yield (some e) ypos) pos x).wrap _ H gd lv) fs s
  have hy : ∀ v, yieldOut env v = yieldValue v := fun v => by simp only [yieldOut, hco, Bool.false_eq_true, if_false]
  simp only [hy]
  refine s1_at ?_
  rw [Sem.bind_eq_wrap', Sem.bind_eq_wrap', Sem.wrap_wrap, Sem.wrap_wrap]
  refine s1_wrap (wpAny_mono h (fun v s' h' => ?_) fun _ _ x => x)
  refine s1_at (s1_yield hfs hgd hfg fun p => ?_)
  show P (.susp v (gd false) _ _ c p fs) s'
  rw [hgd]
  refine h' _ _ p fun A' P' x s'' hnr hx => ?_
  cases x <;> first | exact hx | exact absurd rfl (hnr _)

theorem s1_While {test : Expr} {body orelse : List Stmt} {rest : List Stmt} {pos : Pos}
    (h : ∀ p, Seg1 M A P (.whileLoop test body orelse env) (M.den (.whileLoop test body orelse env))
      (.ret (fun r => ((match r with | .ok f => (.pure f : Sem Flow) | .error e => .raise e).onRaise fun (x : Value) => do
        if (← field x 1) == Value.none then unsupported "frame.own-activation:exception-without-traceback"
        setFlight x env.frame).wrap (fun (f : Flow) => match f with | .next => (execs rest env).wrap K H gd lv | f => K f) H gd lv) none (gd false) (lv []) c p [] :: fs) s) :
    Seg1 M A P c ((execs (.While test body orelse pos :: rest) env).wrap K H gd lv) fs s :=
  s1_cons (s1_at (s1_call h))
end

section
variable {prog : Program} {w : World} {A : Around} {P : End → Shared → Prop} {fs : List Frame} {s : Shared} {env : Env}

/-- what a loop's turn does with an exception -/
def noted (env : Env) (e : Value) : Sem Fin := (do noteFrame e env; theTreesLotGoes e : Sem Unit).wrap (fun _ => .raise e) .raise id id

theorem s1_whileLoop {test : Expr} {body orelse : List Stmt}
    (h : wpAny (model prog w) (A.over (.whileLoop test body orelse env) fs) (isTrue test env (eval test env)) (fun b s' =>
        if b = true then
          Seg1 (model prog w) A P (.whileLoop test body orelse env) ((execs body env).wrap (fun f => match f with
            | .next | .cont => .pure (.again (.whileLoop test body orelse env))
            | .brk => .pure (.done .next)
            | .ret v => .pure (.done (.ret v))) (noted env) id id) fs s'
        else Seg1 (model prog w) A P (.whileLoop test body orelse env) ((execs orelse env).wrap (fun f => .pure (.done f)) (noted env) id id) fs s')
      (fun x s' => Seg1 (model prog w) A P (.whileLoop test body orelse env) (noted env x) fs s') s) :
    Seg1 (model prog w) A P (.whileLoop test body orelse env) ((model prog w).den (.whileLoop test body orelse env)) fs s := by
  unfold noted at h
  show Seg1 _ A P _ ((whileTurn test body orelse env).onRaise (fun x => do noteFrame x env; theTreesLotGoes x)) fs s
  unfold whileTurn
  rw [Sem.onRaise_eq_wrap, Sem.bind_eq_wrap', Sem.wrap_wrap]
  refine s1_wrap (wpAny_mono h (fun b s' hb => ?_) fun x s' hx => ?_)
  · cases b with
    | true =>
      rw [if_pos rfl] at hb
      show Seg1 _ A P _ (Sem.wrap _ _ _ _ (if true = true then _ else _)) fs s'
      rw [if_pos rfl, Sem.bind_eq_wrap', Sem.wrap_wrap]
      rw [Sem.wrap_congr (execs body env) _ _ (K' := fun f => match f with
            | .next | .cont => .pure (.again (.whileLoop test body orelse env))
            | .brk => .pure (.done .next)
            | .ret v => .pure (.done (.ret v))) (H' := (fun e => (do noteFrame e env; theTreesLotGoes e : Sem Unit).wrap (fun _ => .raise e) .raise id id))
        (fun f => by cases f <;> rfl)
        (fun e => by first | exact Sem.bind_eq_wrap _ _ | (show (do noteFrame e env; theTreesLotGoes e : Sem Unit).bind (fun _ => .raise e) = _; rw [Sem.bind_eq_wrap]))]
      exact hb
    | false =>
      rw [if_neg Bool.false_ne_true] at hb
      show Seg1 _ A P _ (Sem.wrap _ _ _ _ (if false = true then _ else _)) fs s'
      rw [if_neg Bool.false_ne_true, Sem.bind_eq_wrap', Sem.wrap_wrap]
      rw [Sem.wrap_congr (execs orelse env) _ _ (K' := fun f => (.pure (.done f) : Sem Fin)) (H' := (fun e => (do noteFrame e env; theTreesLotGoes e : Sem Unit).wrap (fun _ => .raise e) .raise id id))
        (fun f => by rfl)
        (fun e => by first | exact Sem.bind_eq_wrap _ _ | (show (do noteFrame e env; theTreesLotGoes e : Sem Unit).bind (fun _ => .raise e) = _; rw [Sem.bind_eq_wrap]))]
      exact hb
  · first
      | (rw [← Sem.bind_eq_wrap] at hx; exact hx)
      | (show Seg1 _ A P _ ((do noteFrame x env; theTreesLotGoes x : Sem Unit).bind fun _ => .raise x) fs s'; rw [Sem.bind_eq_wrap]; exact hx)

theorem s1_func {body : List Stmt}
    (h : Seg1 (model prog w) A P (.func body env) ((execs body env).wrap (fun f => .pure (.done (.ret (match f with | .ret v => v | _ => .none))))
      (fun e => (leaving env e).wrap (fun _ => .raise e) .raise id id) id id) fs s) :
    Seg1 (model prog w) A P (.func body env) ((model prog w).den (.func body env)) fs s := by
  show Seg1 _ A P _ (.point [] fun _ => ((execs body env).onRaise (leaving env)) >>= _) fs s
  refine s1_point ?_
  rw [Sem.onRaise_eq_wrap, Sem.bind_eq_wrap', Sem.wrap_wrap]
  rw [Sem.wrap_congr (execs body env) _ _ (K' := fun f => .pure (.done (.ret (match f with | .ret v => v | _ => .none))))
    (H' := fun e => (leaving env e).wrap (fun _ => .raise e) .raise id id) (fun f => by cases f <;> rfl)
    (fun e => by rw [Sem.bind_eq_wrap, Sem.wrap_wrap]; rfl)]
  exact h
end

/-- how a generator's state goes on when it is woken -/
def Goes1 (M : Model) (A : Around) (P : End → Shared → Prop) (gs : GenState) (r : Resume) (s : Shared) : Prop :=
  match gs with
  | .fresh c => r = .send .none ∧ Seg1 M A P c (M.den c) [] s
  | .suspended k _ c _ fs _ => Seg1 M A P c (k r) fs s
  | _ => False

theorem wpAny_resume1 {M : Model} {A : Around} {P : End → Shared → Prop} {E : Value → Shared → Prop} {s : Shared} {g : Nat} {gs : GenState}
    {r : Resume} {l : List Value} {α : Type} {k : GenResult → Sem α} {Q : α → Shared → Prop} (hg : s.gens[g]? = some gs)
    (hgo : Goes1 M A P gs r (s.setGen g .running))
    (hP : ∀ e s₁, P e s₁ → wpAny M A (k e.result) Q E (s₁.setGen g e.genState)) :
    wpAny M A (.resume g r l k) Q E s := by
  intro Γ p hΓ
  rw [Sem.wp_resume]
  have hB : ∀ c, (Γ.wake c p).Woken A := fun c => hΓ.wake c p
  cases gs with
  | fresh c =>
    obtain ⟨rfl, hs⟩ := hgo
    obtain ⟨e₁, s₁, hr, hq, he⟩ := hs (Γ.wake c p) p rfl (hB c)
    exact ⟨_, _, by unfold Wakes; rw [hg]; exact ⟨e₁, s₁, hr, hq, rfl, rfl⟩, hP e₁ s₁ he Γ p hΓ⟩
  | suspended k₀ l₀ c₀ p₀ fs₀ cl =>
    obtain ⟨e₁, s₁, hr, hq, he⟩ := hgo (Γ.wake c₀ p) p₀ rfl (hB c₀)
    exact ⟨_, _, by unfold Wakes; rw [hg]; exact ⟨e₁, s₁, hr, hq, rfl, rfl⟩, hP e₁ s₁ he Γ p hΓ⟩
  | running => exact hgo.elim
  | finished => exact hgo.elim
end Mine
namespace Mine

/-! the ledger of generators -/
structure GLed (own : List (Nat × GenState)) (g : Array GenState) : Prop where
  pt : ∀ p ∈ own, g[p.1]? = some p.2
  nd : (own.map Prod.fst).Nodup
  rest : ∀ i x, g[i]? = some x → x.bare = true ∨ i ∈ own.map Prod.fst

namespace GLed
variable {own own' : List (Nat × GenState)} {g : Array GenState} {i : Nat} {x y : GenState}
theorem perm (I : GLed own g) (p : own'.Perm own) : GLed own' g :=
  ⟨fun q hq => I.pt q (p.mem_iff.mp hq), (p.map Prod.fst).nodup_iff.mpr I.nd, fun i x h => (I.rest i x h).imp id fun hm => (p.map Prod.fst).mem_iff.mpr hm⟩
theorem get (I : GLed own g) (hm : (i, x) ∈ own) : g[i]? = some x := I.pt _ hm
theorem upd (I : GLed ((i, x) :: own) g) : GLed ((i, y) :: own) (g.setIfInBounds i y) := by
  have nd := I.nd
  rw [List.map_cons, List.nodup_cons] at nd
  have hi : i < g.size := by
    have := I.pt _ List.mem_cons_self
    exact (Array.getElem?_eq_some_iff.mp this).1
  refine ⟨fun p hp => ?_, I.nd, fun j z h => ?_⟩
  · rcases List.mem_cons.mp hp with rfl | hp
    · simp [hi]
    · have hne : i ≠ p.1 := fun e => nd.1 (List.mem_map.mpr ⟨p, hp, e.symm⟩)
      rw [Array.getElem?_setIfInBounds_ne hne]
      exact I.pt p (List.mem_cons_of_mem _ hp)
  · by_cases e : i = j
    · exact .inr (by rw [List.map_cons, e]; exact List.mem_cons_self)
    · rw [Array.getElem?_setIfInBounds_ne e] at h
      exact I.rest j z h
theorem push (I : GLed own g) (x : GenState) : GLed ((g.size, x) :: own) (g.push x) := by
  have hlt : ∀ p ∈ own, p.1 < g.size := fun p hp => (Array.getElem?_eq_some_iff.mp (I.pt p hp)).1
  refine ⟨fun p hp => ?_, ?_, fun j z h => ?_⟩
  · rcases List.mem_cons.mp hp with rfl | hp
    · simp
    · have := hlt p hp
      rw [Array.getElem?_push_lt this, ← Array.getElem?_eq_getElem this]; exact I.pt p hp
  · rw [List.map_cons, List.nodup_cons]
    refine ⟨fun hm => ?_, I.nd⟩
    obtain ⟨p, hp, e⟩ := List.mem_map.mp hm
    have := hlt p hp
    omega
  · by_cases e : j = g.size
    · exact .inr (by rw [e]; exact List.mem_cons_self)
    · rw [Array.getElem?_push, if_neg e] at h
      exact (I.rest j z h).imp id fun hm => List.mem_cons_of_mem _ hm
theorem drop (I : GLed ((i, x) :: own) g) (hx : x.bare = true) : GLed own g := by
  refine ⟨fun p hp => I.pt p (List.mem_cons_of_mem _ hp), (List.nodup_cons.mp I.nd).2, fun j z h => ?_⟩
  rcases I.rest j z h with h1 | h1
  · exact .inl h1
  · rcases List.mem_cons.mp h1 with e | h1
    · have := I.pt _ List.mem_cons_self
      subst e
      rw [this] at h; cases h; exact .inl hx
    · exact .inr h1
theorem all (I : GLed [] g) : AllBare g := fun y hy => by
  obtain ⟨i, hi, rfl⟩ := Array.mem_iff_getElem.mp hy
  exact (I.rest i _ (Array.getElem?_eq_getElem hi)).elim id fun h => by cases h
theorem of_all (I : AllBare g) : GLed [] g := ⟨fun p hp => (by cases hp), List.nodup_nil, fun i x h => .inl (I x (Array.mem_of_getElem? h))⟩
end GLed

/-! what a generator gives -/
def Yields {X : Type} (prog : Program) (w : World) (G : Heap) (k : Nat) (os : OsState) (Out : X → Value → List (Addr × Obj) → Prop) (Fi : Result → List (Addr × Obj) → Prop) : List X → GenState → List (Addr × Obj) → List (Nat × GenState) → Prop
  | [], gs, lg, own => ∀ (A : Around) (lc : List (Addr × Obj)) (oc : List (Nat × GenState)) (h : Heap) (g : Array GenState) (d : Drawn) (t : Nat), Ok A k → Led G (lc ++ lg) h → GLed (oc ++ own) g →
      Goes1 (model prog w) A (fun e s' => ∃ r lv h' g' d' t', e = .ret r ∧ Fi r lv ∧ s' = ⟨h', g', d', t', os⟩ ∧ Led G (lc ++ lv) h' ∧ GLed oc g') gs (.send .none) ⟨h, g, d, t, os⟩
  | x :: xs, gs, lg, own => ∀ (A : Around) (lc : List (Addr × Obj)) (oc : List (Nat × GenState)) (h : Heap) (g : Array GenState) (d : Drawn) (t : Nat), Ok A k → Led G (lc ++ lg) h → GLed (oc ++ own) g →
      Goes1 (model prog w) A (fun e s' => ∃ v gs' lg' own' lv h' g' d' t', e.result = .yielded v ∧ e.genState = gs' ∧ Out x v lv ∧ s' = ⟨h', g', d', t', os⟩ ∧ Led G (lc ++ (lv ++ lg')) h' ∧ GLed (oc ++ own') g' ∧
        Yields prog w G k os Out Fi xs gs' lg' own') gs (.send .none) ⟨h, g, d, t, os⟩

def GenO (gi : Nat) (o : Obj) : Prop := ∃ nm qn, o.cls = .type "generator" ∧ o.data = .fields #[.int gi 0, nm, qn] ∧ o.slots = #[]

theorem perm_own {α : Type} (x : α) (a b : List α) : (a ++ [x] ++ b).Perm (a ++ x :: b) := by rw [List.append_assoc]; rfl
theorem perm_mid {α : Type} (x : α) (a b : List α) : (x :: (a ++ b)).Perm (a ++ x :: b) := List.perm_middle.symm
theorem perm_mid' {α : Type} (x : α) (a b : List α) : (a ++ x :: b).Perm (x :: (a ++ b)) := List.perm_middle
theorem perm_mid2 {α : Type} (x : α) (a b : List α) : ((a ++ [x]) ++ b).Perm (x :: (a ++ b)) := by rw [List.append_assoc]; exact List.perm_middle

section
variable {X : Type} {prog : Program} {w : World} {A : Around} {E : Value → Shared → Prop} {h G : Heap} {g : Array GenState} {d : Drawn} {t : Nat} {os : OsState}
  {lc lg : List (Addr × Obj)} {a : Addr} {o : Obj} {k gi : Nat} {gs : GenState} {oc own : List (Nat × GenState)} {x : X} {xs : List X}
  {Out : X → Value → List (Addr × Obj) → Prop} {Fi : Result → List (Addr × Obj) → Prop} {mg mb : Str → Option Value}

theorem genIs (I : Led G lg h) (hm : (a, o) ∈ lg) (hG : GenO gi o) : h.IsGen a gi := let ⟨nm, qn, hc, hd, hs⟩ := hG; ⟨o, nm, qn, I.get hm, hc, hd, hs⟩

theorem iterGen {Q : Value → Shared → Prop} (I : Led G lg h) (hm : (a, o) ∈ lg) (hG : GenO gi o) (hQ : Q (.ref a) ⟨h, g, d, t, os⟩) : wpAny (model prog w) A (pyIter (.ref a)) Q E ⟨h, g, d, t, os⟩ :=
  wpAny_pyIter_gen (s := ⟨h, g, d, t, os⟩) (genIs I hm hG) hQ

theorem nextGen {P : End → Shared → Prop} {Q : Option Value → Shared → Prop} (ok : Ok A (k + 1)) (gd : Gd G mg mb) (I : Led G lg h) (hm : (a, o) ∈ lg) (hG : GenO gi o) (hgs : g[gi]? = some gs) 
    (hgo : Goes1 (model prog w) A.in1 P gs (.send .none) ⟨h, g.setIfInBounds gi .running, d, t, os⟩)
    (hP : ∀ e s₁, P e s₁ → (∃ v, e.result = .yielded v ∧ Q (some v) (s₁.setGen gi e.genState)) ∨
      (e = .ret (.ok (.ret .none)) ∧ ∀ h', (∀ b o, s₁.heap.get? b = some o → h'.get? b = some o) → Q none { s₁.setGen gi .finished with heap := h' })) :
    wpAny (model prog w) A (pyNext (.ref a)) Q E ⟨h, g, d, t, os⟩ := by
  have hg := genIs I hm hG
  have hT : (⟨h, g, d, t, os⟩ : Shared).TypeIs (.ref a) "generator" := Heap.IsGen.typeIs (s := ⟨h, g, d, t, os⟩) hg
  unfold pyNext
  refine wpAny_bind (wpAny_attempt (wpAny_callSpecial?_slot (name := Str.ofString "__next__") hT slot_gen_next
    (wpAny_call_entry slot_gen_next hT entry_gen_next ?_ (args_gen_next _))))
  show wpAny _ _ (Builtin.Generator.genWake (.ref a) (.send .none)) _ _ _
  unfold Builtin.Generator.genWake
  refine wpAny_bind (wpAny_holding (wpAny_genNumber (s := ⟨h, g, d, t, os⟩) hg (wpAny_bind (wpAny_genState (s := ⟨h, g, d, t, os⟩) hgs ?_))))
  cases gs with
  | running => exact hgo.elim
  | finished => exact hgo.elim
  | _ =>
    refine wpAny_bind (wpAny_roomToWake (gd.lim.keeps I.gr) ok.room ?_)
    show wpAny _ _ (.resume gi (.send .none) [] _) _ _ _
    refine wpAny_resume1 hgs hgo fun e s₁ he => ?_
    rcases hP e s₁ he with ⟨v, hv, hq⟩ | ⟨rfl, hq⟩
    · rw [hv]
      exact wpAny_pure ⟨v, rfl, wpAny_pure hq⟩
    · show wpAny _ _ (newExc (.type "StopIteration") [] >>= _) _ _ _
      refine wpAny_bind ?_
      simp only [newExc, newTuple]
      refine wpAny_bind (wpAny_newObj_type ?_ (by size_fits))
      refine wpAny_bind (m := firstArgMember _ _) (wpAny_of_eq (a := Value.none) (by first | rfl | (simp only [firstArgMember]; rfl)) ?_)
      refine wpAny_newObj_type ?_ (by size_fits)
      simp only [raiseNew]
      refine wpAny_bind (wpAny_bind (wpAny_handled ?_))
      rw [show A.in1.handled = none from ok.hd]
      refine wpAny_throw ?_
      refine wpAny_bind (wpAny_isInstance (T := "StopIteration") (b := true) ⟨_, Heap.get?_push_size _ rfl, rfl⟩ isSubtype_stop ?_)
      exact wpAny_pure (hq _ fun b o hb => Heap.get?_push_of_some _ (Heap.get?_push_of_some _ hb))

theorem nextItem {Q : Option Value → Shared → Prop} (ok : Ok A (k + 1)) (gd : Gd G mg mb) (I : Led G (lc ++ lg) h) (hm : (a, o) ∈ lc) (hG : GenO gi o) (Gi : GLed ((gi, gs) :: (oc ++ own)) g)
    (Y : Yields prog w G k os Out Fi (x :: xs) gs lg own)
    (hQ : ∀ v gs' lg' own' lv h' g' d' t', Out x v lv → Led G (lc ++ (lv ++ lg')) h' → GLed ((gi, gs') :: (oc ++ own')) g' → Yields prog w G k os Out Fi xs gs' lg' own' → Q (some v) ⟨h', g', d', t', os⟩) :
    wpAny (model prog w) A (pyNext (.ref a)) Q E ⟨h, g, d, t, os⟩ := by
  have G2 : GLed ((gi, .running) :: (oc ++ own)) (g.setIfInBounds gi .running) := Gi.upd
  refine nextGen ok gd I (List.mem_append_left _ hm) hG (Gi.get List.mem_cons_self) (Y A.in1 lc (oc ++ [(gi, .running)]) h _ d t ok.in1 I (G2.perm (perm_mid2 ..))) fun e s₁ he => ?_
  obtain ⟨v, gs', lg', own', lv, h', g', d', t', hr, hgs, ho, rfl, I', G', Y'⟩ := he
  refine .inl ⟨v, hr, ?_⟩
  rw [hgs]
  exact hQ v gs' lg' own' lv h' _ d' t' ho I' (GLed.upd (G'.perm (perm_mid2 ..).symm)) Y'

theorem nextDone {Q : Option Value → Shared → Prop} (ok : Ok A (k + 1)) (gd : Gd G mg mb) (I : Led G (lc ++ lg) h) (hm : (a, o) ∈ lc) (hG : GenO gi o) (Gi : GLed ((gi, gs) :: (oc ++ own)) g)
    (Y : Yields prog w G k os Out Fi [] gs lg own) (hF : ∀ r lv, Fi r lv → r = .ok (.ret .none))
    (hQ : ∀ lv h' g' d' t', Fi (.ok (.ret .none)) lv → Led G (lc ++ lv) h' → GLed oc g' → Q none ⟨h', g', d', t', os⟩) :
    wpAny (model prog w) A (pyNext (.ref a)) Q E ⟨h, g, d, t, os⟩ := by
  have G2 : GLed ((gi, .running) :: (oc ++ own)) (g.setIfInBounds gi .running) := Gi.upd
  refine nextGen ok gd I (List.mem_append_left _ hm) hG (Gi.get List.mem_cons_self) (Y A.in1 lc (oc ++ [(gi, .running)]) h _ d t ok.in1 I (G2.perm (perm_mid2 ..))) fun e s₁ he => ?_
  obtain ⟨r, lv, h', g', d', t', rfl, hf, rfl, I', G'⟩ := he
  have := hF r lv hf
  subst this
  refine .inr ⟨rfl, fun h2 hk => ?_⟩
  have G3 : GLed ((gi, .finished) :: oc) (g'.setIfInBounds gi .finished) := GLed.upd (G'.perm (List.perm_append_singleton _ _).symm)
  exact hQ lv h2 _ d' t' hf (I'.keeps hk) (G3.drop rfl)

end
end Mine
namespace Mine

def FdIs (G : Heap) (f : Addr) (fd : FuncData) : Prop := ∃ o, G.get? f = some o ∧ o.data = .func fd ∧ G.CodeRec fd.code fd.qualname ∧ fd.globals = mainGlobals ∧ fd.builtins = builtinsNs ∧ fd.closure = []
theorem FnIs.fd {G : Heap} {f : Addr} {name : Str} {params : Arguments} {body : List Stmt} {sc : Scope} (x : FnIs G f name params body sc) : ∃ pm cd doc, FdIs G f (docDef name params body sc pm cd doc) :=
  let ⟨o, pm, cd, doc, ho, hd, hc⟩ := x; ⟨pm, cd, doc, o, ho, hd, hc, rfl, rfl, rfl⟩

section
variable {prog : Program} {w : World} {A : Around} {E : Value → Shared → Prop} {h G : Heap} {g : Array GenState} {d : Drawn} {t : Nat} {os : OsState}
  {env : Env} {fo l lg : List (Addr × Obj)} {vars vars' : List (Str × Option Value)} {gl : List Str} {mg mb : Str → Option Value} {x : Str} {v : Value} {pos : Pos} {k : Nat} {oc : List (Nat × GenState)}

theorem callGen {fd : FuncData} {body : List Stmt} {f : Addr} {vals : List Value} {binds : List (Str × Value)} {Q : Value → Shared → Prop} (bs others gl : List Str)
    (ok : Ok A (k + 1)) (gd : Gd G mg mb) (I : Led G l h) (Gi : GLed oc g) (hf : FdIs G f fd) (hbody : fd.body = .stmts body)
    (hb : ∀ E', wpAny (model prog w) A.in1 (bindArgs fd ⟨vals, []⟩) (fun b s' => b = binds ∧ s' = ⟨h, g, d, t, os⟩) E' ⟨h, g, d, t, os⟩) (hgen : fd.scope.isGenerator = true) (look : fnLook fd.scope bs others gl = true) (hbs : binds.map Prod.fst = bs)
    (hQ : ∀ env fo a o h' t', env.scope = fd.scope → GenO g.size o → Led G ((a, o) :: (fo ++ l)) h' → Frm env fo (varsOf binds others) → Gls env gl → GLed ((g.size, .fresh (.func body env)) :: oc) (g.push (.fresh (.func body env))) →
      Q (.ref a) ⟨h', g.push (.fresh (.func body env)), d, t', os⟩) :
    wpAny (model prog w) A (call (.ref f) vals) Q E ⟨h, g, d, t, os⟩ := by
  obtain ⟨o, ho, hd, hcd, hgl0, hbi, hclo⟩ := hf
  subst hbs
  have look' := look
  simp only [fnLook, Bool.and_eq_true, decide_eq_true_eq, beq_iff_eq, Bool.not_eq_true'] at look'
  obtain ⟨⟨⟨⟨⟨hk, hco⟩, hnd⟩, hnd2⟩, hall⟩, hgl⟩ := look'
  refine wpAny_call (codeAny_call_generator (body := body) ok.room (I.gr _ _ ho) hd hco hgen hbody (hcd.keeps I.gr) ?_)
  refine wpAny_mono (hb _) (fun b s' hbs => ?_) fun _ _ x => x
  obtain ⟨rfl, rfl⟩ := hbs
  rw [hclo]
  refine wpAny_newFunctionEnv_cells hk (fun y hy => ?_) fun env he s₁ x => ?_
  · have := List.all_eq_true.mp hall y.1 (List.mem_append_left _ (List.mem_map.mpr ⟨y, hy, rfl⟩))
    rcases Bool.or_eq_true_iff.mp this with q | q
    · have q' : fd.scope.names.lookup y.1 = some .local := by simpa using q
      exact .inl q'
    · have q' : fd.scope.names.lookup y.1 = some .cell := by simpa using q
      obtain ⟨c, hc⟩ := cell_some hnd (n := (⟨h, g, d, t, os⟩ : Shared).heap.objs.size + 1) q'
      exact .inr ⟨q', by rw [hc]; rfl⟩
  · subst he
    obtain ⟨fo, hI, F, hG⟩ := frm_of (gl := gl) (others := others) (s := ⟨h, g, d, t, os⟩) I x (n := h.objs.size + 1) rfl look hgl0 hbi
    obtain ⟨h', tk, rfl⟩ := x.toInCall.same
    refine ⟨gd.lim.keeps hI.gr, ?_⟩
    exact hQ _ fo _ _ _ _ rfl ⟨_, _, rfl, rfl, rfl⟩ (hI.push _) F hG (Gi.push _)
end
end Mine
namespace Mine

inductive Outs {X : Type} (Out : X → Value → List (Addr × Obj) → Prop) : List X → List Value → List (Addr × Obj) → Prop where
  | nil : Outs Out [] [] []
  | snoc {xs : List X} {vs : List Value} {L lv : List (Addr × Obj)} {x : X} {v : Value} : Outs Out xs vs L → Out x v lv → Outs Out (xs ++ [x]) (vs ++ [v]) (L ++ lv)
theorem Outs.length {X : Type} {Out : X → Value → List (Addr × Obj) → Prop} {xs : List X} {vs : List Value} {L : List (Addr × Obj)} (o : Outs Out xs vs L) : vs.length = xs.length := by
  induction o with
  | nil => rfl
  | snoc _ _ ih => simp [ih]

section
variable {X : Type} {prog : Program} {w : World} {A : Around} {E : Value → Shared → Prop} {h G : Heap} {g : Array GenState} {d : Drawn} {t : Nat} {os : OsState}
  {lc lg L : List (Addr × Obj)} {a S : Addr} {o oS : Obj} {k gi : Nat} {gs : GenState} {oc own : List (Nat × GenState)} {x : X} {xs ys : List X} {vs : List Value}
  {Out : X → Value → List (Addr × Obj) → Prop} {Fi : Result → List (Addr × Obj) → Prop} {mg mb : Str → Option Value}

theorem LstO.push {o : Obj} {vs : List Value} {v : Value} (x : LstO o vs) (hb : vs.length + 1 ≤ 2 * big) : LstO (Obj.mapSeq (·.push v) o) (vs ++ [v]) := by
  obtain ⟨⟨n, rfl⟩, _⟩ := x
  refine ⟨⟨n + 1, ?_⟩, by simpa using hb⟩
  simp [Obj.mapSeq, PySem.listOf]

theorem pushL {lf : Obj → List (Addr × Obj)} {v : Value} {Q : Unit → Shared → Prop} (I : Led G (lf oS) h) (H : Hole lf S) (hL : LstO oS vs) (hb : vs.length + 1 ≤ 2 * big)
    (hQ : ∀ h' o', LstO o' (vs ++ [v]) → Led G (lf o') h' → Q () ⟨h', g, d, t, os⟩) : wpAny (model prog w) A (updateSeq S (·.push v)) Q E ⟨h, g, d, t, os⟩ := by
  have ho : (⟨h, g, d, t, os⟩ : Shared).heap.get? S = some oS := I.get (H.mem oS)
  obtain ⟨⟨n, e⟩, hl⟩ := id hL
  have hz := bigs
  refine wpAny_updateSeq ho (xs := vs.toArray) (n := n) (by rw [e] <;> rfl) (hQ _ _ (hL.push hb) (I.hole H (Heap.SameBut.update h S _) (Heap.get?_update_self _ ho (by rw [e] <;> rfl)))) (by simp; omega) (by simp; omega)

theorem extendGen (ok : Ok A (k + 2)) (gd : Gd G mg mb) (hG : GenO gi o) (hF : ∀ r lv, Fi r lv → r = .ok (.ret .none)) {res : Value} {Q : Value → Shared → Prop} (hm : (a, o) ∈ lc)
    (hQ : ∀ vs L lv oS h' g' d' t', Outs Out (ys ++ xs) vs L → LstO oS vs → Fi (.ok (.ret .none)) lv → Led G ((S, oS) :: (lc ++ L) ++ lv) h' → GLed oc g' → RetQ Q E (.ok (.ret res)) ⟨h', g', d', t', os⟩)
    (hO : Outs Out ys vs L) (hL : LstO oS vs) (hb : vs.length + xs.length ≤ 2 * big) (I : Led G ((S, oS) :: (lc ++ L) ++ lg) h) (Gi : GLed ((gi, gs) :: (oc ++ own)) g)
    (Y : Yields prog w G k os Out Fi xs gs lg own) :
    codeAny (model prog w) A (.builtin "list.extend.loop" ⟨[.ref S, .ref a, res], []⟩) (RetQ Q E) ⟨h, g, d, t, os⟩ := by
  induction xs generalizing ys vs L oS h g d t gs lg own with
  | nil =>
    refine codeB F.plain_extend_loop F.entry_extend_loop ?_
    show wpAny _ A.in1 (pyNext (.ref a) >>= _) _ _ _
    refine wpAny_bind (nextDone ok.in1 gd I (List.mem_cons_of_mem _ (List.mem_append_left _ hm)) hG Gi Y hF fun lv h' g' d' t' hf I' G' => ?_)
    exact wpAny_pure (hQ vs L lv oS h' g' d' t' (by rw [List.append_nil]; exact hO) hL hf I' G')
  | cons x xs ih =>
    refine codeB F.plain_extend_loop F.entry_extend_loop ?_
    show wpAny _ A.in1 (pyNext (.ref a) >>= _) _ _ _
    refine wpAny_bind (nextItem ok.in1 gd I (List.mem_cons_of_mem _ (List.mem_append_left _ hm)) hG Gi Y fun v gs' lg' own' lv h' g' d' t' ho I' G' Y' => ?_)
    show wpAny _ A.in1 (updateSeq S (·.push v) >>= _) _ _ _
    rw [List.length_cons] at hb
    refine wpAny_bind (pushL (G := G) (lf := fun o => (S, o) :: (lc ++ (L ++ lv)) ++ lg') (vs := vs) (oS := oS) ?_ (fun o1 o2 => .head) hL (by omega) fun h2 o2 hL2 I2 => ?_)
    · simpa only [List.append_assoc, List.cons_append] using I'
    refine wpAny_pure ⟨plainId_quiet F.plain_extend_loop _, ?_⟩
    refine ih (ys := ys ++ [x]) (vs := vs ++ [v]) (L := L ++ lv) (oS := o2) (fun vs L lv oS h' g' d' t' h1 => ?_) (.snoc hO ho) hL2 (by simp; omega) I2 G' Y'
    rw [List.append_assoc] at h1
    exact hQ vs L lv oS h' g' d' t' h1

theorem listGen {Q : Value → Shared → Prop} (ok : Ok A (k + 4)) (gd : Gd G mg mb) (hG : GenO gi o) (hF : ∀ r lv, Fi r lv → r = .ok (.ret .none)) (hm : (a, o) ∈ lc)
    (hb : xs.length ≤ 2 * big) (I : Led G (lc ++ lg) h) (Gi : GLed ((gi, gs) :: (oc ++ own)) g) (Y : Yields prog w G k os Out Fi xs gs lg own)
    (hQ : ∀ S vs L lv oS h' g' d' t', Outs Out xs vs L → LstO oS vs → Fi (.ok (.ret .none)) lv → Led G ((S, oS) :: (lc ++ L) ++ lv) h' → GLed oc g' → Q (.ref S) ⟨h', g', d', t', os⟩) :
    wpAny (model prog w) A (call (.type "list") [.ref a]) Q E ⟨h, g, d, t, os⟩ := by
  refine callType_codes (Q₁ := fun obj s₁ => obj = .ref h.objs.size ∧ s₁ = ⟨h.push { cls := .type "list", data := .seq #[] }, g, d, t, os⟩) F.called_list (F.typeCall_list_1 _) F.entry_list_init
    (code_list_new _ ⟨rfl, rfl⟩) fun obj s₁ h₁ => ?_
  obtain ⟨rfl, rfl⟩ := h₁
  have I1 := I.push { cls := .type "list", data := .seq #[] }
  have hS : (h.push { cls := .type "list", data := .seq #[] }).get? h.objs.size = some { cls := .type "list", data := .seq #[] } := I1.get List.mem_cons_self
  refine ⟨⟨_, hS, rfl⟩, F.args_list_init_2 _ _, ?_⟩
  show wpAny _ A.in1.in1 (do let old ← Builtin.List.listItems (.ref h.objs.size); Builtin.List.listUpdate (.ref h.objs.size) (fun _ => #[]); letGo old.toList.reverse; Builtin.List.listExtendWith (.ref h.objs.size) (.ref a) .none) _ _ _
  refine wpAny_bind ?_
  unfold Builtin.List.listItems
  refine wpAny_bind (wpAny_seqItems hS rfl (wpAny_pure ?_))
  show wpAny _ A.in1.in1 (updateSeq h.objs.size (fun _ => #[]) >>= fun _ => letGo (#[] : Array Value).toList.reverse >>= fun _ => Builtin.List.listExtendWith (.ref h.objs.size) (.ref a) .none) _ _ _
  refine wpAny_bind (wpAny_updateSeq hS rfl ?_)
  have hS₂ := Heap.get?_update_self (Obj.mapSeq (fun _ => (#[] : Array Value))) hS rfl
  have I2 := Led.hole (lf := fun o => (h.objs.size, o) :: (lc ++ lg)) I1 (fun _ _ => .head) (Heap.SameBut.update _ h.objs.size _) hS₂
  refine wpAny_bind (wpAny_letGo ?_)
  unfold Builtin.List.listExtendWith
  have hmm : (a, o) ∈ lc ++ lg := List.mem_append_left _ hm
  have hne : h.objs.size ≠ a := Nat.ne_of_gt (I.lt hmm)
  have gi2 := genIs I2 (List.mem_cons_of_mem _ hmm) hG
  have hT : (⟨_, g, d, t, os⟩ : Shared).TypeIs (.ref a) "generator" := Heap.IsGen.typeIs (s := ⟨_, g, d, t, os⟩) gi2
  refine wpAny_bind (wpAny_typeOf hT ?_)
  have h1 : Builtin.List.listSameRef (.ref h.objs.size) (.ref a) = false := by simp [Builtin.List.listSameRef, hne]
  have h2 : (Value.type "generator" == Value.type "list") = false := by decide
  have h3 : (Value.type "generator" == Value.type "tuple") = false := by decide
  simp only [h1, h2, h3, Bool.or_false, Bool.false_eq_true, if_false]
  refine wpAny_bind (wpAny_pyIter_gen (s := ⟨_, g, d, t, os⟩) gi2 ?_)
  refine wpAny_bind (wpAny_holding ?_)
  unfold Builtin.List.listLengthHint
  refine wpAny_bind (wpAny_specialOf hT F.gen_no_len ?_)
  show wpAny _ A.in1.in1 (specialOf (Value.ref a) (Str.ofString "__length_hint__") >>= _) _ _ _
  refine wpAny_bind (wpAny_specialOf hT F.gen_no_hint ?_)
  refine wpAny_pure ?_
  show wpAny _ A.in1.in1 (rule "list.extend.makes-room" >>= fun _ => Builtin.List.listTouch (.ref h.objs.size) >>= fun _ =>
    again (.builtin "list.extend.loop" ⟨[.ref h.objs.size, .ref a, .none], []⟩)) _ _ _
  refine wpAny_bind (wpAny_rule ?_)
  refine wpAny_bind ?_
  show wpAny _ A.in1.in1 (updateSeq h.objs.size (·.push .none) >>= fun _ => updateSeq h.objs.size (·.pop)) _ _ _
  refine wpAny_bind (wpAny_updateSeq hS₂ rfl ?_)
  have hS₃ := Heap.get?_update_self (Obj.mapSeq (·.push Value.none)) hS₂ rfl
  have I3 := Led.hole (lf := fun o => (h.objs.size, o) :: (lc ++ lg)) I2 (fun _ _ => .head) (Heap.SameBut.update _ h.objs.size _) hS₃
  refine wpAny_updateSeq (hz := by seq_fits) hS₃ rfl ?_
  have hS₄ := Heap.get?_update_self (Obj.mapSeq (·.pop)) hS₃ rfl
  have I4 := Led.hole (lf := fun o => (h.objs.size, o) :: (lc ++ lg)) I3 (fun _ _ => .head) (Heap.SameBut.update _ h.objs.size _) hS₄
  refine wpAny_pure ⟨plainId_quiet F.plain_extend_loop _, ?_⟩
  have hL4 : LstO (Obj.mapSeq (·.pop) (Obj.mapSeq (·.push Value.none) (Obj.mapSeq (fun _ => (#[] : Array Value)) { cls := .type "list", data := .seq #[] }))) [] := ⟨⟨_, rfl⟩, Nat.zero_le _⟩
  revert I4 hL4
  generalize Obj.mapSeq (·.pop) (Obj.mapSeq (·.push Value.none) (Obj.mapSeq (fun _ => (#[] : Array Value)) { cls := .type "list", data := .seq #[] })) = o4
  intro I4 hL4
  refine codeAny_mono (extendGen (ys := []) (vs := []) (L := []) (oS := o4) (lg := lg) (Q := fun r s₂ => r = Value.none ∧ Q (.ref h.objs.size) s₂) (E := E) (A := A.in1) (k := k) ok.in1.pred gd hG hF hm (fun vs L lv oS h' g' d' t' a1 a2 a3 a4 a5 => ⟨rfl, hQ _ vs L lv oS h' g' d' t' a1 a2 a3 a4 a5⟩) .nil hL4 (by simpa using hb) (by rw [List.append_nil]; exact I4) Gi Y) fun r s hr => ?_
  cases r with
  | error e => exact hr
  | ok fl => cases fl <;> exact hr
end
end Mine
namespace Mine

/-- a dict with int keys -/
def DicO (prog : Program) (w : World) (a : Addr) (o : Obj) (kvs : List (Int × Value)) : Prop := a ≠ sysModules ∧ o.IsDictOf (intKind prog w) kvs ∧ kvs.length ≤ 4096

section
variable {prog : Program} {w : World} {A : Around} {E : Value → Shared → Prop} {h G : Heap} {g : Array GenState} {d : Drawn} {t : Nat} {os : OsState}
  {env : Env} {lg l0 fr0 fx f l fo : List (Addr × Obj)} {lf : Obj → List (Addr × Obj)} {J r a b al : Addr} {o ol oa ob : Obj} {vs : List Value} {m ns : List Int} {x : Int} {u : Tok} {k n : Nat} {pos : Pos}
  {kvs : List (Int × Value)} {v dflt : Value} {mg mb : Str → Option Value}

theorem DicO.nd (x : DicO prog w a o kvs) : (kvs.map (·.1)).Nodup := let ⟨_, ⟨_, _, _, _, _, _, nd⟩, _⟩ := x; nd
theorem DicO.sys (x : DicO prog w a o kvs) : (a == sysModules) = false := by simpa using x.1
theorem Led.dic (I : Led G lg h) (hm : (a, o) ∈ lg) (x : DicO prog w a o kvs) : h.DictOf (intKind prog w) a kvs := Heap.dictOf_iff.mpr ⟨o, I.get hm, x.2.1⟩
theorem dicLine {n : Nat} (h : n ≤ 4096) : n ≤ sizeLine := by rw [sizeLine_eq]; omega

/-- a new address stands above the first ones -/
theorem Led.high (gd : Gd G mg mb) (I : Led G lg h) : h.objs.size ≠ sysModules := fun e => by
  obtain ⟨o, _, _, ho, _⟩ := gd.g
  have := Heap.lt_size (I.gr _ _ ho)
  rw [e] at this
  exact absurd this (by decide)

theorem newD {Q : Value → Shared → Prop} (gd : Gd G mg mb) (I : Led G (f ++ l) h) (hQ : ∀ a o h', DicO prog w a o [] → Led G (f ++ (a, o) :: l) h' → Q (.ref a) ⟨h', g, d, t, os⟩) :
    wpAny (model prog w) A (eval (.Dict [] [] pos) env) Q E ⟨h, g, d, t, os⟩ :=
  wpAny_Dict_empty (s := ⟨h, g, d, t, os⟩) (hQ _ _ _ ⟨I.high gd, ⟨#[], 0, ⟨rfl, rfl, rfl⟩, rfl, by intro e he; simp at he, .nil, List.nodup_nil⟩, by simp⟩ (I.pushm _))

theorem getD2 {Q : Value → Shared → Prop} (I : Led G lg h) (hm : (a, o) ∈ lg) (hD : DicO prog w a o kvs) (hQ : ∀ t', Q ((valueAt kvs x).getD dflt) ⟨h, g, d, t', os⟩) :
    wpAny (model prog w) A (call (.builtin "dict.get") [.ref a, .int x u, dflt]) Q E ⟨h, g, d, t, os⟩ := by
  have D := I.dic hm hD
  refine call_meetsIn (s := ⟨h, g, d, t, os⟩) PySem.F.slot_dict_get D.typeIs PySem.F.entry_dict_get (PySem.F.args_dict_get_3 _ _ _) (meets_dict_get_default (intKind prog w) (k := x) a intIs hD.sys dflt) ⟨_, D.mapOf, ?_⟩
  exact hQ _

theorem setdefOld {Q : Value → Shared → Prop} (I : Led G lg h) (hm : (a, o) ∈ lg) (hD : DicO prog w a o kvs) (hv : valueAt kvs x = some v) (hQ : ∀ t', Q v ⟨h, g, d, t', os⟩) :
    wpAny (model prog w) A (call (.builtin "dict.setdefault") [.ref a, .int x u, dflt]) Q E ⟨h, g, d, t, os⟩ := by
  have D := I.dic hm hD
  exact call_meetsIn (s := ⟨h, g, d, t, os⟩) PySem.F.slot_dict_setdefault D.typeIs PySem.F.entry_dict_setdefault (PySem.F.args_dict_setdefault_3 _ _ _) (kt_meets_setdefault (intKind prog w) (k := x) a intIs hD.sys dflt)
    ⟨kvs, D, dicLine hD.2.2, (fun v' hv' => by rw [hv] at hv'; cases hv'; exact hQ _), fun hn => by rw [hv] at hn; cases hn⟩

theorem stored_len (kvs : List (Int × Value)) (x : Int) (v : Value) : (stored kvs x v).length ≤ kvs.length + 1 := by
  unfold stored; split <;> simp
theorem valueAt_none {kvs : List (Int × Value)} {x : Int} : valueAt kvs x = none ↔ x ∉ kvs.map (·.1) := by
  unfold valueAt
  rw [Option.map_eq_none_iff, List.find?_eq_none]
  simp only [decide_eq_true_eq, List.mem_map, not_exists, not_and]
theorem stored_new {kvs : List (Int × Value)} {x : Int} {v : Value} (h : valueAt kvs x = none) : stored kvs x v = kvs ++ [(x, v)] := by
  unfold stored
  rw [if_neg]
  rw [valueAt_none] at h
  intro hc
  obtain ⟨p, hp, e⟩ := List.any_eq_true.mp hc
  exact h (List.mem_map.mpr ⟨p, hp, by simpa using e⟩)

theorem setdefNew {Q : Value → Shared → Prop} (I : Led G (lf o) h) (H : Hole lf a) (hD : DicO prog w a o kvs) (hv : valueAt kvs x = none) (hb : kvs.length < 4096) (hQ : ∀ h' t' o', DicO prog w a o' (kvs ++ [(x, dflt)]) → Led G (lf o') h' → Q dflt ⟨h', g, d, t', os⟩) :
    wpAny (model prog w) A (call (.builtin "dict.setdefault") [.ref a, .int x u, dflt]) Q E ⟨h, g, d, t, os⟩ := by
  have D := I.dic (H.mem o) hD
  refine call_meetsIn (s := ⟨h, g, d, t, os⟩) PySem.F.slot_dict_setdefault D.typeIs PySem.F.entry_dict_setdefault (PySem.F.args_dict_setdefault_3 _ _ _) (kt_meets_setdefault (intKind prog w) (k := x) a intIs hD.sys dflt)
    ⟨kvs, D, dicLine hD.2.2, (fun v' hv' => by rw [hv] at hv'; cases hv'), fun _ h' hd' hs => ?_⟩
  obtain ⟨o', ho', hi⟩ := Heap.dictOf_iff.mp hd'
  rw [stored_new hv] at hi
  exact hQ h' _ o' ⟨hD.1, hi, by simp; omega⟩ (I.hole H hs ho')

theorem setD {Q : Unit → Shared → Prop} (I : Led G lg h) (e : lg = lf o) (H : Hole lf a) (hD : DicO prog w a o kvs) (hb : kvs.length < 4096) (hQ : ∀ h' t' o', DicO prog w a o' (stored kvs x v) → Led G (lf o') h' → Q () ⟨h', g, d, t', os⟩) :
    wpAny (model prog w) A (setItem (.ref a) (.int x u) v) Q E ⟨h, g, d, t, os⟩ := by
  subst e
  have D := I.dic (H.mem o) hD
  refine wpAny_setItem_pairs (s := ⟨h, g, d, t, os⟩) (k := x) intIs D (fun h' hd' hs => ?_) (dicLine hD.2.2)
  obtain ⟨o', ho', hi⟩ := Heap.dictOf_iff.mp hd'
  exact hQ h' _ o' ⟨hD.1, hi, by have := stored_len kvs x v; omega⟩ (I.hole H hs ho')

theorem getD {Q : Value → Shared → Prop} (I : Led G lg h) (hm : (a, o) ∈ lg) (hD : DicO prog w a o kvs) (hv : valueAt kvs x = some v) (hQ : ∀ t', Q v ⟨h, g, d, t', os⟩) :
    wpAny (model prog w) A (getItem (.ref a) (.int x u)) Q E ⟨h, g, d, t, os⟩ :=
  wpAny_getItem_of (s := ⟨h, g, d, t, os⟩) (k := x) intIs (I.dic hm hD).mapOf hv (hQ _)

theorem inD {Q : Value → Shared → Prop} (I : Led G lg h) (hm : (a, o) ∈ lg) (hD : DicO prog w a o kvs) (hQ : ∀ t', Q (.bool (valueAt kvs x).isSome) ⟨h, g, d, t', os⟩) :
    wpAny (model prog w) A (compareOp .In (.int x u) (.ref a)) Q E ⟨h, g, d, t, os⟩ :=
  wpAny_in_of (s := ⟨h, g, d, t, os⟩) (k := x) intIs hD.sys (I.dic hm hD).mapOf (hQ _)

/-! methods -/
theorem gmS {name : Str} {id : String} {pl : Sem Bool} {Q : Value × List Value → Shared → Prop} (slot : Slot "set" name id) (hty : typeOf (.builtin id) = pure (.type "method_descriptor")) (I : Led G lg h) (hm : (a, o) ∈ lg) (hS : ISet o m)
    (hQ : Q (.builtin id, [.ref a]) ⟨h, g, d, t, os⟩) : wpAny (model prog w) A (getMethod (.ref a) name pl) Q E ⟨h, g, d, t, os⟩ :=
  getMethod_builtin (s := ⟨h, g, d, t, os⟩) (I.setOf hm hS (prog := prog) (w := w)).typeIs F.plainAttrs_set slot hty (fun b e => by cases e; exact ⟨o, I.get hm, (hS.2.2 prog w).1.2.1⟩) hQ
theorem gmD {name : Str} {id : String} {pl : Sem Bool} {Q : Value × List Value → Shared → Prop} (slot : Slot "dict" name id) (hty : typeOf (.builtin id) = pure (.type "method_descriptor")) (I : Led G lg h) (hm : (a, o) ∈ lg) (hD : DicO prog w a o kvs)
    (hQ : Q (.builtin id, [.ref a]) ⟨h, g, d, t, os⟩) : wpAny (model prog w) A (getMethod (.ref a) name pl) Q E ⟨h, g, d, t, os⟩ :=
  getMethod_builtin (s := ⟨h, g, d, t, os⟩) (I.dic hm hD).typeIs F.plainAttrs_dict slot hty (fun b e => by cases e; obtain ⟨_, ⟨_, _, hx, _⟩, _⟩ := hD; exact ⟨o, I.get hm, hx.2.1⟩) hQ
theorem gmL {name : Str} {id : String} {pl : Sem Bool} {Q : Value × List Value → Shared → Prop} (slot : Slot "list" name id) (hty : typeOf (.builtin id) = pure (.type "method_descriptor")) (I : Led G lg h) (hm : (a, o) ∈ lg) (hL : LstO o vs)
    (hQ : Q (.builtin id, [.ref a]) ⟨h, g, d, t, os⟩) : wpAny (model prog w) A (getMethod (.ref a) name pl) Q E ⟨h, g, d, t, os⟩ :=
  getMethod_builtin (s := ⟨h, g, d, t, os⟩) (I.isList hm hL).typeIs F.plainAttrs_list slot hty (fun b e => by cases e; obtain ⟨⟨n, rfl⟩, _⟩ := hL; exact ⟨_, I.get hm, rfl⟩) hQ

theorem appendL {Q : Value → Shared → Prop} (I : Led G lg h) (_hm : (a, o) ∈ lg) (e : lg = lf o) (H : Hole lf a) (hL : LstO o vs) (hb : vs.length + 1 ≤ 2 * big) (hQ : ∀ h' t' o', LstO o' (vs ++ [v]) → Led G (lf o') h' → Q .none ⟨h', g, d, t', os⟩) :
    wpAny (model prog w) A (call (.builtin "list.append") [.ref a, v]) Q E ⟨h, g, d, t, os⟩ := by
  subst e
  have hT : (⟨h, g, d, t, os⟩ : Shared).TypeIs (.ref a) "list" := (I.isList (H.mem o) hL).typeIs
  refine wpAny_call_entry F.slot_list_append hT F.entry_list_append ?_ (F.args_list_append_2 _ _)
  unfold Builtin.«list.append»
  refine wpAny_bind (m := selfAndOne _ _) (wpAny_bind (m := noKeywords _ _) (wpAny_pure (wpAny_pure ?_)))
  show wpAny _ _ (updateSeq a (·.push v) >>= _) _ _ _
  exact wpAny_bind (pushL I H hL hb fun h' o' h1 h2 => wpAny_pure ⟨_, rfl, hQ h' _ o' h1 h2⟩)
end
end Mine
namespace Mine

/-- one turn of a comprehension's loop -/
def turnOf (target iter : Expr) (ifs : List Expr) (it : Value) (env : Env) (em : Sem Unit) (c : Code) : Sem Fin := do
  standAt iter.pos
  match ← pyNext it with
  | none => pure (.done .next)
  | some v =>
    letOwnedTupleGo target it v
    assign target env v
    let mut ok := true
    for c in ifs do
      if ok then ok ← isTrue c env (eval c env)
    if ok then em
    again c

/-- an inner clause -/
def innerOf (e : Expr) (depth : Nat) (iter : Expr) (acc : Value) (env : Env) : Sem Unit := do
  let x ← eval iter env
  standAt iter.pos
  let x ← foldedSetIterable iter env x
  let _ ← runOwn (.compStart e depth (← holding [x] (pyIter x)) acc env) env

def emitL (elt : Expr) (acc : Value) (env : Env) : Sem Unit := do let _ ← call (.builtin "list.append") [acc, ← eval elt env]
def emitS (elt : Expr) (acc : Value) (env : Env) : Sem Unit := do let v ← eval elt env; standAt elt.pos; let _ ← call (.builtin "set.add") [acc, v]

theorem turn_L1 (elt target iter : Expr) (ifs : List Expr) (sc : Scope) (pos : Pos) (it acc : Value) (env : Env) :
    compTurn (.ListComp elt [⟨target, iter, ifs, 0⟩] sc pos) 0 it acc env = turnOf target iter ifs it env (emitL elt acc env) (.compLoop (.ListComp elt [⟨target, iter, ifs, 0⟩] sc pos) 0 it acc env) := by rfl
theorem turn_S1 (elt target iter : Expr) (ifs : List Expr) (sc : Scope) (pos : Pos) (it acc : Value) (env : Env) :
    compTurn (.SetComp elt [⟨target, iter, ifs, 0⟩] sc pos) 0 it acc env = turnOf target iter ifs it env (emitS elt acc env) (.compLoop (.SetComp elt [⟨target, iter, ifs, 0⟩] sc pos) 0 it acc env) := by rfl
theorem turn_L2o (elt target iter target2 iter2 : Expr) (ifs ifs2 : List Expr) (sc : Scope) (pos : Pos) (it acc : Value) (env : Env) :
    compTurn (.ListComp elt [⟨target, iter, ifs, 0⟩, ⟨target2, iter2, ifs2, 0⟩] sc pos) 0 it acc env =
      turnOf target iter ifs it env (innerOf (.ListComp elt [⟨target, iter, ifs, 0⟩, ⟨target2, iter2, ifs2, 0⟩] sc pos) 1 iter2 acc env) (.compLoop (.ListComp elt [⟨target, iter, ifs, 0⟩, ⟨target2, iter2, ifs2, 0⟩] sc pos) 0 it acc env) := by
  simp only [compTurn, turnOf, innerOf, bind_assoc]
  rfl
theorem turn_L2i (elt target iter target2 iter2 : Expr) (ifs ifs2 : List Expr) (sc : Scope) (pos : Pos) (it acc : Value) (env : Env) :
    compTurn (.ListComp elt [⟨target, iter, ifs, 0⟩, ⟨target2, iter2, ifs2, 0⟩] sc pos) 1 it acc env =
      turnOf target2 iter2 ifs2 it env (emitL elt acc env) (.compLoop (.ListComp elt [⟨target, iter, ifs, 0⟩, ⟨target2, iter2, ifs2, 0⟩] sc pos) 1 it acc env) := by rfl
theorem turn_S2o (elt target iter target2 iter2 : Expr) (ifs ifs2 : List Expr) (sc : Scope) (pos : Pos) (it acc : Value) (env : Env) :
    compTurn (.SetComp elt [⟨target, iter, ifs, 0⟩, ⟨target2, iter2, ifs2, 0⟩] sc pos) 0 it acc env =
      turnOf target iter ifs it env (innerOf (.SetComp elt [⟨target, iter, ifs, 0⟩, ⟨target2, iter2, ifs2, 0⟩] sc pos) 1 iter2 acc env) (.compLoop (.SetComp elt [⟨target, iter, ifs, 0⟩, ⟨target2, iter2, ifs2, 0⟩] sc pos) 0 it acc env) := by
  simp only [compTurn, turnOf, innerOf, bind_assoc]
  rfl
theorem turn_S2i (elt target iter target2 iter2 : Expr) (ifs ifs2 : List Expr) (sc : Scope) (pos : Pos) (it acc : Value) (env : Env) :
    compTurn (.SetComp elt [⟨target, iter, ifs, 0⟩, ⟨target2, iter2, ifs2, 0⟩] sc pos) 1 it acc env =
      turnOf target2 iter2 ifs2 it env (emitS elt acc env) (.compLoop (.SetComp elt [⟨target, iter, ifs, 0⟩, ⟨target2, iter2, ifs2, 0⟩] sc pos) 1 it acc env) := by rfl

abbrev NoE : Value → Shared → Prop := fun _ _ => False

def testsOf (ifs : List Expr) (env : Env) : Sem Bool := forIn ifs true fun c r => if r = true then do let ok ← isTrue c env (eval c env); pure (ForInStep.yield ok) else pure (ForInStep.yield r)

section
variable {prog : Program} {w : World} {A : Around} {E : Value → Shared → Prop} {h G : Heap} {g : Array GenState} {d : Drawn} {t : Nat} {os : OsState}
  {env : Env} {lg l0 fr0 fx f l : List (Addr × Obj)} {J r : Addr} {o ol : Obj} {vs : List Value} {k n : Nat} {P : Nat → Value → Prop} {C : Nat → Obj → Prop} {R : Result → Shared → Prop}

theorem tests0 {Q : Bool → Shared → Prop} {s : Shared} (hQ : Q true s) : wpAny (model prog w) A (testsOf [] env) Q E s := wpAny_tests_nil hQ
theorem tests1 {c : Expr} {Q : Bool → Shared → Prop} {s : Shared} (h : wpAny (model prog w) A (isTrue c env (eval c env)) Q E s) : wpAny (model prog w) A (testsOf [c] env) Q E s := wpAny_tests_one h

theorem goFree {target : Expr} {v : Value} {Q : Unit → Shared → Prop} {s : Shared} (hJ : s.heap.get? J = some o) (hc : ∃ c, o.cls = .type c ∧ ["enumerate", "zip", "dict_itemiterator", "dict_reverseitemiterator", "odict_iterator", "itertools.zip_longest", "itertools.pairwise"].contains c = false)
    (hq : Q () s) : wpAny (model prog w) A (letOwnedTupleGo target (.ref J) v) Q E s := by
  obtain ⟨c, hcls, hno⟩ := hc
  unfold letOwnedTupleGo
  split
  · split
    · rename_i r' a' heq
      cases heq
      refine wpAny_bind (wpAny_load hJ ?_)
      rw [hcls]
      split
      · rename_i n' vs' heq' hdat
        cases heq'
        rw [hno]
        simp only [Bool.false_and, Bool.false_eq_true, if_false]
        exact wpAny_pure hq
      · exact wpAny_pure hq
    · exact wpAny_pure hq
  · split
    · rename_i r' a' heq
      cases heq
      refine wpAny_bind (wpAny_load hJ ?_)
      rw [hcls]
      split
      · rename_i n' vs' heq' hdat
        cases heq'
        rw [hno]
        simp only [Bool.false_and, Bool.false_eq_true, if_false]
        exact wpAny_pure hq
      · exact wpAny_pure hq
    · exact wpAny_pure hq
  · exact wpAny_pure hq

theorem noE {α : Type} {m : Sem α} {Q : α → Shared → Prop} {s : Shared} (h : wpAny (model prog w) A m Q NoE s) : wpAny (model prog w) A m Q E s := wpAny_mono h (fun _ _ x => x) fun _ _ x => x.elim

/-- a comprehension's loop over an iterator -/
inductive LS : Expr → Prop where
  | l {elt : Expr} {gs : List Comprehension} {sc : Scope} {pos : Pos} : LS (.ListComp elt gs sc pos)
  | s {elt : Expr} {gs : List Comprehension} {sc : Scope} {pos : Pos} : LS (.SetComp elt gs sc pos)

theorem compCur {e : Expr} {depth : Nat} {acc : Value} {target iter : Expr} {ifs : List Expr} {em : Sem Unit}
    (hls : LS e) (hturn : compTurn e depth (.ref J) acc env = turnOf target iter ifs (.ref J) env em (.compLoop e depth (.ref J) acc env))
    (cur : Cur prog w G J fx n P C) (ok : Ok A k) (Inv : Nat → List (Addr × Obj) → Prop) (e0 : lg = l0 ++ fr0) (I : Led G ((J, o) :: lg) h) (hC : C 0 o) (h0 : Inv 0 l0)
    (hfx : ∀ i l, Inv i l → ∀ p ∈ fx, p ∈ l ++ fr0)
    (step : ∀ i v l fr h d t, (∀ l h, Led G (l ++ fr) h → Led G (l ++ fr0) h) → i < n → P i v → Inv i l → Led G (l ++ fr) h →
      wpAny (model prog w) A (assign target env v) (fun _ s₂ => wpAny (model prog w) A (testsOf ifs env) (fun b s₃ =>
        if b = true then wpAny (model prog w) A em (fun _ s₄ => ∃ h' d' t' l', s₄ = ⟨h', g, d', t', os⟩ ∧ Led G (l' ++ fr) h' ∧ Inv (i + 1) l') NoE s₃
        else ∃ h' d' t' l', s₃ = ⟨h', g, d', t', os⟩ ∧ Led G (l' ++ fr) h' ∧ Inv (i + 1) l') NoE s₂) NoE ⟨h, g, d, t, os⟩)
    (hdone : ∀ l h d t, Inv n l → Led G (l ++ fr0) h → R (.ok .next) ⟨h, g, d, t, os⟩) : codeAny (model prog w) A (.compLoop e depth (.ref J) acc env) R ⟨h, g, d, t, os⟩ := by
  subst e0
  refine codeAny_loop (by cases hls <;> rfl) (fun m s => ∃ i l o h d t, s = ⟨h, g, d, t, os⟩ ∧ Led G (l ++ (J, o) :: fr0) h ∧ C i o ∧ Inv i l ∧ i ≤ n ∧ m = n + 1 - i) ?_ (n + 1)
    ⟨0, l0, o, h, d, t, rfl, I.mid, hC, h0, Nat.zero_le _, rfl⟩
  rintro m s ⟨i, l, o, h, d, t, rfl, I, hC, hI, hi, rfl⟩
  have hh : ∀ Q E', wpAny (model prog w) A (compTurn e depth (.ref J) acc env) Q (notedBy (model prog w) A env E') ⟨h, g, d, t, os⟩ → wpAny (model prog w) (A.under (.compLoop e depth (.ref J) acc env)) ((model prog w).den (.compLoop e depth (.ref J) acc env)) Q E' ⟨h, g, d, t, os⟩ := by
    intro Q E' hq
    cases hls <;> exact wpAny_noted hq
  refine hh _ _ ?_
  rw [hturn]
  unfold turnOf
  have hf : ∀ p ∈ fx, p ∈ l ++ fr0 := hfx i l hI
  refine wpAny_bind (wpAny_standAt (wpAny_bind ?_))
  by_cases hlt : i < n
  · refine cur.item ok hlt hC hf I fun v h' t' o' hP hC' I' => ?_
    dsimp only
    have hJ : (⟨h', g, d, t', os⟩ : Shared).heap.get? J = some o' := I'.get (List.mem_append_right _ List.mem_cons_self)
    refine wpAny_bind (goFree hJ (cur.cls _ _ hC') ?_)
    refine wpAny_bind (wpAny_mono (step i v l ((J, o') :: fr0) h' d t' (fun l h x => (x.perm List.perm_middle.symm).drop) hlt hP hI I') (fun _ s₂ h₂ => ?_) fun _ _ e => e.elim)
    refine wpAny_bind (m := testsOf ifs env) (wpAny_mono h₂ (fun b s₃ h₃ => ?_) fun _ _ e => e.elim)
    have fin : ∀ s₄ : Shared, (∃ h' d' t' l', s₄ = ⟨h', g, d', t', os⟩ ∧ Led G (l' ++ (J, o') :: fr0) h' ∧ Inv (i + 1) l') →
        ∃ m', m' < n + 1 - i ∧ ∃ (i : Nat) (l : List (Addr × Obj)) (o : Obj) (h : Heap) (d : Drawn) (t : Nat), s₄ = ⟨h, g, d, t, os⟩ ∧ Led G (l ++ (J, o) :: fr0) h ∧ C i o ∧ Inv i l ∧ i ≤ n ∧ m' = n + 1 - i := fun s₄ h₄ => by
      obtain ⟨h1, d1, t1, l1, e1, I1, hI1⟩ := h₄
      exact ⟨n + 1 - (i + 1), by omega, i + 1, l1, o', h1, d1, t1, e1, I1, hC', hI1, hlt, rfl⟩
    cases b with
    | true => 
      simp only [if_true] at h₃ ⊢
      exact wpAny_bind (wpAny_mono h₃ (fun _ s₄ h₄ => wpAny_pure ⟨rfl, fin s₄ h₄⟩) fun _ _ e => e.elim)
    | false =>
      simp only [Bool.false_eq_true, if_false] at h₃ ⊢
      exact wpAny_pure ⟨rfl, fin s₃ h₃⟩
  · have e : i = n := by omega
    subst e
    exact cur.done ok hC hf I fun h' t' I' => wpAny_pure (hdone l h' d t' hI I')
end
end Mine
namespace Mine

/-- names of frames around that a block captures, and what their cells hold -/
def Sees (cenv : Env) (fo : List (Addr × Obj)) (reads : List (Str × Value)) : Prop :=
  ∀ x v, (x, v) ∈ reads → cenv.kindOf x = some .cell ∧ ∃ c o, cenv.cells.lookup x = some c ∧ (c, o) ∈ fo ∧ o.data = .cell (some v)

theorem Sees.nil {cenv : Env} {fo : List (Addr × Obj)} : Sees cenv fo [] := fun x v h => by cases h
theorem Sees.app {cenv : Env} {fa fb : List (Addr × Obj)} {ra rb : List (Str × Value)} (a : Sees cenv fa ra) (b : Sees cenv fb rb) : Sees cenv (fa ++ fb) (ra ++ rb) := fun x v h => by
  rcases List.mem_append.mp h with h | h
  · obtain ⟨k, c, o, hc, ho, hd⟩ := a x v h; exact ⟨k, c, o, hc, List.mem_append_left _ ho, hd⟩
  · obtain ⟨k, c, o, hc, ho, hd⟩ := b x v h; exact ⟨k, c, o, hc, List.mem_append_right _ ho, hd⟩
theorem Frm.sees {env : Env} {fo : List (Addr × Obj)} {vars : List (Str × Option Value)} (F : Frm env fo vars) {reads : List (Str × Value)} (hr : ∀ p ∈ reads, (p.1, some p.2) ∈ vars ∧ env.kindOf p.1 = some .cell) : Sees env fo reads := fun x v h => by
  obtain ⟨hm, hk⟩ := hr _ h
  rcases F.kinds x _ hm with hl | ⟨hl, c, o, cv, hc, hco, hd, hv⟩
  · rw [show env.kindOf x = some .local from hl] at hk; cases hk
  · exact ⟨hk, c, o, hc, hco, by rw [hd, hv v rfl]⟩

section
variable {M : Model} {A : Around} {E : Value → Shared → Prop} {h G : Heap} {g : Array GenState} {d : Drawn} {t : Nat} {os : OsState}
  {env cenv : Env} {fo l lg : List (Addr × Obj)} {vars vars' : List (Str × Option Value)} {x : Str} {v : Value} {pos : Pos} {reads : List (Str × Value)}

/-- a captured name -/
theorem ldS (I : Led G lg h) (hk : cenv.scope.kind = .function) (S : Sees cenv fo reads) (hs : ∀ p ∈ fo, p ∈ lg) (hm : (x, v) ∈ reads) {Q : Value → Shared → Prop} (hQ : Q v ⟨h, g, d, t, os⟩)
    (hd : (x == ("__debug__" : Str)) = false := by decide) : wpAny M A (eval (.Name x pos) cenv) Q E ⟨h, g, d, t, os⟩ := by
  obtain ⟨hl, c, o, hc, hco, hdo⟩ := S x v hm
  exact wpAny_Name (wpAny_loadName_cell hk hl hc ⟨o, I.get (hs _ hco), hdo⟩ hQ) hd
end

theorem beqCell {k : NameKind} : (k == .cell) = true ↔ k = .cell := by cases k <;> decide

theorem ledCells {G : Heap} : ∀ (names : List (Str × NameKind)) (acc : List (Str × Addr)) (h : Heap) (l : List (Addr × Obj)), (names.map Prod.fst).Nodup → Led G l h →
    ∃ fo, Led G (fo ++ l) (pushCells h names) ∧ (∀ x, (x, NameKind.cell) ∈ names → ∃ c o, (cellsFrom h.objs.size names acc).lookup x = some c ∧ (c, o) ∈ fo ∧ o.data = .cell none) ∧
      (∀ x, (x, NameKind.cell) ∉ names → (cellsFrom h.objs.size names acc).lookup x = acc.lookup x) ∧
      (∀ x y c, (x, NameKind.cell) ∈ names → (y, NameKind.cell) ∈ names → (cellsFrom h.objs.size names acc).lookup x = some c → (cellsFrom h.objs.size names acc).lookup y = some c → x = y)
  | [], acc, h, l, nd, I => ⟨[], I, (fun x hx => by cases hx), (fun x _ => rfl), (fun x y c hx => by cases hx)⟩
  | (n, k) :: r, acc, h, l, nd, I => by
    rw [List.map_cons, List.nodup_cons] at nd
    unfold cellsFrom pushCells
    by_cases hk : (k == NameKind.cell) = true
    · rw [if_pos hk, if_pos hk]
      have hk' := beqCell.mp hk
      subst hk'
      have I1 := I.push { cls := .type "cell", data := .cell none }
      obtain ⟨fo, I2, h1, h2, h3⟩ := ledCells r ((n, h.objs.size) :: acc) _ _ nd.2 I1
      rw [Heap.size_push] at h1 h2 h3
      have hnr : (n, NameKind.cell) ∉ r := fun hm => nd.1 (List.mem_map.mpr ⟨_, hm, rfl⟩)
      have hn : (cellsFrom (h.objs.size + 1) r ((n, h.objs.size) :: acc)).lookup n = some h.objs.size := by rw [h2 n hnr, List.lookup_cons, beq_self_eq_true]
      have hout : ∀ o : Obj, (h.objs.size, o) ∉ fo := fun o hm => by
        have nd2 := I2.nd
        rw [List.map_append, List.map_cons, List.nodup_append] at nd2
        exact nd2.2.2 h.objs.size (List.mem_map.mpr ⟨_, hm, rfl⟩) h.objs.size List.mem_cons_self rfl
      refine ⟨fo ++ [(h.objs.size, { cls := .type "cell", data := .cell none })], by rw [List.append_assoc]; exact I2, fun x hx => ?_, fun x hx => ?_, fun x y c hx hy hcx hcy => ?_⟩
      · rcases List.mem_cons.mp hx with e | hx
        · cases e; exact ⟨_, _, hn, List.mem_append_right _ List.mem_cons_self, rfl⟩
        · obtain ⟨c, o, a, b, c'⟩ := h1 x hx; exact ⟨c, o, a, List.mem_append_left _ b, c'⟩
      · rw [List.mem_cons, not_or] at hx
        rw [h2 x hx.2, List.lookup_cons]
        have : (x == n) = false := by simp only [beq_eq_false_iff_ne, ne_eq]; exact fun e => hx.1 (by rw [e])
        rw [this]
      · rcases List.mem_cons.mp hx with e | hx
        · cases e
          rcases List.mem_cons.mp hy with e | hy
          · cases e; rfl
          · obtain ⟨c', o, a, b, _⟩ := h1 y hy
            rw [a] at hcy; cases hcy
            rw [hn] at hcx; cases hcx
            exact absurd b (hout o)
        · rcases List.mem_cons.mp hy with e | hy
          · cases e
            obtain ⟨c', o, a, b, _⟩ := h1 x hx
            rw [a] at hcx; cases hcx
            rw [hn] at hcy; cases hcy
            exact absurd b (hout o)
          · exact h3 x y c hx hy hcx hcy
    · rw [if_neg hk, if_neg hk]
      have hk' : k ≠ .cell := fun e => hk (beqCell.mpr e)
      obtain ⟨fo, I2, h1, h2, h3⟩ := ledCells r acc h l nd.2 I
      have ne : ∀ x, (x, NameKind.cell) ∈ (n, k) :: r → (x, NameKind.cell) ∈ r := fun x hx => by
        rcases List.mem_cons.mp hx with e | hx
        · cases e; exact absurd rfl hk'
        · exact hx
      exact ⟨fo, I2, fun x hx => h1 x (ne x hx), fun x hx => h2 x fun hm => hx (List.mem_cons_of_mem _ hm), fun x y c hx hy => h3 x y c (ne x hx) (ne y hy)⟩

theorem closure_of {env : Env} {sc : Scope} (hc : ∀ x, (x, NameKind.free) ∈ sc.names → (env.cells.lookup x).isSome = true) :
    ∃ cl, closureFor sc env = pure cl ∧ ∀ x, (x, NameKind.free) ∈ sc.names → cl.lookup x = env.cells.lookup x := by
  have key : ∀ (names : List (Str × NameKind)) (acc : List (Str × Addr)), (∀ x, (x, NameKind.free) ∈ names → (env.cells.lookup x).isSome = true) → (∀ x c, (x, c) ∈ acc → env.cells.lookup x = some c) →
      ∃ cl, (forIn names acc fun (p : Str × NameKind) (cs : List (Str × Addr)) => (match p with | (name, kind) => if (kind == NameKind.free) = true then (do let a ← cellOf env name; pure (ForInStep.yield ((name, a) :: cs))) else pure (ForInStep.yield cs) : Sem (ForInStep (List (Str × Addr))))) = pure cl ∧
        (∀ x c, (x, c) ∈ cl → env.cells.lookup x = some c) ∧ (∀ x, (x, NameKind.free) ∈ names → ∃ c, (x, c) ∈ cl) ∧ ∀ p ∈ acc, p ∈ cl := by
    intro names
    induction names with
    | nil => intro acc _ ha; exact ⟨acc, by rw [List.forIn_nil], ha, (fun x hx => by cases hx), fun p hp => hp⟩
    | cons q r ih =>
      obtain ⟨n, k⟩ := q
      intro acc hn ha
      rw [List.forIn_cons]
      by_cases hk : (k == NameKind.free) = true
      · have hk' : k = .free := by cases k <;> first | rfl | (exact absurd hk (by decide))
        subst hk'
        obtain ⟨c, hc⟩ := Option.isSome_iff_exists.mp (hn n List.mem_cons_self)
        obtain ⟨cl, h1, h2, h3, h4⟩ := ih ((n, c) :: acc) (fun x hx => hn x (List.mem_cons_of_mem _ hx)) (fun x c' hm => by
          rcases List.mem_cons.mp hm with e | hm
          · cases e; exact hc
          · exact ha x c' hm)
        refine ⟨cl, ?_, h2, fun x hx => ?_, fun p hp => h4 p (List.mem_cons_of_mem _ hp)⟩
        · simp only [beq_self_eq_true, if_true, cellOf, hc]
          exact h1
        · rcases List.mem_cons.mp hx with e | hx
          · cases e; exact ⟨c, h4 _ List.mem_cons_self⟩
          · exact h3 x hx
      · obtain ⟨cl, h1, h2, h3, h4⟩ := ih acc (fun x hx => hn x (List.mem_cons_of_mem _ hx)) ha
        refine ⟨cl, ?_, h2, fun x hx => ?_, h4⟩
        · simp only [hk]
          exact h1
        · rcases List.mem_cons.mp hx with e | hx
          · cases e; exact absurd rfl hk
          · exact h3 x hx
  obtain ⟨cl, h1, h2, h3, _⟩ := key sc.names [] hc (fun x c h => by cases h)
  refine ⟨cl, ?_, fun x hx => ?_⟩
  · unfold closureFor
    simp only [h1]
    rfl
  · obtain ⟨c, hm⟩ := h3 x hx
    have : ∃ c', cl.lookup x = some c' := by
      cases hq : cl.lookup x with
      | some c' => exact ⟨c', rfl⟩
      | none => exact absurd hm (fun hm => by have := List.lookup_eq_none_iff.mp hq _ hm; simp at this)
    obtain ⟨c', hc'⟩ := this
    rw [hc', h2 x c' (mem_of_lookup hc')]
end Mine
namespace Mine

theorem relabel_names {env : Env} : ∀ {names : List (Str × NameKind)} {x : Str} {k : NameKind}, names.lookup x = some k →
    (names.map fun (n, k) => if (k == NameKind.free && env.scope.kind == .function && env.kindOf n == some .cell) then (n, NameKind.cell) else (n, k)).lookup x =
      some (if (k == NameKind.free && env.scope.kind == .function && env.kindOf x == some .cell) then .cell else k)
  | [], x, k, h => by cases h
  | (n, k') :: r, x, k, h => by
    rw [List.map_cons]
    cases hx : x == n with
    | true =>
      have := beq_iff_eq.mp hx
      subst this
      rw [List.lookup_cons, hx] at h
      cases h
      dsimp only
      split <;> simp
    | false =>
      rw [List.lookup_cons, hx] at h
      have ih := @relabel_names env r x k h
      dsimp only
      split <;> (rw [List.lookup_cons, hx]; exact ih)

def compLook (sc : Scope) (own gl : List Str) (frees : List Str) : Bool :=
  sc.kind == .function && decide (sc.names.map Prod.fst).Nodup && decide own.Nodup &&
  own.all (fun x => sc.names.lookup x == some .local || sc.names.lookup x == some .cell) && gl.all (fun x => sc.names.lookup x == some .globalImplicit) &&
  sc.names.all (fun p => p.2 != .free || frees.contains p.1) && frees.all (fun x => sc.names.lookup x == some .free)

section
variable {prog : Program} {w : World} {M : Model} {A : Around} {E : Value → Shared → Prop} {h G : Heap} {g : Array GenState} {d : Drawn} {t : Nat} {os : OsState}
  {env cenv : Env} {fo fo0 l lg : List (Addr × Obj)} {vars vars' : List (Str × Option Value)} {x : Str} {v : Value} {pos : Pos} {reads : List (Str × Value)} {sc : Scope} {own gl : List Str}

theorem beqFree {k : NameKind} : (k == .free) = true ↔ k = .free := by cases k <;> decide

theorem compFrame (hk : env.scope.kind = .function) (hglob : env.globals = mainGlobals) (hbi : env.builtins = builtinsNs) (look : compLook sc own gl (reads.map Prod.fst) = true) (S : Sees env fo0 reads) :
    ∃ cl, closureFor sc env = pure cl ∧ ∀ (A : Around) (E : Value → Shared → Prop) (lg : List (Addr × Obj)) (h : Heap) (g : Array GenState) (d : Drawn) (t : Nat) (os : OsState) (I : Led G lg h) (Q : Env → Shared → Prop),
      (∀ ce fo' h', Led G (fo' ++ lg) h' → Frm { ce with scope := relabel sc env } fo' (own.map fun x => (x, none)) → Sees { ce with scope := relabel sc env } fo0 reads → Gls { ce with scope := relabel sc env } gl →
        (∀ x ∈ own, Env.kindOf { ce with scope := relabel sc env } x = sc.names.lookup x) → Q ce ⟨h', g, d, t, os⟩) →
      wpAny M A (newFunctionEnv sc env.globals cl [] env.qual none .none (some env)) Q E ⟨h, g, d, t, os⟩ := by
  simp only [compLook, Bool.and_eq_true, decide_eq_true_eq, beq_iff_eq, List.all_eq_true, Bool.or_eq_true, bne_iff_ne, ne_eq, List.contains_iff_mem] at look
  obtain ⟨⟨⟨⟨⟨⟨hsk, hnd⟩, hnd2⟩, hown⟩, hgl⟩, hfr⟩, hfr2⟩ := look
  have hmemr : ∀ x, x ∈ reads.map Prod.fst → ∃ v, (x, v) ∈ reads := fun x hx => by
    obtain ⟨p, hp, e⟩ := List.mem_map.mp hx
    exact ⟨p.2, by rw [← e]; exact hp⟩
  obtain ⟨cl, hcl, hclk⟩ := closure_of (env := env) (sc := sc) fun x hx => by
    rcases hfr _ hx with e | e
    · exact absurd rfl e
    · obtain ⟨v, hv⟩ := hmemr x (by simpa using e)
      obtain ⟨_, c, o, hc, _⟩ := S x v hv
      rw [hc]; rfl
  refine ⟨cl, hcl, fun A E lg h g d t os I Q hQ => ?_⟩
  simp only [newFunctionEnv, Option.isSome_some, if_true]
  refine wpAny_bind (wpAny_alloc ?_)
  refine wpAny_bind (wpAny_layCells _ (fun name kind cells => by cases hkc : kind == NameKind.cell <;> simp [hkc]) _ _ _ _ ?_)
  dsimp only
  rw [List.forIn_nil]
  refine wpAny_bind (wpAny_pure (wpAny_pure ?_))
  have I1 := I.push { cls := .type "dict", data := .dict #[] }
  obtain ⟨fo, I2, h1, h2, h3⟩ := ledCells sc.names cl _ _ hnd I1
  have kindOf : ∀ x k, sc.names.lookup x = some k → k ≠ .free → (relabel sc env).names.lookup x = some k := fun x k hx hne => by
    have := @relabel_names env sc.names x k hx
    have hkf : (k == NameKind.free) = false := by
      cases hq : k == NameKind.free with
      | false => rfl
      | true => exact absurd (beqFree.mp hq) hne
    rw [hkf] at this
    exact this
  have I3 : Led G ((fo ++ [(h.objs.size, { cls := .type "dict", data := .dict #[] })]) ++ lg) (pushCells (h.push { cls := .type "dict", data := .dict #[] }) sc.names) := by rw [List.append_assoc]; exact I2
  refine hQ _ _ _ I3 ?_ ?_ ?_ ?_
  · refine ⟨hsk, hglob, hbi, ⟨_, #[], 0, List.mem_append_right _ List.mem_cons_self, rfl, fun e he => (by simp at he), fun x v hx => ?_⟩, fun x v0 hx => ?_, ?_, ?_⟩
    · obtain ⟨y, hy, e⟩ := List.mem_map.mp hx; cases e
    · obtain ⟨y, hy, e⟩ := List.mem_map.mp hx
      cases e
      rcases hown x hy with hq | hq
      · exact .inl (kindOf x _ hq (by decide))
      · have hm : (x, NameKind.cell) ∈ sc.names := mem_of_lookup hq
        obtain ⟨c, o, hc, hco, hd⟩ := h1 x hm
        exact .inr ⟨kindOf x _ hq (by decide), c, o, none, hc, List.mem_append_left _ hco, hd, fun v e => by cases e⟩
    · rw [List.map_map]
      have : (Prod.fst ∘ fun x : Str => (x, (none : Option Value))) = id := rfl
      rw [this, List.map_id]; exact hnd2
    · rw [List.map_map]
      have : (Prod.fst ∘ fun x : Str => (x, (none : Option Value))) = id := rfl
      rw [this, List.map_id]
      intro x y c hx hy hkx hky hcx hcy
      have cellOf : ∀ z, z ∈ own → Env.kindOf { scope := relabel sc env, locals := h.objs.size, globals := env.globals, cells := cellsFrom (h.push { cls := .type "dict", data := .dict #[] }).objs.size sc.names cl, qual := env.qual, func := none, code := env.code, frame := env.frame, builtins := env.builtins } z = some .cell → (z, NameKind.cell) ∈ sc.names := fun z hz hkz => by
        rcases hown z hz with hq | hq
        · have := kindOf z _ hq (by decide)
          have hkz' : (relabel sc env).names.lookup z = some .cell := hkz
          rw [this] at hkz'; cases hkz'
        · exact mem_of_lookup hq
      exact h3 x y c (cellOf x hx hkx) (cellOf y hy hky) hcx hcy
  · intro x v hx
    have hx' : x ∈ reads.map Prod.fst := List.mem_map.mpr ⟨_, hx, rfl⟩
    obtain ⟨hkx, c, o, hc, hco, hd⟩ := S x v hx
    have hfx := hfr2 x hx'
    refine ⟨?_, c, o, ?_, hco, hd⟩
    · show (relabel sc env).names.lookup x = _
      refine (@relabel_names env sc.names x .free hfx).trans ?_
      rw [hk, hkx]; rfl
    · show (cellsFrom (h.push { cls := .type "dict", data := .dict #[] }).objs.size sc.names cl).lookup x = some c
      rw [h2 x (fun hm => by
        have := lookup_of_mem hnd hm
        rw [hfx] at this; cases this), hclk x (mem_of_lookup hfx)]
      exact hc
  · intro x hx
    exact kindOf x _ (hgl x hx) (by decide)
  · intro x hx
    rcases hown x hx with hq | hq
    · rw [hq]; exact kindOf x _ hq (by decide)
    · rw [hq]; exact kindOf x _ hq (by decide)
end
end Mine
namespace Mine

section
variable {prog : Program} {w : World} {A : Around} {E : Value → Shared → Prop} {h G : Heap} {g : Array GenState} {d : Drawn} {t : Nat} {os : OsState}
  {env cenv : Env} {fo fo0 l lg : List (Addr × Obj)} {vars vars' : List (Str × Option Value)} {x : Str} {v : Value} {pos : Pos} {reads : List (Str × Value)} {sc : Scope} {own gl : List Str} {s : Shared}

theorem compStart_ {e : Expr} {depth : Nat} {it acc : Value} {R : Result → Shared → Prop} {s : Shared} (hls : LS e) (hna : ((clausesOf e)[depth]?).elim false (fun g => g.is_async != 0) = false)
    (hself : ∀ (Q' : Value → Shared → Prop) (E' : Value → Shared → Prop), Q' it s → wpAny (model prog w) A (pyIter it) Q' E' s)
    (h : codeAny (model prog w) A (.compLoop e depth it acc env) R s) : codeAny (model prog w) A (.compStart e depth it acc env) R s := by
  have hq : (Code.compLoop e depth it acc env).quiet = true := by cases hls <;> rfl
  refine codeAny_of_tree ?_
  have hh : ∀ Q E', wpAny (model prog w) A (compStart e depth it acc env) Q (notedBy (model prog w) A env E') s → wpAny (model prog w) (A.under (.compStart e depth it acc env)) ((model prog w).den (.compStart e depth it acc env)) Q E' s := by
    intro Q E' hq
    cases hls <;> exact wpAny_notedAt hq
  refine hh _ _ ?_
  unfold compStart
  rw [hna]
  show wpAny _ _ (ask >>= _) _ _ s
  refine wpAny_bind (wpAny_askSetting (wpAny_ite ?_))
  split
  · exact wpAny_bind (wpAny_pure (wpAny_pure (And.intro hq h)))
  · refine wpAny_bind (wpAny_rule ?_)
    have : ∀ Q E', Q () s → wpAny (model prog w) A (match (clausesOf e)[depth]? with | some g => standAt g.iter.pos | _ => pure ()) Q E' s := fun Q E' hq => by
      split
      · exact wpAny_standAt hq
      · exact wpAny_pure hq
    cases (clausesOf e)[depth]? with
    | none => exact wpAny_bind (hself _ _ (wpAny_pure (And.intro hq h)))
    | some g => exact wpAny_bind (wpAny_standAt (wpAny_bind (hself _ _ (wpAny_pure (And.intro hq h)))))

theorem Frm.ns {fo : List (Addr × Obj)} {vars : List (Str × Option Value)} (F : Frm cenv fo vars) (I : Led G (fo ++ l) h) : ∃ m, h.Ns cenv.locals m := by
  obtain ⟨o, es, ep, hm, hd, hk, _⟩ := F.dict
  exact ⟨nsFind es, o, es, ep, I.get (List.mem_append_left _ hm), hd, hk, fun _ => rfl⟩
theorem Frm.rest {fo : List (Addr × Obj)} {vars : List (Str × Option Value)} (F : Frm cenv fo vars) (I : Led G (fo ++ l) h) {h' : Heap} (hs : Heap.SameBut cenv.locals h h') : Led G l h' := by
  obtain ⟨o, es, ep, hm, hd, hk, _⟩ := F.dict
  have nd := I.nd
  rw [List.map_append, List.nodup_append] at nd
  refine ⟨fun b x e => (hs.2 b fun hb => ?_).trans (I.gr b x e), fun p hp => (hs.2 p.1 fun hb => ?_).trans (I.pt p (List.mem_append_right _ hp)), fun p hp => I.new p (List.mem_append_right _ hp), nd.2.1⟩
  · have := I.new _ (List.mem_append_left _ hm)
    rw [← hb, e] at this; cases this
  · exact nd.2.2 _ (List.mem_map.mpr ⟨_, hm, rfl⟩) _ (List.mem_map.mpr ⟨p, hp, rfl⟩) hb.symm

/-- what the loop of a comprehension leaves -/
def CompEnd (prog : Program) (w : World) (A : Around) (E : Value → Shared → Prop) (G : Heap) (use : Option (Value → Sem Unit)) (Q : Value → Shared → Prop) (acc : Addr) (cenv : Env) : Result → Shared → Prop := fun r s' =>
  r = .ok .next ∧ ∃ fo2 vars2, Frm cenv fo2 vars2 ∧ match use with
    | none => ∃ l2, Led G (fo2 ++ l2) s'.heap ∧ ∀ h3, Led G l2 h3 → Q (.ref acc) { s' with heap := h3 }
    | some u => wpAny (model prog w) A (u (.ref acc)) (fun _ s'' => ∃ l2, Led G (fo2 ++ l2) s''.heap ∧ ∀ h3, Led G l2 h3 → Q .none { s'' with heap := h3 }) E s'

theorem CompEnd.post {use : Option (Value → Sem Unit)} {Q : Value → Shared → Prop} {acc : Addr} {r : Result} {s' : Shared} {ce : Env} (x : CompEnd prog w A E G use Q acc { ce with scope := relabel sc env } r s') :
    compPost (model prog w) A E use Q (.ref acc) ce.locals r s' := by
  obtain ⟨rfl, fo2, vars2, F, hx⟩ := x
  cases use with
  | none =>
    obtain ⟨l2, I2, hQ⟩ := hx
    obtain ⟨m, hm⟩ := F.ns I2
    exact ⟨m, hm, fun h' hs => hQ h' (F.rest I2 hs)⟩
  | some u =>
    refine wpAny_mono hx (fun _ s'' h2 => ?_) fun _ _ e => e
    obtain ⟨l2, I2, hQ⟩ := h2
    obtain ⟨m, hm⟩ := F.ns I2
    exact ⟨m, hm, fun h' hs => hQ h' (F.rest I2 hs)⟩

/-- a comprehension that makes a list -/
theorem listCompU {use : Option (Value → Sem Unit)} {elt : Expr} {cg : Comprehension} {gs : List Comprehension} {cpos : Pos} {first : Sem Value} {Q : Value → Shared → Prop}
    (hk : env.scope.kind = .function) (hglob : env.globals = mainGlobals) (hbi : env.builtins = builtinsNs) (look : compLook sc own gl (reads.map Prod.fst) = true) (hna : (cg.is_async != 0) = false) (S : Sees env fo0 reads) 
    (h : wpAny (model prog w) A first (fun x s₁ => wpAny (model prog w) A (pyIter x) (fun it s₂ => ∃ h g d t os lg, s₂ = ⟨h, g, d, t, os⟩ ∧ Led G lg h ∧
      (∀ h' lg' (Q' : Value → Shared → Prop) (E' : Value → Shared → Prop), Led G (lg' ++ lg) h' → Q' it ⟨h', g, d, t, os⟩ → wpAny (model prog w) A (pyIter it) Q' E' ⟨h', g, d, t, os⟩) ∧
      ∀ cenv fo' acc oacc h', LstO oacc [] → Led G (fo' ++ (acc, oacc) :: lg) h' → Frm cenv fo' (own.map fun x => (x, none)) → Sees cenv fo0 reads → Gls cenv gl → (∀ x ∈ own, cenv.kindOf x = sc.names.lookup x) →
        codeAny (model prog w) A (.compLoop (.ListComp elt (cg :: gs) sc pos) 0 it (.ref acc) cenv) (CompEnd prog w A E G use Q acc cenv) ⟨h', g, d, t, os⟩) E s₁) E s)
    (hs : ∀ x, foldedSetIterable cg.iter env x = pure x) :
    wpAny (model prog w) A (comprehension (.ListComp elt (cg :: gs) sc pos) sc env cpos (newList []) false first use) Q E s := by
  have look' := look
  simp only [compLook, Bool.and_eq_true, decide_eq_true_eq, beq_iff_eq] at look'
  obtain ⟨cl, hcl, hfr⟩ := compFrame (G := G) (M := model prog w) hk hglob hbi look S
  refine wpAny_comprehension_free (gs := gs) rfl hs hcl look'.1.1.1.1.1.1 (fun y hy e => ?_) ?_
  · have nd := look'.1.1.1.1.1.2
    obtain ⟨n, k⟩ := y
    cases e
    exact lookup_of_mem nd hy
  · refine wpAny_mono h (fun x s₁ h₁ => wpAny_mono h₁ (fun it s₂ h₂ => ?_) fun _ _ e => e) fun _ _ e => e
    obtain ⟨h, g, d, t, os, lg, rfl, I, hself, hb⟩ := h₂
    refine wpAny_newList ?_ (by simp)
    have I1 := I.push { cls := .type "list", data := .seq ([] : List Value).toArray }
    refine hfr A _ _ _ g d t os I1 _ fun ce fo' h' I2 F S2 G2 K => ?_
    refine compStart_ .l (by show (cg.is_async != 0) = false; exact hna) (fun Q' E' hq => hself h' (fo' ++ [(_, _)]) Q' E' (by rw [List.append_assoc]; exact I2) hq) ?_
    exact codeAny_mono (hb _ fo' _ _ h' ⟨⟨_, rfl⟩, Nat.zero_le _⟩ I2 F S2 G2 K) fun r s' hr => hr.post
end
end Mine
namespace Mine

section
variable {prog : Program} {w : World} {A : Around} {E : Value → Shared → Prop} {h G : Heap} {g : Array GenState} {d : Drawn} {t : Nat} {os : OsState}
  {env cenv : Env} {fo fo0 l lg : List (Addr × Obj)} {vars vars' : List (Str × Option Value)} {x : Str} {v : Value} {pos : Pos} {reads : List (Str × Value)} {sc : Scope} {own gl : List Str} {s : Shared}
  {J al : Addr} {oJ : Obj} {i n : Nat} {a c : Int}

theorem selfL {Q : Value → Shared → Prop} (I : Led G lg h) (hm : (J, oJ) ∈ lg) (hC : LIter al i oJ) (hQ : Q (.ref J) ⟨h, g, d, t, os⟩) : wpAny (model prog w) A (pyIter (.ref J)) Q E ⟨h, g, d, t, os⟩ :=
  wpAny_pyIter_listiter (s := ⟨h, g, d, t, os⟩) ⟨oJ, I.get hm, hC.1, hC.2⟩ hQ

theorem selfR {Q : Value → Shared → Prop} (I : Led G lg h) (hm : (J, oJ) ∈ lg) (hC : RIter a c n i oJ) (hQ : Q (.ref J) ⟨h, g, d, t, os⟩) : wpAny (model prog w) A (pyIter (.ref J)) Q E ⟨h, g, d, t, os⟩ := by
  unfold RIter at hC
  subst hC
  have hT : (⟨h, g, d, t, os⟩ : Shared).TypeIs (.ref J) "range_iterator" := ⟨_, I.get hm, rfl⟩
  refine wpAny_pyIter_slot hT F.slot_range_iterator_iter (wpAny_call_entry F.slot_range_iterator_iter hT (entryFor_alias (id' := "dict_keyiterator.__iter__") (b := Builtin.«dict_keyiterator.__iter__») (by kernel_rfl) rfl (by decide +kernel) (by kernel_rfl)) ?_ (F.args_range_iterator_iter_1 _))
  show wpAny _ _ (ret (.ref J)) _ _ _
  exact wpAny_pure ⟨_, rfl, "range_iterator", _, hT, F.slot_range_iterator_next.lookup, hQ⟩

theorem ListComp_ {elt : Expr} {cg : Comprehension} {gs : List Comprehension} {Q : Value → Shared → Prop} (reads : List (Str × Value)) (own gl : List Str) (fo0 : List (Addr × Obj))
    (hk : env.scope.kind = .function) (hglob : env.globals = mainGlobals) (hbi : env.builtins = builtinsNs) (look : compLook sc own gl (reads.map Prod.fst) = true) (hna : cg.is_async = 0) (S : Sees env fo0 reads) 
    (h : wpAny (model prog w) A (eval cg.iter env) (fun x s₁ => wpAny (model prog w) A (pyIter x) (fun it s₂ => ∃ h g d t os lg, s₂ = ⟨h, g, d, t, os⟩ ∧ Led G lg h ∧
      (∀ h' lg' (Q' : Value → Shared → Prop) (E' : Value → Shared → Prop), Led G (lg' ++ lg) h' → Q' it ⟨h', g, d, t, os⟩ → wpAny (model prog w) A (pyIter it) Q' E' ⟨h', g, d, t, os⟩) ∧
      ∀ cenv fo' acc oacc h', LstO oacc [] → Led G (fo' ++ (acc, oacc) :: lg) h' → Frm cenv fo' (own.map fun x => (x, none)) → Sees cenv fo0 reads → Gls cenv gl → (∀ x ∈ own, cenv.kindOf x = sc.names.lookup x) →
        codeAny (model prog w) A (.compLoop (.ListComp elt (cg :: gs) sc pos) 0 it (.ref acc) cenv) (CompEnd prog w A E G none Q acc cenv) ⟨h', g, d, t, os⟩) E s₁) E s)
    (hs : ∀ x, foldedSetIterable cg.iter env x = pure x) :
    wpAny (model prog w) A (eval (.ListComp elt (cg :: gs) sc pos) env) Q E s := by
  rw [eval_ListComp]
  obtain ⟨target, iter, ifs, as⟩ := cg
  cases hna
  exact listCompU hk hglob hbi look rfl S h hs

theorem AssignComp {elt : Expr} {cg : Comprehension} {gs : List Comprehension} {y : Str} {py spos : Pos} {Q : Flow → Shared → Prop} (reads : List (Str × Value)) (own gl : List Str) (fo0 : List (Addr × Obj))
    (hsw : swapsWith (.ListComp elt (cg :: gs) sc pos) (some (.Name y py)) spos.line env = pure true)
    (hk : env.scope.kind = .function) (hglob : env.globals = mainGlobals) (hbi : env.builtins = builtinsNs) (look : compLook sc own gl (reads.map Prod.fst) = true) (hna : cg.is_async = 0) (S : Sees env fo0 reads) 
    (h : wpAny (model prog w) A (eval cg.iter env) (fun x s₁ => wpAny (model prog w) A (pyIter x) (fun it s₂ => ∃ h g d t os lg, s₂ = ⟨h, g, d, t, os⟩ ∧ Led G lg h ∧
      (∀ h' lg' (Q' : Value → Shared → Prop) (E' : Value → Shared → Prop), Led G (lg' ++ lg) h' → Q' it ⟨h', g, d, t, os⟩ → wpAny (model prog w) A (pyIter it) Q' E' ⟨h', g, d, t, os⟩) ∧
      ∀ cenv fo' acc oacc h', LstO oacc [] → Led G (fo' ++ (acc, oacc) :: lg) h' → Frm cenv fo' (own.map fun x => (x, none)) → Sees cenv fo0 reads → Gls cenv gl → (∀ x ∈ own, cenv.kindOf x = sc.names.lookup x) →
        codeAny (model prog w) A (.compLoop (.ListComp elt (cg :: gs) sc pos) 0 it (.ref acc) cenv) (CompEnd prog w A E G (some (assign (.Name y py) env)) (fun _ s' => Q .next s') acc cenv) ⟨h', g, d, t, os⟩) E s₁) E s)
    (hs : ∀ x, foldedSetIterable cg.iter env x = pure x) :
    wpAny (model prog w) A (exec (.Assign [.Name y py] (.ListComp elt (cg :: gs) sc pos) spos) env) Q E s := by
  obtain ⟨target, iter, ifs, as⟩ := cg
  cases hna
  rw [exec_Assign_Name_used _ _ _ _ hsw]
  refine wpAny_bind (wpAny_standAt (wpAny_bind ?_))
  show wpAny _ A (do let _ ← comprehension (.ListComp elt (⟨target, iter, ifs, 0⟩ :: gs) sc pos) sc env _ (newList []) false (eval iter env) (some (assign (.Name y py) env))) _ _ s
  exact wpAny_bind (wpAny_mono (listCompU (use := some (assign (.Name y py) env)) (Q := fun _ s' => Q .next s') hk hglob hbi look rfl S h hs) (fun _ s' hq => wpAny_pure (wpAny_pure hq)) fun _ _ e => e)
end
end Mine
namespace Mine
theorem noBoolSet : typeLookup (.type "set") "__bool__" = pure none := by rw [typeLookup_type, builtinLookup_eq_fast]; kernel_rfl

section
variable {prog : Program} {w : World} {A : Around} {E : Value → Shared → Prop} {h G : Heap} {g : Array GenState} {d : Drawn} {t : Nat} {os : OsState}
  {env cenv : Env} {fo fo0 l lg f : List (Addr × Obj)} {vs : List Value} {s : Shared} {a r : Addr} {o : Obj} {m : List Int} {pos : Pos} {k n : Nat}

theorem two63 {n : Nat} (h : n ≤ 2 * big) : (n : Int) < 2 ^ 63 := by
  have h2 : 2 * big ≤ 4611686018427387904 := by decide
  omega

theorem lenSet {Q : Value → Shared → Prop} (I : Led G lg h) (hm : (a, o) ∈ lg) (hS : ISet o m) (hQ : ∀ t' u, Q (.int m.length u) ⟨h, g, d, t', os⟩) :
    wpAny (model prog w) A (call (.builtin "len") [.ref a]) Q E ⟨h, g, d, t, os⟩ := by
  obtain ⟨hex, es, ep, tb, hd, hel, hp, hn, hf⟩ := hS.parts prog w
  have hlt := hS.2.1
  refine call_len_set (s := ⟨h, g, d, t, os⟩) (I.get hm) hex hd hf (by omega) ?_
  rw [hn]; exact hQ _ _

theorem truthyS {Q : Bool → Shared → Prop} (I : Led G lg h) (hm : (a, o) ∈ lg) (hS : ISet o m) (hQ : ∀ t', Q (decide (m ≠ [])) ⟨h, g, d, t', os⟩) :
    wpAny (model prog w) A (truthy (.ref a)) Q E ⟨h, g, d, t, os⟩ := by
  obtain ⟨hex, es, ep, tb, hd, hel, hp, hn, hf⟩ := hS.parts prog w
  have hlt := hS.2.1
  have hT : (⟨h, g, d, t, os⟩ : Shared).TypeIs (.ref a) "set" := ⟨o, I.get hm, hex.1⟩
  have hne : ((es.size : Int) != 0) = decide (m ≠ []) := by
    rw [hn]; cases m <;> simp <;> omega
  have key : wpAny (model prog w) A (runValue (.builtin "len" ⟨[.ref a], []⟩)) (fun r s' => r = .int es.size (t + 1) ∧ Q (decide (m ≠ [])) s') E ⟨h, g, d, t, os⟩ := by
    refine wpAny_runValue (codeAny_builtin entry_len ?_)
    rw [Around.under_plainId plain_len _]
    exact wpAny_mono (wpAny_len_body_set (s := ⟨h, g, d, t, os⟩) (Q := fun r s' => r = .int es.size (t + 1) ∧ Q (decide (m ≠ [])) s') (I.get hm) hex hd hf (by omega) ⟨rfl, hQ _⟩)
      (fun fin s' h' => by obtain ⟨r, rfl, hq⟩ := h'; exact hq) fun _ _ e => e
  unfold truthy
  refine wpAny_bind (wpAny_callSpecial?_none (name := Str.ofString "__bool__") hT noBoolSet ?_)
  refine wpAny_bind (wpAny_specialOf (name := Str.ofString "__len__") hT F.slot_set_len.lookup ?_)
  exact wpAny_bind (wpAny_mono key (fun r s' h' => by obtain ⟨rfl, hq⟩ := h'; exact wpAny_pure (hne ▸ hq)) fun _ _ e => e)

theorem truthyL {Q : Bool → Shared → Prop} (I : Led G lg h) (hm : (a, o) ∈ lg) (hL : LstO o vs) (hQ : ∀ t', Q (!vs.isEmpty) ⟨h, g, d, t', os⟩) :
    wpAny (model prog w) A (truthy (.ref a)) Q E ⟨h, g, d, t, os⟩ := by
  refine wpAny_truthy_list (s := ⟨h, g, d, t, os⟩) (I.isList hm hL) (by simpa using two63 hL.2) ?_
  have : (!vs.toArray.isEmpty) = !vs.isEmpty := by simp
  rw [this]; exact hQ _

theorem exprS {e : Expr} {Q : Flow → Shared → Prop} (h : wpAny (model prog w) A (eval e env) (fun v s' => Q .next s') E s) (hk : env.scope.kind = .function) (hs : swapsWith e none pos.line env = pure false) :
    wpAny (model prog w) A (exec (.Expr e pos) env) Q E s := by
  have hi : interactive env = false := by unfold interactive; rw [hk]; rfl
  rw [exec_Expr env e pos hi hs]
  exact wpAny_bind (wpAny_standAt (wpAny_bind (wpAny_mono h (fun v s' hq => wpAny_dropValue hq) fun _ _ x => x)))
end
end Mine
namespace Mine

theorem permOf {α : Type} {a b : List α} (h : ∀ [DecidableEq α] (x : α), a.count x = b.count x) : a.Perm b := by
  classical
  exact List.perm_iff_count.mpr fun x => h x

section
variable {prog : Program} {w : World} {A : Around} {E : Value → Shared → Prop} {h G : Heap} {g : Array GenState} {d : Drawn} {t : Nat} {os : OsState}
  {env cenv : Env} {fo fo0 l lg f : List (Addr × Obj)} {vs : List Value} {s : Shared} {a r : Addr} {o : Obj} {m : List Int} {pos : Pos} {k n : Nat}

theorem Led.jfront {x y : Addr × Obj} {r : List (Addr × Obj)} (I : Led G (fo ++ x :: y :: r) h) : Led G (y :: (fo ++ x :: r)) h :=
  I.perm (List.perm_middle.symm.trans ((List.Perm.swap _ _ _).append_left _))

theorem Frm.inter {fo : List (Addr × Obj)} {vars : List (Str × Option Value)} (F : Frm env fo vars) : interactive env = false := by unfold interactive; rw [F.kind]; rfl

theorem emit_ {elt : Expr} {acc : Value} {Q : Unit → Shared → Prop} (hq : wpAny (model prog w) A (eval elt env) (fun x s₁ => wpAny (model prog w) A (call (.builtin "list.append") [acc, x]) (fun _ s₂ => Q () s₂) E s₁) E s) :
    wpAny (model prog w) A (emitL elt acc env) Q E s := by
  unfold emitL
  exact wpAny_bind (wpAny_mono hq (fun x s₁ h₁ => wpAny_bind (wpAny_mono h₁ (fun _ s₂ h₂ => wpAny_pure h₂) fun _ _ e => e)) fun _ _ e => e)

theorem Led.ne {a b : Addr} {o o' : Obj} {l1 l2 : List (Addr × Obj)} (I : Led G (l1 ++ (a, o) :: l2) h) (hm : (b, o') ∈ l1 ++ l2) : b ≠ a := fun e => by
  have I2 : Led G ((a, o) :: (l1 ++ l2)) h := I.perm List.perm_middle.symm
  have nd := I2.nd
  rw [List.map_cons, List.nodup_cons] at nd
  exact nd.1 (List.mem_map.mpr ⟨_, hm, e⟩)

theorem asTupleG {elts : List Expr} {kd : Nat} {Q : Unit → Shared → Prop} (ok : Ok A k) (I : Led G lg h) (hm : G.get? a = some o) (hT : TupO o vs) (hn : (assignEach elts env).length = vs.length) (hstar : (assignEach elts env).findIdx? (·.1) = none)
    (hQ : ∀ h', Led G lg h' → wpAny (model prog w) A (assignInOrder ((assignEach elts env).map (·.2)) vs) Q E ⟨h', g, d, t, os⟩) :
    wpAny (model prog w) A (assign (.Tuple elts kd pos) env (.ref a)) Q E ⟨h, g, d, t, os⟩ := by
  have hI : IsTup h a vs.toArray := by obtain ⟨n, rfl⟩ := hT; exact ⟨_, I.gr _ _ hm, rfl, n, rfl⟩
  refine assign_Tuple_tuple (s := ⟨h, g, d, t, os⟩) ok.hd hI (by simpa using hn) hstar fun h' he => ?_
  simpa using hQ h' (I.keeps fun b x e => he b x (Nat.ne_of_lt (Heap.lt_size e)) e)
end
end Mine
namespace Mine

/-- the heap with only some of its objects -/
def keepHeap (h : Heap) (keep : Nat → Bool) : Heap := { objs := h.objs.mapIdx fun i o => if keep i then o else { cls := .none, data := .freed } }
theorem keepHeap_get (h : Heap) (keep : Nat → Bool) (a : Addr) : (keepHeap h keep).get? a = if keep a then h.get? a else none := by
  unfold keepHeap Heap.get?
  rw [Array.getElem?_mapIdx]
  cases hq : h.objs[a]? with
  | none => simp
  | some o =>
    rw [Option.map_some]
    by_cases hk : keep a = true
    · rw [if_pos hk, if_pos hk]
    · rw [if_neg hk, if_neg hk]

/-- some of the ledger becomes ground -/
theorem Led.ground {G h : Heap} {pr l : List (Addr × Obj)} (I : Led G (pr ++ l) h) : ∃ G' : Heap, (∀ b o, G.get? b = some o → G'.get? b = some o) ∧ (∀ p ∈ pr, G'.get? p.1 = some p.2) ∧ Led G' l h := by
  refine ⟨keepHeap h fun a => (G.get? a).isSome || (pr.map Prod.fst).contains a, fun b o e => ?_, fun p hp => ?_, ?_, ?_, ?_, ?_⟩
  · rw [keepHeap_get, if_pos (by rw [e]; rfl)]; exact I.gr b o e
  · rw [keepHeap_get, if_pos]
    · exact I.pt p (List.mem_append_left _ hp)
    · simp only [Bool.or_eq_true, List.contains_iff_mem]
      exact .inr (List.mem_map.mpr ⟨p, hp, rfl⟩)
  · intro b o e
    rw [keepHeap_get] at e
    split at e
    · exact e
    · cases e
  · exact fun p hp => I.pt p (List.mem_append_right _ hp)
  · intro p hp
    rw [keepHeap_get, if_neg]
    simp only [Bool.or_eq_true, List.contains_iff_mem, not_or]
    refine ⟨by rw [I.new p (List.mem_append_right _ hp)]; simp, fun hm => ?_⟩
    have nd := I.nd
    rw [List.map_append, List.nodup_append] at nd
    exact nd.2.2 _ hm _ (List.mem_map.mpr ⟨p, hp, rfl⟩) rfl
  · have nd := I.nd
    rw [List.map_append, List.nodup_append] at nd
    exact nd.2.1

theorem Gd.up {G G' : Heap} {mg mb : Str → Option Value} (gd : Gd G mg mb) (hk : ∀ b o, G.get? b = some o → G'.get? b = some o) : Gd G' mg mb := ⟨gd.g.keeps hk, gd.b.keeps hk, gd.bi, gd.lim.keeps hk⟩
theorem FnIs.up {G G' : Heap} {f : Addr} {name : Str} {params : Arguments} {body : List Stmt} {sc : Scope} (x : FnIs G f name params body sc) (hk : ∀ b o, G.get? b = some o → G'.get? b = some o) : FnIs G' f name params body sc :=
  let ⟨o, pm, cd, doc, ho, hd, hc⟩ := x; ⟨o, pm, cd, doc, hk _ _ ho, hd, hc.keeps hk⟩
end Mine
open PySem.SeqAt (shaped noMix noMixAll)
namespace Mine

abbrev dInts (x : List Int) : PyData := .list (x.map PyData.int)

/-- lists of ints in a list -/
inductive NestL (lg : List (Addr × Obj)) : List Value → List (List Int) → Prop where
  | nil : NestL lg [] []
  | cons {a : Addr} {o : Obj} {ws vs : List Value} {x : List Int} {xs : List (List Int)} : (a, o) ∈ lg → LstO o ws → IntsAre ws x → NestL lg vs xs → NestL lg (.ref a :: vs) (x :: xs)
theorem NestL.mono {lg lg' : List (Addr × Obj)} {vs : List Value} {xs : List (List Int)} (n : NestL lg vs xs) (h : ∀ p ∈ lg, p ∈ lg') : NestL lg' vs xs := by
  induction n with
  | nil => exact .nil
  | cons h1 h2 h3 _ ih => exact .cons (h _ h1) h2 h3 ih
theorem NestL.length {lg : List (Addr × Obj)} {vs : List Value} {xs : List (List Int)} (n : NestL lg vs xs) : vs.length = xs.length := by
  induction n with
  | nil => rfl
  | cons _ _ _ _ ih => simp [ih]
theorem NestL.snoc {lg : List (Addr × Obj)} {vs ws : List Value} {xs : List (List Int)} {a : Addr} {o : Obj} {x : List Int} (n : NestL lg vs xs) (h1 : (a, o) ∈ lg) (h2 : LstO o ws) (h3 : IntsAre ws x) : NestL lg (vs ++ [.ref a]) (xs ++ [x]) := by
  induction n with
  | nil => exact .cons h1 h2 h3 .nil
  | cons a b c _ ih => exact .cons a b c ih
theorem NestL.get {lg : List (Addr × Obj)} {vs : List Value} {xs : List (List Int)} (n : NestL lg vs xs) {i : Nat} {x : List Int} (hx : xs[i]? = some x) : ∃ a o ws, vs[i]? = some (.ref a) ∧ (a, o) ∈ lg ∧ LstO o ws ∧ IntsAre ws x := by
  induction n generalizing i with
  | nil => simp at hx
  | @cons a o ws vs y ys h1 h2 h3 _ ih =>
    cases i with
    | zero => simp at hx; subst hx; exact ⟨a, o, ws, by simp, h1, h2, h3⟩
    | succ i => simp at hx; obtain ⟨b, p, us, e, r⟩ := ih hx; exact ⟨b, p, us, by simpa using e, r⟩

open PySem.Spec PyProof.V in
theorem canLay_nest : ∀ xs : List (List Int), PyData.canLayAll0 (xs.map dInts) = true
  | [] => by simp [PyData.canLayAll0]
  | x :: r => by simp [PyData.canLayAll0, PyData.canLay0, canLayAll0_ints, canLay_nest r]
theorem depth_nest : ∀ xs : List (List Int), PyData.depthAll (xs.map dInts) ≤ 2
  | [] => by simp [PyData.depthAll]
  | x :: r => by
    have := depth_nest r
    have := PySem.W.depthAll_ints x
    simp only [List.map_cons, PyData.depthAll, PyData.depth]
    omega
theorem shaped_nest (xs : List (List Int)) : shaped (.list (xs.map dInts)) = true := by
  have h1 := depth_nest xs
  have h2 : PyData.depth (.list (xs.map dInts)) ≤ 64 := by simp only [PyData.depth]; omega
  show (PyData.canLay0 (.list (xs.map dInts)) && decide (PyData.depth (.list (xs.map dInts)) ≤ 64)) = true
  rw [Bool.and_eq_true]
  exact ⟨by simp only [PyData.canLay0]; exact canLay_nest xs, decide_eq_true h2⟩
theorem noMix_nest : ∀ xs ys : List (List Int), noMixAll (xs.map dInts) (ys.map dInts) = true
  | [], [] => by simp [noMixAll]
  | [], _ :: _ => by simp [noMixAll]
  | _ :: _, [] => by simp [noMixAll]
  | x :: r, y :: q => by simp [noMixAll, noMix, noMix_ints, noMix_nest r q]
theorem same_nest : ∀ xs ys : List (List Int), PySem.Spec.sameAll (xs.map dInts) (ys.map dInts) = decide (xs = ys)
  | [], [] => by simp [PySem.Spec.sameAll]
  | [], _ :: _ => by simp [PySem.Spec.sameAll]
  | _ :: _, [] => by simp [PySem.Spec.sameAll]
  | x :: r, y :: q => by
    simp only [List.map_cons, PySem.Spec.sameAll, PySem.Spec.same, same_ints, same_nest r q]
    by_cases h : x = y <;> simp [h]

section
variable {prog : Program} {w : World} {A : Around} {E : Value → Shared → Prop} {h G : Heap} {g : Array GenState} {d : Drawn} {t : Nat} {os : OsState}
  {env : Env} {fo l lg f : List (Addr × Obj)} {vs ws : List Value} {s : Shared} {a b r : Addr} {o oa ob : Obj} {ns ms : List Int} {xs ys : List (List Int)} {pos : Pos} {k n : Nat} {kvs : List (Int × Value)}

theorem NestL.reads (N : NestL lg vs xs) (I : Led G lg h) : ∃ as, ReadsAll h vs (xs.map dInts) as := by
  induction N with
  | nil => exact ⟨_, .nil⟩
  | cons h1 h2 h3 _ ih =>
    obtain ⟨as, ha⟩ := ih
    exact ⟨_, .cons (reads_of_ints (I.isList h1 h2) h3) ha⟩
theorem reads_nest (I : Led G lg h) (hm : (a, o) ∈ lg) (hL : LstO o vs) (N : NestL lg vs xs) : ∃ as, Reads h (.ref a) (.list (xs.map dInts)) as := by
  obtain ⟨as, ha⟩ := N.reads I
  obtain ⟨o', ho, hc, n, hd⟩ := I.isList hm hL
  exact ⟨_, Reads.list ho hc hd (by simpa using ha)⟩

theorem neNest {Q : Value → Shared → Prop} (ok : Ok A k) (I : Led G lg h) (ha : (a, oa) ∈ lg) (hb : (b, ob) ∈ lg) (hA : LstO oa vs) (hB : LstO ob ws) (NA : NestL lg vs xs) (NB : NestL lg ws ys) (hQ : Q (.bool (!decide (xs = ys))) ⟨h, g, d, t, os⟩) :
    wpAny (model prog w) A (compareOp .NotEq (.ref a) (.ref b)) Q E ⟨h, g, d, t, os⟩ := by
  obtain ⟨_, ra⟩ := reads_nest I ha hA NA
  obtain ⟨_, rb⟩ := reads_nest I hb hB NB
  exact ne_dataH_same (s := ⟨h, g, d, t, os⟩) ra rb (shaped_nest xs) (shaped_nest ys) ok.units64 (by simp only [noMix]; exact noMix_nest xs ys) (by simp only [PySem.Spec.same]; rw [same_nest]; exact hQ)
theorem eqInts {Q : Value → Shared → Prop} (ok : Ok A k) (I : Led G lg h) (ha : (a, oa) ∈ lg) (hb : (b, ob) ∈ lg) (hA : LstO oa vs) (hB : LstO ob ws) (iA : IntsAre vs ns) (iB : IntsAre ws ms) (hQ : Q (.bool (decide (ns = ms))) ⟨h, g, d, t, os⟩) :
    wpAny (model prog w) A (compareOp .Eq (.ref a) (.ref b)) Q E ⟨h, g, d, t, os⟩ :=
  eq_intsK (s := ⟨h, g, d, t, os⟩) (I.isList ha hA) iA (I.isList hb hB) iB ok.units64 hQ
theorem neInts {Q : Value → Shared → Prop} (ok : Ok A k) (I : Led G lg h) (ha : (a, oa) ∈ lg) (hb : (b, ob) ∈ lg) (hA : LstO oa vs) (hB : LstO ob ws) (iA : IntsAre vs ns) (iB : IntsAre ws ms) (hQ : Q (.bool (!decide (ns = ms))) ⟨h, g, d, t, os⟩) :
    wpAny (model prog w) A (compareOp .NotEq (.ref a) (.ref b)) Q E ⟨h, g, d, t, os⟩ :=
  ne_intsK (s := ⟨h, g, d, t, os⟩) (I.isList ha hA) iA (I.isList hb hB) iB ok.units64 hQ

theorem addL {Q : Value → Shared → Prop} (I : Led G (f ++ l) h) (ha : (a, oa) ∈ f ++ l) (hb : (b, ob) ∈ f ++ l) (hA : LstO oa vs) (hB : LstO ob ws) (hbig : vs.length + ws.length ≤ 2 * big)
    (hQ : ∀ D o' h', LstO o' (vs ++ ws) → Led G (f ++ (D, o') :: l) h' → Q (.ref D) ⟨h', g, d, t, os⟩) : wpAny (model prog w) A (binaryOp .Add (.ref a) (.ref b)) Q E ⟨h, g, d, t, os⟩ := by
  obtain ⟨⟨cls, dd, data, sl⟩, ho, hc, n, hd⟩ := I.isList ha hA
  obtain ⟨⟨cls2, dd2, data2, sl2⟩, ho2, hc2, n2, hd2⟩ := I.isList hb hB
  simp only at hc hd hc2 hd2
  subst hc hd hc2 hd2
  have e : vs.toArray ++ ws.toArray = (vs ++ ws).toArray := by simp
  have hz := bigs
  refine concat_meets (s := ⟨h, g, d, t, os⟩) ⟨_, ho, rfl⟩ ⟨_, ho2, rfl⟩ noFill_list_add seq_list_add PySem.F.slot_list_add PySem.F.entry_list_add (PySem.F.args_list_add_2 _ _) (list_addW a b vs.toArray ws.toArray n n2 dd dd2 sl sl2 (by simp; omega)) ⟨ho, ho2, ?_⟩
  rw [e]
  exact hQ _ _ _ ⟨⟨0, rfl⟩, by simpa using hbig⟩ (I.pushm _)

theorem maxL {Q : Value → Shared → Prop} (ok : Ok A (k + 1)) (I : Led G lg h) (ha : (a, oa) ∈ lg) (hA : LstO oa vs) (iA : IntsAre vs ns) (hne : ns ≠ [])
    (hQ : ∀ M tk h' t', M ∈ ns → (∀ x ∈ ns, x ≤ M) → Led G lg h' → Q (.int M tk) ⟨h', g, d, t', os⟩) : wpAny (model prog w) A (call (.builtin "max") [.ref a]) Q E ⟨h, g, d, t, os⟩ := by
  have hl := I.isList ha hA
  obtain ⟨xs, hxs⟩ := (iA.allInts).items
  rw [hxs] at hl
  have hnums : numsOf (intItems xs).toList = ns := by rw [← hxs, show vs.toArray.toList = vs from rfl, iA.numsOf]
  rw [nums_intItems] at hnums
  have hsz : 0 < xs.size := by
    have : ns.length = xs.size := by rw [← hnums, List.length_map, Array.length_toList]
    rcases Nat.eq_zero_or_pos xs.size with h0 | h0
    · exact absurd (List.eq_nil_of_length_eq_zero (this.trans h0)) hne
    · exact h0
  refine max_intList (s := ⟨h, g, d, t, os⟩) ok.hd hl hsz fun v h' tk hv hk => ?_
  obtain ⟨t', rfl⟩ := intItems_at hv
  obtain ⟨h1, h2⟩ := argBest_gt (numAt xs) (xs.size - 1)
  refine hQ _ t' h' tk ?_ (fun x hx => ?_) (I.keeps hk)
  · rw [← hnums, numAt_eq]; exact getD_mem (by rw [List.length_map, Array.length_toList]; omega)
  · rw [← hnums] at hx
    obtain ⟨j, hj, rfl⟩ := mem_getD hx
    rw [List.length_map, Array.length_toList] at hj
    rw [← numAt_eq]; exact h2 j (by omega)
end
end Mine
namespace Mine

def SliceP (Q : Value → Shared → Prop) (o vl vu : Value) (s₃ : Shared) : Prop := ∃ l items lo hi, o = .ref l ∧ s₃.heap.IsList l items ∧ items.size ≤ sizeLine ∧ IsPart vl lo ∧ IsPart vu hi ∧
  Q (.ref (s₃.heap.objs.size + 1)) { s₃ with heap := (s₃.heap.push { cls := .type "slice", data := .fields #[vl, vu, .none] }).push { cls := .type "list", data := .seq (slicePick items lo hi none) } }

section
variable {prog : Program} {w : World} {A : Around} {E : Value → Shared → Prop} {h G : Heap} {g : Array GenState} {d : Drawn} {t : Nat} {os : OsState}
  {env : Env} {fo l lg f : List (Addr × Obj)} {vs ws : List Value} {s : Shared} {a b r : Addr} {o oa ob : Obj} {ns ms : List Int} {xs ys : List (List Int)} {pos : Pos} {k n : Nat} {kvs : List (Int × Value)}

theorem Slice_ {value : Expr} {lower upper : Option Expr} {p : Pos} {Q : Value → Shared → Prop}
    (h : wpAny (model prog w) A (eval value env) (fun o s₁ => wpAny (model prog w) A (evalPart lower env) (fun vl s₂ => wpAny (model prog w) A (evalPart upper env) (fun vu s₃ => SliceP Q o vl vu s₃) E s₂) E s₁) E s)
    (ht : ∀ o r, letTemporaryGo value o r = pure ()) : wpAny (model prog w) A (eval (.Subscript value (.Slice lower upper none p) pos) env) Q E s := wpAny_Subscript_list_slice h ht

theorem sliceAt {lo hi : Option Int} {vl vu : Value} {us : List Value} {Q : Value → Shared → Prop} (I : Led G (f ++ l) h) (hl : h.IsList a vs.toArray) (hv : vs.length ≤ 2 * big) (pl : IsPart vl lo) (pu : IsPart vu hi) (he : slicePick vs.toArray lo hi none = us.toArray) (hu : us.length ≤ vs.length)
    (hQ : ∀ D o' h', LstO o' us → Led G (f ++ (D, o') :: l) h' → Q (.ref D) ⟨h', g, d, t, os⟩) : SliceP Q (.ref a) vl vu ⟨h, g, d, t, os⟩ := by
  have hz := bigs
  refine ⟨a, vs.toArray, lo, hi, rfl, hl, by simp; omega, pl, pu, ?_⟩
  rw [he]
  have I1 := I.push { cls := .type "slice", data := .fields #[vl, vu, .none] }
  have I2 := I1.push { cls := .type "list", data := .seq us.toArray }
  rw [Heap.size_push] at I2
  refine hQ _ { cls := .type "list", data := .seq us.toArray } _ ⟨⟨0, rfl⟩, by omega⟩ ?_
  refine (I2.perm (l' := (h.objs.size, { cls := .type "slice", data := .fields #[vl, vu, .none] }) :: (f ++ (h.objs.size + 1, { cls := .type "list", data := .seq us.toArray }) :: l)) ?_).drop
  refine (List.Perm.trans (List.Perm.cons _ List.perm_middle) (List.Perm.swap _ _ _))

/-- x[:] -/
theorem sliceAll {Q : Value → Shared → Prop} (I : Led G (f ++ l) h) (hm : (a, oa) ∈ f ++ l) (hL : LstO oa vs) (hQ : ∀ D o' h', LstO o' vs → Led G (f ++ (D, o') :: l) h' → Q (.ref D) ⟨h', g, d, t, os⟩) :
    SliceP Q (.ref a) .none .none ⟨h, g, d, t, os⟩ :=
  sliceAt I (I.isList hm hL) hL.2 .none .none (slicePick_all _) (Nat.le_refl _) hQ
theorem partNone {Q : Value → Shared → Prop} (hq : Q .none s) : wpAny (model prog w) A (evalPart none env) Q E s := wpAny_pure hq
theorem partSome {e : Expr} {Q : Value → Shared → Prop} (hq : wpAny (model prog w) A (eval e env) Q E s) : wpAny (model prog w) A (evalPart (some e) env) Q E s := hq

def ValsO (d : Addr) (o : Obj) : Prop := o = { cls := .type "dict_values", data := .fields #[.ref d] }
theorem valuesD {Q : Value → Shared → Prop} (I : Led G (f ++ l) h) (hm : (a, oa) ∈ f ++ l) (hD : DicO prog w a oa kvs) (hQ : ∀ V o' h', ValsO a o' → Led G (f ++ (V, o') :: l) h' → Q (.ref V) ⟨h', g, d, t, os⟩) :
    wpAny (model prog w) A (call (.builtin "dict.values") [.ref a]) Q E ⟨h, g, d, t, os⟩ := by
  have D := I.dic hm hD
  refine call_meetsIn (s := ⟨h, g, d, t, os⟩) PySem.F.slot_dict_values D.typeIs PySem.F.entry_dict_values (PySem.F.args_dict_values_1 _) (meets_dict_values (intKind prog w) a hD.sys) ⟨⟨kvs, D⟩, ?_⟩
  exact hQ _ _ _ rfl (I.pushm _)

theorem argBest_lt (bt : Nat → Nat → Bool) : ∀ n, argBest bt n ≤ n
  | 0 => Nat.le_refl _
  | n + 1 => by unfold argBest; split
                · exact Nat.le_refl _
                · exact Nat.le_succ_of_le (argBest_lt bt n)

/-- max of a dict's values -/
theorem maxVals {V : Addr} {oV : Obj} {dv : List (Int × Int)} {Q : Value → Shared → Prop} (ok : Ok A (k + 1)) (I : Led G lg h) (hV : (V, oV) ∈ lg) (hm : (a, oa) ∈ lg) (hO : ValsO a oV) (hD : DicO prog w a oa kvs)
    (hk : ∀ (i : Nat) c v, kvs[i]? = some (c, v) → ∃ n t, dv[i]? = some (c, n) ∧ v = .int n t) (hlen : dv.length = kvs.length) (hne : kvs ≠ [])
    (hQ : ∀ M tk h' t', M ∈ dv.map (·.2) → (∀ x ∈ dv.map (·.2), x ≤ M) → Led G lg h' → Q (.int M tk) ⟨h', g, d, t', os⟩) :
    wpAny (model prog w) A (call (.builtin "max") [.ref V]) Q E ⟨h, g, d, t, os⟩ := by
  obtain ⟨hs, ⟨es, ep, hex, hd, hks, hp, hnd⟩, hb⟩ := hD
  unfold ValsO at hO
  subst hO
  have hat : h.DictAt (intKind prog w) a kvs ep := ⟨oa, es, I.get hm, hex, hd, hks, hp, hnd⟩
  have hv : h.IsValuesView V a := ⟨_, I.get hV, rfl, rfl⟩
  have hI := I.push { cls := .type "dict_valueiterator", data := .fields #[.ref a, .int 0 0, .int kvs.length 0, .int ep 0] }
  have hlt := I.lt hm
  have hne0 : 0 < kvs.length := List.length_pos_iff.mpr hne
  have num : ∀ (i : Nat) (v : Value), (∃ k, kvs[i]? = some (k, v)) → ∃ t, v = .int ((dv.map (·.2)).getD i 0) t := fun i v ⟨c, hc⟩ => by
    obtain ⟨n, t, h1, rfl⟩ := hk i c v hc
    refine ⟨t, ?_⟩
    rw [List.getD_eq_getElem?_getD, List.getElem?_map, h1]; rfl
  refine call_max_walk (wpAny_pyIter_values (s := ⟨h, g, d, t, os⟩) hv hat ?_)
  refine ⟨h.objs.size, _, _, kvs.length, _, _, _, rfl, Walks.dictValues (knd := intKind prog w) (A := A.in1) ok.in1.hd h.objs.size a (Nat.ne_of_lt hlt) kvs ep, ⟨?_, ?_⟩, ?_, hne0, CmpOf.ints_gt (fun i => (dv.map (·.2)).getD i 0) num, fun v h' tk hP hkeep => ?_⟩
  · exact ⟨_, hI.get List.mem_cons_self, rfl, rfl⟩
  · exact ⟨oa, es, hI.get (List.mem_cons_of_mem _ hm), hex, hd, hks, hp, hnd⟩
  · intro b hb
    have hb' : b = h.objs.size ∨ b = a := by simpa using hb
    rw [Heap.size_push]
    rcases hb' with rfl | rfl
    · exact Nat.lt_succ_self _
    · exact Nat.lt_succ_of_lt hlt
  · obtain ⟨t', rfl⟩ := num _ _ hP
    obtain ⟨h1, h2⟩ := argBest_gt (fun i => (dv.map (·.2)).getD i 0) (kvs.length - 1)
    have hlm : (dv.map (·.2)).length = kvs.length := by rw [List.length_map, hlen]
    refine hQ _ t' h' tk ?_ (fun x hx => ?_) ⟨fun b o e => hkeep b o ?_ (Heap.get?_push_of_some _ (I.gr _ _ e)), fun p hp => hkeep _ _ ?_ (Heap.get?_push_of_some _ (I.pt p hp)), I.new, I.nd⟩
    · exact getD_mem (by omega)
    · obtain ⟨j, hj, rfl⟩ := mem_getD hx
      exact h2 j (by omega)
    · intro hb
      have := Heap.lt_size (I.gr _ _ e)
      rw [List.mem_singleton.mp hb] at this
      exact Nat.lt_irrefl _ this
    · intro hb
      have := I.lt (a := p.1) (o := p.2) hp
      rw [List.mem_singleton.mp hb] at this
      exact Nat.lt_irrefl _ this
end
end Mine
namespace Mine

section
variable {prog : Program} {w : World} {A : Around} {E : Value → Shared → Prop} {h G : Heap} {g : Array GenState} {d : Drawn} {t : Nat} {os : OsState}
  {env : Env} {fo l lg f : List (Addr × Obj)} {vs ws : List Value} {s : Shared} {a b r : Addr} {o oa ob : Obj} {ns ms : List Int} {xs ys : List (List Int)} {pos : Pos} {k n : Nat} {kvs : List (Int × Value)}

theorem inner_ {e : Expr} {depth : Nat} {iter : Expr} {acc : Value} {Q : Unit → Shared → Prop}
    (h : wpAny (model prog w) A (eval iter env) (fun x s₁ => wpAny (model prog w) A (pyIter x) (fun it s₂ => codeAny (model prog w) A (.compStart e depth it acc env) (fun r s' => r = .ok .next ∧ Q () s') s₂) NoE s₁) NoE s)
    (hs : ∀ x, foldedSetIterable iter env x = pure x) : wpAny (model prog w) A (innerOf e depth iter acc env) Q NoE s := by
  unfold innerOf
  refine wpAny_bind (wpAny_mono h (fun x s₁ h₁ => wpAny_bind (wpAny_standAt (wpAny_bind (wpAny_of_eq (hs x) (wpAny_bind (wpAny_holding (wpAny_mono h₁ (fun it s₂ h₂ => ?_) fun _ _ e => e))))))) fun _ _ e => e)
  refine wpAny_bind (wpAny_runOwn (codeAny_mono (R := fun r s' => r = .ok .next ∧ Q () s') h₂ fun r s' hr => ?_))
  obtain ⟨rfl, hq⟩ := hr
  exact wpAny_pure hq

theorem callWD {e : Expr} {rest : List Expr} {fa : Addr} {fd : FuncData} {Q : Value → Shared → Prop} {s : Shared} (hf : FdIs G fa fd)
    (h : wpAny (model prog w) A (spliced (backTo pos (starEach (e :: rest) env))) (fun vs s₁ => Grd G s₁ ∧ wpAny (model prog w) A (call (.ref fa) vs) Q E s₁) E s)
    (he : starEach (e :: rest) env = (false, eval e env) :: starEach rest env) :
    wpAny (model prog w) A (callWith pos (.ref fa) [] (backTo pos (starEach (e :: rest) env)) []) Q E s := by
  obtain ⟨o, ho, hd, _⟩ := hf
  exact callWith_def hd (wpAny_mono h (fun vs s₁ h₁ => ⟨h₁.1 _ _ ho, h₁.2⟩) fun _ _ x => x) he

theorem subD {value slice : Expr} {x : Int} {u : Tok} {v : Value} {Q : Value → Shared → Prop} (I : Led G lg h) (hm : (a, o) ∈ lg) (hD : DicO prog w a o kvs) (hv : valueAt kvs x = some v) (hQ : ∀ t', Q v ⟨h, g, d, t', os⟩)
    (hs : subscripted slice false (.ref a) (.int x u) = operate [.ref a, .int x u] (getItem (.ref a) (.int x u))) :
    wpAny (model prog w) A (subscriptTail value slice (.ref a) (.int x u)) Q E ⟨h, g, d, t, os⟩ :=
  tail_any (I.dic hm hD).typeIs slot_dict_getitem.lookup (getD I hm hD hv hQ) hs
end
end Mine
namespace Mine

/-- those told ahead of c -/
def mf (ps : List (Int × Int)) (c : Int) : List Int := ps.foldl (fun m q => if q.2 = c then ins q.1 m else m) []
theorem mf_snoc (ps : List (Int × Int)) (p c x : Int) : mf (ps ++ [(p, c)]) x = if c = x then ins p (mf ps x) else mf ps x := by
  unfold mf; rw [List.foldl_append]; rfl
theorem mem_mf : ∀ (ps : List (Int × Int)) (x p : Int), p ∈ mf ps x ↔ (p, x) ∈ ps := by
  intro ps x p
  have key : ∀ (ps : List (Int × Int)) (m : List Int), p ∈ ps.foldl (fun m q => if q.2 = x then ins q.1 m else m) m ↔ p ∈ m ∨ (p, x) ∈ ps := by
    intro ps
    induction ps with
    | nil => intro m; simp
    | cons q r ih =>
      intro m
      obtain ⟨a, b⟩ := q
      rw [List.foldl_cons, ih]
      by_cases h : b = x
      · subst h; simp only [if_true, mem_ins, List.mem_cons, Prod.mk.injEq, and_true]
        constructor
        · rintro ((h | h) | h)
          · exact .inr (.inl h)
          · exact .inl h
          · exact .inr (.inr h)
        · rintro (h | h | h)
          · exact .inl (.inr h)
          · exact .inl (.inl h)
          · exact .inr h
      · simp only [if_neg h, List.mem_cons, Prod.mk.injEq]
        constructor
        · rintro (h1 | h1)
          · exact .inl h1
          · exact .inr (.inr h1)
        · rintro (h1 | ⟨_, h1⟩ | h1)
          · exact .inl h1
          · exact absurd h1.symm h
          · exact .inr h1
  rw [mf, key]; simp
theorem mf_len (ps : List (Int × Int)) (x : Int) : (mf ps x).length ≤ ps.length := by
  have key : ∀ (ps : List (Int × Int)) (m : List Int), (ps.foldl (fun m q => if q.2 = x then ins q.1 m else m) m).length ≤ m.length + ps.length := by
    intro ps
    induction ps with
    | nil => intro m; simp
    | cons q r ih =>
      intro m
      rw [List.foldl_cons]
      refine Nat.le_trans (ih _) ?_
      rw [List.length_cons]
      split
      · have := @ins_len q.1 m; omega
      · omega
  have := key ps []; simpa [mf] using this

/-- a list of pairs of ints, the pairs in the ground -/
def PairsG (G : Heap) (vs : List Value) (ps : List (Int × Int)) : Prop := vs.length = ps.length ∧ ∀ (i : Nat) (p c : Int), ps[i]? = some (p, c) → ∃ a o t1 t2, vs[i]? = some (.ref a) ∧ G.get? a = some o ∧ TupO o [.int p t1, .int c t2]

/-- the table of edges -/
structure EdgesL (kvs : List (Int × Value)) (el : List (Addr × Obj)) (f : Int → List Int) : Prop where
  val : ∀ c v, (c, v) ∈ kvs → ∃ a o, v = .ref a ∧ (a, o) ∈ el ∧ ISet o (f c)
  inj : ∀ c c' a, (c, Value.ref a) ∈ kvs → (c', Value.ref a) ∈ kvs → c = c'
  out : ∀ c, valueAt kvs c = none → f c = []

theorem valueAt_mem {kvs : List (Int × Value)} {c : Int} {v : Value} (h : valueAt kvs c = some v) : (c, v) ∈ kvs := by
  unfold valueAt at h
  obtain ⟨p, hp, rfl⟩ := Option.map_eq_some_iff.mp h
  have := List.find?_some hp
  have hc : p.1 = c := by simpa using this
  rw [← hc]; exact List.mem_of_find?_eq_some hp
theorem mem_valueAt {kvs : List (Int × Value)} (nd : (kvs.map (·.1)).Nodup) {c : Int} {v : Value} (h : (c, v) ∈ kvs) : valueAt kvs c = some v := by
  induction kvs with
  | nil => cases h
  | cons q r ih =>
    rw [List.map_cons, List.nodup_cons] at nd
    unfold valueAt
    rw [List.find?_cons]
    rcases List.mem_cons.mp h with rfl | h
    · simp
    · have : q.1 ≠ c := fun e => nd.1 (List.mem_map.mpr ⟨_, h, e.symm⟩)
      simp only [this, decide_false]
      exact ih nd.2 h

theorem EdgesL.nil : EdgesL [] [] (fun _ => []) := ⟨fun c v h => (by cases h), fun c c' a h => (by cases h), fun c h => rfl⟩

/-- a set of the table changed -/
theorem EdgesL.set {kvs : List (Int × Value)} {el : List (Addr × Obj)} {f : Int → List Int} {lf : Obj → List (Addr × Obj)} {c : Int} {a : Addr} {o o' : Obj} {m' : List Int} (x : EdgesL kvs (lf o) f) (H : Hole lf a) (nd : ((lf o).map Prod.fst).Nodup)
    (hm : (c, Value.ref a) ∈ kvs) (hS : ISet o' m') (nk : (kvs.map (·.1)).Nodup) : EdgesL kvs (lf o') (fun z => if c = z then m' else f z) := by
  refine ⟨fun z v hz => ?_, x.inj, fun z hz => ?_⟩
  · obtain ⟨b, ob, rfl, hb, hSb⟩ := x.val z v hz
    by_cases e : c = z
    · subst e
      have e1 := mem_valueAt nk hm
      have e2 := mem_valueAt nk hz
      rw [e1] at e2
      cases e2
      exact ⟨a, o', rfl, H.mem o', by rw [if_pos rfl]; exact hS⟩
    · have hne : b ≠ a := fun hb => e (x.inj c z a hm (hb ▸ hz))
      exact ⟨b, ob, rfl, (H o o').stay nd _ hb hne, by rw [if_neg e]; exact hSb⟩
  · have : c ≠ z := fun e => by
      subst e
      rw [mem_valueAt nk hm] at hz; cases hz
    rw [if_neg this]; exact x.out z hz

/-- a new set of the table -/
theorem EdgesL.new {kvs : List (Int × Value)} {el : List (Addr × Obj)} {f : Int → List Int} {c : Int} {a : Addr} {o : Obj} {m : List Int} (x : EdgesL kvs el f) (ha : ∀ p ∈ el, p.1 ≠ a) (hS : ISet o m) (hv : valueAt kvs c = none) :
    EdgesL (kvs ++ [(c, .ref a)]) ((a, o) :: el) (fun z => if c = z then m else f z) := by
  have hnew : ∀ z, (z, Value.ref a) ∉ kvs := fun z hz => by
    obtain ⟨b, ob, e, hb, _⟩ := x.val z _ hz
    cases e
    exact ha _ hb rfl
  have hck : ∀ v, (c, v) ∉ kvs := fun v hv' => (valueAt_none.mp hv) (List.mem_map.mpr ⟨_, hv', rfl⟩)
  refine ⟨fun z v hz => ?_, fun z z' b hz hz' => ?_, fun z hz => ?_⟩
  · rcases List.mem_append.mp hz with hz | hz
    · obtain ⟨b, ob, rfl, hb, hSb⟩ := x.val z v hz
      have : c ≠ z := fun e => hck _ (e ▸ hz)
      exact ⟨b, ob, rfl, List.mem_cons_of_mem _ hb, by rw [if_neg this]; exact hSb⟩
    · rw [List.mem_singleton] at hz
      cases hz
      exact ⟨a, o, rfl, List.mem_cons_self, by rw [if_pos rfl]; exact hS⟩
  · rcases List.mem_append.mp hz with hz | hz <;> rcases List.mem_append.mp hz' with hz' | hz'
    · exact x.inj z z' b hz hz'
    · rw [List.mem_singleton] at hz'; cases hz'; exact absurd hz (hnew _)
    · rw [List.mem_singleton] at hz; cases hz; exact absurd hz' (hnew _)
    · rw [List.mem_singleton] at hz hz'; cases hz; cases hz'; rfl
  · rw [valueAt_none] at hz
    rw [List.map_append, List.mem_append, not_or] at hz
    have : c ≠ z := fun e => hz.2 (by rw [← e]; exact List.mem_singleton.mpr rfl)
    rw [if_neg this]
    exact x.out z (valueAt_none.mpr hz.1)
end Mine
namespace Mine

/-- a dict's entries against plain ones -/
inductive Match : List (Int × Value) → List (Int × Int) → Prop where
  | nil : Match [] []
  | cons {c n : Int} {t : Tok} {kvs : List (Int × Value)} {dv : List (Int × Int)} : Match kvs dv → Match ((c, .int n t) :: kvs) ((c, n) :: dv)
def dget (dv : List (Int × Int)) (b : Int) : Option Int := (dv.find? fun p => decide (p.1 = b)).map (·.2)

namespace Match
variable {kvs : List (Int × Value)} {dv : List (Int × Int)} {b c n : Int} {t : Tok}
theorem length (m : Match kvs dv) : dv.length = kvs.length := by
  induction m with
  | nil => rfl
  | cons _ ih => simp [ih]
theorem keys (m : Match kvs dv) : kvs.map (·.1) = dv.map (·.1) := by
  induction m with
  | nil => rfl
  | cons _ ih => simp [ih]
theorem get (m : Match kvs dv) : ∀ (i : Nat) c v, kvs[i]? = some (c, v) → ∃ n t, dv[i]? = some (c, n) ∧ v = Value.int n t := by
  induction m with
  | nil => intro i c v h; simp at h
  | @cons c n t kvs dv m ih =>
    intro i c' v h
    cases i with
    | zero => simp at h; obtain ⟨rfl, rfl⟩ := h; exact ⟨n, t, by simp, rfl⟩
    | succ i => simp at h; obtain ⟨n', t', e, e'⟩ := ih i c' v h; exact ⟨n', t', by simpa using e, e'⟩
theorem snoc (m : Match kvs dv) (c n : Int) (t : Tok) : Match (kvs ++ [(c, .int n t)]) (dv ++ [(c, n)]) := by
  induction m with
  | nil => exact .cons .nil
  | cons _ ih => exact .cons ih
theorem some (m : Match kvs dv) (h : dget dv b = some n) : ∃ t, valueAt kvs b = Option.some (.int n t) := by
  induction m with
  | nil => simp [dget] at h
  | @cons c n' t kvs dv m ih =>
    unfold dget at h
    rw [List.find?_cons] at h
    unfold valueAt
    rw [List.find?_cons]
    by_cases e : c = b
    · simp only [e, decide_true] at h ⊢
      simp at h; subst h
      exact ⟨t, rfl⟩
    · simp only [e, decide_false] at h ⊢
      exact ih h
theorem none (m : Match kvs dv) (h : dget dv b = none) : valueAt kvs b = Option.none := by
  induction m with
  | nil => rfl
  | @cons c n' t kvs dv m ih =>
    unfold dget at h
    rw [List.find?_cons] at h
    unfold valueAt
    rw [List.find?_cons]
    by_cases e : c = b
    · simp [e] at h
    · simp only [e, decide_false] at h ⊢
      exact ih h
end Match

/-- what the deep of a is told from -/
def vals (ps : List (Int × Int)) (dv : List (Int × Int)) (a : Int) : List Int := ps.filterMap fun q => if q.2 = a then (dget dv q.1).map (1 + ·) else none
theorem vals_snoc (ps : List (Int × Int)) (dv : List (Int × Int)) (a b c : Int) : vals (ps ++ [(b, c)]) dv a = vals ps dv a ++ (if c = a then ((dget dv b).map (1 + ·)).toList else []) := by
  unfold vals
  rw [List.filterMap_append]
  congr 1
  by_cases h : c = a
  · cases hd : dget dv b <;> simp [h, hd]
  · simp [h]

/-- each is one more than the deepest of those ahead -/
def DProp (ps : List (Int × Int)) (dv : List (Int × Int)) : Prop := ∀ (j : Nat) a n, dv[j]? = some (a, n) → n ∈ 0 :: vals ps (dv.take j) a ∧ ∀ x ∈ 0 :: vals ps (dv.take j) a, x ≤ n
theorem DProp.snoc {ps dv : List (Int × Int)} {a n : Int} (h : DProp ps dv) (h1 : n ∈ 0 :: vals ps dv a) (h2 : ∀ x ∈ 0 :: vals ps dv a, x ≤ n) : DProp ps (dv ++ [(a, n)]) := by
  intro j a' n' hj
  by_cases hlt : j < dv.length
  · rw [List.getElem?_append_left hlt] at hj
    rw [List.take_append_of_le_length (Nat.le_of_lt hlt)]
    exact h j a' n' hj
  · have : j = dv.length := by
      have := (List.getElem?_eq_some_iff.mp hj).1
      simp at this; omega
    subst this
    simp at hj
    obtain ⟨rfl, rfl⟩ := hj
    simp only [List.take_left]
    exact ⟨h1, h2⟩
/-- the items in the order of their ranks -/
def ordOf (p : List Int) (rk : Int → Int) (many : Nat) : List Int := (List.range many).flatMap fun k : Nat => p.filter fun a => decide (rk a = (k : Int))
theorem ordOf_succ (p : List Int) (rk : Int → Int) (i : Nat) : ordOf p rk (i + 1) = ordOf p rk i ++ p.filter fun a => decide (rk a = (i : Int)) := by
  unfold ordOf; rw [List.range_succ, List.flatMap_append]; simp
theorem ordOf_mono (p : List Int) (rk : Int → Int) {i m : Nat} (h : i ≤ m) : (ordOf p rk i).length ≤ (ordOf p rk m).length := by
  induction h with
  | refl => exact Nat.le_refl _
  | step h ih => rw [ordOf_succ, List.length_append]; omega
end Mine
namespace Mine
def fnBody : Stmt → List Stmt
  | .FunctionDef _ _ b _ _ _ _ _ _ _ => b
  | _ => []
def fnParams : Stmt → Arguments
  | .FunctionDef _ a _ _ _ _ _ _ _ _ => a
  | _ => default
def fnScope : Stmt → Scope
  | .FunctionDef _ _ _ _ _ _ s _ _ _ => s
  | _ => default
def st1 (i : Nat) : Stmt := PySem.Challenge.pw_eu0029_01.main.body.getD i (.Pass default)

def StO (sc : Addr) (o : Obj) : Prop := ∃ i sd t1 t2, LstO o [.ref sc, .int i t1, .int sd t2] ∧ 0 ≤ i ∧ 0 ≤ sd ∧ sd < 2147483647
theorem boot_abs : bootBuiltins "abs" = some (.builtin "abs") := by decide +kernel

local macro_rules | `(tactic| walk_at "sub") => `(tactic| with_reducible first | exact List.Sublist.refl _ | exact List.nil_sublist _ | (refine List.Sublist.cons_cons _ ?_; walk_at "sub") | (refine List.Sublist.append (List.Sublist.refl _) ?_; walk_at "sub") | (refine List.Sublist.cons _ ?_; walk_at "sub"))
local macro_rules | `(tactic| walk_at "sd") => `(tactic| with_reducible first | assumption | exact List.mem_cons_self | exact SetV.head | exact Hole.mem (by assumption) _ | exact AllHas.mem (by assumption) _ | (refine List.mem_cons_of_mem _ ?_; walk_at "sd") | (apply SetV.tail; walk_at "sd") | (refine List.mem_append_right _ ?_; walk_at "sd") | (refine List.mem_append_left _ ?_; walk_at "sd"))
local macro_rules | `(tactic| walk_at "up") => `(tactic| with_reducible first | exact Upd.head | exact Hole.at (by assumption) _ _ | (refine Upd.tail ?_; walk_at "up") | (refine Upd.app ?_ _; walk_at "up") | (refine Upd.appl ?_ _; walk_at "up"))
local macro_rules | `(tactic| walk_at "hole") => `(tactic| first | with_reducible assumption | (intro _ _; walk_at "up"))
local macro_rules | `(tactic| walk_at "allhas") => `(tactic| first | with_reducible assumption | (intro _; walk_at "sd"))
local macro_rules | `(tactic| walk_at "led") => `(tactic| ((try simp only [List.append_assoc, List.cons_append, List.nil_append, List.append_nil]); (with_reducible refine' Led.sub ?I ?s); (case I => with_reducible assumption); (case s => walk_at "sub")))
local macro_rules | `(tactic| walk_at "sw") => `(tactic| fail "sw")
local macro_rules | `(tactic| walk_at "perm") => `(tactic| (refine permOf fun x => ?_; simp only [List.count_append, List.count_cons, List.count_nil, List.append_assoc, List.cons_append, List.nil_append] <;> omega))
local macro_rules | `(tactic| walk_at "sees") => `(tactic| first | with_reducible assumption | (intro _ _; walk_at "sd") | (intro _ hp; rcases List.mem_append.mp hp with hp | hp <;> walk_at "sd"))
local macro_rules | `(tactic| walk_at "nx") => `(tactic| first
  | with_reducible refine wpAny_execs_nil ?_
  | with_reducible refine wpAny_execs_cons ?_
  | with_reducible refine wpAny_If ?_
  | ((with_reducible refine wpAny_isTrue_Compare1 ?_ ?hs); case hs => with_unfolding_all rfl)
  | with_reducible refine wpAny_truthy_bool ?_
  | ((with_reducible refine wpAny_Compare1 ?_ ?hs); case hs => with_unfolding_all rfl)
  | ((with_reducible refine wpAny_Assign_Subscript ?_ ?hs); case hs => with_unfolding_all rfl)
  | ((with_reducible refine wpAny_Assign_Name ?_ ?hs); case hs => with_unfolding_all rfl)
  | with_reducible refine wpAny_Return_some ?_
  | with_reducible refine wpAny_BinOp ?_
  | ((with_reducible refine Slice_ ?_ ?ht); (case ht => (intro _ _; with_unfolding_all rfl)))
  | with_reducible refine Subscript_ ?_
  | ((with_reducible refine' MethodCall_ ?_ ?hs); case hs => with_unfolding_all rfl)
  | ((with_reducible refine Call_ ?_ ?hs); case hs => with_unfolding_all rfl)
  | with_reducible refine cInt ?_
  | with_reducible refine wpAny_UnaryOp ?_
  | with_reducible refine negI ?_
  | with_reducible refine addI ?_
  | with_reducible refine subI ?_
  | with_reducible refine ltI ?_
  | with_reducible refine eqI ?_
  | with_reducible refine neI ?_
  | with_reducible refine leI ?_
  | with_reducible refine gtI ?_
  | ((with_reducible refine modI ?h0 ?_); (case h0 => first | with_reducible assumption | decide | omega))
  | ((with_reducible refine divI ?h0 ?hp ?_); (case h0 => first | with_reducible assumption | decide | omega); (case hp => first | exact PyProof.noPylong_of_log2 (by decide +kernel) | exact PyProof.noPylong_small (by omega)))
  | ((with_reducible refine mulI ?h0 ?_); (case h0 => mul_fits))
  | ((with_reducible refine' ld ?I ?F ?m ?_ ?hd); (case I => with_reducible assumption); (case F => with_reducible assumption); (case m => walk_at "sd"); (case hd => decide))
  | ((with_reducible refine' ldB ?I ?F ?gls ?gd ?hx ?hmiss ?hv ?hn ?_ ?hd); (case I => with_reducible assumption); (case F => with_reducible assumption); (case gls => with_reducible assumption); (case gd => with_reducible assumption); (case hx => walk_at "sd"); (case hmiss => with_reducible assumption); (case hv => with_reducible assumption); (case hn => decide); (case hd => decide))
  | ((with_reducible refine' ldG ?I ?F ?gls ?gd ?hx ?hv ?_ ?hd); (case I => with_reducible assumption); (case F => with_reducible assumption); (case gls => with_reducible assumption); (case gd => with_reducible assumption); (case hx => walk_at "sd"); (case hv => with_reducible assumption); (case hd => decide))
  | ((with_reducible refine Assign_Tuple ?_ ?hs ?hw); (case hs => with_unfolding_all rfl); (case hw => first | with_unfolding_all rfl | exact swNone rfl | exact swNone (by walk_at "sw")))
  | ((with_reducible refine' asTuple ?ok ?I ?m ?T ?hn ?hst ?_); (case ok => with_reducible assumption); (case I => with_reducible assumption); (case m => walk_at "sd"); (case T => with_reducible assumption); (case hn => rfl); (case hst => rfl); intro _ _; (try simp only [assignEach, List.map_cons, List.map_nil]))
  | ((with_reducible refine' asTupleG ?ok ?I ?m ?T ?hn ?hst ?_); (case ok => with_reducible assumption); (case I => with_reducible assumption); (case m => with_reducible assumption); (case T => with_reducible assumption); (case hn => rfl); (case hst => rfl); intro _ _; (try simp only [assignEach, List.map_cons, List.map_nil]))
  | with_reducible refine inOrder_cons ?_
  | with_reducible refine inOrder_nil ?_
  | with_reducible refine asSub ?_
  | ((with_reducible refine' asName ?I ?F ?m ?_); (case I => with_reducible assumption); (case F => with_reducible assumption); (case m => walk_at "sd"); intro _ _ _ _ _)
  | with_reducible refine Tuple_ ?_
  | with_reducible refine List_ ?_
  | ((with_reducible refine' tupleN ?I ?hb ?_); (case I => with_reducible assumption); (case hb => first | (show _ ≤ _; simp only [List.length_cons, List.length_nil]; omega) | omega); intro _ _ _ _ _)
  | ((with_reducible refine' listN ?I ?hb ?_); (case I => with_reducible assumption); (case hb => first | (show _ ≤ _; simp only [List.length_cons, List.length_nil]; omega) | omega); intro _ _ _ _ _)
  | ((with_reducible refine' callW ?hf ?_ ?he); (case hf => with_reducible assumption); (case he => with_unfolding_all rfl))
  | ((with_reducible refine' callWD ?hf ?_ ?he); (case hf => with_reducible assumption); (case he => with_unfolding_all rfl))
  | with_reducible refine And.intro (Grd.of (by assumption)) ?_
  | ((with_reducible refine PyProof.Rows.callWith_type1 ?_ ?hs ?ht); (case hs => with_unfolding_all rfl); (case ht => with_unfolding_all rfl))
  | ((with_reducible refine' rangeC1 ?I ?_); (case I => with_reducible assumption); intro _ _ _ _ _ _)
  | ((with_reducible refine' rangeC2 ?I ?_); (case I => with_reducible assumption); intro _ _ _ _ _ _)
  | ((with_reducible refine' rangeC3 ?I ?hc ?hp ?_); (case I => with_reducible assumption); (case hc => first | decide | omega); (case hp => first | exact PyProof.noPylong_of_log2 (by decide +kernel) | exact PyProof.noPylong_small (by omega)); intro _ _ _ _ _ _)
  | ((with_reducible refine wpAny_For ?_ ?hs); case hs => (intro _; rfl))
  | ((with_reducible refine callWith_builtin1 ?_ ?hs ?ht); (case hs => with_unfolding_all rfl); (case ht => with_unfolding_all rfl))
  | ((with_reducible refine args_cons ?_ ?hs); (case hs => with_unfolding_all rfl))
  | with_reducible refine args_nil ?_
  | ((with_reducible refine' subL ?I ?m ?L ?h0 ?hx ?_ ?hs); (case I => with_reducible assumption); (case m => walk_at "sd"); (case L => with_reducible assumption); (case h0 => first | decide | omega); (case hx => first | with_reducible assumption | rfl); (case hs => with_unfolding_all rfl))
  | ((with_reducible refine' subD ?I ?m ?D ?hv ?_ ?hs); (case I => with_reducible assumption); (case m => walk_at "sd"); (case D => with_reducible assumption); (case hv => with_reducible assumption); (case hs => with_unfolding_all rfl); intro _)
  | ((with_reducible refine' setL ?I ?m ?L ?e ?H ?h0 ?hk ?hv ?_); (case I => with_reducible assumption); (case m => walk_at "sd"); (case L => with_reducible assumption); (case e => rfl); (case H => walk_at "hole"); (case h0 => first | decide | omega); (case hk => first | omega | (simp only [List.length_cons, List.length_nil, List.length_set, Int.reduceToNat]; omega)); (case hv => first | ((simp only [Int.reduceToNat, List.set_cons_zero, List.set_cons_succ]; done)) | ((simp only [Int.reduceToNat, List.set_cons_zero, List.set_cons_succ]; rfl)) | rfl); intro _ _ _ _ _)
  | ((with_reducible refine' lenL ?I ?m ?L ?_); (case I => with_reducible assumption); (case m => walk_at "sd"); (case L => with_reducible assumption); intro _ _)
  | ((with_reducible refine absI ?_); intro _ _)
  | ((with_reducible refine' st ?I ?F ?m ?_); (case I => with_reducible assumption); (case F => with_reducible assumption); (case m => walk_at "sd"); intro _ _ _ _ _)
  | ((with_reducible refine' ldS ?I ?hk ?S ?sub ?m ?_ ?hd); (case I => with_reducible assumption); (case hk => exact Frm.kind (by assumption)); (case S => with_reducible assumption); (case sub => walk_at "sees"); (case m => walk_at "sd"); (case hd => decide))
  | ((with_reducible refine' gmS ?slot ?hty ?I ?m ?S ?_); (case I => with_reducible assumption); (case m => walk_at "sd"); (case S => with_reducible assumption); (case slot => with_reducible first | exact F.slot_set_add | exact F.slot_set_isdisjoint | exact F.slot_set_difference_update); (case hty => with_reducible first | exact F.type_set_add | exact F.type_set_isdisjoint | exact F.type_set_difference_update))
  | ((with_reducible refine' gmD ?slot ?hty ?I ?m ?D ?_); (case I => with_reducible assumption); (case m => walk_at "sd"); (case D => with_reducible assumption); (case slot => with_reducible first | exact PySem.F.slot_dict_setdefault | exact PySem.F.slot_dict_get | exact PySem.F.slot_dict_values); (case hty => with_reducible first | exact PySem.F.type_dict_setdefault | exact PySem.F.type_dict_get | exact PySem.F.type_dict_values))
  | ((with_reducible refine' gmL ?slot ?hty ?I ?m ?L ?_); (case I => with_reducible assumption); (case m => walk_at "sd"); (case L => with_reducible assumption); (case slot => with_reducible first | exact F.slot_list_append | exact F.slot_list_extend); (case hty => with_reducible first | exact F.type_list_append | exact F.type_list_extend))
  | ((with_reducible refine callWith_method1 ?_ ?hs ?ht); (case hs => with_unfolding_all rfl); (case ht => with_unfolding_all rfl))
  | with_reducible refine callWith_method0 ?_
  | ((with_reducible refine' exprS ?_ ?hi ?hs); (case hi => exact Frm.kind (by assumption)); (case hs => with_unfolding_all rfl))
  | with_reducible refine wpAny_isTrue_Not ?_
  | ((with_reducible refine' truthyS ?I ?m ?S ?_); (case I => with_reducible assumption); (case m => walk_at "sd"); (case S => with_reducible assumption); intro _)
  | ((with_reducible refine' truthyL ?I ?m ?L ?_); (case I => with_reducible assumption); (case m => walk_at "sd"); (case L => with_reducible assumption); intro _)
  | with_reducible refine wpAny_IfExp ?_
  | with_reducible refine isTrue_and ?_
  | with_reducible refine isTrue_and_nil ?_
  | ((with_reducible refine isTrue_plain ?_ ?he); (case he => with_unfolding_all rfl))
  | ((with_reducible refine' inS ?I ?m ?S ?_); (case I => with_reducible assumption); (case m => walk_at "sd"); (case S => with_reducible assumption); intro _)
  | ((with_reducible refine' inD ?I ?m ?D ?_); (case I => with_reducible assumption); (case m => walk_at "sd"); (case D => with_reducible assumption); intro _)
  | ((with_reducible refine' getD2 ?I ?m ?D ?_); (case I => with_reducible assumption); (case m => walk_at "sd"); (case D => with_reducible assumption); intro _)
  | ((with_reducible refine' addS ?I ?m ?S ?e ?H ?hb ?_); (case I => with_reducible assumption); (case m => walk_at "sd"); (case S => with_reducible assumption); (case e => rfl); (case H => walk_at "hole"); (case hb => omega); intro _ _ _ _ _)
  | ((with_reducible refine' appendL ?I ?m ?e ?H ?L ?hb ?_); (case I => with_reducible assumption); (case m => walk_at "sd"); (case L => with_reducible assumption); (case e => rfl); (case H => walk_at "hole"); (case hb => first | omega | (simp only [List.length_append, List.length_cons, List.length_nil]; omega)); intro _ _ _ _ _)
  | ((with_reducible refine' newD ?gd ?I ?_); (case gd => with_reducible assumption); (case I => with_reducible assumption); intro _ _ _ _ _)
  | with_reducible refine callWith_type0 ?_
  | with_reducible refine tests0 ?_
  | with_reducible refine tests1 ?_
  | with_reducible refine emit_ ?_
  | ((with_reducible refine' newS ?I ?_); (case I => with_reducible assumption); intro _ _ _ _ _)
  | ((with_reducible refine' listList ?I ?m ?L ?_); (case I => with_reducible assumption); (case m => walk_at "sd"); (case L => with_reducible assumption); intro _ _ _ _ _)
  | ((with_reducible refine' valuesD ?I ?m ?D ?_); (case I => with_reducible assumption); (case m => walk_at "sd"); (case D => with_reducible assumption); intro _ _ _ _ _)
  | ((with_reducible refine' next_spec2 ?gd ?ok ?nl ?na ?hf ?I ?m ?ho ?hs ?e ?H ?hsc ?hmany ?_); (case gd => with_reducible assumption); (case nl => with_reducible assumption); (case na => with_reducible assumption); (case hf => with_reducible assumption); (case I => with_reducible assumption); (case m => walk_at "sd"); (case ho => with_reducible assumption); (case hs => with_reducible assumption); (case ok => exact Ok.less (by assumption) (by decide)); (case e => rfl); (case H => walk_at "hole"); (case hsc => walk_at "allhas"); (case hmany => omega); intro _ _ _ _ _ _ _ _ _)
  | with_reducible refine partNone ?_
  | with_reducible refine partSome ?_
  | ((with_reducible refine' sliceAll ?I ?m ?L ?_); (case I => with_reducible assumption); (case m => walk_at "sd"); (case L => with_reducible assumption); intro _ _ _ _ _)
  | (with_reducible dsimp only [List.cons_append, List.nil_append, List.append_nil])
  )
section
variable {prog : Program} {w : World} {A : Around} {E : Value → Shared → Prop} {h G : Heap} {g : Array GenState} {d : Drawn} {t : Nat} {os : OsState}
  {env : Env} {l l' : List (Addr × Obj)} {lf : Obj → List (Addr × Obj)} {a sc f : Addr} {o osc : Obj} {ns : List Int} {u : Tok} {mg mb : Str → Option Value} {k : Nat}
set_option maxRecDepth 100000
set_option maxHeartbeats 4000000 in
theorem next_spec {many : Int} (gd : Gd G mg mb) (ok : Ok A (k + 2)) (hlen : mg "len" = none) (habs : mg "abs" = none) (hf : FnIs G f "_law_next" (fnParams (st1 8)) (fnBody (st1 8)) (fnScope (st1 8)))
    (I : Led G (lf o) h) (H : Hole lf a) (ho : StO sc o) (hsc : AllHas lf (sc, osc)) (hs : IntsO osc ns) (hm : 0 < many) {Q : Value → Shared → Prop}
    (hQ : ∀ r v h' t' o', 0 ≤ r → r < many → StO sc o' → Led G (lf o') h' → Q (.int r v) ⟨h', g, d, t', os⟩) :
    wpAny (model prog w) A (call (.ref f) [.ref a, .int many u]) Q E ⟨h, g, d, t, os⟩ := by
  refine callFn (binds := [("state", .ref a), ("many", .int many u)]) ["state", "many"] ["found"] ["len", "abs"] ok gd I hf (fun _ _ _ => by rfl) (by rfl) (by decide +kernel) rfl ?_
  intro env fo h t he I F gls ok
  simp only [varsOf, List.map_cons, List.map_nil, List.cons_append, List.nil_append] at F
  obtain ⟨i, sd, t1, t2, ho, hi, hsd, hsd2⟩ := ho
  obtain ⟨scv, hsl, hsi⟩ := hs
  have bl := boot_len
  have ba := boot_abs
  conv in execs _ _ => (arg 1; whnf)
  repeat walk_at "nx"
  by_cases hlt : i < (scv.length : Int)
  · rw [decide_eq_true hlt, if_pos rfl]
    repeat walk_at "nx"
    have hn : i.toNat < scv.length := by omega
    obtain ⟨n, tn, en, _⟩ := hsi.at i.toNat _ (List.getElem?_eq_getElem hn)
    have hx := (List.getElem?_eq_getElem hn).trans (congrArg some en)
    repeat walk_at "nx"
    exact hQ _ _ _ _ _ (Int.emod_nonneg _ (by omega)) (Int.emod_lt_of_pos _ hm) ⟨_, _, _, _, by assumption, by omega, Int.emod_nonneg _ (by decide), Int.emod_lt_of_pos _ (by decide)⟩ (Led.dropl _ (by assumption))
  · rw [decide_eq_false hlt, if_neg (by decide)]
    repeat walk_at "nx"
    exact hQ _ _ _ _ _ (Int.emod_nonneg _ (by omega)) (Int.emod_lt_of_pos _ hm) ⟨_, _, _, _, by assumption, by omega, Int.emod_nonneg _ (by decide), Int.emod_lt_of_pos _ (by decide)⟩ (Led.dropl _ (by assumption))

theorem row_spec {size : Nat} {fn : Addr} (gd : Gd G mg mb) (ok : Ok A (k + 4)) (hlen : mg "len" = none) (habs : mg "abs" = none) (hrange : mg "range" = none) (hlist : mg "list" = none)
    (hf : FnIs G fn "_law_next" (fnParams (st1 8)) (fnBody (st1 8)) (fnScope (st1 8))) (hn : mg "_law_next" = some (.ref fn))
    (hr : FnIs G f "_law_row" (fnParams (st1 9)) (fnBody (st1 9)) (fnScope (st1 9)))
    (I : Led G (lf o) h) (H : Hole lf a) (ho : StO sc o) (hsc : AllHas lf (sc, osc)) (hs : IntsO osc ns) (hm : size ≤ 1000) {Q : Value → Shared → Prop}
    (hQ : ∀ D p oD h' d' t' o', IntsO oD p → p.Perm ((List.range size).map fun i : Nat => (i : Int)) → StO sc o' → Led G ((D, oD) :: lf o') h' → Q (.ref D) ⟨h', g, d', t', os⟩) :
    wpAny (model prog w) A (call (.ref f) [.ref a, .int size u]) Q E ⟨h, g, d, t, os⟩ := by
  refine callFn (binds := [("state", .ref a), ("size", .int size u)]) ["state", "size"] ["row", "k", "j"] ["list", "range", "_law_next"] ok gd I hr (fun _ _ _ => by rfl) (by rfl) (by decide +kernel) rfl ?_
  intro env fo h t he I F gls ok
  simp only [varsOf, List.map_cons, List.map_nil, List.cons_append, List.nil_append] at F
  have br := boot_range
  have bl : bootBuiltins "list" = some (.type "list") := by decide +kernel
  conv in execs _ _ => (arg 1; whnf)
  repeat walk_at "nx"
  refine listRange ok (by assumption) (by walk_at "sd") (by assumption) (small_of (by decide) (by omega) (.inl rfl)) (rsUp size (by omega)) (by omega) fun D oD h t hD I => ?_
  repeat walk_at "nx"
  rename Frm _ _ _ => F
  refine iterRange (n := size - 1) (by assumption) (by walk_at "sd") (by assumption) (small_of (by omega) (by decide) (.inr rfl)) (rsDown _ (by omega)) fun J oJ h hC I => ?_
  replace I := Led.sub (l' := (J, oJ) :: (_ ++ (D, oD) :: lf o)) I (by walk_at "sub")
  refine forCur (fr0 := []) (Cur.range J _ _ _) ok (fun i l => ∃ fo vk vj p o oD, l = fo ++ (D, oD) :: lf o ∧ Frm env fo [("state", some (.ref a)), ("size", some (.int size u)), ("row", some (.ref D)), ("k", vk), ("j", vj)] ∧ IntsO oD p ∧ p.Perm ((List.range size).map fun i : Nat => (i : Int)) ∧ StO sc o)
    (List.append_nil _).symm I hC ⟨_, _, _, _, _, _, rfl, F, hD, ?_, ho⟩ (fun _ _ _ _ hp => by cases hp) ?_ ?_
  · simp
  · rintro i v l fr h d t - hi ⟨tk, rfl⟩ ⟨fo, vk, vj, p, o, oD, rfl, F, hD, hp, ho⟩ I
    simp only [List.append_assoc, List.cons_append] at I
    obtain ⟨kv, hkv⟩ : ∃ kv : Int, kv = size - 1 + i * -1 := ⟨_, rfl⟩
    rw [← hkv]
    have hpl : p.length = size := by rw [hp.length_eq]; simp
    obtain ⟨vs, hL, hIs⟩ := hD
    repeat walk_at "nx"
    refine next_spec (lf := fun o => _ ++ (D, oD) :: (lf o ++ fr)) gd ok hlen habs hf (by assumption) (by walk_at "hole") ho (by walk_at "allhas") hs (by omega) fun r v h t o' hr0 hr1 ho' I => ?_
    obtain ⟨t1, hx1⟩ := intAt hIs (i := kv.toNat) (by omega)
    obtain ⟨t2, hx2⟩ := intAt hIs (i := r.toNat) (by omega)
    have hvl : vs.length = size := by rw [hIs.length, hpl]
    repeat walk_at "nx"
    refine' ⟨_, _, _, _, rfl, ?I, _, _, _, _, _, _, rfl, ?F, ⟨_, ?L, (hIs.setM _ _ _).setM _ _ _⟩, (List.set_set_perm ?b1 ?b2).trans hp, ?s⟩
    case F => assumption
    case L => assumption
    case s => assumption
    case I => walk_at "led"
  · rintro l h d t ⟨fo, vk, vj, p, o, oD, rfl, F, hD, hp, ho⟩ I
    simp only [List.append_nil] at I
    repeat walk_at "nx"
    exact hQ _ _ _ _ _ _ _ hD hp ho (Led.dropl _ I)
end
end Mine
namespace Mine

def OutL (x : List Int) (v : Value) (lv : List (Addr × Obj)) : Prop := ∃ a o vs, v = .ref a ∧ lv = [(a, o)] ∧ LstO o vs ∧ IntsAre vs x
def FiN (r : Result) (lv : List (Addr × Obj)) : Prop := r = .ok (.ret .none)

/-- those that can come now -/
def ready (ps : List (Int × Int)) (todo : List Int) : List Int := todo.filter fun n => decide (∀ p, p ∈ mf ps n → p ∉ todo)
inductive Layers (ps : List (Int × Int)) : List Int → List (List Int) → Prop where
  | done : Layers ps [] []
  | step {todo : List Int} {outs : List (List Int)} : ready ps todo ≠ [] → Layers ps (todo.filter fun n => decide (n ∉ ready ps todo)) outs → Layers ps todo (ready ps todo :: outs)

def Phi {X : Type} (prog : Program) (w : World) (G : Heap) (k : Nat) (os : OsState) (Out : X → Value → List (Addr × Obj) → Prop) (Fi : Result → List (Addr × Obj) → Prop) (outs : List X) (lc : List (Addr × Obj)) (oc : List (Nat × GenState)) : End → Shared → Prop :=
  match outs with
  | [] => fun e s' => ∃ r lv h' g' d' t', e = .ret r ∧ Fi r lv ∧ s' = ⟨h', g', d', t', os⟩ ∧ Led G (lc ++ lv) h' ∧ GLed oc g'
  | x :: xs => fun e s' => ∃ v gs' lg' own' lv h' g' d' t', e.result = .yielded v ∧ e.genState = gs' ∧ Out x v lv ∧ s' = ⟨h', g', d', t', os⟩ ∧ Led G (lc ++ (lv ++ lg')) h' ∧ GLed (oc ++ own') g' ∧
        Yields prog w G k os Out Fi xs gs' lg' own'
theorem yields_iff {X : Type} {prog : Program} {w : World} {G : Heap} {k : Nat} {os : OsState} {Out : X → Value → List (Addr × Obj) → Prop} {Fi : Result → List (Addr × Obj) → Prop} {outs : List X} {gs : GenState} {lg : List (Addr × Obj)} {own : List (Nat × GenState)} :
    Yields prog w G k os Out Fi outs gs lg own ↔ ∀ (A : Around) (lc : List (Addr × Obj)) (oc : List (Nat × GenState)) (h : Heap) (g : Array GenState) (d : Drawn) (t : Nat), Ok A k → Led G (lc ++ lg) h → GLed (oc ++ own) g →
      Goes1 (model prog w) A (Phi prog w G k os Out Fi outs lc oc) gs (.send .none) ⟨h, g, d, t, os⟩ := by
  cases outs <;> rfl

theorem intAt' {vs : List Value} {ns : List Int} (h : IntsAre vs ns) {i : Nat} (hi : i < ns.length) : ∃ x t, ns[i]? = some x ∧ vs[i]? = some (.int x t) := by
  obtain ⟨t, ht⟩ := intAt h hi
  exact ⟨_, t, List.getElem?_eq_getElem hi, ht⟩

def whTest : Stmt → Expr
  | .While t _ _ _ => t
  | _ => default
def whBody : Stmt → List Stmt
  | .While _ b _ _ => b
  | _ => []
def sasW : Stmt := (fnBody (st1 3)).getD 4 (.Pass default)

local macro_rules | `(tactic| walk_at "sub") => `(tactic| with_reducible first | exact List.Sublist.refl _ | exact List.nil_sublist _ | (refine List.Sublist.cons_cons _ ?_; walk_at "sub") | (refine List.Sublist.append (List.Sublist.refl _) ?_; walk_at "sub") | (refine List.Sublist.cons _ ?_; walk_at "sub"))
local macro_rules | `(tactic| walk_at "sd") => `(tactic| with_reducible first | assumption | exact List.mem_cons_self | exact SetV.head | exact Hole.mem (by assumption) _ | exact AllHas.mem (by assumption) _ | (refine List.mem_cons_of_mem _ ?_; walk_at "sd") | (apply SetV.tail; walk_at "sd") | (refine List.mem_append_right _ ?_; walk_at "sd") | (refine List.mem_append_left _ ?_; walk_at "sd"))
local macro_rules | `(tactic| walk_at "up") => `(tactic| with_reducible first | exact Upd.head | exact Hole.at (by assumption) _ _ | (refine Upd.tail ?_; walk_at "up") | (refine Upd.app ?_ _; walk_at "up") | (refine Upd.appl ?_ _; walk_at "up"))
local macro_rules | `(tactic| walk_at "hole") => `(tactic| first | with_reducible assumption | (intro _ _; walk_at "up"))
local macro_rules | `(tactic| walk_at "allhas") => `(tactic| first | with_reducible assumption | (intro _; walk_at "sd"))
local macro_rules | `(tactic| walk_at "led") => `(tactic| ((try simp only [List.append_assoc, List.cons_append, List.nil_append, List.append_nil]); (with_reducible refine' Led.sub ?I ?s); (case I => with_reducible assumption); (case s => walk_at "sub")))
local macro_rules | `(tactic| walk_at "sw") => `(tactic| fail "sw")
local macro_rules | `(tactic| walk_at "perm") => `(tactic| (refine permOf fun x => ?_; simp only [List.count_append, List.count_cons, List.count_nil, List.append_assoc, List.cons_append, List.nil_append] <;> omega))
local macro_rules | `(tactic| walk_at "sees") => `(tactic| first | with_reducible assumption | (intro _ _; walk_at "sd") | (intro _ hp; rcases List.mem_append.mp hp with hp | hp <;> walk_at "sd"))
local macro_rules | `(tactic| walk_at "nx") => `(tactic| first
  | with_reducible refine wpAny_execs_nil ?_
  | with_reducible refine wpAny_execs_cons ?_
  | with_reducible refine wpAny_If ?_
  | ((with_reducible refine wpAny_isTrue_Compare1 ?_ ?hs); case hs => with_unfolding_all rfl)
  | with_reducible refine wpAny_truthy_bool ?_
  | ((with_reducible refine wpAny_Compare1 ?_ ?hs); case hs => with_unfolding_all rfl)
  | ((with_reducible refine wpAny_Assign_Subscript ?_ ?hs); case hs => with_unfolding_all rfl)
  | ((with_reducible refine wpAny_Assign_Name ?_ ?hs); case hs => with_unfolding_all rfl)
  | with_reducible refine wpAny_Return_some ?_
  | with_reducible refine wpAny_BinOp ?_
  | ((with_reducible refine Slice_ ?_ ?ht); (case ht => (intro _ _; with_unfolding_all rfl)))
  | with_reducible refine Subscript_ ?_
  | ((with_reducible refine' MethodCall_ ?_ ?hs); case hs => with_unfolding_all rfl)
  | ((with_reducible refine Call_ ?_ ?hs); case hs => with_unfolding_all rfl)
  | with_reducible refine cInt ?_
  | with_reducible refine wpAny_UnaryOp ?_
  | with_reducible refine negI ?_
  | with_reducible refine addI ?_
  | with_reducible refine subI ?_
  | with_reducible refine ltI ?_
  | with_reducible refine eqI ?_
  | with_reducible refine neI ?_
  | with_reducible refine leI ?_
  | with_reducible refine gtI ?_
  | ((with_reducible refine modI ?h0 ?_); (case h0 => first | with_reducible assumption | decide | omega))
  | ((with_reducible refine divI ?h0 ?hp ?_); (case h0 => first | with_reducible assumption | decide | omega); (case hp => first | exact PyProof.noPylong_of_log2 (by decide +kernel) | exact PyProof.noPylong_small (by omega)))
  | ((with_reducible refine mulI ?h0 ?_); (case h0 => mul_fits))
  | ((with_reducible refine' ld ?I ?F ?m ?_ ?hd); (case I => with_reducible assumption); (case F => with_reducible assumption); (case m => walk_at "sd"); (case hd => decide))
  | ((with_reducible refine' ldB ?I ?F ?gls ?gd ?hx ?hmiss ?hv ?hn ?_ ?hd); (case I => with_reducible assumption); (case F => with_reducible assumption); (case gls => with_reducible assumption); (case gd => with_reducible assumption); (case hx => walk_at "sd"); (case hmiss => with_reducible assumption); (case hv => with_reducible assumption); (case hn => decide); (case hd => decide))
  | ((with_reducible refine' ldG ?I ?F ?gls ?gd ?hx ?hv ?_ ?hd); (case I => with_reducible assumption); (case F => with_reducible assumption); (case gls => with_reducible assumption); (case gd => with_reducible assumption); (case hx => walk_at "sd"); (case hv => with_reducible assumption); (case hd => decide))
  | ((with_reducible refine Assign_Tuple ?_ ?hs ?hw); (case hs => with_unfolding_all rfl); (case hw => first | with_unfolding_all rfl | exact swNone rfl | exact swNone (by walk_at "sw")))
  | ((with_reducible refine' asTuple ?ok ?I ?m ?T ?hn ?hst ?_); (case ok => with_reducible assumption); (case I => with_reducible assumption); (case m => walk_at "sd"); (case T => with_reducible assumption); (case hn => rfl); (case hst => rfl); intro _ _; (try simp only [assignEach, List.map_cons, List.map_nil]))
  | ((with_reducible refine' asTupleG ?ok ?I ?m ?T ?hn ?hst ?_); (case ok => with_reducible assumption); (case I => with_reducible assumption); (case m => with_reducible assumption); (case T => with_reducible assumption); (case hn => rfl); (case hst => rfl); intro _ _; (try simp only [assignEach, List.map_cons, List.map_nil]))
  | with_reducible refine inOrder_cons ?_
  | with_reducible refine inOrder_nil ?_
  | with_reducible refine asSub ?_
  | ((with_reducible refine' asName ?I ?F ?m ?_); (case I => with_reducible assumption); (case F => with_reducible assumption); (case m => walk_at "sd"); intro _ _ _ _ _)
  | with_reducible refine Tuple_ ?_
  | with_reducible refine List_ ?_
  | ((with_reducible refine' tupleN ?I ?hb ?_); (case I => with_reducible assumption); (case hb => first | (show _ ≤ _; simp only [List.length_cons, List.length_nil]; omega) | omega); intro _ _ _ _ _)
  | ((with_reducible refine' listN ?I ?hb ?_); (case I => with_reducible assumption); (case hb => first | (show _ ≤ _; simp only [List.length_cons, List.length_nil]; omega) | omega); intro _ _ _ _ _)
  | ((with_reducible refine' callW ?hf ?_ ?he); (case hf => with_reducible assumption); (case he => with_unfolding_all rfl))
  | ((with_reducible refine' callWD ?hf ?_ ?he); (case hf => with_reducible assumption); (case he => with_unfolding_all rfl))
  | with_reducible refine And.intro (Grd.of (by assumption)) ?_
  | ((with_reducible refine PyProof.Rows.callWith_type1 ?_ ?hs ?ht); (case hs => with_unfolding_all rfl); (case ht => with_unfolding_all rfl))
  | ((with_reducible refine' rangeC1 ?I ?_); (case I => with_reducible assumption); intro _ _ _ _ _ _)
  | ((with_reducible refine' rangeC2 ?I ?_); (case I => with_reducible assumption); intro _ _ _ _ _ _)
  | ((with_reducible refine' rangeC3 ?I ?hc ?hp ?_); (case I => with_reducible assumption); (case hc => first | decide | omega); (case hp => first | exact PyProof.noPylong_of_log2 (by decide +kernel) | exact PyProof.noPylong_small (by omega)); intro _ _ _ _ _ _)
  | ((with_reducible refine wpAny_For ?_ ?hs); case hs => (intro _; rfl))
  | ((with_reducible refine callWith_builtin1 ?_ ?hs ?ht); (case hs => with_unfolding_all rfl); (case ht => with_unfolding_all rfl))
  | ((with_reducible refine args_cons ?_ ?hs); (case hs => with_unfolding_all rfl))
  | with_reducible refine args_nil ?_
  | ((with_reducible refine' subL ?I ?m ?L ?h0 ?hx ?_ ?hs); (case I => with_reducible assumption); (case m => walk_at "sd"); (case L => with_reducible assumption); (case h0 => first | decide | omega); (case hx => first | with_reducible assumption | rfl); (case hs => with_unfolding_all rfl))
  | ((with_reducible refine' subD ?I ?m ?D ?hv ?_ ?hs); (case I => with_reducible assumption); (case m => walk_at "sd"); (case D => with_reducible assumption); (case hv => with_reducible assumption); (case hs => with_unfolding_all rfl); intro _)
  | ((with_reducible refine' setL ?I ?m ?L ?e ?H ?h0 ?hk ?hv ?_); (case I => with_reducible assumption); (case m => walk_at "sd"); (case L => with_reducible assumption); (case e => rfl); (case H => walk_at "hole"); (case h0 => first | decide | omega); (case hk => first | omega | (simp only [List.length_cons, List.length_nil, List.length_set, Int.reduceToNat]; omega)); (case hv => first | ((simp only [Int.reduceToNat, List.set_cons_zero, List.set_cons_succ]; done)) | ((simp only [Int.reduceToNat, List.set_cons_zero, List.set_cons_succ]; rfl)) | rfl); intro _ _ _ _ _)
  | ((with_reducible refine' lenL ?I ?m ?L ?_); (case I => with_reducible assumption); (case m => walk_at "sd"); (case L => with_reducible assumption); intro _ _)
  | ((with_reducible refine absI ?_); intro _ _)
  | ((with_reducible refine' st ?I ?F ?m ?_); (case I => with_reducible assumption); (case F => with_reducible assumption); (case m => walk_at "sd"); intro _ _ _ _ _)
  | ((with_reducible refine' ldS ?I ?hk ?S ?sub ?m ?_ ?hd); (case I => with_reducible assumption); (case hk => exact Frm.kind (by assumption)); (case S => with_reducible assumption); (case sub => walk_at "sees"); (case m => walk_at "sd"); (case hd => decide))
  | ((with_reducible refine' gmS ?slot ?hty ?I ?m ?S ?_); (case I => with_reducible assumption); (case m => walk_at "sd"); (case S => with_reducible assumption); (case slot => with_reducible first | exact F.slot_set_add | exact F.slot_set_isdisjoint | exact F.slot_set_difference_update); (case hty => with_reducible first | exact F.type_set_add | exact F.type_set_isdisjoint | exact F.type_set_difference_update))
  | ((with_reducible refine' gmD ?slot ?hty ?I ?m ?D ?_); (case I => with_reducible assumption); (case m => walk_at "sd"); (case D => with_reducible assumption); (case slot => with_reducible first | exact PySem.F.slot_dict_setdefault | exact PySem.F.slot_dict_get | exact PySem.F.slot_dict_values); (case hty => with_reducible first | exact PySem.F.type_dict_setdefault | exact PySem.F.type_dict_get | exact PySem.F.type_dict_values))
  | ((with_reducible refine' gmL ?slot ?hty ?I ?m ?L ?_); (case I => with_reducible assumption); (case m => walk_at "sd"); (case L => with_reducible assumption); (case slot => with_reducible first | exact F.slot_list_append | exact F.slot_list_extend); (case hty => with_reducible first | exact F.type_list_append | exact F.type_list_extend))
  | ((with_reducible refine callWith_method1 ?_ ?hs ?ht); (case hs => with_unfolding_all rfl); (case ht => with_unfolding_all rfl))
  | with_reducible refine callWith_method0 ?_
  | ((with_reducible refine' exprS ?_ ?hi ?hs); (case hi => exact Frm.kind (by assumption)); (case hs => with_unfolding_all rfl))
  | with_reducible refine wpAny_isTrue_Not ?_
  | ((with_reducible refine' truthyS ?I ?m ?S ?_); (case I => with_reducible assumption); (case m => walk_at "sd"); (case S => with_reducible assumption); intro _)
  | ((with_reducible refine' truthyL ?I ?m ?L ?_); (case I => with_reducible assumption); (case m => walk_at "sd"); (case L => with_reducible assumption); intro _)
  | with_reducible refine wpAny_IfExp ?_
  | with_reducible refine isTrue_and ?_
  | with_reducible refine isTrue_and_nil ?_
  | ((with_reducible refine isTrue_plain ?_ ?he); (case he => with_unfolding_all rfl))
  | ((with_reducible refine' inS ?I ?m ?S ?_); (case I => with_reducible assumption); (case m => walk_at "sd"); (case S => with_reducible assumption); intro _)
  | ((with_reducible refine' inD ?I ?m ?D ?_); (case I => with_reducible assumption); (case m => walk_at "sd"); (case D => with_reducible assumption); intro _)
  | ((with_reducible refine' getD2 ?I ?m ?D ?_); (case I => with_reducible assumption); (case m => walk_at "sd"); (case D => with_reducible assumption); intro _)
  | ((with_reducible refine' addS ?I ?m ?S ?e ?H ?hb ?_); (case I => with_reducible assumption); (case m => walk_at "sd"); (case S => with_reducible assumption); (case e => rfl); (case H => walk_at "hole"); (case hb => omega); intro _ _ _ _ _)
  | ((with_reducible refine' appendL ?I ?m ?e ?H ?L ?hb ?_); (case I => with_reducible assumption); (case m => walk_at "sd"); (case L => with_reducible assumption); (case e => rfl); (case H => walk_at "hole"); (case hb => first | omega | (simp only [List.length_append, List.length_cons, List.length_nil]; omega)); intro _ _ _ _ _)
  | ((with_reducible refine' newD ?gd ?I ?_); (case gd => with_reducible assumption); (case I => with_reducible assumption); intro _ _ _ _ _)
  | with_reducible refine callWith_type0 ?_
  | with_reducible refine tests0 ?_
  | with_reducible refine tests1 ?_
  | with_reducible refine emit_ ?_
  | ((with_reducible refine' newS ?I ?_); (case I => with_reducible assumption); intro _ _ _ _ _)
  | ((with_reducible refine' listList ?I ?m ?L ?_); (case I => with_reducible assumption); (case m => walk_at "sd"); (case L => with_reducible assumption); intro _ _ _ _ _)
  | ((with_reducible refine' valuesD ?I ?m ?D ?_); (case I => with_reducible assumption); (case m => walk_at "sd"); (case D => with_reducible assumption); intro _ _ _ _ _)
  | ((with_reducible refine' next_spec2 ?gd ?ok ?nl ?na ?hf ?I ?m ?ho ?hs ?e ?H ?hsc ?hmany ?_); (case gd => with_reducible assumption); (case nl => with_reducible assumption); (case na => with_reducible assumption); (case hf => with_reducible assumption); (case I => with_reducible assumption); (case m => walk_at "sd"); (case ho => with_reducible assumption); (case hs => with_reducible assumption); (case ok => exact Ok.less (by assumption) (by decide)); (case e => rfl); (case H => walk_at "hole"); (case hsc => walk_at "allhas"); (case hmany => omega); intro _ _ _ _ _ _ _ _ _)
  | with_reducible refine partNone ?_
  | with_reducible refine partSome ?_
  | ((with_reducible refine' sliceAll ?I ?m ?L ?_); (case I => with_reducible assumption); (case m => walk_at "sd"); (case L => with_reducible assumption); intro _ _ _ _ _)
  | (with_reducible dsimp only [List.cons_append, List.nil_append, List.append_nil])
  )
section
variable {prog : Program} {w : World} {A : Around} {E : Value → Shared → Prop} {h G : Heap} {g : Array GenState} {d : Drawn} {t : Nat} {os : OsState}
  {env : Env} {l l' fo lc : List (Addr × Obj)} {lf : Obj → List (Addr × Obj)} {a sc f tl al : Addr} {o osc otl oal : Obj} {ns : List Int} {u : Tok} {mg mb : Str → Option Value} {k : Nat} {pv : List Value} {ps : List (Int × Int)} {items : List Int} {outs : List (List Int)} {fs : List Frame}
  {vp vc vo vn : Option Value} {oc : List (Nat × GenState)}

set_option maxRecDepth 100000 in
set_option maxHeartbeats 4000000 in
theorem sas_while (gd : Gd G mg mb) (hlen : mg "list" = none) (he : env.scope = fnScope (st1 3)) (gls : Gls env ["list", "set"])
    (hfs : splitAtGen fs = none) (hfg : fs.any Frame.guarded = false) (hend : ∀ A P s, P (.ret (.ok (.ret .none))) s → Seg1 (model prog w) A P (.whileLoop (whTest sasW) (whBody sasW) [] env) (leafOf (.ok .next)) fs s)
    (hok : ∀ A, Ok A k → Ok (A.over (.whileLoop (whTest sasW) (whBody sasW) [] env) fs) 3)
    (hL : Layers ps items outs) : ∀ (A : Around) (fo lc : List (Addr × Obj)) (oc : List (Nat × GenState)) (h : Heap) (g : Array GenState) (d : Drawn) (t : Nat) (D S T : Addr) (oD oS oT : Obj) (el : List (Addr × Obj)) (kvs : List (Int × Value)) (tv : List Value) (m : List Int) (vp vc vo vn vt : Option Value),
      Ok A k → Frm env fo [("tuples", some (.ref tl)), ("allitems", some (.ref al)), ("edges", some (.ref D)), ("todo", some (.ref T)), ("todo_set", some (.ref S)), ("parent", vp), ("child", vc), ("output", vo), ("node", vn)] →
      DicO prog w D oD kvs → EdgesL kvs el (mf ps) → LstO oT tv → IntsAre tv items → items.length ≤ 20 → ISet oS m → m.length ≤ 20 → (∀ x, x ∈ m ↔ x ∈ items) →
      Led G (lc ++ (fo ++ ((D, oD) :: (T, oT) :: (S, oS) :: el))) h → GLed oc g →
      Seg1 (model prog w) A (Phi prog w G k os OutL FiN outs lc oc) (.whileLoop (whTest sasW) (whBody sasW) [] env) ((model prog w).den (.whileLoop (whTest sasW) (whBody sasW) [] env)) fs ⟨h, g, d, t, os⟩ := by
  induction hL with
  | done =>
    intro A fo lc oc h g d t D S T oD oS oT el kvs tv m vp vc vo vn vt ok F hD hE hT hti hlen hS hml hmm I Gi
    refine s1_whileLoop ?_
    have ok' := hok A ok
    have hm0 : m = [] := List.eq_nil_iff_forall_not_mem.mpr fun x hx => by have := (hmm x).mp hx; cases this
    subst hm0
    have I2 : Led G (fo ++ (lc ++ ((D, oD) :: (T, oT) :: (S, oS) :: el))) h := I.perm (by rw [← List.append_assoc, ← List.append_assoc]; exact List.perm_append_comm.append_right _)
    conv in isTrue _ _ _ => (arg 1; whnf)
    conv in eval _ _ => (arg 1; whnf)
    repeat walk_at "nx"
    rw [if_neg (by simp)]
    refine hend A _ _ ?_
    exact ⟨_, _, h, g, d, _, rfl, rfl, rfl, I.sub (List.Sublist.append (List.Sublist.refl _) (List.nil_sublist _)), Gi⟩
  | step hne hL ih =>
    intro A fo lc oc h g d t D S T oD oS oT el kvs tv m vp vc vo vn vt ok F hD hE hT hti hlen hS hml hmm I Gi
    rename_i todo outs
    refine s1_whileLoop ?_
    have ok' := hok A ok
    have hm0 : m ≠ [] := fun e => hne (by
      have : todo = [] := List.eq_nil_iff_forall_not_mem.mpr fun x hx => by rw [← hmm, e] at hx; cases hx
      rw [this]; rfl)
    have I2 : Led G (fo ++ (lc ++ ((D, oD) :: (T, oT) :: (S, oS) :: el))) h := I.perm (by rw [← List.append_assoc, ← List.append_assoc]; exact List.perm_append_comm.append_right _)
    conv in isTrue _ _ _ => (arg 1; whnf)
    conv in eval _ _ => (arg 1; whnf)
    repeat walk_at "nx"
    rw [if_pos (by simp [hm0])]
    conv in execs _ _ => (arg 1; whnf)
    refine s1_plain ?_
    repeat walk_at "nx"
    refine s1_plain ?_
    repeat walk_at "nx"
    rename_i O oO h1 hO I1 h2 t2 fo2 I3 F3
    have hSn : ∀ p ∈ el, p.1 ≠ S := fun p hp e => by
      have nd := (I2.dropl fo).nd
      rw [List.map_append, List.nodup_append] at nd
      have nd := nd.2.1
      rw [List.map_cons, List.nodup_cons, List.map_cons, List.nodup_cons, List.map_cons, List.nodup_cons] at nd
      exact nd.2.2.1 (List.mem_map.mpr ⟨p, hp, e⟩)
    refine iterList (by assumption) (by walk_at "sd") hT fun J oJ h hC I => ?_
    have hlenT := hti.length
    refine forCur (fr0 := []) (Cur.list J T oT tv hT) ok' (fun i l => ∃ fo vn oO ov, l = fo ++ ((O, oO) :: (lc ++ ((D, oD) :: (T, oT) :: (S, oS) :: el))) ∧
      Frm env fo [("tuples", some (.ref tl)), ("allitems", some (.ref al)), ("edges", some (.ref D)), ("todo", some (.ref T)), ("todo_set", some (.ref S)), ("parent", vp), ("child", vc), ("output", some (.ref O)), ("node", vn)] ∧
      LstO oO ov ∧ IntsAre ov ((todo.take i).filter fun n => decide (∀ p, p ∈ mf ps n → p ∉ todo)))
      (List.append_nil _).symm I hC ⟨_, _, _, _, rfl, F3, hO, .nil⟩ ?_ ?_ ?_
    · rintro i l ⟨fo, vn, oO, ov, rfl, _⟩ p hp
      rw [List.mem_singleton.mp hp]; walk_at "sd"
    · rintro i v l fr h d t - hi hv ⟨fo, vn, oO, ov, rfl, F, hO, hov⟩ I
      simp only [List.append_assoc, List.cons_append] at I
      obtain ⟨x, tk, hxt, hx⟩ := intAt' hti (i := i) (by omega)
      rw [hx] at hv
      cases hv
      have hel : ∀ p ∈ el, p ∈ fo ++ (O, oO) :: (lc ++ (D, oD) :: (T, oT) :: (S, oS) :: (el ++ fr)) := fun p hp => by walk_at "sd"
      have hovl : ov.length ≤ 20 := by
        rw [hov.length]
        have := List.length_filter_le (fun n => decide (∀ p, p ∈ mf ps n → p ∉ todo)) (todo.take i)
        rw [List.length_take] at this; omega
      have hbig : 20 + 1 ≤ 2 * big := by decide
      repeat walk_at "nx"
      rename_i h4 t4 fo4 I4 F4 T2 oT2 h5 hT2 I5 t5
      have hready : decide (∀ p ∈ mf ps x, p ∉ m) = decide (∀ p, p ∈ mf ps x → p ∉ todo) :=
        decide_eq_decide.mpr ⟨fun h p hp ht => h p hp ((hmm p).mpr ht), fun h p hp hm => h p hp ((hmm p).mp hm)⟩
      have hcall : ∀ E', wpAny (model prog w) (A.over (Code.whileLoop (whTest sasW) (whBody sasW) [] env) fs) (call (.builtin "set.isdisjoint") [.ref S, (valueAt kvs x).getD (.ref T2)])
          (fun v s₁ => v = .bool (decide (∀ p, p ∈ mf ps x → p ∉ todo)) ∧ ∃ h' t', s₁ = ⟨h', g, d, t', os⟩ ∧ Led G (fo4 ++ (T2, oT2) :: ((O, oO) :: (lc ++ (D, oD) :: (T, oT) :: (S, oS) :: (el ++ fr)))) h') E' ⟨h5, g, d, t5, os⟩ := by
        intro E'
        cases hv : valueAt kvs x with
        | some v =>
          obtain ⟨a, o, rfl, ha, hSa⟩ := hE.val _ _ (valueAt_mem hv)
          rw [Option.getD_some]
          refine callDisj I5 (by walk_at "sd") (by walk_at "sd") (fun e => hSn _ ha e.symm) hS hSa fun t => ⟨by rw [← hready], h5, t, rfl, I5⟩
        | none =>
          rw [Option.getD_none]
          have hne2 : S ≠ T2 := fun e => by
            have nd := (I5.dropl _).nd
            rw [List.map_cons, List.nodup_cons] at nd
            refine nd.1 (List.mem_map.mpr ⟨(S, oS), by walk_at "sd", e⟩)
          refine callDisjT ok' I5 (by walk_at "sd") (by walk_at "sd") hne2 hS hT2 fun h' t' I' => ⟨?_, h', t', rfl, I'⟩
          rw [hE.out _ hv]; simp
      refine wpAny_mono (hcall _) (fun v s₁ h₁ => ?_) fun _ _ x => x
      obtain ⟨rfl, h6, t6, rfl, I6⟩ := h₁
      have htk : (todo.take (i + 1)).filter (fun n => decide (∀ p, p ∈ mf ps n → p ∉ todo)) = (todo.take i).filter (fun n => decide (∀ p, p ∈ mf ps n → p ∉ todo)) ++ (if decide (∀ p, p ∈ mf ps x → p ∉ todo) = true then [x] else []) := by
        rw [List.take_add_one, hxt, List.filter_append]
        congr 1
        rw [Option.toList_some, List.filter_cons, List.filter_nil]
      repeat walk_at "nx"
      by_cases hb : decide (∀ p, p ∈ mf ps x → p ∉ todo) = true
      · rw [if_pos hb]
        rw [if_pos hb] at htk
        repeat walk_at "nx"
        refine' ⟨_, _, _, _, rfl, ?I, _, _, _, _, rfl, ?F, ?L, ?vv⟩
        case F => assumption
        case L => assumption
        case I => walk_at "led"
        case vv => rw [htk]; exact hov.append (.cons _ _ .nil)
      · rw [if_neg hb]
        rw [if_neg hb, List.append_nil] at htk
        repeat walk_at "nx"
        refine' ⟨_, _, _, _, rfl, ?I, _, _, _, _, rfl, ?F, ?L, ?vv⟩
        case F => assumption
        case L => assumption
        case I => walk_at "led"
        case vv => rw [htk]; exact hov
    · rintro l h d t ⟨fo, vn, oO, ov, rfl, F, hO, hov⟩ I
      simp only [List.append_nil] at I
      rw [List.take_of_length_le (by omega)] at hov
      replace hov : IntsAre ov (ready ps todo) := hov
      have hov0 : ov ≠ [] := fun e => hne (List.eq_nil_of_length_eq_zero (by rw [← hov.length, e]; rfl))
      refine s1_plain ?_
      repeat walk_at "nx"
      rw [if_neg (by cases ov with
        | nil => exact absurd rfl hov0
        | cons _ _ => simp)]
      repeat walk_at "nx"
      refine s1_plain ?_
      repeat walk_at "nx"
      refine callDiff (lf := fun o => fo ++ (O, oO) :: (lc ++ (D, oD) :: (T, oT) :: (S, o) :: el)) ok' hO hov (by walk_at "hole") (by walk_at "allhas") (fun e => ?_) hS (by assumption) (by omega) fun h t oS2 hS2 I2 => ?_
      · refine Led.ne (l1 := fo) (o' := oS) I (by walk_at "sd") e.symm
      refine s1_plain ?_
      refine AssignComp (G := G) [("todo_set", .ref S)] ["t"] [] fo ?hsw F.kind F.glob F.bi (by simp only [List.map_cons, List.map_nil]; decide +kernel) rfl (F.sees fun p hp => ?sees) ?_ (fun _ => rfl)
      case hsw => unfold swapsWith; simp only [Env.blockKind, Env.kindOf, he]; rfl
      case sees => rw [List.mem_singleton.mp hp]; exact ⟨by walk_at "sd", by rw [Env.kindOf, he]; rfl⟩
      repeat walk_at "nx"
      refine iterList (by assumption) (by walk_at "sd") hT fun J oJ h hC I => ?_
      refine ⟨_, _, _, _, _, _, rfl, I, fun h' lg' Q' E' I' hq => selfL I' (by walk_at "sd") hC hq, fun cenv fo2 Z oZ h hZ I F2 S2 gls2 _ => ?_⟩
      replace I := Led.jfront I
      refine compCur (fr0 := []) .l (turn_L1 ..) (Cur.list J T oT tv hT) ok' (fun i l => ∃ fo2 vt oZ zv, l = fo2 ++ (Z, oZ) :: (fo ++ (O, oO) :: (lc ++ (D, oD) :: (T, oT) :: (S, oS2) :: el)) ∧ Frm cenv fo2 [("t", vt)] ∧ LstO oZ zv ∧
        IntsAre zv ((todo.take i).filter fun n => decide (n ∈ diff m (ready ps todo)))) (List.append_nil _).symm I hC ⟨_, _, _, _, rfl, F2, hZ, .nil⟩ ?_ ?_ ?_
      · rintro i l ⟨fo2, vt, oZ, zv, rfl, _⟩ p hp
        rw [List.mem_singleton.mp hp]; walk_at "sd"
      · rintro i v l fr h d t - hi hv ⟨fo2, vt, oZ, zv, rfl, F2, hZ, hzv⟩ I
        simp only [List.append_assoc, List.cons_append] at I
        obtain ⟨x, tk, hxt, hx⟩ := intAt' hti (i := i) (by omega)
        rw [hx] at hv
        cases hv
        have hzvl : zv.length ≤ 20 := by
          rw [hzv.length]
          have := List.length_filter_le (fun n => decide (n ∈ diff m (ready ps todo))) (todo.take i)
          rw [List.length_take] at this; omega
        have hbig : 20 + 1 ≤ 2 * big := by decide
        have htk : (todo.take (i + 1)).filter (fun n => decide (n ∈ diff m (ready ps todo))) = (todo.take i).filter (fun n => decide (n ∈ diff m (ready ps todo))) ++ (if decide (x ∈ diff m (ready ps todo)) = true then [x] else []) := by
          rw [List.take_add_one, hxt, List.filter_append]
          congr 1
          rw [Option.toList_some, List.filter_cons, List.filter_nil]
        repeat walk_at "nx"
        by_cases hb : decide (x ∈ diff m (ready ps todo)) = true
        · rw [if_pos hb]
          rw [if_pos hb] at htk
          repeat walk_at "nx"
          refine' ⟨_, _, _, _, rfl, ?I, _, _, _, _, rfl, ?F, ?L, ?vv⟩
          case F => assumption
          case L => assumption
          case I => walk_at "led"
          case vv => rw [htk]; exact hzv.append (.cons _ _ .nil)
        · rw [if_neg hb]
          rw [if_neg hb, List.append_nil] at htk
          refine' ⟨_, _, _, _, rfl, ?I, _, _, _, _, rfl, ?F, ?L, ?vv⟩
          case F => assumption
          case L => assumption
          case I => walk_at "led"
          case vv => rw [htk]; exact hzv
      · rintro l h d t ⟨fo2, vt, oZ, zv, rfl, F2, hZ, hzv⟩ I
        simp only [List.append_nil] at I
        rw [List.take_of_length_le (by omega)] at hzv
        refine ⟨rfl, fo2, _, F2, ?_⟩
        dsimp only
        have I3 : Led G (fo ++ (fo2 ++ (Z, oZ) :: (O, oO) :: (lc ++ (D, oD) :: (T, oT) :: (S, oS2) :: el))) h := I.perm (by walk_at "perm")
        refine asName I3 F (by walk_at "sd") fun h' t' fo4 I4 F4 => ?_
        refine ⟨fo4 ++ ((Z, oZ) :: (O, oO) :: (lc ++ (D, oD) :: (T, oT) :: (S, oS2) :: el)), I4.perm (by walk_at "perm"), fun h5 I5 => ?_⟩
        refine s1_Yield hfs rfl hfg ?_ (by rw [he]; rfl) F.inter
        repeat walk_at "nx"
        intro lq kq p hres
        have I6 : Led G ((T, oT) :: (lc ++ ([(O, oO)] ++ (fo4 ++ ((D, oD) :: (Z, oZ) :: (S, oS2) :: el))))) h5 := I5.perm (by walk_at "perm")
        refine ⟨.ref O, _, fo4 ++ ((D, oD) :: (Z, oZ) :: (S, oS2) :: el), [], [(O, oO)], h5, g, d, t', rfl, rfl, ⟨O, oO, ov, rfl, rfl, hO, hov⟩, rfl, I6.drop, by simpa using Gi, ?_⟩
        refine yields_iff.mpr fun A' lc' oc' h' g' d' t' ok2 I' G' => ?_
        refine hres A' _ _ _ (fun a e => by cases e) ?_
        refine s1_nil (s1_again rfl ?_)
        have hfl : todo.filter (fun n => decide (n ∈ diff m (ready ps todo))) = todo.filter (fun n => decide (n ∉ ready ps todo)) :=
          List.filter_congr fun n hn => decide_eq_decide.mpr (by rw [mem_diff _ _ _ hS.1, hmm]; exact ⟨fun h => h.2, fun h => ⟨hn, h⟩⟩)
        rw [hfl] at hzv
        exact ih A' fo4 lc' oc' h' g' d' t' D S Z oD oS2 oZ el kvs zv (diff m (ready ps todo)) vp vc _ _ vt ok2 F4 hD hE hZ hzv (by have := List.length_filter_le (fun n => decide (n ∉ ready ps todo)) todo; omega) hS2 (by have := diff_len (ready ps todo) m; omega)
          (fun x => by rw [mem_diff _ _ _ hS.1, hmm, List.mem_filter]; simp) I' (by simpa using G')
end
end Mine
namespace Mine

local macro_rules | `(tactic| walk_at "sub") => `(tactic| with_reducible first | exact List.Sublist.refl _ | exact List.nil_sublist _ | (refine List.Sublist.cons_cons _ ?_; walk_at "sub") | (refine List.Sublist.append (List.Sublist.refl _) ?_; walk_at "sub") | (refine List.Sublist.cons _ ?_; walk_at "sub"))
local macro_rules | `(tactic| walk_at "sd") => `(tactic| with_reducible first | assumption | exact List.mem_cons_self | exact SetV.head | exact Hole.mem (by assumption) _ | exact AllHas.mem (by assumption) _ | (refine List.mem_cons_of_mem _ ?_; walk_at "sd") | (apply SetV.tail; walk_at "sd") | (refine List.mem_append_right _ ?_; walk_at "sd") | (refine List.mem_append_left _ ?_; walk_at "sd"))
local macro_rules | `(tactic| walk_at "up") => `(tactic| with_reducible first | exact Upd.head | exact Hole.at (by assumption) _ _ | (refine Upd.tail ?_; walk_at "up") | (refine Upd.app ?_ _; walk_at "up") | (refine Upd.appl ?_ _; walk_at "up"))
local macro_rules | `(tactic| walk_at "hole") => `(tactic| first | with_reducible assumption | (intro _ _; walk_at "up"))
local macro_rules | `(tactic| walk_at "allhas") => `(tactic| first | with_reducible assumption | (intro _; walk_at "sd"))
local macro_rules | `(tactic| walk_at "led") => `(tactic| ((try simp only [List.append_assoc, List.cons_append, List.nil_append, List.append_nil]); (with_reducible refine' Led.sub ?I ?s); (case I => with_reducible assumption); (case s => walk_at "sub")))
local macro_rules | `(tactic| walk_at "sw") => `(tactic| fail "sw")
local macro_rules | `(tactic| walk_at "perm") => `(tactic| (refine permOf fun x => ?_; simp only [List.count_append, List.count_cons, List.count_nil, List.append_assoc, List.cons_append, List.nil_append] <;> omega))
local macro_rules | `(tactic| walk_at "sees") => `(tactic| first | with_reducible assumption | (intro _ _; walk_at "sd") | (intro _ hp; rcases List.mem_append.mp hp with hp | hp <;> walk_at "sd"))
local macro_rules | `(tactic| walk_at "nx") => `(tactic| first
  | with_reducible refine wpAny_execs_nil ?_
  | with_reducible refine wpAny_execs_cons ?_
  | with_reducible refine wpAny_If ?_
  | ((with_reducible refine wpAny_isTrue_Compare1 ?_ ?hs); case hs => with_unfolding_all rfl)
  | with_reducible refine wpAny_truthy_bool ?_
  | ((with_reducible refine wpAny_Compare1 ?_ ?hs); case hs => with_unfolding_all rfl)
  | ((with_reducible refine wpAny_Assign_Subscript ?_ ?hs); case hs => with_unfolding_all rfl)
  | ((with_reducible refine wpAny_Assign_Name ?_ ?hs); case hs => with_unfolding_all rfl)
  | with_reducible refine wpAny_Return_some ?_
  | with_reducible refine wpAny_BinOp ?_
  | ((with_reducible refine Slice_ ?_ ?ht); (case ht => (intro _ _; with_unfolding_all rfl)))
  | with_reducible refine Subscript_ ?_
  | ((with_reducible refine' MethodCall_ ?_ ?hs); case hs => with_unfolding_all rfl)
  | ((with_reducible refine Call_ ?_ ?hs); case hs => with_unfolding_all rfl)
  | with_reducible refine cInt ?_
  | with_reducible refine wpAny_UnaryOp ?_
  | with_reducible refine negI ?_
  | with_reducible refine addI ?_
  | with_reducible refine subI ?_
  | with_reducible refine ltI ?_
  | with_reducible refine eqI ?_
  | with_reducible refine neI ?_
  | with_reducible refine leI ?_
  | with_reducible refine gtI ?_
  | ((with_reducible refine modI ?h0 ?_); (case h0 => first | with_reducible assumption | decide | omega))
  | ((with_reducible refine divI ?h0 ?hp ?_); (case h0 => first | with_reducible assumption | decide | omega); (case hp => first | exact PyProof.noPylong_of_log2 (by decide +kernel) | exact PyProof.noPylong_small (by omega)))
  | ((with_reducible refine mulI ?h0 ?_); (case h0 => mul_fits))
  | ((with_reducible refine' ld ?I ?F ?m ?_ ?hd); (case I => with_reducible assumption); (case F => with_reducible assumption); (case m => walk_at "sd"); (case hd => decide))
  | ((with_reducible refine' ldB ?I ?F ?gls ?gd ?hx ?hmiss ?hv ?hn ?_ ?hd); (case I => with_reducible assumption); (case F => with_reducible assumption); (case gls => with_reducible assumption); (case gd => with_reducible assumption); (case hx => walk_at "sd"); (case hmiss => with_reducible assumption); (case hv => with_reducible assumption); (case hn => decide); (case hd => decide))
  | ((with_reducible refine' ldG ?I ?F ?gls ?gd ?hx ?hv ?_ ?hd); (case I => with_reducible assumption); (case F => with_reducible assumption); (case gls => with_reducible assumption); (case gd => with_reducible assumption); (case hx => walk_at "sd"); (case hv => with_reducible assumption); (case hd => decide))
  | ((with_reducible refine Assign_Tuple ?_ ?hs ?hw); (case hs => with_unfolding_all rfl); (case hw => first | with_unfolding_all rfl | exact swNone rfl | exact swNone (by walk_at "sw")))
  | ((with_reducible refine' asTuple ?ok ?I ?m ?T ?hn ?hst ?_); (case ok => with_reducible assumption); (case I => with_reducible assumption); (case m => walk_at "sd"); (case T => with_reducible assumption); (case hn => rfl); (case hst => rfl); intro _ _; (try simp only [assignEach, List.map_cons, List.map_nil]))
  | ((with_reducible refine' asTupleG ?ok ?I ?m ?T ?hn ?hst ?_); (case ok => with_reducible assumption); (case I => with_reducible assumption); (case m => with_reducible assumption); (case T => with_reducible assumption); (case hn => rfl); (case hst => rfl); intro _ _; (try simp only [assignEach, List.map_cons, List.map_nil]))
  | with_reducible refine inOrder_cons ?_
  | with_reducible refine inOrder_nil ?_
  | with_reducible refine asSub ?_
  | ((with_reducible refine' asName ?I ?F ?m ?_); (case I => with_reducible assumption); (case F => with_reducible assumption); (case m => walk_at "sd"); intro _ _ _ _ _)
  | with_reducible refine Tuple_ ?_
  | with_reducible refine List_ ?_
  | ((with_reducible refine' tupleN ?I ?hb ?_); (case I => with_reducible assumption); (case hb => first | (show _ ≤ _; simp only [List.length_cons, List.length_nil]; omega) | omega); intro _ _ _ _ _)
  | ((with_reducible refine' listN ?I ?hb ?_); (case I => with_reducible assumption); (case hb => first | (show _ ≤ _; simp only [List.length_cons, List.length_nil]; omega) | omega); intro _ _ _ _ _)
  | ((with_reducible refine' callW ?hf ?_ ?he); (case hf => with_reducible assumption); (case he => with_unfolding_all rfl))
  | ((with_reducible refine' callWD ?hf ?_ ?he); (case hf => with_reducible assumption); (case he => with_unfolding_all rfl))
  | with_reducible refine And.intro (Grd.of (by assumption)) ?_
  | ((with_reducible refine PyProof.Rows.callWith_type1 ?_ ?hs ?ht); (case hs => with_unfolding_all rfl); (case ht => with_unfolding_all rfl))
  | ((with_reducible refine' rangeC1 ?I ?_); (case I => with_reducible assumption); intro _ _ _ _ _ _)
  | ((with_reducible refine' rangeC2 ?I ?_); (case I => with_reducible assumption); intro _ _ _ _ _ _)
  | ((with_reducible refine' rangeC3 ?I ?hc ?hp ?_); (case I => with_reducible assumption); (case hc => first | decide | omega); (case hp => first | exact PyProof.noPylong_of_log2 (by decide +kernel) | exact PyProof.noPylong_small (by omega)); intro _ _ _ _ _ _)
  | ((with_reducible refine wpAny_For ?_ ?hs); case hs => (intro _; rfl))
  | ((with_reducible refine callWith_builtin1 ?_ ?hs ?ht); (case hs => with_unfolding_all rfl); (case ht => with_unfolding_all rfl))
  | ((with_reducible refine args_cons ?_ ?hs); (case hs => with_unfolding_all rfl))
  | with_reducible refine args_nil ?_
  | ((with_reducible refine' subL ?I ?m ?L ?h0 ?hx ?_ ?hs); (case I => with_reducible assumption); (case m => walk_at "sd"); (case L => with_reducible assumption); (case h0 => first | decide | omega); (case hx => first | with_reducible assumption | rfl); (case hs => with_unfolding_all rfl))
  | ((with_reducible refine' subD ?I ?m ?D ?hv ?_ ?hs); (case I => with_reducible assumption); (case m => walk_at "sd"); (case D => with_reducible assumption); (case hv => with_reducible assumption); (case hs => with_unfolding_all rfl); intro _)
  | ((with_reducible refine' setL ?I ?m ?L ?e ?H ?h0 ?hk ?hv ?_); (case I => with_reducible assumption); (case m => walk_at "sd"); (case L => with_reducible assumption); (case e => rfl); (case H => walk_at "hole"); (case h0 => first | decide | omega); (case hk => first | omega | (simp only [List.length_cons, List.length_nil, List.length_set, Int.reduceToNat]; omega)); (case hv => first | ((simp only [Int.reduceToNat, List.set_cons_zero, List.set_cons_succ]; done)) | ((simp only [Int.reduceToNat, List.set_cons_zero, List.set_cons_succ]; rfl)) | rfl); intro _ _ _ _ _)
  | ((with_reducible refine' lenL ?I ?m ?L ?_); (case I => with_reducible assumption); (case m => walk_at "sd"); (case L => with_reducible assumption); intro _ _)
  | ((with_reducible refine absI ?_); intro _ _)
  | ((with_reducible refine' st ?I ?F ?m ?_); (case I => with_reducible assumption); (case F => with_reducible assumption); (case m => walk_at "sd"); intro _ _ _ _ _)
  | ((with_reducible refine' ldS ?I ?hk ?S ?sub ?m ?_ ?hd); (case I => with_reducible assumption); (case hk => exact Frm.kind (by assumption)); (case S => with_reducible assumption); (case sub => walk_at "sees"); (case m => walk_at "sd"); (case hd => decide))
  | ((with_reducible refine' gmS ?slot ?hty ?I ?m ?S ?_); (case I => with_reducible assumption); (case m => walk_at "sd"); (case S => with_reducible assumption); (case slot => with_reducible first | exact F.slot_set_add | exact F.slot_set_isdisjoint | exact F.slot_set_difference_update); (case hty => with_reducible first | exact F.type_set_add | exact F.type_set_isdisjoint | exact F.type_set_difference_update))
  | ((with_reducible refine' gmD ?slot ?hty ?I ?m ?D ?_); (case I => with_reducible assumption); (case m => walk_at "sd"); (case D => with_reducible assumption); (case slot => with_reducible first | exact PySem.F.slot_dict_setdefault | exact PySem.F.slot_dict_get | exact PySem.F.slot_dict_values); (case hty => with_reducible first | exact PySem.F.type_dict_setdefault | exact PySem.F.type_dict_get | exact PySem.F.type_dict_values))
  | ((with_reducible refine' gmL ?slot ?hty ?I ?m ?L ?_); (case I => with_reducible assumption); (case m => walk_at "sd"); (case L => with_reducible assumption); (case slot => with_reducible first | exact F.slot_list_append | exact F.slot_list_extend); (case hty => with_reducible first | exact F.type_list_append | exact F.type_list_extend))
  | ((with_reducible refine callWith_method1 ?_ ?hs ?ht); (case hs => with_unfolding_all rfl); (case ht => with_unfolding_all rfl))
  | with_reducible refine callWith_method0 ?_
  | ((with_reducible refine' exprS ?_ ?hi ?hs); (case hi => exact Frm.kind (by assumption)); (case hs => with_unfolding_all rfl))
  | with_reducible refine wpAny_isTrue_Not ?_
  | ((with_reducible refine' truthyS ?I ?m ?S ?_); (case I => with_reducible assumption); (case m => walk_at "sd"); (case S => with_reducible assumption); intro _)
  | ((with_reducible refine' truthyL ?I ?m ?L ?_); (case I => with_reducible assumption); (case m => walk_at "sd"); (case L => with_reducible assumption); intro _)
  | with_reducible refine wpAny_IfExp ?_
  | with_reducible refine isTrue_and ?_
  | with_reducible refine isTrue_and_nil ?_
  | ((with_reducible refine isTrue_plain ?_ ?he); (case he => with_unfolding_all rfl))
  | ((with_reducible refine' inS ?I ?m ?S ?_); (case I => with_reducible assumption); (case m => walk_at "sd"); (case S => with_reducible assumption); intro _)
  | ((with_reducible refine' inD ?I ?m ?D ?_); (case I => with_reducible assumption); (case m => walk_at "sd"); (case D => with_reducible assumption); intro _)
  | ((with_reducible refine' getD2 ?I ?m ?D ?_); (case I => with_reducible assumption); (case m => walk_at "sd"); (case D => with_reducible assumption); intro _)
  | ((with_reducible refine' addS ?I ?m ?S ?e ?H ?hb ?_); (case I => with_reducible assumption); (case m => walk_at "sd"); (case S => with_reducible assumption); (case e => rfl); (case H => walk_at "hole"); (case hb => omega); intro _ _ _ _ _)
  | ((with_reducible refine' appendL ?I ?m ?e ?H ?L ?hb ?_); (case I => with_reducible assumption); (case m => walk_at "sd"); (case L => with_reducible assumption); (case e => rfl); (case H => walk_at "hole"); (case hb => first | omega | (simp only [List.length_append, List.length_cons, List.length_nil]; omega)); intro _ _ _ _ _)
  | ((with_reducible refine' newD ?gd ?I ?_); (case gd => with_reducible assumption); (case I => with_reducible assumption); intro _ _ _ _ _)
  | with_reducible refine callWith_type0 ?_
  | with_reducible refine tests0 ?_
  | with_reducible refine tests1 ?_
  | with_reducible refine emit_ ?_
  | ((with_reducible refine' newS ?I ?_); (case I => with_reducible assumption); intro _ _ _ _ _)
  | ((with_reducible refine' listList ?I ?m ?L ?_); (case I => with_reducible assumption); (case m => walk_at "sd"); (case L => with_reducible assumption); intro _ _ _ _ _)
  | ((with_reducible refine' valuesD ?I ?m ?D ?_); (case I => with_reducible assumption); (case m => walk_at "sd"); (case D => with_reducible assumption); intro _ _ _ _ _)
  | ((with_reducible refine' next_spec2 ?gd ?ok ?nl ?na ?hf ?I ?m ?ho ?hs ?e ?H ?hsc ?hmany ?_); (case gd => with_reducible assumption); (case nl => with_reducible assumption); (case na => with_reducible assumption); (case hf => with_reducible assumption); (case I => with_reducible assumption); (case m => walk_at "sd"); (case ho => with_reducible assumption); (case hs => with_reducible assumption); (case ok => exact Ok.less (by assumption) (by decide)); (case e => rfl); (case H => walk_at "hole"); (case hsc => walk_at "allhas"); (case hmany => omega); intro _ _ _ _ _ _ _ _ _)
  | with_reducible refine partNone ?_
  | with_reducible refine partSome ?_
  | ((with_reducible refine' sliceAll ?I ?m ?L ?_); (case I => with_reducible assumption); (case m => walk_at "sd"); (case L => with_reducible assumption); intro _ _ _ _ _)
  | (with_reducible dsimp only [List.cons_append, List.nil_append, List.append_nil])
  )
section
variable {prog : Program} {w : World} {A : Around} {E : Value → Shared → Prop} {h G : Heap} {g : Array GenState} {d : Drawn} {t : Nat} {os : OsState}
  {env : Env} {l l' fo lc lg : List (Addr × Obj)} {lf : Obj → List (Addr × Obj)} {a sc f tl al : Addr} {o osc otl oal : Obj} {ns : List Int} {u : Tok} {mg mb : Str → Option Value} {k : Nat} {pv iv vs : List Value} {ps : List (Int × Int)} {items : List Int} {outs : List (List Int)} {fs : List Frame}

theorem ok_func {b : List Stmt} (ok : Ok A (k + 1)) : Ok (A.over (.func b env) []) k :=
  ⟨ok.hd, by have := ok.dp; show A.depth + 0 + 1 + k ≤ 900; omega, by have := ok.un; show A.units + 0 + 3 + 20 * k ≤ 9000; omega⟩
theorem ok_while {b bw bo : List Stmt} {tst : Expr} {K : Result → Sem PySem.Fin} {l : List Value} {p : Pos} (ok : Ok A (k + 1)) : Ok (A.over (.whileLoop tst bw bo env) [.ret K none false l (.func b env) p []]) k :=
  ⟨ok.hd, by have := ok.dp; show A.depth + (1 + 0) + 0 + k ≤ 900; omega, by have := ok.un; show A.units + (3 + 0) + 0 + 20 * k ≤ 9000; omega⟩

/-- edges.setdefault(c, set()) -/
theorem edges_sd {D S : Addr} {oD oS : Obj} {kvs : List (Int × Value)} {el rest fo : List (Addr × Obj)} {f : Int → List Int} {c : Int} {Q : Value → Shared → Prop} (hD : DicO prog w D oD kvs) (hE : EdgesL kvs el f) (hS : ISet oS []) (hb : kvs.length < 4096)
    (I : Led G (fo ++ (S, oS) :: ((D, oD) :: (el ++ rest))) h)
    (hQ : ∀ a o kvs' oD' lfE h' t', Hole lfE a → ISet o (f c) → DicO prog w D oD' kvs' → EdgesL kvs' (lfE o) f → (c, Value.ref a) ∈ kvs' → kvs'.length ≤ kvs.length + 1 → Led G (fo ++ ((D, oD') :: (lfE o ++ rest))) h' → Q (.ref a) ⟨h', g, d, t', os⟩) :
    wpAny (model prog w) A (call (.builtin "dict.setdefault") [.ref D, .int c u, .ref S]) Q E ⟨h, g, d, t, os⟩ := by
  cases hv : valueAt kvs c with
  | some v =>
    obtain ⟨a, o, rfl, ha, hSa⟩ := hE.val _ _ (valueAt_mem hv)
    obtain ⟨lfE, H, rfl⟩ := Hole.of_mem ha
    refine setdefOld I (by walk_at "sd") hD hv fun t' => ?_
    refine hQ a o kvs oD lfE h t' H hSa hD hE (valueAt_mem hv) (Nat.le_succ _) (I.sub (List.Sublist.append (List.Sublist.refl _) (List.sublist_cons_self _ _)))
  | none =>
    refine setdefNew (lf := fun o => fo ++ (S, oS) :: ((D, o) :: (el ++ rest))) I (by walk_at "hole") hD hv hb fun h' t' oD' hD' I' => ?_
    have hf := hE.out c hv
    have hne : ∀ p ∈ el, p.1 ≠ S := fun p hp => Led.ne (l1 := fo) (o' := p.2) I' (by walk_at "sd")
    have hE' := hE.new hne hS hv
    have : (fun z => if c = z then [] else f z) = f := funext fun z => by
      by_cases e : c = z
      · subst e; rw [if_pos rfl, hf]
      · rw [if_neg e]
    rw [this] at hE'
    refine hQ S oS (kvs ++ [(c, .ref S)]) oD' (fun o => (S, o) :: el) h' t' (fun _ _ => .head) (by rw [hf]; exact hS) hD' hE' (List.mem_append_right _ List.mem_cons_self) (by simp) (I'.perm (by walk_at "perm"))

set_option maxRecDepth 100000 in
set_option maxHeartbeats 4000000 in
theorem sas_yields (gd : Gd G mg mb) (hlist : mg "list" = none) (hset : mg "set" = none) (he : env.scope = fnScope (st1 3)) (gls : Gls env ["list", "set"])
    (F : Frm env fo [("tuples", some (.ref tl)), ("allitems", some (.ref al)), ("edges", none), ("todo", none), ("todo_set", none), ("parent", none), ("child", none), ("output", none), ("node", none)])
    (hps : PairsG G pv ps) (hpl : LstO otl pv) (hil : LstO oal iv) (hit : IntsAre iv items) (hL : Layers ps items outs) (hb1 : ps.length ≤ 20) (hb2 : items.length ≤ 20) :
    Yields prog w G (k + 6) os OutL FiN outs (.fresh (.func (fnBody (st1 3)) env)) (fo ++ [(tl, otl), (al, oal)]) [] := by
  refine yields_iff.mpr fun A lc oc h g d t ok I Gi => ⟨rfl, ?_⟩
  refine s1_func ?_
  have ok' := ok_func (env := env) (b := fnBody (st1 3)) ok
  have I2 : Led G (fo ++ ((tl, otl) :: (al, oal) :: lc)) h := I.perm (by walk_at "perm")
  have bl : bootBuiltins "list" = some (.type "list") := by decide +kernel
  have bs : bootBuiltins "set" = some (.type "set") := by decide +kernel
  obtain ⟨b1, b2, b3, b4, hb⟩ : ∃ b1 b2 b3 b4, fnBody (st1 3) = [b1, b2, b3, b4, sasW] := ⟨_, _, _, _, rfl⟩
  conv in execs _ _ => (arg 1; whnf)
  refine s1_plain ?_
  repeat walk_at "nx"
  refine s1_plain ?_
  repeat walk_at "nx"
  rename_i D oD h1 hD I1 h2 t2 fo2 I3 F3
  refine iterList (by assumption) (by walk_at "sd") hpl fun J oJ h hC I => ?_
  refine forCur (fr0 := []) (Cur.list J tl otl pv hpl) ok' (fun i l => ∃ fo vp vc oD el kvs, l = fo ++ ((D, oD) :: (el ++ ((tl, otl) :: (al, oal) :: lc))) ∧
      Frm env fo [("tuples", some (.ref tl)), ("allitems", some (.ref al)), ("edges", some (.ref D)), ("todo", none), ("todo_set", none), ("parent", vp), ("child", vc), ("output", none), ("node", none)] ∧
      DicO prog w D oD kvs ∧ EdgesL kvs el (mf (ps.take i)) ∧ kvs.length ≤ i)
      (List.append_nil _).symm I hC ⟨_, _, _, _, [], _, rfl, F3, hD, EdgesL.nil, Nat.zero_le _⟩ ?_ ?_ ?_
  · rintro i l ⟨fo, vp, vc, oD, el, kvs, rfl, _⟩ p hp
    rw [List.mem_singleton.mp hp]; walk_at "sd"
  · rintro i v l fr h d t - hi hv ⟨fo, vp, vc, oD, el, kvs, rfl, F, hD, hE, hk⟩ I
    simp only [List.append_assoc, List.cons_append] at I
    have hil' : i < ps.length := by rw [← hps.1]; exact hi
    obtain ⟨p, c, hq'⟩ : ∃ p c, ps[i]? = some (p, c) := ⟨ps[i].1, ps[i].2, List.getElem?_eq_getElem hil'⟩
    obtain ⟨a, o, t1, t2, hx, hga, hT⟩ := hps.2 i p c hq'
    rw [hx] at hv
    cases hv
    have htk : ps.take (i + 1) = ps.take i ++ [(p, c)] := by rw [List.take_add_one, hq', Option.toList_some]
    repeat walk_at "nx"
    rename_i S oS h5 hS I5
    refine edges_sd hD hE hS (by omega) I5 fun a o kvs' oD' lfE h' t' H hSa hD' hE' hm hkl I' => ?_
    have hmfl : (mf (ps.take i) c).length ≤ 20 := Nat.le_trans (mf_len _ _) (by rw [List.length_take]; omega)
    repeat walk_at "nx"
    refine' ⟨_, _, _, _, rfl, ?I, _, _, _, oD', _, kvs', rfl, ?F, hD', ?E, by omega⟩
    case F => assumption
    case I => walk_at "led"
    case E =>
      rename_i hSn In
      have nd : ((lfE o).map Prod.fst).Nodup := (I'.dropl _).drop.dropr.nd
      have := hE'.set (el := []) H nd hm hSn hD'.nd
      rw [htk]
      have e : mf (ps.take i ++ [(p, c)]) = fun z => if c = z then ins p (mf (ps.take i) c) else mf (ps.take i) z := funext fun z => by
        rw [mf_snoc]; by_cases e : c = z
        · subst e; rfl
        · rw [if_neg e, if_neg e]
      rw [e]; exact this
  · rintro l h d t ⟨fo, vp, vc, oD, el, kvs, rfl, F, hD, hE, hk⟩ I
    simp only [List.append_nil] at I
    rw [hps.1, List.take_length] at hE
    refine s1_plain ?_
    repeat walk_at "nx"
    rename_i T oT h5 hT I5 h6 t6 fo6 I6 F6
    refine s1_plain ?_
    repeat walk_at "nx"
    refine setList ok' I6 (by walk_at "sd") hil hit (by omega) fun S oS h t hS I => ?_
    repeat walk_at "nx"
    rename_i h7 t7 fo7 I7 F7
    refine s1_While fun p => ?_
    refine sas_while gd hlist he gls rfl rfl ?_ (fun A ok => ok_while (ok.less (j := 4) (by omega))) hL A fo7 lc oc h7 g d t7 D S T oD oS oT el kvs iv (dedup items) vp vc _ _ none ok F7 hD hE hT hit hb2 hS ?_ (fun x => mem_dedup) ?_ (by simpa using Gi)
    · intro A P s hP
      refine s1_leaf _ ?_
      exact s1_end (.ok (.ret .none)) hP
    · have := dedup_len items; omega
    · have I8 : Led G ([(tl, otl), (al, oal)] ++ (lc ++ (fo7 ++ ((D, oD) :: (T, oT) :: (S, oS) :: el)))) h7 := I7.perm (by walk_at "perm")
      exact I8.dropl _
end
end Mine
namespace Mine

abbrev yfCode (it : Value) : Code := .builtin "proto.yield_from" ⟨[it, .bool false, .none], []⟩
theorem yf_entry : entryFor table "proto.yield_from" = some Builtin.«proto.yield_from» := entryFor_of_tree (by kernel_rfl)
theorem yf_plain : plainId "proto.yield_from" = true := by decide +kernel
theorem li_close : typeLookup (.type "list_iterator") "close" = pure none := by rw [typeLookup_type, builtinLookup_eq_fast]; kernel_rfl

theorem yf_den_gen {prog : Program} {w : World} {id : String} {args : Args} {b : Builtin} (hb : entryFor table id = some b) : (model prog w).den (.builtin id args) = b args := by
  show (match entryFor table id with | some b => b args | none => unsupported ((withoutEnding? id "#data").getD id)) = _
  rw [hb]
theorem yf_den {prog : Program} {w : World} {it : Value} : (model prog w).den (yfCode it) = Builtin.«proto.yield_from» ⟨[it, .bool false, .none], []⟩ := yf_den_gen yf_entry

section
variable {prog : Program} {w : World} {A : Around} {E : Value → Shared → Prop} {P : End → Shared → Prop} {h G : Heap} {g : Array GenState} {d : Drawn} {t : Nat} {os : OsState}
  {env : Env} {fo fr l lg : List (Addr × Obj)} {vs : List Value} {x : Value} {J al : Addr} {oJ ol : Obj} {i k : Nat} {fs : List Frame}

theorem s1_den {c : Code} {s : Shared} (h : Seg1 (model prog w) A P c ((model prog w).den c) fs s) : Seg1 (model prog w) A P c ((model prog w).den c) fs s := h

/-- the list iterator's step, raw -/
theorem liStep {Q : Option Value → Shared → Prop} (I : Led G (l ++ (J, oJ) :: fr) h) (hC : LIter al i oJ) (hm : (al, ol) ∈ l ++ fr) (hL : LstO ol vs) (hx : vs[i]? = some x)
    (hQ : ∀ h' oJ', LIter al (i + 1) oJ' → Led G (l ++ (J, oJ') :: fr) h' → Q (some x) ⟨h', g, d, t, os⟩) :
    wpAny (model prog w) A (callSpecial? (.ref J) (Str.ofString "__next__")) Q E ⟨h, g, d, t, os⟩ := by
  have hJ : (J, oJ) ∈ l ++ (J, oJ) :: fr := List.mem_append_right _ List.mem_cons_self
  have hal : (al, ol) ∈ l ++ (J, oJ) :: fr := (List.perm_middle (a := (J, oJ)) (l₁ := l) (l₂ := fr)).mem_iff.mpr (List.mem_cons_of_mem _ hm)
  have hit : h.IsListIter J al i := ⟨oJ, I.get hJ, hC.1, hC.2⟩
  obtain ⟨o, ho, hc, hd⟩ := id hit
  obtain ⟨ol', hol, _, nl, hdl⟩ := I.isList hal hL
  have hT : (⟨h, g, d, t, os⟩ : Shared).TypeIs (.ref J) "list_iterator" := ⟨_, I.get hJ, hC.1⟩
  refine wpAny_callSpecial?_slot (name := Str.ofString "__next__") hT slot_listiter_next
    (wpAny_call_entry slot_listiter_next hT entry_listiter_next ?_ (args_listiter_next _))
  show wpAny _ _ (field (.ref J) 0 >>= _) _ _ _
  refine wpAny_bind (wpAny_field ho hd (x := .ref al) rfl ?_)
  show wpAny _ _ (if (Value.ref al == Value.none) = true then _ else _) _ _ _
  rw [if_neg (show ¬ ((Value.ref al == Value.none) = true) from Bool.false_ne_true)]
  show wpAny _ _ (field (.ref J) 1 >>= _) _ _ _
  refine wpAny_bind (wpAny_field ho hd (x := .int i 0) rfl ?_)
  show wpAny _ _ (seqItems? (.ref al) >>= _) _ _ _
  refine wpAny_bind (wpAny_seqItems hol hdl ?_)
  have hx' : vs.toArray[i]? = some x := by simpa using hx
  simp only [Int.toNat_natCast, hx']
  have hsb := Heap.SameBut.update h J (Obj.mapFields (·.setIfInBounds 1 (rawInt ((i : Int) + 1))))
  refine wpAny_bind (wpAny_setField ho hd (by simp) (wpAny_pure ⟨x, rfl, ?_⟩))
  refine hQ _ _ ⟨(Obj.cls_mapFields ..).trans hc, ?_⟩ (I.midset (Heap.SameBut.update ..) (Heap.get?_update_self _ ho (Obj.isFreed_of_fields (Obj.data_mapFields hd _))))
  rw [Obj.data_mapFields hd]; simp [rawInt]

theorem liEnd {Q : Option Value → Shared → Prop} (ok : Ok A (k + 1)) (I : Led G (l ++ (J, oJ) :: fr) h) (hC : LIter al i oJ) (hm : (al, ol) ∈ l ++ fr) (hL : LstO ol vs) (hx : vs[i]? = none)
    (hE : ∀ h' e oe ta, h'.get? e = some oe → oe.cls = .type "StopIteration" → oe.data = .fields #[ta, .none, .none, .none, .bool false, .none] → Led G (l ++ fr) h' → E (.ref e) ⟨h', g, d, t, os⟩) :
    wpAny (model prog w) A (callSpecial? (.ref J) (Str.ofString "__next__")) Q E ⟨h, g, d, t, os⟩ := by
  have hJ : (J, oJ) ∈ l ++ (J, oJ) :: fr := List.mem_append_right _ List.mem_cons_self
  have hal : (al, ol) ∈ l ++ (J, oJ) :: fr := (List.perm_middle (a := (J, oJ)) (l₁ := l) (l₂ := fr)).mem_iff.mpr (List.mem_cons_of_mem _ hm)
  have hit : h.IsListIter J al i := ⟨oJ, I.get hJ, hC.1, hC.2⟩
  obtain ⟨o, ho, hc, hd⟩ := id hit
  obtain ⟨ol', hol, _, nl, hdl⟩ := I.isList hal hL
  have hT : (⟨h, g, d, t, os⟩ : Shared).TypeIs (.ref J) "list_iterator" := ⟨_, I.get hJ, hC.1⟩
  refine wpAny_callSpecial?_slot (name := Str.ofString "__next__") hT slot_listiter_next
    (wpAny_call_entry slot_listiter_next hT entry_listiter_next ?_ (args_listiter_next _))
  show wpAny _ _ (field (.ref J) 0 >>= _) _ _ _
  refine wpAny_bind (wpAny_field ho hd (x := .ref al) rfl ?_)
  show wpAny _ _ (if (Value.ref al == Value.none) = true then _ else _) _ _ _
  rw [if_neg (show ¬ ((Value.ref al == Value.none) = true) from Bool.false_ne_true)]
  show wpAny _ _ (field (.ref J) 1 >>= _) _ _ _
  refine wpAny_bind (wpAny_field ho hd (x := .int i 0) rfl ?_)
  show wpAny _ _ (seqItems? (.ref al) >>= _) _ _ _
  refine wpAny_bind (wpAny_seqItems hol hdl ?_)
  have hx' : vs.toArray[i]? = none := by simpa using hx
  simp only [Int.toNat_natCast, hx']
  refine wpAny_bind (wpAny_rule (wpAny_bind (wpAny_setField ho hd (by simp) ?_)))
  show wpAny _ _ (newExc (.type "StopIteration") [] >>= _) _ _ _
  refine wpAny_bind ?_
  simp only [newExc, newTuple]
  refine wpAny_bind (wpAny_newObj_type ?_ (by size_fits))
  refine wpAny_bind (m := firstArgMember _ _) (wpAny_of_eq (a := Value.none) (by first | rfl | (simp only [firstArgMember]; rfl)) ?_)
  refine wpAny_newObj_type ?_ (by size_fits)
  simp only [raiseNew]
  refine wpAny_bind (wpAny_handled ?_)
  rw [show A.in1.handled = none from ok.hd]
  refine wpAny_bind (wpAny_pure (wpAny_throw ?_))
  refine hE _ _ _ _ (Heap.get?_push_size _ rfl) rfl rfl ?_
  exact I.extBut ((((Heap.SameBut.update ..).extBut).push _).push _)

/-- what a waiting yield-from goes on with -/
def YfBack (prog : Program) (w : World) (J : Addr) (fs : List Frame) (k : Resume → Sem PySem.Fin) : Prop :=
  ∀ A' P' (s'' : Shared), (∃ o, s''.heap.get? J = some o ∧ o.cls = .type "list_iterator") → Seg1 (model prog w) A' P' (yfCode (.ref J)) ((model prog w).den (yfCode (.ref J))) fs s'' → Seg1 (model prog w) A' P' (yfCode (.ref J)) (k (.send .none)) fs s''

theorem sleptNo {more : Bool} {s : Shared} {Q : Unit → Shared → Prop} (h : ∃ o, s.heap.get? J = some o ∧ o.cls = .type "list_iterator") (hQ : Q () s) : wpAny (model prog w) A (Builtin.Generator.sleptOver (.ref J) more) Q E s := by
  obtain ⟨o, ho, hc⟩ := h
  unfold Builtin.Generator.sleptOver
  refine wpAny_bind (wpAny_load ho ?_)
  rw [hc]
  exact wpAny_pure hQ

theorem yfItem (ok : Ok (A.over (yfCode (.ref J)) fs) k) (I : Led G (l ++ (J, oJ) :: fr) h) (hC : LIter al i oJ) (hm : (al, ol) ∈ l ++ fr) (hL : LstO ol vs) (hx : vs[i]? = some x)
    (hfs : splitAtGen fs = none) (hfg : fs.any Frame.guarded = false)
    (hP : ∀ h' oJ' lq kq p, LIter al (i + 1) oJ' → Led G (l ++ (J, oJ') :: fr) h' → YfBack prog w J fs kq → P (.susp x false lq kq (yfCode (.ref J)) p fs) ⟨h', g, d, t, os⟩) :
    Seg1 (model prog w) A P (yfCode (.ref J)) ((model prog w).den (yfCode (.ref J))) fs ⟨h, g, d, t, os⟩ := by
  rw [yf_den]
  unfold Builtin.«proto.yield_from»
  refine s1_bind (wpAny_pure ?_)
  dsimp only
  refine s1_bind (wpAny_attempt ?_)
  refine wpAny_holding ?_
  rw [if_neg Bool.false_ne_true, if_pos (by rfl)]
  refine wpAny_bind (wpAny_rule ?_)
  refine wpAny_bind (liStep I hC hm hL hx fun h' oJ' hC' I' => wpAny_pure ?_)
  have hJ : ∃ o, h'.get? J = some o ∧ o.cls = .type "list_iterator" := ⟨_, I'.get (List.mem_append_right _ List.mem_cons_self), hC'.1⟩
  have hT : (⟨h', g, d, t, os⟩ : Shared).TypeIs (.ref J) "list_iterator" := hJ
  dsimp only
  refine s1_bind (wpAny_typeOf hT ?_)
  dsimp only
  refine s1_bind (wpAny_of_eq li_close ?_)
  refine s1_bind (wpAny_pure ?_)
  refine s1_bind (sleptNo hJ ?_)
  show Seg1 _ _ _ _ (.yield x false [] _) fs _
  refine s1_yield hfs rfl hfg fun p => ?_
  refine hP h' oJ' _ _ p hC' I' fun A' P' s'' ho hs => ?_
  show Seg1 _ _ _ _ (Builtin.Generator.sleptOver (.ref J) false >>= _) fs s''
  refine s1_bind (sleptNo ho ?_)
  dsimp only
  refine s1_bind (wpAny_pure ?_)
  exact s1_again (plainId_quiet yf_plain _) hs

theorem yfEnd (ok : Ok (A.over (yfCode (.ref J)) fs) (k + 1)) (I : Led G (l ++ (J, oJ) :: fr) h) (hC : LIter al i oJ) (hm : (al, ol) ∈ l ++ fr) (hL : LstO ol vs) (hx : vs[i]? = none)
    (hP : ∀ h', Led G (l ++ fr) h' → Seg1 (model prog w) A P (yfCode (.ref J)) (leafOf (.ok (.ret .none))) fs ⟨h', g, d, t, os⟩) :
    Seg1 (model prog w) A P (yfCode (.ref J)) ((model prog w).den (yfCode (.ref J))) fs ⟨h, g, d, t, os⟩ := by
  rw [yf_den]
  unfold Builtin.«proto.yield_from»
  refine s1_bind (wpAny_pure ?_)
  dsimp only
  refine s1_bind (wpAny_attempt ?_)
  refine wpAny_holding ?_
  rw [if_neg Bool.false_ne_true, if_pos (by rfl)]
  refine wpAny_bind (wpAny_rule ?_)
  refine wpAny_bind (liEnd ok I hC hm hL hx fun h' e oe ta he hec hed I' => ?_)
  have hT : (⟨h', g, d, t, os⟩ : Shared).TypeIs (.ref e) "StopIteration" := ⟨oe, he, hec⟩
  dsimp only
  have hstop : ∀ Q E', Q true ⟨h', g, d, t, os⟩ → wpAny (model prog w) (A.over (yfCode (.ref J)) fs) (Builtin.Generator.endsTheTurnAsAValue false (.ref e)) Q E' ⟨h', g, d, t, os⟩ := fun Q E' hq => by
    unfold Builtin.Generator.endsTheTurnAsAValue Builtin.Generator.isStopAndMetaclass
    refine wpAny_bind (wpAny_bind (wpAny_typeOf hT ?_))
    dsimp only
    refine wpAny_bind (wpAny_of_eq isSubtype_stop ?_)
    refine wpAny_bind (wpAny_of_eq (a := .type "type") (by kernel_rfl) ?_)
    refine wpAny_pure ?_
    dsimp only
    rw [if_neg Bool.false_ne_true]
    exact wpAny_pure hq
  refine s1_bind (hstop _ _ ?_)
  rw [if_pos rfl, if_neg Bool.false_ne_true]
  refine s1_bind (wpAny_rule ?_)
  refine s1_bind (wpAny_field he hed rfl ?_)
  exact hP h' I'
end
end Mine
namespace Mine

def loopBack (env : Env) (K : Flow → Sem PySem.Fin) (H : Value → Sem PySem.Fin) (gd : Bool → Bool) (lv : List Value → List Value) (rest : List Stmt) (r : Result) : Sem PySem.Fin :=
  ((match r with | .ok f => (.pure f : Sem Flow) | .error e => .raise e).onRaise fun (x : Value) => do
        if (← field x 1) == Value.none then unsupported "frame.own-activation:exception-without-traceback"
        setFlight x env.frame).wrap (fun (f : Flow) => match f with | .next => (execs rest env).wrap K H gd lv | f => K f) H gd lv

section
variable {prog : Program} {w : World} {A : Around} {P : End → Shared → Prop} {c : Code} {fs : List Frame} {s : Shared} {env : Env}
  {K : Flow → Sem PySem.Fin} {H : Value → Sem PySem.Fin} {gd : Bool → Bool} {lv : List Value → List Value}

theorem s1_bindw {M : Model} {α β : Type} {m : Sem α} {f : α → Sem β} {K : β → Sem PySem.Fin} 
    (h : wpAny M (A.over c fs) m (fun a s' => Seg1 M A P c ((f a).wrap K H gd lv) fs s') (fun x s' => Seg1 M A P c (H x) fs s') s) : Seg1 M A P c ((m >>= f).wrap K H gd lv) fs s := by
  rw [Sem.bind_eq_wrap', Sem.wrap_wrap]; exact s1_wrap h

theorem s1_For {target iter : Expr} {body rest : List Stmt} {pos : Pos}
    (h : wpAny (model prog w) (A.over c fs) (eval iter env) (fun x s₁ => wpAny (model prog w) (A.over c fs) (pyIter x) (fun it s₂ =>
      ∀ p, Seg1 (model prog w) A P (.forLoop target it body [] env) ((model prog w).den (.forLoop target it body [] env)) (.ret (loopBack env K H gd lv rest) none (gd false) (lv []) c p [] :: fs) s₂)
      (fun x s' => Seg1 (model prog w) A P c (H x) fs s') s₁) (fun x s' => Seg1 (model prog w) A P c (H x) fs s') s) (hs : ∀ x, foldedSetIterable iter env x = pure x) :
    Seg1 (model prog w) A P c ((execs (.For target iter body [] pos :: rest) env).wrap K H gd lv) fs s := by
  refine s1_cons ?_
  rw [exec_For]
  refine s1_bindw (wpAny_standAt ?_)
  refine s1_bindw (wpAny_mono h (fun x s₁ h₁ => ?_) fun _ _ x => x)
  refine s1_bindw (wpAny_of_eq (hs x) ?_)
  refine s1_bindw (wpAny_standAt ?_)
  refine s1_bindw (wpAny_holding (wpAny_mono h₁ (fun it s₂ h₂ => ?_) fun _ _ x => x))
  exact s1_call h₂

theorem s1_forLoop {target : Expr} {it : Value} {body : List Stmt}
    (h : wpAny (model prog w) (A.over (.forLoop target it body [] env) fs) (pyNext it) (fun r s' => match r with
      | none => Seg1 (model prog w) A P (.block [] env) (leafOf (.ok .next)) fs s'
      | some v => wpAny (model prog w) (A.over (.forLoop target it body [] env) fs) (letOwnedTupleGo target it v) (fun _ s₁ => wpAny (model prog w) (A.over (.forLoop target it body [] env) fs) (assign target env v) (fun _ s₂ =>
          Seg1 (model prog w) A P (.forLoop target it body [] env) ((execs body env).wrap (fun f => match f with
            | .next | .cont => .pure (.again (.forLoop target it body [] env))
            | .brk => .pure (.done .next)
            | .ret v => .pure (.done (.ret v))) (noted env) id id) fs s₂) (fun x s' => Seg1 (model prog w) A P (.forLoop target it body [] env) (noted env x) fs s') s₁)
          (fun x s' => Seg1 (model prog w) A P (.forLoop target it body [] env) (noted env x) fs s') s')
      (fun x s' => Seg1 (model prog w) A P (.forLoop target it body [] env) (noted env x) fs s') s) :
    Seg1 (model prog w) A P (.forLoop target it body [] env) ((model prog w).den (.forLoop target it body [] env)) fs s := by
  show Seg1 _ A P _ ((forTurn target it body [] env).onRaise (fun x => do noteFrame x env; theTreesLotGoes x)) fs s
  have hn : ∀ e, ((do noteFrame e env; theTreesLotGoes e : Sem Unit).bind fun _ => (.raise e : Sem PySem.Fin)) = noted env e := fun e => by unfold noted; rw [Sem.bind_eq_wrap]
  rw [Sem.onRaise_eq_wrap, Sem.wrap_congr (K' := Sem.pure) (H' := noted env) _ _ _ (fun _ => rfl) hn]
  unfold forTurn
  refine s1_bindw (wpAny_standAt ?_)
  refine s1_bindw (wpAny_onRaise (wpAny_mono h (fun r s' hr => ?_) fun e s' he => wpAny_standAt he))
  cases r with
  | none =>
    refine s1_again rfl ?_
    exact hr
  | some v =>
    dsimp only at hr ⊢
    refine s1_bindw (wpAny_mono hr (fun _ s₁ h₁ => ?_) fun _ _ x => x)
    refine s1_bindw (wpAny_mono h₁ (fun _ s₂ h₂ => ?_) fun _ _ x => x)
    rw [Sem.bind_eq_wrap', Sem.wrap_wrap]
    show Seg1 _ _ _ _ (Sem.wrap _ (noted env) id id (execs body env)) fs s₂
    refine Eq.mpr (congrArg (fun t => Seg1 (model prog w) A P (.forLoop target it body [] env) t fs s₂) (Sem.wrap_congr (execs body env) id id (fun f => ?_) (fun e => rfl))) h₂
    cases f <;> rfl

theorem s1_YieldFrom {value : Expr} {rest : List Stmt} {ypos pos : Pos}
    (h : wpAny (model prog w) (A.over c fs) (eval value env) (fun v s₁ => (∃ T, s₁.TypeIs v T ∧ (Value.type T == Value.type "coroutine") = false) ∧ wpAny (model prog w) (A.over c fs) (pyIter v) (fun it s₂ =>
      ∀ Kr p, (∀ A' P' s'', Seg1 (model prog w) A' P' c ((execs rest env).wrap K H gd lv) fs s'' → Seg1 (model prog w) A' P' c (Kr (.ok (.ret .none))) fs s'') →
        Seg1 (model prog w) A P (yfCode it) ((model prog w).den (yfCode it)) (.ret Kr none (gd false) (lv []) c p [] :: fs) s₂)
      (fun x s' => Seg1 (model prog w) A P c (H x) fs s') s₁) (fun x s' => Seg1 (model prog w) A P c (H x) fs s') s) (hi : interactive env = false) :
    Seg1 (model prog w) A P c ((execs (.Expr (.YieldFrom value ypos) pos :: rest) env).wrap K H gd lv) fs s := by
  refine s1_cons ?_
  rw [exec_Expr env _ pos hi rfl, arm_eval_YieldFrom]
  refine s1_bindw (wpAny_standAt ?_)
  rw [bind_assoc]
  refine s1_bindw (wpAny_mono h (fun v s₁ h₁ => ?_) fun _ _ x => x)
  obtain ⟨⟨T, hT, hne⟩, h₁⟩ := h₁
  rw [bind_assoc]
  refine s1_bindw (wpAny_standAt ?_)
  unfold yieldFrom
  rw [bind_assoc]
  refine s1_bindw (wpAny_typeOf hT ?_)
  rw [hne]
  simp only [Bool.false_eq_true, if_false]
  rw [bind_assoc]
  refine s1_bindw (wpAny_holding (wpAny_mono h₁ (fun it s₂ h₂ => ?_) fun _ _ x => x))
  refine s1_call fun p => ?_
  refine h₂ _ p fun A' P' s'' hs => ?_
  exact hs
end
end Mine
namespace Mine

def OutI (x : Int) (v : Value) (lv : List (Addr × Obj)) : Prop := lv = [] ∧ ∃ t, v = .int x t
def sortFor : Stmt := (fnBody (st1 4)).getD 0 (.Pass default)
def forTgt : Stmt → Expr
  | .For t _ _ _ _ => t
  | _ => default
def forBody : Stmt → List Stmt
  | .For _ _ b _ _ => b
  | _ => []

local macro_rules | `(tactic| walk_at "sub") => `(tactic| with_reducible first | exact List.Sublist.refl _ | exact List.nil_sublist _ | (refine List.Sublist.cons_cons _ ?_; walk_at "sub") | (refine List.Sublist.append (List.Sublist.refl _) ?_; walk_at "sub") | (refine List.Sublist.cons _ ?_; walk_at "sub"))
local macro_rules | `(tactic| walk_at "sd") => `(tactic| with_reducible first | assumption | exact List.mem_cons_self | exact SetV.head | exact Hole.mem (by assumption) _ | exact AllHas.mem (by assumption) _ | (refine List.mem_cons_of_mem _ ?_; walk_at "sd") | (apply SetV.tail; walk_at "sd") | (refine List.mem_append_right _ ?_; walk_at "sd") | (refine List.mem_append_left _ ?_; walk_at "sd"))
local macro_rules | `(tactic| walk_at "up") => `(tactic| with_reducible first | exact Upd.head | exact Hole.at (by assumption) _ _ | (refine Upd.tail ?_; walk_at "up") | (refine Upd.app ?_ _; walk_at "up") | (refine Upd.appl ?_ _; walk_at "up"))
local macro_rules | `(tactic| walk_at "hole") => `(tactic| first | with_reducible assumption | (intro _ _; walk_at "up"))
local macro_rules | `(tactic| walk_at "allhas") => `(tactic| first | with_reducible assumption | (intro _; walk_at "sd"))
local macro_rules | `(tactic| walk_at "led") => `(tactic| ((try simp only [List.append_assoc, List.cons_append, List.nil_append, List.append_nil]); (with_reducible refine' Led.sub ?I ?s); (case I => with_reducible assumption); (case s => walk_at "sub")))
local macro_rules | `(tactic| walk_at "sw") => `(tactic| fail "sw")
local macro_rules | `(tactic| walk_at "perm") => `(tactic| (refine permOf fun x => ?_; simp only [List.count_append, List.count_cons, List.count_nil, List.append_assoc, List.cons_append, List.nil_append] <;> omega))
local macro_rules | `(tactic| walk_at "sees") => `(tactic| first | with_reducible assumption | (intro _ _; walk_at "sd") | (intro _ hp; rcases List.mem_append.mp hp with hp | hp <;> walk_at "sd"))
local macro_rules | `(tactic| walk_at "nx") => `(tactic| first
  | with_reducible refine wpAny_execs_nil ?_
  | with_reducible refine wpAny_execs_cons ?_
  | with_reducible refine wpAny_If ?_
  | ((with_reducible refine wpAny_isTrue_Compare1 ?_ ?hs); case hs => with_unfolding_all rfl)
  | with_reducible refine wpAny_truthy_bool ?_
  | ((with_reducible refine wpAny_Compare1 ?_ ?hs); case hs => with_unfolding_all rfl)
  | ((with_reducible refine wpAny_Assign_Subscript ?_ ?hs); case hs => with_unfolding_all rfl)
  | ((with_reducible refine wpAny_Assign_Name ?_ ?hs); case hs => with_unfolding_all rfl)
  | with_reducible refine wpAny_Return_some ?_
  | with_reducible refine wpAny_BinOp ?_
  | ((with_reducible refine Slice_ ?_ ?ht); (case ht => (intro _ _; with_unfolding_all rfl)))
  | with_reducible refine Subscript_ ?_
  | ((with_reducible refine' MethodCall_ ?_ ?hs); case hs => with_unfolding_all rfl)
  | ((with_reducible refine Call_ ?_ ?hs); case hs => with_unfolding_all rfl)
  | with_reducible refine cInt ?_
  | with_reducible refine wpAny_UnaryOp ?_
  | with_reducible refine negI ?_
  | with_reducible refine addI ?_
  | with_reducible refine subI ?_
  | with_reducible refine ltI ?_
  | with_reducible refine eqI ?_
  | with_reducible refine neI ?_
  | with_reducible refine leI ?_
  | with_reducible refine gtI ?_
  | ((with_reducible refine modI ?h0 ?_); (case h0 => first | with_reducible assumption | decide | omega))
  | ((with_reducible refine divI ?h0 ?hp ?_); (case h0 => first | with_reducible assumption | decide | omega); (case hp => first | exact PyProof.noPylong_of_log2 (by decide +kernel) | exact PyProof.noPylong_small (by omega)))
  | ((with_reducible refine mulI ?h0 ?_); (case h0 => mul_fits))
  | ((with_reducible refine' ld ?I ?F ?m ?_ ?hd); (case I => with_reducible assumption); (case F => with_reducible assumption); (case m => walk_at "sd"); (case hd => decide))
  | ((with_reducible refine' ldB ?I ?F ?gls ?gd ?hx ?hmiss ?hv ?hn ?_ ?hd); (case I => with_reducible assumption); (case F => with_reducible assumption); (case gls => with_reducible assumption); (case gd => with_reducible assumption); (case hx => walk_at "sd"); (case hmiss => with_reducible assumption); (case hv => with_reducible assumption); (case hn => decide); (case hd => decide))
  | ((with_reducible refine' ldG ?I ?F ?gls ?gd ?hx ?hv ?_ ?hd); (case I => with_reducible assumption); (case F => with_reducible assumption); (case gls => with_reducible assumption); (case gd => with_reducible assumption); (case hx => walk_at "sd"); (case hv => with_reducible assumption); (case hd => decide))
  | ((with_reducible refine Assign_Tuple ?_ ?hs ?hw); (case hs => with_unfolding_all rfl); (case hw => first | with_unfolding_all rfl | exact swNone rfl | exact swNone (by walk_at "sw")))
  | ((with_reducible refine' asTuple ?ok ?I ?m ?T ?hn ?hst ?_); (case ok => with_reducible assumption); (case I => with_reducible assumption); (case m => walk_at "sd"); (case T => with_reducible assumption); (case hn => rfl); (case hst => rfl); intro _ _; (try simp only [assignEach, List.map_cons, List.map_nil]))
  | ((with_reducible refine' asTupleG ?ok ?I ?m ?T ?hn ?hst ?_); (case ok => with_reducible assumption); (case I => with_reducible assumption); (case m => with_reducible assumption); (case T => with_reducible assumption); (case hn => rfl); (case hst => rfl); intro _ _; (try simp only [assignEach, List.map_cons, List.map_nil]))
  | with_reducible refine inOrder_cons ?_
  | with_reducible refine inOrder_nil ?_
  | with_reducible refine asSub ?_
  | ((with_reducible refine' asName ?I ?F ?m ?_); (case I => with_reducible assumption); (case F => with_reducible assumption); (case m => walk_at "sd"); intro _ _ _ _ _)
  | with_reducible refine Tuple_ ?_
  | with_reducible refine List_ ?_
  | ((with_reducible refine' tupleN ?I ?hb ?_); (case I => with_reducible assumption); (case hb => first | (show _ ≤ _; simp only [List.length_cons, List.length_nil]; omega) | omega); intro _ _ _ _ _)
  | ((with_reducible refine' listN ?I ?hb ?_); (case I => with_reducible assumption); (case hb => first | (show _ ≤ _; simp only [List.length_cons, List.length_nil]; omega) | omega); intro _ _ _ _ _)
  | ((with_reducible refine' callW ?hf ?_ ?he); (case hf => with_reducible assumption); (case he => with_unfolding_all rfl))
  | ((with_reducible refine' callWD ?hf ?_ ?he); (case hf => with_reducible assumption); (case he => with_unfolding_all rfl))
  | with_reducible refine And.intro (Grd.of (by assumption)) ?_
  | ((with_reducible refine PyProof.Rows.callWith_type1 ?_ ?hs ?ht); (case hs => with_unfolding_all rfl); (case ht => with_unfolding_all rfl))
  | ((with_reducible refine' rangeC1 ?I ?_); (case I => with_reducible assumption); intro _ _ _ _ _ _)
  | ((with_reducible refine' rangeC2 ?I ?_); (case I => with_reducible assumption); intro _ _ _ _ _ _)
  | ((with_reducible refine' rangeC3 ?I ?hc ?hp ?_); (case I => with_reducible assumption); (case hc => first | decide | omega); (case hp => first | exact PyProof.noPylong_of_log2 (by decide +kernel) | exact PyProof.noPylong_small (by omega)); intro _ _ _ _ _ _)
  | ((with_reducible refine wpAny_For ?_ ?hs); case hs => (intro _; rfl))
  | ((with_reducible refine callWith_builtin1 ?_ ?hs ?ht); (case hs => with_unfolding_all rfl); (case ht => with_unfolding_all rfl))
  | ((with_reducible refine args_cons ?_ ?hs); (case hs => with_unfolding_all rfl))
  | with_reducible refine args_nil ?_
  | ((with_reducible refine' subL ?I ?m ?L ?h0 ?hx ?_ ?hs); (case I => with_reducible assumption); (case m => walk_at "sd"); (case L => with_reducible assumption); (case h0 => first | decide | omega); (case hx => first | with_reducible assumption | rfl); (case hs => with_unfolding_all rfl))
  | ((with_reducible refine' subD ?I ?m ?D ?hv ?_ ?hs); (case I => with_reducible assumption); (case m => walk_at "sd"); (case D => with_reducible assumption); (case hv => with_reducible assumption); (case hs => with_unfolding_all rfl); intro _)
  | ((with_reducible refine' setL ?I ?m ?L ?e ?H ?h0 ?hk ?hv ?_); (case I => with_reducible assumption); (case m => walk_at "sd"); (case L => with_reducible assumption); (case e => rfl); (case H => walk_at "hole"); (case h0 => first | decide | omega); (case hk => first | omega | (simp only [List.length_cons, List.length_nil, List.length_set, Int.reduceToNat]; omega)); (case hv => first | ((simp only [Int.reduceToNat, List.set_cons_zero, List.set_cons_succ]; done)) | ((simp only [Int.reduceToNat, List.set_cons_zero, List.set_cons_succ]; rfl)) | rfl); intro _ _ _ _ _)
  | ((with_reducible refine' lenL ?I ?m ?L ?_); (case I => with_reducible assumption); (case m => walk_at "sd"); (case L => with_reducible assumption); intro _ _)
  | ((with_reducible refine absI ?_); intro _ _)
  | ((with_reducible refine' st ?I ?F ?m ?_); (case I => with_reducible assumption); (case F => with_reducible assumption); (case m => walk_at "sd"); intro _ _ _ _ _)
  | ((with_reducible refine' ldS ?I ?hk ?S ?sub ?m ?_ ?hd); (case I => with_reducible assumption); (case hk => exact Frm.kind (by assumption)); (case S => with_reducible assumption); (case sub => walk_at "sees"); (case m => walk_at "sd"); (case hd => decide))
  | ((with_reducible refine' gmS ?slot ?hty ?I ?m ?S ?_); (case I => with_reducible assumption); (case m => walk_at "sd"); (case S => with_reducible assumption); (case slot => with_reducible first | exact F.slot_set_add | exact F.slot_set_isdisjoint | exact F.slot_set_difference_update); (case hty => with_reducible first | exact F.type_set_add | exact F.type_set_isdisjoint | exact F.type_set_difference_update))
  | ((with_reducible refine' gmD ?slot ?hty ?I ?m ?D ?_); (case I => with_reducible assumption); (case m => walk_at "sd"); (case D => with_reducible assumption); (case slot => with_reducible first | exact PySem.F.slot_dict_setdefault | exact PySem.F.slot_dict_get | exact PySem.F.slot_dict_values); (case hty => with_reducible first | exact PySem.F.type_dict_setdefault | exact PySem.F.type_dict_get | exact PySem.F.type_dict_values))
  | ((with_reducible refine' gmL ?slot ?hty ?I ?m ?L ?_); (case I => with_reducible assumption); (case m => walk_at "sd"); (case L => with_reducible assumption); (case slot => with_reducible first | exact F.slot_list_append | exact F.slot_list_extend); (case hty => with_reducible first | exact F.type_list_append | exact F.type_list_extend))
  | ((with_reducible refine callWith_method1 ?_ ?hs ?ht); (case hs => with_unfolding_all rfl); (case ht => with_unfolding_all rfl))
  | with_reducible refine callWith_method0 ?_
  | ((with_reducible refine' exprS ?_ ?hi ?hs); (case hi => exact Frm.kind (by assumption)); (case hs => with_unfolding_all rfl))
  | with_reducible refine wpAny_isTrue_Not ?_
  | ((with_reducible refine' truthyS ?I ?m ?S ?_); (case I => with_reducible assumption); (case m => walk_at "sd"); (case S => with_reducible assumption); intro _)
  | ((with_reducible refine' truthyL ?I ?m ?L ?_); (case I => with_reducible assumption); (case m => walk_at "sd"); (case L => with_reducible assumption); intro _)
  | with_reducible refine wpAny_IfExp ?_
  | with_reducible refine isTrue_and ?_
  | with_reducible refine isTrue_and_nil ?_
  | ((with_reducible refine isTrue_plain ?_ ?he); (case he => with_unfolding_all rfl))
  | ((with_reducible refine' inS ?I ?m ?S ?_); (case I => with_reducible assumption); (case m => walk_at "sd"); (case S => with_reducible assumption); intro _)
  | ((with_reducible refine' inD ?I ?m ?D ?_); (case I => with_reducible assumption); (case m => walk_at "sd"); (case D => with_reducible assumption); intro _)
  | ((with_reducible refine' getD2 ?I ?m ?D ?_); (case I => with_reducible assumption); (case m => walk_at "sd"); (case D => with_reducible assumption); intro _)
  | ((with_reducible refine' addS ?I ?m ?S ?e ?H ?hb ?_); (case I => with_reducible assumption); (case m => walk_at "sd"); (case S => with_reducible assumption); (case e => rfl); (case H => walk_at "hole"); (case hb => omega); intro _ _ _ _ _)
  | ((with_reducible refine' appendL ?I ?m ?e ?H ?L ?hb ?_); (case I => with_reducible assumption); (case m => walk_at "sd"); (case L => with_reducible assumption); (case e => rfl); (case H => walk_at "hole"); (case hb => first | omega | (simp only [List.length_append, List.length_cons, List.length_nil]; omega)); intro _ _ _ _ _)
  | ((with_reducible refine' newD ?gd ?I ?_); (case gd => with_reducible assumption); (case I => with_reducible assumption); intro _ _ _ _ _)
  | with_reducible refine callWith_type0 ?_
  | with_reducible refine tests0 ?_
  | with_reducible refine tests1 ?_
  | with_reducible refine emit_ ?_
  | ((with_reducible refine' newS ?I ?_); (case I => with_reducible assumption); intro _ _ _ _ _)
  | ((with_reducible refine' listList ?I ?m ?L ?_); (case I => with_reducible assumption); (case m => walk_at "sd"); (case L => with_reducible assumption); intro _ _ _ _ _)
  | ((with_reducible refine' valuesD ?I ?m ?D ?_); (case I => with_reducible assumption); (case m => walk_at "sd"); (case D => with_reducible assumption); intro _ _ _ _ _)
  | ((with_reducible refine' next_spec2 ?gd ?ok ?nl ?na ?hf ?I ?m ?ho ?hs ?e ?H ?hsc ?hmany ?_); (case gd => with_reducible assumption); (case nl => with_reducible assumption); (case na => with_reducible assumption); (case hf => with_reducible assumption); (case I => with_reducible assumption); (case m => walk_at "sd"); (case ho => with_reducible assumption); (case hs => with_reducible assumption); (case ok => exact Ok.less (by assumption) (by decide)); (case e => rfl); (case H => walk_at "hole"); (case hsc => walk_at "allhas"); (case hmany => omega); intro _ _ _ _ _ _ _ _ _)
  | with_reducible refine partNone ?_
  | with_reducible refine partSome ?_
  | ((with_reducible refine' sliceAll ?I ?m ?L ?_); (case I => with_reducible assumption); (case m => walk_at "sd"); (case L => with_reducible assumption); intro _ _ _ _ _)
  | (with_reducible dsimp only [List.cons_append, List.nil_append, List.append_nil])
  )
section
variable {prog : Program} {w : World} {A : Around} {E : Value → Shared → Prop} {h G : Heap} {g : Array GenState} {d : Drawn} {t : Nat} {os : OsState}
  {env : Env} {l l' fo lc lg : List (Addr × Obj)} {lf : Obj → List (Addr × Obj)} {a sc f tl al : Addr} {o osc otl oal : Obj} {ns : List Int} {u : Tok} {mg mb : Str → Option Value} {k gi : Nat} {pv iv vs : List Value} {ps : List (Int × Int)} {items : List Int} {layers : List (List Int)} {fs : List Frame} {vd : Option Value}

abbrev cFor (env : Env) (a : Addr) : Code := .forLoop (forTgt sortFor) (.ref a) (forBody sortFor) [] env

def ForAt (prog : Program) (w : World) (G : Heap) (env : Env) (fs : List Frame) (k : Nat) (os : OsState) (tl al a : Addr) (o : Obj) (gi : Nat) (vd : Option Value) (layers : List (List Int)) : Prop :=
  ∀ (A : Around) (fo lc lgin : List (Addr × Obj)) (oc own : List (Nat × GenState)) (gs : GenState) (h : Heap) (g : Array GenState) (d : Drawn) (t : Nat) (vs : Option Value), Ok A (k + 3) →
    Frm env fo [("tuples", some (.ref tl)), ("allitems", some (.ref al)), ("deterministic_order", vd), ("set_", vs)] → Led G (lc ++ (fo ++ (a, o) :: lgin)) h → GLed ((gi, gs) :: (oc ++ own)) g →
    Yields prog w G k os OutL FiN layers gs lgin own →
    Seg1 (model prog w) A (Phi prog w G (k + 3) os OutI FiN layers.flatten lc oc) (cFor env a) ((model prog w).den (cFor env a)) fs ⟨h, g, d, t, os⟩

/-- the waiting yield-from -/
theorem yf_loop {x : List Int} {rest : List (List Int)} {fr : Frame} {al2 : Addr} {oal2 : Obj} {vx : List Value} {J : Addr} (hfs : splitAtGen (fr :: fs) = none) (hfg : (fr :: fs).any Frame.guarded = false)
    (hok : ∀ A, Ok A (k + 3) → Ok (A.over (yfCode (.ref J)) (fr :: fs)) 1) (hL : LstO oal2 vx) (hx : IntsAre vx x) (hA : ForAt prog w G env fs k os tl al a o gi vd rest)
    (hback : ∀ A' P' s'', Seg1 (model prog w) A' P' (cFor env a) ((model prog w).den (cFor env a)) fs s'' → Seg1 (model prog w) A' P' (yfCode (.ref J)) (leafOf (.ok (.ret .none))) (fr :: fs) s'') :
    ∀ (n i : Nat) (A : Around) (fo lc lgin : List (Addr × Obj)) (oc own : List (Nat × GenState)) (gs : GenState) (h : Heap) (g : Array GenState) (d : Drawn) (t : Nat) (vs : Option Value) (oJ : Obj), i + n = x.length → Ok A (k + 3) →
    Frm env fo [("tuples", some (.ref tl)), ("allitems", some (.ref al)), ("deterministic_order", vd), ("set_", vs)] → LIter al2 i oJ → Led G ((lc ++ (al2, oal2) :: (fo ++ (a, o) :: lgin)) ++ [(J, oJ)]) h → GLed ((gi, gs) :: (oc ++ own)) g →
    Yields prog w G k os OutL FiN rest gs lgin own →
    Seg1 (model prog w) A (Phi prog w G (k + 3) os OutI FiN (x.drop i ++ rest.flatten) lc oc) (yfCode (.ref J)) ((model prog w).den (yfCode (.ref J))) (fr :: fs) ⟨h, g, d, t, os⟩ := by
  intro n
  have hlx := hx.length
  induction n with
  | zero =>
    intro i A fo lc lgin oc own gs h g d t vs oJ e ok F hC I Gi Y
    refine yfEnd (k := 0) (hok A ok) (fr := []) I hC (by walk_at "sd") hL (List.getElem?_eq_none (by omega)) fun h' I' => ?_
    rw [List.drop_eq_nil_of_le (by omega), List.nil_append]
    refine hback _ _ _ ?_
    exact hA A fo lc lgin oc own gs h' g d t vs ok F (I'.perm (l' := (al2, oal2) :: (lc ++ (fo ++ (a, o) :: lgin))) (by walk_at "perm")).drop Gi Y
  | succ n ih =>
    intro i A fo lc lgin oc own gs h g d t vs oJ e ok F hC I Gi Y
    obtain ⟨z, tz, hz, hvz⟩ := intAt' hx (i := i) (by omega)
    refine yfItem (k := 1) (hok A ok) (fr := []) I hC (by walk_at "sd") hL hvz hfs hfg fun h' oJ' lq kq p hC' I' hb => ?_
    have hdrop : x.drop i = z :: x.drop (i + 1) := by
      obtain ⟨hlt, e⟩ := List.getElem?_eq_some_iff.mp hz
      rw [← e]; exact List.drop_eq_getElem_cons hlt
    rw [hdrop, List.cons_append]
    refine ⟨.int z tz, _, (al2, oal2) :: (fo ++ (a, o) :: lgin) ++ [(J, oJ')], (gi, gs) :: own, [], h', g, d, t, rfl, rfl, ⟨rfl, tz, rfl⟩, rfl, ?_, Gi.perm (List.perm_middle), ?_⟩
    · exact I'.perm (by walk_at "perm")
    · refine yields_iff.mpr fun A' lc' oc' h2 g2 d2 t2 ok2 I2 G2 => ?_
      have I3 : Led G ((lc' ++ (al2, oal2) :: (fo ++ (a, o) :: lgin)) ++ [(J, oJ')]) h2 := I2.perm (by walk_at "perm")
      refine hb A' _ _ ⟨oJ', I3.get (List.mem_append_right _ List.mem_cons_self), hC'.1⟩ ?_
      exact ih (i + 1) A' fo lc' lgin oc' own gs h2 g2 d2 t2 vs oJ' (by omega) ok2 F hC' I3 (G2.perm List.perm_middle.symm) Y

set_option maxRecDepth 100000 in
set_option maxHeartbeats 4000000 in
theorem for_at (gd : Gd G mg mb) (hG : GenO gi o) (hfs : splitAtGen fs = none) (hfg : fs.any Frame.guarded = false) (hend : ∀ A P s, P (.ret (.ok (.ret .none))) s → Seg1 (model prog w) A P (.block [] env) (leafOf (.ok .next)) fs s)
    (hok1 : ∀ A, Ok A (k + 3) → Ok (A.over (cFor env a) fs) (k + 1)) (hok2 : ∀ A J K l p, Ok A (k + 3) → Ok (A.over (yfCode (.ref J)) (.ret K none false l (cFor env a) p [] :: fs)) 1) :
    ∀ layers : List (List Int), ForAt prog w G env fs k os tl al a o gi vd layers := by
  intro layers
  induction layers with
  | nil =>
    intro A fo lc lgin oc own gs h g d t vs ok F I Gi Y
    refine s1_forLoop ?_
    have ok1 := hok1 A ok
    have I2 : Led G ((lc ++ (fo ++ [(a, o)])) ++ lgin) h := I.perm (by walk_at "perm")
    refine nextDone ok1 gd I2 (by walk_at "sd") hG Gi Y (fun r lv h => h) fun lv h' g' d' t' hf I' G' => ?_
    dsimp only
    refine hend A _ _ ?_
    exact ⟨_, [], h', g', d', t', rfl, rfl, rfl, I'.sub (by simp only [List.append_assoc]; exact List.Sublist.append (List.Sublist.refl _) (List.nil_sublist _)), G'⟩
  | cons x rest ih =>
    intro A fo lc lgin oc own gs h g d t vs ok F I Gi Y
    refine s1_forLoop ?_
    have ok1 := hok1 A ok
    have I2 : Led G ((lc ++ (fo ++ [(a, o)])) ++ lgin) h := I.perm (by walk_at "perm")
    refine nextItem ok1 gd I2 (by walk_at "sd") hG Gi Y fun v gs' lg' own' lv h' g' d' t' ho I' G' Y' => ?_
    obtain ⟨b, ob, vx, rfl, rfl, hLx, hIx⟩ := ho
    dsimp only
    have I3 : Led G (fo ++ ((a, o) :: (b, ob) :: (lc ++ lg'))) h' := I'.perm (by walk_at "perm")
    refine goFree (o := o) (I3.get (by walk_at "sd")) (by obtain ⟨_, _, hc, _⟩ := hG; exact ⟨_, hc, by decide⟩) ?_
    conv in assign _ _ _ => (arg 1; whnf)
    repeat walk_at "nx"
    rename_i h4 t4 fo4 I4 F4
    conv in execs _ _ => (arg 1; whnf)
    refine s1_YieldFrom ?_ F.inter
    repeat walk_at "nx"
    refine ⟨⟨"list", (I4.isList (by walk_at "sd") hLx).typeIs, by decide⟩, ?_⟩
    refine iterList I4 (by walk_at "sd") hLx fun J oJ h5 hC I5 => ?_
    intro Kr p hK
    have I6 : Led G ((lc ++ (b, ob) :: (fo4 ++ (a, o) :: lg')) ++ [(J, oJ)]) h5 := I5.perm (by walk_at "perm")
    refine yf_loop (fr := .ret Kr none false [] (cFor env a) p []) (x := x) (rest := rest) (by simp [splitAtGen, hfs]) (by simpa [Frame.guarded] using hfg) (fun A ok => hok2 A J Kr [] p ok) hLx hIx ih ?_ x.length 0 A fo4 lc lg' oc own' gs' h5 g' d' t4 _ oJ (by omega) ok F4 hC I6 G' Y'
    intro A' P' s'' hs
    refine s1_leaf _ (hK _ _ _ ?_)
    exact s1_nil (s1_again rfl hs)

set_option maxRecDepth 100000 in
set_option maxHeartbeats 4000000 in
theorem sort_yields {sa : Addr} (gd : Gd G mg mb) (hlist : mg "list" = none) (hset : mg "set" = none) (hsas : mg "sort_as_subsets" = some (.ref sa)) (hsa : FnIs G sa "sort_as_subsets" (fnParams (st1 3)) (fnBody (st1 3)) (fnScope (st1 3)))
    (he : env.scope = fnScope (st1 4)) (gls : Gls env ["sort_as_subsets"]) (F : Frm env fo [("tuples", some (.ref tl)), ("allitems", some (.ref al)), ("deterministic_order", vd), ("set_", none)])
    (hps : PairsG G pv ps) (hpl : LstO otl pv) (hil : LstO oal iv) (hit : IntsAre iv items) (hL : Layers ps items layers) (hb1 : ps.length ≤ 20) (hb2 : items.length ≤ 20) :
    Yields prog w G (k + 9) os OutI FiN layers.flatten (.fresh (.func (fnBody (st1 4)) env)) (fo ++ [(tl, otl), (al, oal)]) [] := by
  refine yields_iff.mpr fun A lc oc h g d t ok I Gi => ⟨rfl, ?_⟩
  refine s1_func ?_
  have ok' := ok_func (env := env) (b := fnBody (st1 4)) ok
  have I2 : Led G (fo ++ ((tl, otl) :: (al, oal) :: lc)) h := I.perm (by walk_at "perm")
  conv in execs _ _ => (arg 1; whnf)
  refine s1_For ?_ (fun _ => rfl)
  repeat walk_at "nx"
  obtain ⟨pm, cd, doc, hfd⟩ := hsa.fd
  refine callGen (binds := [("tuples", .ref tl), ("allitems", .ref al)]) ["tuples", "allitems"] ["edges", "todo", "todo_set", "parent", "child", "output", "node"] ["list", "set"] ok' gd I2 (by simpa using Gi) hfd rfl
    (fun E' => wpAny_of_eq (by rfl) ⟨rfl, rfl⟩) (by rfl) (show fnLook (fnScope (st1 3)) _ _ _ = true by decide +kernel) rfl fun env2 fo2 a o h2 t2 he2 hG I3 F2 gls2 G2 => ?_
  simp only [varsOf, List.map_cons, List.map_nil, List.cons_append, List.nil_append] at F2
  refine iterGen I3 List.mem_cons_self hG ?_
  intro p
  have I4 : Led G (lc ++ (fo ++ (a, o) :: (fo2 ++ [(tl, otl), (al, oal)]))) h2 := I3.perm (by walk_at "perm")
  refine for_at (k := k + 6) gd hG rfl rfl ?_ (fun A ok => ?_) (fun A J K l p ok => ?_) layers A fo lc _ oc [] _ h2 _ d t2 none ok F I4 (by simpa using G2) (sas_yields gd hlist hset he2 gls2 F2 hps hpl hil hit hL hb1 hb2)
  · intro A P s hP
    refine s1_leaf _ ?_
    exact s1_end (.ok (.ret .none)) hP
  · exact ⟨ok.hd, by have := ok.dp; show A.depth + (1 + 0) + 0 + (k + 6 + 1) ≤ 900; omega, by have := ok.un; show A.units + (3 + 0) + 0 + 20 * (k + 6 + 1) ≤ 9000; omega⟩
  · exact ⟨ok.hd, by have := ok.dp; show A.depth + (0 + (1 + 0)) + 0 + 1 ≤ 900; omega, by have := ok.un; show A.units + (0 + (3 + 0)) + 1 + 20 * 1 ≤ 9000; omega⟩
end
end Mine
namespace Mine

/-- what the law's text finds in the ground -/
structure W1 (prog : Program) (w : World) (G : Heap) (mg mb : Str → Option Value) : Prop where
  gd : Gd G mg mb
  nlen : mg "len" = none
  nabs : mg "abs" = none
  nrange : mg "range" = none
  nlist : mg "list" = none
  nset : mg "set" = none
  nmax : mg "max" = none
  next : ∃ f, mg "_law_next" = some (.ref f) ∧ FnIs G f "_law_next" (fnParams (st1 8)) (fnBody (st1 8)) (fnScope (st1 8))
  row : ∃ f, mg "_law_row" = some (.ref f) ∧ FnIs G f "_law_row" (fnParams (st1 9)) (fnBody (st1 9)) (fnScope (st1 9))
  sas : ∃ f, mg "sort_as_subsets" = some (.ref f) ∧ FnIs G f "sort_as_subsets" (fnParams (st1 3)) (fnBody (st1 3)) (fnScope (st1 3))
  sort : ∃ f fd, mg "sort" = some (.ref f) ∧ FdIs G f fd ∧ fd.body = .stmts (fnBody (st1 4)) ∧ fd.scope = fnScope (st1 4) ∧
    ∀ (A : Around) (E : Value → Shared → Prop) (x y : Value) (s : Shared), (∀ b o, G.get? b = some o → s.heap.get? b = some o) →
      wpAny (model prog w) A (bindArgs fd ⟨[x, y], []⟩) (fun b s' => b = [(("tuples" : Str), x), (("allitems" : Str), y), (("deterministic_order" : Str), Value.bool true)] ∧ s' = s) E s
theorem W1.up {prog : Program} {w : World} {G G' : Heap} {mg mb : Str → Option Value} (x : W1 prog w G mg mb) (hk : ∀ b o, G.get? b = some o → G'.get? b = some o) : W1 prog w G' mg mb where
  gd := x.gd.up hk
  nlen := x.nlen
  nabs := x.nabs
  nrange := x.nrange
  nlist := x.nlist
  nset := x.nset
  nmax := x.nmax
  next := let ⟨f, a, b⟩ := x.next; ⟨f, a, b.up hk⟩
  row := let ⟨f, a, b⟩ := x.row; ⟨f, a, b.up hk⟩
  sas := let ⟨f, a, b⟩ := x.sas; ⟨f, a, b.up hk⟩
  sort := let ⟨f, fd, a, ⟨o, ho, hd, hc, r⟩, hb, hs, hbind⟩ := x.sort; ⟨f, fd, a, ⟨o, hk _ _ ho, hd, hc.keeps hk, r⟩, hb, hs, fun A E x y s hs => hbind A E x y s fun b o e => hs b o (hk b o e)⟩

/-- the law's end -/
def EndQ (G : Heap) (os : OsState) (fl : Flow) (s' : Shared) : Prop := fl = .ret (.bool true) ∧ (∀ b o, G.get? b = some o → s'.heap.get? b = some o) ∧ s'.os = os ∧ AllBare s'.gens
theorem EndQ.down {G G' : Heap} {os : OsState} {fl : Flow} {s' : Shared} (x : EndQ G' os fl s') (hk : ∀ b o, G.get? b = some o → G'.get? b = some o) : EndQ G os fl s' := ⟨x.1, fun b o e => x.2.1 b o (hk b o e), x.2.2⟩

theorem Outs.nest {xs : List (List Int)} {vs : List Value} {L : List (Addr × Obj)} (o : Outs OutL xs vs L) : NestL L vs xs := by
  induction o with
  | nil => exact .nil
  | snoc _ h ih =>
    obtain ⟨a, o, ws, rfl, rfl, hL, hi⟩ := h
    exact (ih.mono fun p hp => List.mem_append_left _ hp).snoc (List.mem_append_right _ List.mem_cons_self) hL hi
theorem Outs.ints {xs : List Int} {vs : List Value} {L : List (Addr × Obj)} (o : Outs OutI xs vs L) : IntsAre vs xs := by
  induction o with
  | nil => exact .nil
  | snoc _ h ih =>
    obtain ⟨rfl, t, rfl⟩ := h
    exact ih.append (.cons _ _ .nil)

local macro_rules | `(tactic| walk_at "sub") => `(tactic| with_reducible first | exact List.Sublist.refl _ | exact List.nil_sublist _ | (refine List.Sublist.cons_cons _ ?_; walk_at "sub") | (refine List.Sublist.append (List.Sublist.refl _) ?_; walk_at "sub") | (refine List.Sublist.cons _ ?_; walk_at "sub"))
local macro_rules | `(tactic| walk_at "sd") => `(tactic| with_reducible first | assumption | exact List.mem_cons_self | exact SetV.head | exact Hole.mem (by assumption) _ | exact AllHas.mem (by assumption) _ | (refine List.mem_cons_of_mem _ ?_; walk_at "sd") | (apply SetV.tail; walk_at "sd") | (refine List.mem_append_right _ ?_; walk_at "sd") | (refine List.mem_append_left _ ?_; walk_at "sd"))
local macro_rules | `(tactic| walk_at "up") => `(tactic| with_reducible first | exact Upd.head | exact Hole.at (by assumption) _ _ | (refine Upd.tail ?_; walk_at "up") | (refine Upd.app ?_ _; walk_at "up") | (refine Upd.appl ?_ _; walk_at "up"))
local macro_rules | `(tactic| walk_at "hole") => `(tactic| first | with_reducible assumption | (intro _ _; walk_at "up"))
local macro_rules | `(tactic| walk_at "allhas") => `(tactic| first | with_reducible assumption | (intro _; walk_at "sd"))
local macro_rules | `(tactic| walk_at "led") => `(tactic| ((try simp only [List.append_assoc, List.cons_append, List.nil_append, List.append_nil]); (with_reducible refine' Led.sub ?I ?s); (case I => with_reducible assumption); (case s => walk_at "sub")))
local macro_rules | `(tactic| walk_at "sw") => `(tactic| fail "sw")
local macro_rules | `(tactic| walk_at "perm") => `(tactic| (refine permOf fun x => ?_; simp only [List.count_append, List.count_cons, List.count_nil, List.append_assoc, List.cons_append, List.nil_append] <;> omega))
local macro_rules | `(tactic| walk_at "sees") => `(tactic| first | with_reducible assumption | (intro _ _; walk_at "sd") | (intro _ hp; rcases List.mem_append.mp hp with hp | hp <;> walk_at "sd"))
local macro_rules | `(tactic| walk_at "nx") => `(tactic| first
  | with_reducible refine wpAny_execs_nil ?_
  | with_reducible refine wpAny_execs_cons ?_
  | with_reducible refine wpAny_If ?_
  | ((with_reducible refine wpAny_isTrue_Compare1 ?_ ?hs); case hs => with_unfolding_all rfl)
  | with_reducible refine wpAny_truthy_bool ?_
  | ((with_reducible refine wpAny_Compare1 ?_ ?hs); case hs => with_unfolding_all rfl)
  | ((with_reducible refine wpAny_Assign_Subscript ?_ ?hs); case hs => with_unfolding_all rfl)
  | ((with_reducible refine wpAny_Assign_Name ?_ ?hs); case hs => with_unfolding_all rfl)
  | with_reducible refine wpAny_Return_some ?_
  | with_reducible refine wpAny_BinOp ?_
  | ((with_reducible refine Slice_ ?_ ?ht); (case ht => (intro _ _; with_unfolding_all rfl)))
  | with_reducible refine Subscript_ ?_
  | ((with_reducible refine' MethodCall_ ?_ ?hs); case hs => with_unfolding_all rfl)
  | ((with_reducible refine Call_ ?_ ?hs); case hs => with_unfolding_all rfl)
  | with_reducible refine cInt ?_
  | with_reducible refine wpAny_UnaryOp ?_
  | with_reducible refine negI ?_
  | with_reducible refine addI ?_
  | with_reducible refine subI ?_
  | with_reducible refine ltI ?_
  | with_reducible refine eqI ?_
  | with_reducible refine neI ?_
  | with_reducible refine leI ?_
  | with_reducible refine gtI ?_
  | ((with_reducible refine modI ?h0 ?_); (case h0 => first | with_reducible assumption | decide | omega))
  | ((with_reducible refine divI ?h0 ?hp ?_); (case h0 => first | with_reducible assumption | decide | omega); (case hp => first | exact PyProof.noPylong_of_log2 (by decide +kernel) | exact PyProof.noPylong_small (by omega)))
  | ((with_reducible refine mulI ?h0 ?_); (case h0 => mul_fits))
  | ((with_reducible refine' ld ?I ?F ?m ?_ ?hd); (case I => with_reducible assumption); (case F => with_reducible assumption); (case m => walk_at "sd"); (case hd => decide))
  | ((with_reducible refine' ldB ?I ?F ?gls ?gd ?hx ?hmiss ?hv ?hn ?_ ?hd); (case I => with_reducible assumption); (case F => with_reducible assumption); (case gls => with_reducible assumption); (case gd => with_reducible assumption); (case hx => walk_at "sd"); (case hmiss => with_reducible assumption); (case hv => with_reducible assumption); (case hn => decide); (case hd => decide))
  | ((with_reducible refine' ldG ?I ?F ?gls ?gd ?hx ?hv ?_ ?hd); (case I => with_reducible assumption); (case F => with_reducible assumption); (case gls => with_reducible assumption); (case gd => with_reducible assumption); (case hx => walk_at "sd"); (case hv => with_reducible assumption); (case hd => decide))
  | ((with_reducible refine Assign_Tuple ?_ ?hs ?hw); (case hs => with_unfolding_all rfl); (case hw => first | with_unfolding_all rfl | exact swNone rfl | exact swNone (by walk_at "sw")))
  | ((with_reducible refine' asTuple ?ok ?I ?m ?T ?hn ?hst ?_); (case ok => with_reducible assumption); (case I => with_reducible assumption); (case m => walk_at "sd"); (case T => with_reducible assumption); (case hn => rfl); (case hst => rfl); intro _ _; (try simp only [assignEach, List.map_cons, List.map_nil]))
  | ((with_reducible refine' asTupleG ?ok ?I ?m ?T ?hn ?hst ?_); (case ok => with_reducible assumption); (case I => with_reducible assumption); (case m => with_reducible assumption); (case T => with_reducible assumption); (case hn => rfl); (case hst => rfl); intro _ _; (try simp only [assignEach, List.map_cons, List.map_nil]))
  | with_reducible refine inOrder_cons ?_
  | with_reducible refine inOrder_nil ?_
  | with_reducible refine asSub ?_
  | ((with_reducible refine' asName ?I ?F ?m ?_); (case I => with_reducible assumption); (case F => with_reducible assumption); (case m => walk_at "sd"); intro _ _ _ _ _)
  | with_reducible refine Tuple_ ?_
  | with_reducible refine List_ ?_
  | ((with_reducible refine' tupleN ?I ?hb ?_); (case I => with_reducible assumption); (case hb => first | (show _ ≤ _; simp only [List.length_cons, List.length_nil]; omega) | omega); intro _ _ _ _ _)
  | ((with_reducible refine' listN ?I ?hb ?_); (case I => with_reducible assumption); (case hb => first | (show _ ≤ _; simp only [List.length_cons, List.length_nil]; omega) | omega); intro _ _ _ _ _)
  | ((with_reducible refine' callW ?hf ?_ ?he); (case hf => with_reducible assumption); (case he => with_unfolding_all rfl))
  | ((with_reducible refine' callWD ?hf ?_ ?he); (case hf => with_reducible assumption); (case he => with_unfolding_all rfl))
  | with_reducible refine And.intro (Grd.of (by assumption)) ?_
  | ((with_reducible refine PyProof.Rows.callWith_type1 ?_ ?hs ?ht); (case hs => with_unfolding_all rfl); (case ht => with_unfolding_all rfl))
  | ((with_reducible refine' rangeC1 ?I ?_); (case I => with_reducible assumption); intro _ _ _ _ _ _)
  | ((with_reducible refine' rangeC2 ?I ?_); (case I => with_reducible assumption); intro _ _ _ _ _ _)
  | ((with_reducible refine' rangeC3 ?I ?hc ?hp ?_); (case I => with_reducible assumption); (case hc => first | decide | omega); (case hp => first | exact PyProof.noPylong_of_log2 (by decide +kernel) | exact PyProof.noPylong_small (by omega)); intro _ _ _ _ _ _)
  | ((with_reducible refine wpAny_For ?_ ?hs); case hs => (intro _; rfl))
  | ((with_reducible refine callWith_builtin1 ?_ ?hs ?ht); (case hs => with_unfolding_all rfl); (case ht => with_unfolding_all rfl))
  | ((with_reducible refine args_cons ?_ ?hs); (case hs => with_unfolding_all rfl))
  | with_reducible refine args_nil ?_
  | ((with_reducible refine' subL ?I ?m ?L ?h0 ?hx ?_ ?hs); (case I => with_reducible assumption); (case m => walk_at "sd"); (case L => with_reducible assumption); (case h0 => first | decide | omega); (case hx => first | with_reducible assumption | rfl); (case hs => with_unfolding_all rfl))
  | ((with_reducible refine' subD ?I ?m ?D ?hv ?_ ?hs); (case I => with_reducible assumption); (case m => walk_at "sd"); (case D => with_reducible assumption); (case hv => with_reducible assumption); (case hs => with_unfolding_all rfl); intro _)
  | ((with_reducible refine' setL ?I ?m ?L ?e ?H ?h0 ?hk ?hv ?_); (case I => with_reducible assumption); (case m => walk_at "sd"); (case L => with_reducible assumption); (case e => rfl); (case H => walk_at "hole"); (case h0 => first | decide | omega); (case hk => first | omega | (simp only [List.length_cons, List.length_nil, List.length_set, Int.reduceToNat]; omega)); (case hv => first | ((simp only [Int.reduceToNat, List.set_cons_zero, List.set_cons_succ]; done)) | ((simp only [Int.reduceToNat, List.set_cons_zero, List.set_cons_succ]; rfl)) | rfl); intro _ _ _ _ _)
  | ((with_reducible refine' lenL ?I ?m ?L ?_); (case I => with_reducible assumption); (case m => walk_at "sd"); (case L => with_reducible assumption); intro _ _)
  | ((with_reducible refine absI ?_); intro _ _)
  | ((with_reducible refine' st ?I ?F ?m ?_); (case I => with_reducible assumption); (case F => with_reducible assumption); (case m => walk_at "sd"); intro _ _ _ _ _)
  | ((with_reducible refine' ldS ?I ?hk ?S ?sub ?m ?_ ?hd); (case I => with_reducible assumption); (case hk => exact Frm.kind (by assumption)); (case S => with_reducible assumption); (case sub => walk_at "sees"); (case m => walk_at "sd"); (case hd => decide))
  | ((with_reducible refine' gmS ?slot ?hty ?I ?m ?S ?_); (case I => with_reducible assumption); (case m => walk_at "sd"); (case S => with_reducible assumption); (case slot => with_reducible first | exact F.slot_set_add | exact F.slot_set_isdisjoint | exact F.slot_set_difference_update); (case hty => with_reducible first | exact F.type_set_add | exact F.type_set_isdisjoint | exact F.type_set_difference_update))
  | ((with_reducible refine' gmD ?slot ?hty ?I ?m ?D ?_); (case I => with_reducible assumption); (case m => walk_at "sd"); (case D => with_reducible assumption); (case slot => with_reducible first | exact PySem.F.slot_dict_setdefault | exact PySem.F.slot_dict_get | exact PySem.F.slot_dict_values); (case hty => with_reducible first | exact PySem.F.type_dict_setdefault | exact PySem.F.type_dict_get | exact PySem.F.type_dict_values))
  | ((with_reducible refine' gmL ?slot ?hty ?I ?m ?L ?_); (case I => with_reducible assumption); (case m => walk_at "sd"); (case L => with_reducible assumption); (case slot => with_reducible first | exact F.slot_list_append | exact F.slot_list_extend); (case hty => with_reducible first | exact F.type_list_append | exact F.type_list_extend))
  | ((with_reducible refine callWith_method1 ?_ ?hs ?ht); (case hs => with_unfolding_all rfl); (case ht => with_unfolding_all rfl))
  | with_reducible refine callWith_method0 ?_
  | ((with_reducible refine' exprS ?_ ?hi ?hs); (case hi => exact Frm.kind (by assumption)); (case hs => with_unfolding_all rfl))
  | with_reducible refine wpAny_isTrue_Not ?_
  | ((with_reducible refine' truthyS ?I ?m ?S ?_); (case I => with_reducible assumption); (case m => walk_at "sd"); (case S => with_reducible assumption); intro _)
  | ((with_reducible refine' truthyL ?I ?m ?L ?_); (case I => with_reducible assumption); (case m => walk_at "sd"); (case L => with_reducible assumption); intro _)
  | with_reducible refine wpAny_IfExp ?_
  | with_reducible refine isTrue_and ?_
  | with_reducible refine isTrue_and_nil ?_
  | ((with_reducible refine isTrue_plain ?_ ?he); (case he => with_unfolding_all rfl))
  | ((with_reducible refine' inS ?I ?m ?S ?_); (case I => with_reducible assumption); (case m => walk_at "sd"); (case S => with_reducible assumption); intro _)
  | ((with_reducible refine' inD ?I ?m ?D ?_); (case I => with_reducible assumption); (case m => walk_at "sd"); (case D => with_reducible assumption); intro _)
  | ((with_reducible refine' getD2 ?I ?m ?D ?_); (case I => with_reducible assumption); (case m => walk_at "sd"); (case D => with_reducible assumption); intro _)
  | ((with_reducible refine' addS ?I ?m ?S ?e ?H ?hb ?_); (case I => with_reducible assumption); (case m => walk_at "sd"); (case S => with_reducible assumption); (case e => rfl); (case H => walk_at "hole"); (case hb => omega); intro _ _ _ _ _)
  | ((with_reducible refine' appendL ?I ?m ?e ?H ?L ?hb ?_); (case I => with_reducible assumption); (case m => walk_at "sd"); (case L => with_reducible assumption); (case e => rfl); (case H => walk_at "hole"); (case hb => first | omega | (simp only [List.length_append, List.length_cons, List.length_nil]; omega)); intro _ _ _ _ _)
  | ((with_reducible refine' newD ?gd ?I ?_); (case gd => with_reducible assumption); (case I => with_reducible assumption); intro _ _ _ _ _)
  | with_reducible refine callWith_type0 ?_
  | with_reducible refine tests0 ?_
  | with_reducible refine tests1 ?_
  | with_reducible refine emit_ ?_
  | ((with_reducible refine' newS ?I ?_); (case I => with_reducible assumption); intro _ _ _ _ _)
  | ((with_reducible refine' listList ?I ?m ?L ?_); (case I => with_reducible assumption); (case m => walk_at "sd"); (case L => with_reducible assumption); intro _ _ _ _ _)
  | ((with_reducible refine' valuesD ?I ?m ?D ?_); (case I => with_reducible assumption); (case m => walk_at "sd"); (case D => with_reducible assumption); intro _ _ _ _ _)
  | ((with_reducible refine' next_spec2 ?gd ?ok ?nl ?na ?hf ?I ?m ?ho ?hs ?e ?H ?hsc ?hmany ?_); (case gd => with_reducible assumption); (case nl => with_reducible assumption); (case na => with_reducible assumption); (case hf => with_reducible assumption); (case I => with_reducible assumption); (case m => walk_at "sd"); (case ho => with_reducible assumption); (case hs => with_reducible assumption); (case ok => exact Ok.less (by assumption) (by decide)); (case e => rfl); (case H => walk_at "hole"); (case hsc => walk_at "allhas"); (case hmany => omega); intro _ _ _ _ _ _ _ _ _)
  | with_reducible refine partNone ?_
  | with_reducible refine partSome ?_
  | ((with_reducible refine' sliceAll ?I ?m ?L ?_); (case I => with_reducible assumption); (case m => walk_at "sd"); (case L => with_reducible assumption); intro _ _ _ _ _)
  | (with_reducible dsimp only [List.cons_append, List.nil_append, List.append_nil])
  )
section
variable {prog : Program} {w : World} {A : Around} {E : Value → Shared → Prop} {h G : Heap} {g : Array GenState} {d : Drawn} {t : Nat} {os : OsState}
  {env : Env} {l fo lc lg : List (Addr × Obj)} {mg mb : Str → Option Value} {k : Nat} {vs pv iv dvs : List Value} {ps : List (Int × Int)} {items : List Int} {due : List (List Int)}
  {ip sp mp rp pp up ap bp dp : Option Value} {il pl D : Addr} {oil opl oD : Obj}

set_option maxRecDepth 100000 in
set_option maxHeartbeats 4000000 in
theorem law_from9 (W : W1 prog w G mg mb) (ok : Ok A 40) (he : env.scope = fnScope (st1 10)) (gls : Gls env ["_law_next", "_law_row", "sort_as_subsets", "sort", "list", "range", "max"])
    (F : Frm env fo [("script", sp), ("state", ip), ("many", mp), ("items", some (.ref il)), ("ranks", rp), ("pairs", some (.ref pl)), ("_", up), ("a", ap), ("b", bp), ("deep", dp), ("due", some (.ref D))])
    (hps : PairsG G pv ps) (hpl : LstO opl pv) (hil : LstO oil iv) (hit : IntsAre iv items) (hD : LstO oD dvs) (hN : NestL lg dvs due) (hL : Layers ps items due) (hb1 : ps.length ≤ 20) (hb2 : items.length ≤ 20) (hb3 : due.length ≤ 20) (hb4 : due.flatten.length ≤ 400)
    (I : Led G (fo ++ ((il, oil) :: (pl, opl) :: (D, oD) :: lg)) h) (Gi : GLed [] g) :
    wpAny (model prog w) A (execs ((fnBody (st1 10)).drop 9) env) (EndQ G os) NoE ⟨h, g, d, t, os⟩ := by
  obtain ⟨fsas, hsas, hfsas⟩ := W.sas
  obtain ⟨fso, fd, hso, hfso, hbo, hsc, hbind⟩ := W.sort
  have gd := W.gd
  have nlist := W.nlist
  have bl : bootBuiltins "list" = some (.type "list") := by decide +kernel
  conv in execs _ _ => (arg 1; whnf)
  repeat walk_at "nx"
  rename_i tl otl h1 hpl2 I1 al oal h2 hil2 I2
  obtain ⟨pm, cd, doc, hfd⟩ := hfsas.fd
  refine callGen (binds := [("tuples", .ref tl), ("allitems", .ref al)]) ["tuples", "allitems"] ["edges", "todo", "todo_set", "parent", "child", "output", "node"] ["list", "set"] ok gd I2 Gi hfd rfl
    (fun E' => wpAny_of_eq (by rfl) ⟨rfl, rfl⟩) (by rfl) (show fnLook (fnScope (st1 3)) _ _ _ = true by decide +kernel) rfl fun env2 fo2 a o h3 t3 he2 hG I3 F2 gls2 G2 => ?_
  simp only [varsOf, List.map_cons, List.map_nil, List.cons_append, List.nil_append] at F2
  repeat walk_at "nx"
  have I4 : Led G (((a, o) :: (fo ++ ((il, oil) :: (pl, opl) :: (D, oD) :: lg))) ++ (fo2 ++ [(tl, otl), (al, oal)])) h3 := I3.perm (by walk_at "perm")
  refine listGen (oc := []) (own := []) (ok.less (j := 30) (by omega)) gd hG (fun r lv h => h) List.mem_cons_self (Nat.le_trans hb3 (by decide)) I4 G2 (sas_yields (k := 20) gd nlist W.nset he2 gls2 F2 hps hpl2 hil2 hit hL hb1 hb2) fun S vs L lv oS h5 g5 d5 t5 hO hLS hf I5 G5 => ?_
  have I6 : Led G (fo ++ ((S, oS) :: (L ++ ((il, oil) :: (pl, opl) :: (D, oD) :: lg)))) h5 :=
    ((I5.dropr).perm (l' := (a, o) :: (fo ++ ((S, oS) :: (L ++ ((il, oil) :: (pl, opl) :: (D, oD) :: lg))))) (by walk_at "perm")).drop
  repeat walk_at "nx"
  refine neNest ok I6 (by walk_at "sd") (by walk_at "sd") hLS hD (hO.nest.mono fun p hp => by walk_at "sd") (hN.mono fun p hp => by walk_at "sd") ?_
  repeat walk_at "nx"
  rw [if_neg (by simp)]
  repeat walk_at "nx"
  rename_i tl2 otl2 h7 hpl3 I7 al2 oal2 h8 hil3 I8
  refine callGen (binds := [("tuples", .ref tl2), ("allitems", .ref al2), ("deterministic_order", .bool true)]) ["tuples", "allitems", "deterministic_order"] ["set_"] ["sort_as_subsets"] ok gd I8 G5 hfso hbo
    (fun E' => hbind _ E' _ _ _ I8.gr) (by rw [hsc]; rfl) (by rw [hsc]; decide +kernel) rfl fun env3 fo3 a3 o3 h9 t9 he3 hG3 I9 F3 gls3 G9 => ?_
  simp only [varsOf, List.map_cons, List.map_nil, List.cons_append, List.nil_append] at F3
  repeat walk_at "nx"
  have I10 : Led G (((a3, o3) :: (fo ++ ((il, oil) :: (pl, opl) :: (D, oD) :: lg))) ++ (fo3 ++ [(tl2, otl2), (al2, oal2)])) h9 :=
    (I9.perm (l' := ((S, oS) :: L) ++ (((a3, o3) :: (fo ++ ((il, oil) :: (pl, opl) :: (D, oD) :: lg))) ++ (fo3 ++ [(tl2, otl2), (al2, oal2)]))) (by walk_at "perm")).dropl _
  refine listGen (oc := []) (own := []) (ok.less (j := 33) (by omega)) gd hG3 (fun r lv h => h) List.mem_cons_self (Nat.le_trans hb4 (by decide)) I10 G9 (sort_yields (k := 20) gd nlist W.nset hsas hfsas (he3.trans hsc) gls3 F3 hps hpl3 hil3 hit hL hb1 hb2) fun S2 vs2 L2 lv2 oS2 h11 g11 d11 t11 hO2 hLS2 hf2 I11 G11 => ?_
  have I12 : Led G (fo ++ ((S2, oS2) :: ((il, oil) :: (pl, opl) :: (D, oD) :: lg))) h11 :=
    ((I11.dropr).perm (l' := ((a3, o3) :: L2) ++ (fo ++ ((S2, oS2) :: ((il, oil) :: (pl, opl) :: (D, oD) :: lg)))) (by walk_at "perm")).dropl _
  refine ListComp_ (G := G) [] ["layer", "a"] [] [] F.kind F.glob F.bi (by simp only [List.map_nil]; decide +kernel) rfl Sees.nil ?_ (fun _ => rfl)
  repeat walk_at "nx"
  refine iterList I12 (by walk_at "sd") hD fun J oJ h hC I => ?_
  refine ⟨_, _, _, _, _, _, rfl, I, fun h' lg' Q' E' I' hq => selfL I' (by walk_at "sd") hC hq, fun cenv fo2 Z oZ h hZ I F2 S3 gls2 _ => ?_⟩
  replace I := Led.jfront I
  refine compCur (fr0 := []) .l (turn_L2o ..) (Cur.list J D oD dvs hD) ok (fun i l => ∃ fo2 v1 v2 oZ zv, l = fo2 ++ (Z, oZ) :: (fo ++ ((S2, oS2) :: ((il, oil) :: (pl, opl) :: (D, oD) :: lg))) ∧ Frm cenv fo2 [("layer", v1), ("a", v2)] ∧ LstO oZ zv ∧
    IntsAre zv (due.take i).flatten) (List.append_nil _).symm I hC ⟨_, _, _, _, _, rfl, F2, hZ, .nil⟩ ?_ ?_ ?_
  · rintro i l ⟨fo2, v1, v2, oZ, zv, rfl, _⟩ p hp
    rw [List.mem_singleton.mp hp]; walk_at "sd"
  · rintro i v l fr h d t - hi hv ⟨fo2, v1, v2, oZ, zv, rfl, F2, hZ, hzv⟩ I
    simp only [List.append_assoc, List.cons_append] at I
    have hi' : i < due.length := by rw [← hN.length]; exact hi
    have hdi : due[i]? = some due[i] := List.getElem?_eq_getElem hi'
    generalize due[i] = x at hdi
    obtain ⟨a, o, ws, hx, hm, hLw, hIw⟩ := hN.get hdi
    rw [hx] at hv
    cases hv
    repeat walk_at "nx"
    rw [if_pos rfl]
    have hsplit : due.flatten.length = ((due.take i).flatten ++ x).length + ((due.drop (i + 1)).flatten).length := by
      have e : due = due.take i ++ x :: due.drop (i + 1) := by
        obtain ⟨hlt, e⟩ := List.getElem?_eq_some_iff.mp hdi
        rw [← e, ← List.drop_eq_getElem_cons hlt, List.take_append_drop]
      conv => lhs; rw [e]
      simp only [List.flatten_append, List.flatten_cons, List.length_append]; omega
    have htk : (due.take (i + 1)).flatten = (due.take i).flatten ++ x := by rw [List.take_add_one, hdi, List.flatten_append]; simp
    refine inner_ ?_ (fun _ => rfl)
    repeat walk_at "nx"
    rename_i h13 t13 fo13 I13 F13
    refine iterList I13 (by walk_at "sd") hLw fun J2 oJ2 h hC2 I => ?_
    refine compStart_ .l rfl (fun Q' E' hq => selfL I (by walk_at "sd") hC2 hq) ?_
    refine compCur (fr0 := fr) .l (turn_L2i ..) (Cur.list J2 a o ws hLw) ok (fun j l => ∃ fo2 v1 v2 oZ zv, l = fo2 ++ (Z, oZ) :: (fo ++ ((S2, oS2) :: ((il, oil) :: (pl, opl) :: (D, oD) :: lg))) ∧ Frm cenv fo2 [("layer", v1), ("a", v2)] ∧ LstO oZ zv ∧
      IntsAre zv ((due.take i).flatten ++ x.take j)) (by simp only [List.append_assoc, List.cons_append]) I hC2 ⟨_, _, _, _, _, rfl, F13, hZ, by rw [List.take_zero, List.append_nil]; exact hzv⟩ ?_ ?_ ?_
    · rintro i l ⟨fo2, v1, v2, oZ, zv, rfl, _⟩ p hp
      rw [List.mem_singleton.mp hp]; walk_at "sd"
    · rintro j v l fr h d t - hj hv ⟨fo2, v1, v2, oZ, zv, rfl, F2, hZ, hzv⟩ I
      simp only [List.append_assoc, List.cons_append] at I
      obtain ⟨z, tz, hz, hwz⟩ := intAt' hIw (i := j) (by rw [← hIw.length]; exact hj)
      rw [hwz] at hv
      cases hv
      have hzl : zv.length ≤ 400 := by
        rw [hzv.length, List.length_append]
        rw [List.length_append] at hsplit
        have : (x.take j).length ≤ x.length := by rw [List.length_take]; omega
        omega
      have hbig : 400 + 1 ≤ 2 * big := by decide
      repeat walk_at "nx"
      rw [if_pos rfl]
      repeat walk_at "nx"
      refine' ⟨_, _, _, _, rfl, ?I, _, _, _, _, _, rfl, ?F, ?L, ?vv⟩
      case F => assumption
      case L => assumption
      case I => walk_at "led"
      case vv =>
        rw [List.take_add_one, hz, ← List.append_assoc]
        exact hzv.append (.cons _ _ .nil)
    · rintro l h d t ⟨fo2, v1, v2, oZ, zv, rfl, F2, hZ, hzv⟩ I
      rw [show x.take ws.length = x from List.take_of_length_le (by rw [hIw.length]; exact Nat.le_refl _), ← htk] at hzv
      refine ⟨rfl, _, _, _, _, rfl, I, _, _, _, _, _, rfl, F2, hZ, hzv⟩
  · rintro l h d t ⟨fo2, v1, v2, oZ, zv, rfl, F2, hZ, hzv⟩ I
    simp only [List.append_nil] at I
    rw [List.take_of_length_le (by rw [hN.length]; exact Nat.le_refl _)] at hzv
    refine ⟨rfl, fo2, _, F2, _, I, fun h3 I3 => ?_⟩
    refine eqInts ok I3 (by walk_at "sd") (by walk_at "sd") hLS2 hZ hO2.ints hzv ?_
    refine ⟨by simp, I3.gr, rfl, G11.all⟩
end
end Mine
namespace Mine

local macro_rules | `(tactic| walk_at "sub") => `(tactic| with_reducible first | exact List.Sublist.refl _ | exact List.nil_sublist _ | (refine List.Sublist.cons_cons _ ?_; walk_at "sub") | (refine List.Sublist.append (List.Sublist.refl _) ?_; walk_at "sub") | (refine List.Sublist.cons _ ?_; walk_at "sub"))
local macro_rules | `(tactic| walk_at "sd") => `(tactic| with_reducible first | assumption | exact List.mem_cons_self | exact SetV.head | exact Hole.mem (by assumption) _ | exact AllHas.mem (by assumption) _ | (refine List.mem_cons_of_mem _ ?_; walk_at "sd") | (apply SetV.tail; walk_at "sd") | (refine List.mem_append_right _ ?_; walk_at "sd") | (refine List.mem_append_left _ ?_; walk_at "sd"))
local macro_rules | `(tactic| walk_at "up") => `(tactic| with_reducible first | exact Upd.head | exact Hole.at (by assumption) _ _ | (refine Upd.tail ?_; walk_at "up") | (refine Upd.app ?_ _; walk_at "up") | (refine Upd.appl ?_ _; walk_at "up"))
local macro_rules | `(tactic| walk_at "hole") => `(tactic| first | with_reducible assumption | (intro _ _; walk_at "up"))
local macro_rules | `(tactic| walk_at "allhas") => `(tactic| first | with_reducible assumption | (intro _; walk_at "sd"))
local macro_rules | `(tactic| walk_at "led") => `(tactic| ((try simp only [List.append_assoc, List.cons_append, List.nil_append, List.append_nil]); (with_reducible refine' Led.sub ?I ?s); (case I => with_reducible assumption); (case s => walk_at "sub")))
local macro_rules | `(tactic| walk_at "sw") => `(tactic| fail "sw")
local macro_rules | `(tactic| walk_at "perm") => `(tactic| (refine permOf fun x => ?_; simp only [List.count_append, List.count_cons, List.count_nil, List.append_assoc, List.cons_append, List.nil_append] <;> omega))
local macro_rules | `(tactic| walk_at "sees") => `(tactic| first | with_reducible assumption | (intro _ _; walk_at "sd") | (intro _ hp; rcases List.mem_append.mp hp with hp | hp <;> walk_at "sd"))
local macro_rules | `(tactic| walk_at "nx") => `(tactic| first
  | with_reducible refine wpAny_execs_nil ?_
  | with_reducible refine wpAny_execs_cons ?_
  | with_reducible refine wpAny_If ?_
  | ((with_reducible refine wpAny_isTrue_Compare1 ?_ ?hs); case hs => with_unfolding_all rfl)
  | with_reducible refine wpAny_truthy_bool ?_
  | ((with_reducible refine wpAny_Compare1 ?_ ?hs); case hs => with_unfolding_all rfl)
  | ((with_reducible refine wpAny_Assign_Subscript ?_ ?hs); case hs => with_unfolding_all rfl)
  | ((with_reducible refine wpAny_Assign_Name ?_ ?hs); case hs => with_unfolding_all rfl)
  | with_reducible refine wpAny_Return_some ?_
  | with_reducible refine wpAny_BinOp ?_
  | ((with_reducible refine Slice_ ?_ ?ht); (case ht => (intro _ _; with_unfolding_all rfl)))
  | with_reducible refine Subscript_ ?_
  | ((with_reducible refine' MethodCall_ ?_ ?hs); case hs => with_unfolding_all rfl)
  | ((with_reducible refine Call_ ?_ ?hs); case hs => with_unfolding_all rfl)
  | with_reducible refine cInt ?_
  | with_reducible refine wpAny_UnaryOp ?_
  | with_reducible refine negI ?_
  | with_reducible refine addI ?_
  | with_reducible refine subI ?_
  | with_reducible refine ltI ?_
  | with_reducible refine eqI ?_
  | with_reducible refine neI ?_
  | with_reducible refine leI ?_
  | with_reducible refine gtI ?_
  | ((with_reducible refine modI ?h0 ?_); (case h0 => first | with_reducible assumption | decide | omega))
  | ((with_reducible refine divI ?h0 ?hp ?_); (case h0 => first | with_reducible assumption | decide | omega); (case hp => first | exact PyProof.noPylong_of_log2 (by decide +kernel) | exact PyProof.noPylong_small (by omega)))
  | ((with_reducible refine mulI ?h0 ?_); (case h0 => mul_fits))
  | ((with_reducible refine' ld ?I ?F ?m ?_ ?hd); (case I => with_reducible assumption); (case F => with_reducible assumption); (case m => walk_at "sd"); (case hd => decide))
  | ((with_reducible refine' ldB ?I ?F ?gls ?gd ?hx ?hmiss ?hv ?hn ?_ ?hd); (case I => with_reducible assumption); (case F => with_reducible assumption); (case gls => with_reducible assumption); (case gd => with_reducible assumption); (case hx => walk_at "sd"); (case hmiss => with_reducible assumption); (case hv => with_reducible assumption); (case hn => decide); (case hd => decide))
  | ((with_reducible refine' ldG ?I ?F ?gls ?gd ?hx ?hv ?_ ?hd); (case I => with_reducible assumption); (case F => with_reducible assumption); (case gls => with_reducible assumption); (case gd => with_reducible assumption); (case hx => walk_at "sd"); (case hv => with_reducible assumption); (case hd => decide))
  | ((with_reducible refine Assign_Tuple ?_ ?hs ?hw); (case hs => with_unfolding_all rfl); (case hw => first | with_unfolding_all rfl | exact swNone rfl | exact swNone (by walk_at "sw")))
  | ((with_reducible refine' asTuple ?ok ?I ?m ?T ?hn ?hst ?_); (case ok => with_reducible assumption); (case I => with_reducible assumption); (case m => walk_at "sd"); (case T => with_reducible assumption); (case hn => rfl); (case hst => rfl); intro _ _; (try simp only [assignEach, List.map_cons, List.map_nil]))
  | ((with_reducible refine' asTupleG ?ok ?I ?m ?T ?hn ?hst ?_); (case ok => with_reducible assumption); (case I => with_reducible assumption); (case m => with_reducible assumption); (case T => with_reducible assumption); (case hn => rfl); (case hst => rfl); intro _ _; (try simp only [assignEach, List.map_cons, List.map_nil]))
  | with_reducible refine inOrder_cons ?_
  | with_reducible refine inOrder_nil ?_
  | with_reducible refine asSub ?_
  | ((with_reducible refine' asName ?I ?F ?m ?_); (case I => with_reducible assumption); (case F => with_reducible assumption); (case m => walk_at "sd"); intro _ _ _ _ _)
  | with_reducible refine Tuple_ ?_
  | with_reducible refine List_ ?_
  | ((with_reducible refine' tupleN ?I ?hb ?_); (case I => with_reducible assumption); (case hb => first | (show _ ≤ _; simp only [List.length_cons, List.length_nil]; omega) | omega); intro _ _ _ _ _)
  | ((with_reducible refine' listN ?I ?hb ?_); (case I => with_reducible assumption); (case hb => first | (show _ ≤ _; simp only [List.length_cons, List.length_nil]; omega) | omega); intro _ _ _ _ _)
  | ((with_reducible refine' callW ?hf ?_ ?he); (case hf => with_reducible assumption); (case he => with_unfolding_all rfl))
  | ((with_reducible refine' callWD ?hf ?_ ?he); (case hf => with_reducible assumption); (case he => with_unfolding_all rfl))
  | with_reducible refine And.intro (Grd.of (by assumption)) ?_
  | ((with_reducible refine PyProof.Rows.callWith_type1 ?_ ?hs ?ht); (case hs => with_unfolding_all rfl); (case ht => with_unfolding_all rfl))
  | ((with_reducible refine' rangeC1 ?I ?_); (case I => with_reducible assumption); intro _ _ _ _ _ _)
  | ((with_reducible refine' rangeC2 ?I ?_); (case I => with_reducible assumption); intro _ _ _ _ _ _)
  | ((with_reducible refine' rangeC3 ?I ?hc ?hp ?_); (case I => with_reducible assumption); (case hc => first | decide | omega); (case hp => first | exact PyProof.noPylong_of_log2 (by decide +kernel) | exact PyProof.noPylong_small (by omega)); intro _ _ _ _ _ _)
  | ((with_reducible refine wpAny_For ?_ ?hs); case hs => (intro _; rfl))
  | ((with_reducible refine callWith_builtin1 ?_ ?hs ?ht); (case hs => with_unfolding_all rfl); (case ht => with_unfolding_all rfl))
  | ((with_reducible refine args_cons ?_ ?hs); (case hs => with_unfolding_all rfl))
  | with_reducible refine args_nil ?_
  | ((with_reducible refine' subL ?I ?m ?L ?h0 ?hx ?_ ?hs); (case I => with_reducible assumption); (case m => walk_at "sd"); (case L => with_reducible assumption); (case h0 => first | decide | omega); (case hx => first | with_reducible assumption | rfl); (case hs => with_unfolding_all rfl))
  | ((with_reducible refine' subD ?I ?m ?D ?hv ?_ ?hs); (case I => with_reducible assumption); (case m => walk_at "sd"); (case D => with_reducible assumption); (case hv => with_reducible assumption); (case hs => with_unfolding_all rfl); intro _)
  | ((with_reducible refine' setL ?I ?m ?L ?e ?H ?h0 ?hk ?hv ?_); (case I => with_reducible assumption); (case m => walk_at "sd"); (case L => with_reducible assumption); (case e => rfl); (case H => walk_at "hole"); (case h0 => first | decide | omega); (case hk => first | omega | (simp only [List.length_cons, List.length_nil, List.length_set, Int.reduceToNat]; omega)); (case hv => first | ((simp only [Int.reduceToNat, List.set_cons_zero, List.set_cons_succ]; done)) | ((simp only [Int.reduceToNat, List.set_cons_zero, List.set_cons_succ]; rfl)) | rfl); intro _ _ _ _ _)
  | ((with_reducible refine' lenL ?I ?m ?L ?_); (case I => with_reducible assumption); (case m => walk_at "sd"); (case L => with_reducible assumption); intro _ _)
  | ((with_reducible refine absI ?_); intro _ _)
  | ((with_reducible refine' st ?I ?F ?m ?_); (case I => with_reducible assumption); (case F => with_reducible assumption); (case m => walk_at "sd"); intro _ _ _ _ _)
  | ((with_reducible refine' ldS ?I ?hk ?S ?sub ?m ?_ ?hd); (case I => with_reducible assumption); (case hk => exact Frm.kind (by assumption)); (case S => with_reducible assumption); (case sub => walk_at "sees"); (case m => walk_at "sd"); (case hd => decide))
  | ((with_reducible refine' gmS ?slot ?hty ?I ?m ?S ?_); (case I => with_reducible assumption); (case m => walk_at "sd"); (case S => with_reducible assumption); (case slot => with_reducible first | exact F.slot_set_add | exact F.slot_set_isdisjoint | exact F.slot_set_difference_update); (case hty => with_reducible first | exact F.type_set_add | exact F.type_set_isdisjoint | exact F.type_set_difference_update))
  | ((with_reducible refine' gmD ?slot ?hty ?I ?m ?D ?_); (case I => with_reducible assumption); (case m => walk_at "sd"); (case D => with_reducible assumption); (case slot => with_reducible first | exact PySem.F.slot_dict_setdefault | exact PySem.F.slot_dict_get | exact PySem.F.slot_dict_values); (case hty => with_reducible first | exact PySem.F.type_dict_setdefault | exact PySem.F.type_dict_get | exact PySem.F.type_dict_values))
  | ((with_reducible refine' gmL ?slot ?hty ?I ?m ?L ?_); (case I => with_reducible assumption); (case m => walk_at "sd"); (case L => with_reducible assumption); (case slot => with_reducible first | exact F.slot_list_append | exact F.slot_list_extend); (case hty => with_reducible first | exact F.type_list_append | exact F.type_list_extend))
  | ((with_reducible refine callWith_method1 ?_ ?hs ?ht); (case hs => with_unfolding_all rfl); (case ht => with_unfolding_all rfl))
  | with_reducible refine callWith_method0 ?_
  | ((with_reducible refine' exprS ?_ ?hi ?hs); (case hi => exact Frm.kind (by assumption)); (case hs => with_unfolding_all rfl))
  | with_reducible refine wpAny_isTrue_Not ?_
  | ((with_reducible refine' truthyS ?I ?m ?S ?_); (case I => with_reducible assumption); (case m => walk_at "sd"); (case S => with_reducible assumption); intro _)
  | ((with_reducible refine' truthyL ?I ?m ?L ?_); (case I => with_reducible assumption); (case m => walk_at "sd"); (case L => with_reducible assumption); intro _)
  | with_reducible refine wpAny_IfExp ?_
  | with_reducible refine isTrue_and ?_
  | with_reducible refine isTrue_and_nil ?_
  | ((with_reducible refine isTrue_plain ?_ ?he); (case he => with_unfolding_all rfl))
  | ((with_reducible refine' inS ?I ?m ?S ?_); (case I => with_reducible assumption); (case m => walk_at "sd"); (case S => with_reducible assumption); intro _)
  | ((with_reducible refine' inD ?I ?m ?D ?_); (case I => with_reducible assumption); (case m => walk_at "sd"); (case D => with_reducible assumption); intro _)
  | ((with_reducible refine' getD2 ?I ?m ?D ?_); (case I => with_reducible assumption); (case m => walk_at "sd"); (case D => with_reducible assumption); intro _)
  | ((with_reducible refine' addS ?I ?m ?S ?e ?H ?hb ?_); (case I => with_reducible assumption); (case m => walk_at "sd"); (case S => with_reducible assumption); (case e => rfl); (case H => walk_at "hole"); (case hb => omega); intro _ _ _ _ _)
  | ((with_reducible refine' appendL ?I ?m ?e ?H ?L ?hb ?_); (case I => with_reducible assumption); (case m => walk_at "sd"); (case L => with_reducible assumption); (case e => rfl); (case H => walk_at "hole"); (case hb => first | omega | (simp only [List.length_append, List.length_cons, List.length_nil]; omega)); intro _ _ _ _ _)
  | ((with_reducible refine' newD ?gd ?I ?_); (case gd => with_reducible assumption); (case I => with_reducible assumption); intro _ _ _ _ _)
  | with_reducible refine callWith_type0 ?_
  | with_reducible refine tests0 ?_
  | with_reducible refine tests1 ?_
  | with_reducible refine emit_ ?_
  | ((with_reducible refine' newS ?I ?_); (case I => with_reducible assumption); intro _ _ _ _ _)
  | ((with_reducible refine' listList ?I ?m ?L ?_); (case I => with_reducible assumption); (case m => walk_at "sd"); (case L => with_reducible assumption); intro _ _ _ _ _)
  | ((with_reducible refine' valuesD ?I ?m ?D ?_); (case I => with_reducible assumption); (case m => walk_at "sd"); (case D => with_reducible assumption); intro _ _ _ _ _)
  | ((with_reducible refine' next_spec2 ?gd ?ok ?nl ?na ?hf ?I ?m ?ho ?hs ?e ?H ?hsc ?hmany ?_); (case gd => with_reducible assumption); (case nl => with_reducible assumption); (case na => with_reducible assumption); (case hf => with_reducible assumption); (case I => with_reducible assumption); (case m => walk_at "sd"); (case ho => with_reducible assumption); (case hs => with_reducible assumption); (case ok => exact Ok.less (by assumption) (by decide)); (case e => rfl); (case H => walk_at "hole"); (case hsc => walk_at "allhas"); (case hmany => omega); intro _ _ _ _ _ _ _ _ _)
  | with_reducible refine partNone ?_
  | with_reducible refine partSome ?_
  | ((with_reducible refine' sliceAll ?I ?m ?L ?_); (case I => with_reducible assumption); (case m => walk_at "sd"); (case L => with_reducible assumption); intro _ _ _ _ _)
  | (with_reducible dsimp only [List.cons_append, List.nil_append, List.append_nil])
  )
section
variable {prog : Program} {w : World} {A : Around} {E : Value → Shared → Prop} {h G : Heap} {g : Array GenState} {d : Drawn} {t : Nat} {os : OsState}
  {env : Env} {l fo lc lg : List (Addr × Obj)} {mg mb : Str → Option Value} {k : Nat} {vs pv iv dvs : List Value} {ps : List (Int × Int)} {items : List Int} {due : List (List Int)}
  {ip sp mp rp pp up ap bp : Option Value} {il pl D : Addr} {oil opl oD : Obj} {kvs : List (Int × Value)} {dv : List (Int × Int)} {dp : Int → Int}

def dueOf (items : List Int) (dp : Int → Int) (M : Int) : List (List Int) := (List.range (1 + M).toNat).map fun k : Nat => items.filter fun a => decide (dp a = (k : Int))

set_option maxRecDepth 100000 in
set_option maxHeartbeats 4000000 in
theorem law_from8 (W : W1 prog w G mg mb) (ok : Ok A 40) (he : env.scope = fnScope (st1 10)) (gls : Gls env ["_law_next", "_law_row", "sort_as_subsets", "sort", "list", "range", "max"])
    (F : Frm env fo [("script", sp), ("state", ip), ("many", mp), ("items", some (.ref il)), ("ranks", rp), ("pairs", some (.ref pl)), ("_", up), ("a", ap), ("b", bp), ("deep", some (.ref D)), ("due", none)])
    (hps : PairsG G pv ps) (hpl : LstO opl pv) (hil : LstO oil iv) (hit : IntsAre iv items) (hD : DicO prog w D oD kvs) (hk : ∀ (i : Nat) c v, kvs[i]? = some (c, v) → ∃ n t, dv[i]? = some (c, n) ∧ v = .int n t) (hlen : dv.length = kvs.length) (hne : kvs ≠ [])
    (hdp : ∀ a ∈ items, ∃ t, valueAt kvs a = some (.int (dp a) t)) (h0 : ∀ x ∈ dv.map (·.2), 0 ≤ x ∧ x ≤ 15)
    (hb1 : ps.length ≤ 20) (hb2 : items.length ≤ 20) (hpure : ∀ M, M ∈ dv.map (·.2) → (∀ x ∈ dv.map (·.2), x ≤ M) → Layers ps items (dueOf items dp M) ∧ (dueOf items dp M).flatten.length ≤ 400)
    (I : Led G (fo ++ ((il, oil) :: (pl, opl) :: (D, oD) :: lg)) h) (Gi : GLed [] g) :
    wpAny (model prog w) A (execs ((fnBody (st1 10)).drop 8) env) (EndQ G os) NoE ⟨h, g, d, t, os⟩ := by
  have gd := W.gd
  have nrange := W.nrange
  have nmax := W.nmax
  have br : bootBuiltins "range" = some (.type "range") := by decide +kernel
  have bm : bootBuiltins "max" = some (.builtin "max") := by decide +kernel
  conv in execs _ _ => (arg 1; whnf)
  repeat walk_at "nx"
  refine AssignComp (G := G) [("items", .ref il), ("deep", .ref D)] ["k"] [] fo ?hsw F.kind F.glob F.bi (by simp only [List.map_cons, List.map_nil]; decide +kernel) rfl (F.sees fun p hp => ?sees) ?_ (fun _ => rfl)
  case hsw => unfold swapsWith; simp only [Env.blockKind, Env.kindOf, he]; rfl
  case sees =>
    simp only [List.mem_cons, List.not_mem_nil, or_false] at hp
    rcases hp with rfl | rfl <;> exact ⟨by walk_at "sd", by rw [Env.kindOf, he]; rfl⟩
  repeat walk_at "nx"
  rename_i V oV h1 hV I1
  refine maxVals ok I1 (by walk_at "sd") (by walk_at "sd") hV hD hk hlen hne fun M tk h t hM hmax I => ?_
  obtain ⟨hM0, hM1⟩ := h0 M hM
  obtain ⟨hL, hflat⟩ := hpure M hM hmax
  repeat walk_at "nx"
  rename_i R oR h3 t3 hR I3
  refine iterRange (n := (1 + M).toNat) I3 (by walk_at "sd") hR (small_of (by decide) (by omega) (.inl rfl)) (by have := rsUp (1 + M).toNat (a := 0) (b := 1 + M) (by omega); exact this) fun J oJ h hC I => ?_
  refine ⟨_, _, _, _, _, _, rfl, I, fun h' lg' Q' E' I' hq => selfR I' (by walk_at "sd") hC hq, fun cenv fo2 Z oZ h hZ I F2 S2 gls2 K => ?_⟩
  replace I := Led.jfront I
  refine compCur (fr0 := []) .l (turn_L1 ..) (Cur.range J _ _ _) ok (fun i l => ∃ fo2 vk oZ zv ic, l = fo2 ++ (Z, oZ) :: (ic ++ (fo ++ ((il, oil) :: (pl, opl) :: (D, oD) :: lg))) ∧ Frm cenv fo2 [("k", vk)] ∧ LstO oZ zv ∧
    NestL ic zv ((List.range i).map fun k : Nat => items.filter fun a => decide (dp a = (k : Int)))) (List.append_nil _).symm (I.sub (l' := (J, oJ) :: (fo2 ++ (Z, oZ) :: ([] ++ (fo ++ ((il, oil) :: (pl, opl) :: (D, oD) :: lg))))) (by simp only [List.nil_append]; walk_at "sub")) hC ⟨_, _, _, _, [], rfl, F2, hZ, .nil⟩ (fun _ _ _ _ hp => by cases hp) ?_ ?_
  · rintro i v l fr h d t - hi ⟨tk, rfl⟩ ⟨fo2, vk, oZ, zv, ic, rfl, F2, hZ, hzv⟩ I
    simp only [List.append_assoc, List.cons_append] at I
    have hzl : zv.length ≤ 16 := by rw [hzv.length, List.length_map, List.length_range]; omega
    have hbig : 16 + 1 ≤ 2 * big := by decide
    obtain ⟨kv, hkv⟩ : ∃ kv : Int, kv = 0 + (i : Int) * 1 := ⟨_, rfl⟩
    rw [← hkv]
    repeat walk_at "nx"
    rw [if_pos rfl]
    repeat walk_at "nx"
    rename_i h4 t4 fo4 I4 F4
    refine ListComp_ (G := G) [("deep", .ref D), ("k", .int kv tk)] ["a"] [] (fo ++ fo4) F4.kind F4.glob F4.bi (by simp only [List.map_cons, List.map_nil]; decide +kernel) rfl ?S3 ?_ (fun _ => rfl)
    case S3 =>
      refine Sees.app (ra := [("deep", .ref D)]) (rb := [("k", .int kv tk)]) (fun x v hx => S2 x v (by rw [List.mem_singleton.mp hx]; walk_at "sd")) (F4.sees fun p hp => ?_)
      rw [List.mem_singleton.mp hp]
      exact ⟨by walk_at "sd", (K "k" (by walk_at "sd")).trans rfl⟩
    repeat walk_at "nx"
    refine iterList I4 (by walk_at "sd") hil fun J2 oJ2 h hC2 I => ?_
    refine ⟨_, _, _, _, _, _, rfl, I, fun h' lg' Q' E' I' hq => selfL I' (by walk_at "sd") hC2 hq, fun cenv2 fo5 Y oY h hY I F5 S5 gls5 _ => ?_⟩
    replace I := Led.jfront I
    have hvk : kv = (i : Int) := by omega
    refine compCur (fr0 := []) .l (turn_L1 ..) (Cur.list J2 il oil iv hil) ok (fun j l => ∃ fo5 va oY yv, l = fo5 ++ (Y, oY) :: (fo4 ++ (Z, oZ) :: (ic ++ (fo ++ ((il, oil) :: (pl, opl) :: (D, oD) :: (lg ++ fr))))) ∧ Frm cenv2 fo5 [("a", va)] ∧ LstO oY yv ∧
      IntsAre yv ((items.take j).filter fun a => decide (dp a = kv))) (List.append_nil _).symm I hC2 ⟨_, _, _, _, rfl, F5, hY, .nil⟩ ?_ ?_ ?_
    · rintro i l ⟨fo2, vt, oZ, zv, rfl, _⟩ p hp
      rw [List.mem_singleton.mp hp]; walk_at "sd"
    · rintro j v l fr2 h d t - hj hv ⟨fo5, va, oY, yv, rfl, F5, hY, hyv⟩ I
      simp only [List.append_assoc, List.cons_append] at I
      obtain ⟨x, tx, hxt, hx⟩ := intAt' hit (i := j) (by rw [← hit.length]; exact hj)
      rw [hx] at hv
      cases hv
      obtain ⟨td, hdx⟩ := hdp x (List.mem_of_getElem? hxt)
      have hyvl : yv.length ≤ 20 := by
        rw [hyv.length]
        have := List.length_filter_le (fun a => decide (dp a = kv)) (items.take j)
        rw [List.length_take] at this; omega
      have hbig : 20 + 1 ≤ 2 * big := by decide
      have htk : (items.take (j + 1)).filter (fun a => decide (dp a = kv)) = (items.take j).filter (fun a => decide (dp a = kv)) ++ (if decide (dp x = kv) = true then [x] else []) := by
        rw [List.take_add_one, hxt, List.filter_append]
        congr 1
        rw [Option.toList_some, List.filter_cons, List.filter_nil]
      repeat walk_at "nx"
      by_cases hb : dp x = kv
      · rw [if_pos (by simpa using hb)]
        rw [if_pos (by simpa using hb)] at htk
        repeat walk_at "nx"
        refine' ⟨_, _, _, _, rfl, ?I, _, _, _, _, rfl, ?F, ?L, ?vv⟩
        case F => assumption
        case L => assumption
        case I => walk_at "led"
        case vv => rw [htk]; exact hyv.append (.cons _ _ .nil)
      · rw [if_neg (by simpa using hb)]
        rw [if_neg (by simpa using hb), List.append_nil] at htk
        refine' ⟨_, _, _, _, rfl, ?I, _, _, _, _, rfl, ?F, ?L, ?vv⟩
        case F => assumption
        case L => assumption
        case I => walk_at "led"
        case vv => rw [htk]; exact hyv
    · rintro l h d t ⟨fo5, va, oY, yv, rfl, F5, hY, hyv⟩ I
      simp only [List.append_nil] at I
      rw [List.take_of_length_le (by rw [hit.length]; exact Nat.le_refl _)] at hyv
      refine ⟨rfl, fo5, _, F5, _, I, fun h3 I3 => ?_⟩
      repeat walk_at "nx"
      rename_i h6 t6 oZ6 hZ6 I6
      refine ⟨_, _, _, fo4 ++ (Z, oZ6) :: (((Y, oY) :: ic) ++ (fo ++ ((il, oil) :: (pl, opl) :: (D, oD) :: lg))), rfl, I6.perm (by walk_at "perm"), fo4, _, oZ6, _, (Y, oY) :: ic, rfl, F4, hZ6, ?_⟩
      rw [List.range_succ, List.map_append, List.map_cons, List.map_nil, ← hvk]
      exact (hzv.mono fun p hp => List.mem_cons_of_mem _ hp).snoc List.mem_cons_self hY hyv
  · rintro l h d t ⟨fo2, vk, oZ, zv, ic, rfl, F2, hZ, hzv⟩ I
    simp only [List.append_nil] at I
    refine ⟨rfl, fo2, _, F2, ?_⟩
    dsimp only
    have I4 : Led G (fo ++ (fo2 ++ (Z, oZ) :: (ic ++ ((il, oil) :: (pl, opl) :: (D, oD) :: lg)))) h := I.perm (by walk_at "perm")
    refine asName I4 F (by walk_at "sd") fun h' t' fo4 I5 F4 => ?_
    refine ⟨fo4 ++ ((il, oil) :: (pl, opl) :: (Z, oZ) :: (ic ++ lg)), (I5.perm (l' := (D, oD) :: (fo2 ++ (fo4 ++ ((il, oil) :: (pl, opl) :: (Z, oZ) :: (ic ++ lg))))) (by walk_at "perm")).drop, fun h5 I6 => ?_⟩
    refine law_from9 W ok he gls F4 hps hpl hil hit hZ (hzv.mono fun p hp => List.mem_append_left _ hp) hL hb1 hb2 ?_ hflat I6 Gi
    rw [List.length_map, List.length_range]; omega
end
end Mine
namespace Mine

section
variable {prog : Program} {w : World} {A : Around} {E : Value → Shared → Prop} {h G : Heap} {g : Array GenState} {d : Drawn} {t : Nat} {os : OsState}
  {lg : List (Addr × Obj)} {lf : Obj → List (Addr × Obj)} {a sc f : Addr} {o osc : Obj} {ns : List Int} {u : Tok} {mg mb : Str → Option Value}
theorem next_spec2 {many : Int} (gd : Gd G mg mb) (ok : Ok A 2) (hlen : mg "len" = none) (habs : mg "abs" = none) (hf : FnIs G f "_law_next" (fnParams (st1 8)) (fnBody (st1 8)) (fnScope (st1 8)))
    (I : Led G lg h) (hm : (a, o) ∈ lg) (ho : StO sc o) (hs : IntsO osc ns) (e : lg = lf o) (H : Hole lf a) (hsc : AllHas lf (sc, osc)) (hmany : 0 < many) {Q : Value → Shared → Prop}
    (hQ : ∀ r v h' t' o', 0 ≤ r → r < many → StO sc o' → Led G (lf o') h' → Q (.int r v) ⟨h', g, d, t', os⟩) :
    wpAny (model prog w) A (call (.ref f) [.ref a, .int many u]) Q E ⟨h, g, d, t, os⟩ := by
  subst e
  exact next_spec (k := 0) gd ok hlen habs hf I H ho hsc hs hmany hQ
end

local macro_rules | `(tactic| walk_at "sub") => `(tactic| with_reducible first | exact List.Sublist.refl _ | exact List.nil_sublist _ | (refine List.Sublist.cons_cons _ ?_; walk_at "sub") | (refine List.Sublist.append (List.Sublist.refl _) ?_; walk_at "sub") | (refine List.Sublist.cons _ ?_; walk_at "sub"))
local macro_rules | `(tactic| walk_at "sd") => `(tactic| with_reducible first | assumption | exact List.mem_cons_self | exact SetV.head | exact Hole.mem (by assumption) _ | exact AllHas.mem (by assumption) _ | (refine List.mem_cons_of_mem _ ?_; walk_at "sd") | (apply SetV.tail; walk_at "sd") | (refine List.mem_append_right _ ?_; walk_at "sd") | (refine List.mem_append_left _ ?_; walk_at "sd"))
local macro_rules | `(tactic| walk_at "up") => `(tactic| with_reducible first | exact Upd.head | exact Hole.at (by assumption) _ _ | (refine Upd.tail ?_; walk_at "up") | (refine Upd.app ?_ _; walk_at "up") | (refine Upd.appl ?_ _; walk_at "up"))
local macro_rules | `(tactic| walk_at "hole") => `(tactic| first | with_reducible assumption | (intro _ _; walk_at "up"))
local macro_rules | `(tactic| walk_at "allhas") => `(tactic| first | with_reducible assumption | (intro _; walk_at "sd"))
local macro_rules | `(tactic| walk_at "led") => `(tactic| ((try simp only [List.append_assoc, List.cons_append, List.nil_append, List.append_nil]); (with_reducible refine' Led.sub ?I ?s); (case I => with_reducible assumption); (case s => walk_at "sub")))
local macro_rules | `(tactic| walk_at "sw") => `(tactic| fail "sw")
local macro_rules | `(tactic| walk_at "perm") => `(tactic| (refine permOf fun x => ?_; simp only [List.count_append, List.count_cons, List.count_nil, List.append_assoc, List.cons_append, List.nil_append] <;> omega))
local macro_rules | `(tactic| walk_at "sees") => `(tactic| first | with_reducible assumption | (intro _ _; walk_at "sd") | (intro _ hp; rcases List.mem_append.mp hp with hp | hp <;> walk_at "sd"))
local macro_rules | `(tactic| walk_at "nx") => `(tactic| first
  | with_reducible refine wpAny_execs_nil ?_
  | with_reducible refine wpAny_execs_cons ?_
  | with_reducible refine wpAny_If ?_
  | ((with_reducible refine wpAny_isTrue_Compare1 ?_ ?hs); case hs => with_unfolding_all rfl)
  | with_reducible refine wpAny_truthy_bool ?_
  | ((with_reducible refine wpAny_Compare1 ?_ ?hs); case hs => with_unfolding_all rfl)
  | ((with_reducible refine wpAny_Assign_Subscript ?_ ?hs); case hs => with_unfolding_all rfl)
  | ((with_reducible refine wpAny_Assign_Name ?_ ?hs); case hs => with_unfolding_all rfl)
  | with_reducible refine wpAny_Return_some ?_
  | with_reducible refine wpAny_BinOp ?_
  | ((with_reducible refine Slice_ ?_ ?ht); (case ht => (intro _ _; with_unfolding_all rfl)))
  | with_reducible refine Subscript_ ?_
  | ((with_reducible refine' MethodCall_ ?_ ?hs); case hs => with_unfolding_all rfl)
  | ((with_reducible refine Call_ ?_ ?hs); case hs => with_unfolding_all rfl)
  | with_reducible refine cInt ?_
  | with_reducible refine wpAny_UnaryOp ?_
  | with_reducible refine negI ?_
  | with_reducible refine addI ?_
  | with_reducible refine subI ?_
  | with_reducible refine ltI ?_
  | with_reducible refine eqI ?_
  | with_reducible refine neI ?_
  | with_reducible refine leI ?_
  | with_reducible refine gtI ?_
  | ((with_reducible refine modI ?h0 ?_); (case h0 => first | with_reducible assumption | decide | omega))
  | ((with_reducible refine divI ?h0 ?hp ?_); (case h0 => first | with_reducible assumption | decide | omega); (case hp => first | exact PyProof.noPylong_of_log2 (by decide +kernel) | exact PyProof.noPylong_small (by omega)))
  | ((with_reducible refine mulI ?h0 ?_); (case h0 => mul_fits))
  | ((with_reducible refine' ld ?I ?F ?m ?_ ?hd); (case I => with_reducible assumption); (case F => with_reducible assumption); (case m => walk_at "sd"); (case hd => decide))
  | ((with_reducible refine' ldB ?I ?F ?gls ?gd ?hx ?hmiss ?hv ?hn ?_ ?hd); (case I => with_reducible assumption); (case F => with_reducible assumption); (case gls => with_reducible assumption); (case gd => with_reducible assumption); (case hx => walk_at "sd"); (case hmiss => with_reducible assumption); (case hv => with_reducible assumption); (case hn => decide); (case hd => decide))
  | ((with_reducible refine' ldG ?I ?F ?gls ?gd ?hx ?hv ?_ ?hd); (case I => with_reducible assumption); (case F => with_reducible assumption); (case gls => with_reducible assumption); (case gd => with_reducible assumption); (case hx => walk_at "sd"); (case hv => with_reducible assumption); (case hd => decide))
  | ((with_reducible refine Assign_Tuple ?_ ?hs ?hw); (case hs => with_unfolding_all rfl); (case hw => first | with_unfolding_all rfl | exact swNone rfl | exact swNone (by walk_at "sw")))
  | ((with_reducible refine' asTuple ?ok ?I ?m ?T ?hn ?hst ?_); (case ok => with_reducible assumption); (case I => with_reducible assumption); (case m => walk_at "sd"); (case T => with_reducible assumption); (case hn => rfl); (case hst => rfl); intro _ _; (try simp only [assignEach, List.map_cons, List.map_nil]))
  | ((with_reducible refine' asTupleG ?ok ?I ?m ?T ?hn ?hst ?_); (case ok => with_reducible assumption); (case I => with_reducible assumption); (case m => with_reducible assumption); (case T => with_reducible assumption); (case hn => rfl); (case hst => rfl); intro _ _; (try simp only [assignEach, List.map_cons, List.map_nil]))
  | with_reducible refine inOrder_cons ?_
  | with_reducible refine inOrder_nil ?_
  | with_reducible refine asSub ?_
  | ((with_reducible refine' asName ?I ?F ?m ?_); (case I => with_reducible assumption); (case F => with_reducible assumption); (case m => walk_at "sd"); intro _ _ _ _ _)
  | with_reducible refine Tuple_ ?_
  | with_reducible refine List_ ?_
  | ((with_reducible refine' tupleN ?I ?hb ?_); (case I => with_reducible assumption); (case hb => first | (show _ ≤ _; simp only [List.length_cons, List.length_nil]; omega) | omega); intro _ _ _ _ _)
  | ((with_reducible refine' listN ?I ?hb ?_); (case I => with_reducible assumption); (case hb => first | (show _ ≤ _; simp only [List.length_cons, List.length_nil]; omega) | omega); intro _ _ _ _ _)
  | ((with_reducible refine' callW ?hf ?_ ?he); (case hf => with_reducible assumption); (case he => with_unfolding_all rfl))
  | ((with_reducible refine' callWD ?hf ?_ ?he); (case hf => with_reducible assumption); (case he => with_unfolding_all rfl))
  | with_reducible refine And.intro (Grd.of (by assumption)) ?_
  | ((with_reducible refine PyProof.Rows.callWith_type1 ?_ ?hs ?ht); (case hs => with_unfolding_all rfl); (case ht => with_unfolding_all rfl))
  | ((with_reducible refine' rangeC1 ?I ?_); (case I => with_reducible assumption); intro _ _ _ _ _ _)
  | ((with_reducible refine' rangeC2 ?I ?_); (case I => with_reducible assumption); intro _ _ _ _ _ _)
  | ((with_reducible refine' rangeC3 ?I ?hc ?hp ?_); (case I => with_reducible assumption); (case hc => first | decide | omega); (case hp => first | exact PyProof.noPylong_of_log2 (by decide +kernel) | exact PyProof.noPylong_small (by omega)); intro _ _ _ _ _ _)
  | ((with_reducible refine wpAny_For ?_ ?hs); case hs => (intro _; rfl))
  | ((with_reducible refine callWith_builtin1 ?_ ?hs ?ht); (case hs => with_unfolding_all rfl); (case ht => with_unfolding_all rfl))
  | ((with_reducible refine args_cons ?_ ?hs); (case hs => with_unfolding_all rfl))
  | with_reducible refine args_nil ?_
  | ((with_reducible refine' subL ?I ?m ?L ?h0 ?hx ?_ ?hs); (case I => with_reducible assumption); (case m => walk_at "sd"); (case L => with_reducible assumption); (case h0 => first | decide | omega); (case hx => first | with_reducible assumption | rfl); (case hs => with_unfolding_all rfl))
  | ((with_reducible refine' subD ?I ?m ?D ?hv ?_ ?hs); (case I => with_reducible assumption); (case m => walk_at "sd"); (case D => with_reducible assumption); (case hv => with_reducible assumption); (case hs => with_unfolding_all rfl); intro _)
  | ((with_reducible refine' setL ?I ?m ?L ?e ?H ?h0 ?hk ?hv ?_); (case I => with_reducible assumption); (case m => walk_at "sd"); (case L => with_reducible assumption); (case e => rfl); (case H => walk_at "hole"); (case h0 => first | decide | omega); (case hk => first | omega | (simp only [List.length_cons, List.length_nil, List.length_set, Int.reduceToNat]; omega)); (case hv => first | ((simp only [Int.reduceToNat, List.set_cons_zero, List.set_cons_succ]; done)) | ((simp only [Int.reduceToNat, List.set_cons_zero, List.set_cons_succ]; rfl)) | rfl); intro _ _ _ _ _)
  | ((with_reducible refine' lenL ?I ?m ?L ?_); (case I => with_reducible assumption); (case m => walk_at "sd"); (case L => with_reducible assumption); intro _ _)
  | ((with_reducible refine absI ?_); intro _ _)
  | ((with_reducible refine' st ?I ?F ?m ?_); (case I => with_reducible assumption); (case F => with_reducible assumption); (case m => walk_at "sd"); intro _ _ _ _ _)
  | ((with_reducible refine' ldS ?I ?hk ?S ?sub ?m ?_ ?hd); (case I => with_reducible assumption); (case hk => exact Frm.kind (by assumption)); (case S => with_reducible assumption); (case sub => walk_at "sees"); (case m => walk_at "sd"); (case hd => decide))
  | ((with_reducible refine' gmS ?slot ?hty ?I ?m ?S ?_); (case I => with_reducible assumption); (case m => walk_at "sd"); (case S => with_reducible assumption); (case slot => with_reducible first | exact F.slot_set_add | exact F.slot_set_isdisjoint | exact F.slot_set_difference_update); (case hty => with_reducible first | exact F.type_set_add | exact F.type_set_isdisjoint | exact F.type_set_difference_update))
  | ((with_reducible refine' gmD ?slot ?hty ?I ?m ?D ?_); (case I => with_reducible assumption); (case m => walk_at "sd"); (case D => with_reducible assumption); (case slot => with_reducible first | exact PySem.F.slot_dict_setdefault | exact PySem.F.slot_dict_get | exact PySem.F.slot_dict_values); (case hty => with_reducible first | exact PySem.F.type_dict_setdefault | exact PySem.F.type_dict_get | exact PySem.F.type_dict_values))
  | ((with_reducible refine' gmL ?slot ?hty ?I ?m ?L ?_); (case I => with_reducible assumption); (case m => walk_at "sd"); (case L => with_reducible assumption); (case slot => with_reducible first | exact F.slot_list_append | exact F.slot_list_extend); (case hty => with_reducible first | exact F.type_list_append | exact F.type_list_extend))
  | ((with_reducible refine callWith_method1 ?_ ?hs ?ht); (case hs => with_unfolding_all rfl); (case ht => with_unfolding_all rfl))
  | with_reducible refine callWith_method0 ?_
  | ((with_reducible refine' exprS ?_ ?hi ?hs); (case hi => exact Frm.kind (by assumption)); (case hs => with_unfolding_all rfl))
  | with_reducible refine wpAny_isTrue_Not ?_
  | ((with_reducible refine' truthyS ?I ?m ?S ?_); (case I => with_reducible assumption); (case m => walk_at "sd"); (case S => with_reducible assumption); intro _)
  | ((with_reducible refine' truthyL ?I ?m ?L ?_); (case I => with_reducible assumption); (case m => walk_at "sd"); (case L => with_reducible assumption); intro _)
  | with_reducible refine wpAny_IfExp ?_
  | with_reducible refine isTrue_and ?_
  | with_reducible refine isTrue_and_nil ?_
  | ((with_reducible refine isTrue_plain ?_ ?he); (case he => with_unfolding_all rfl))
  | ((with_reducible refine' inS ?I ?m ?S ?_); (case I => with_reducible assumption); (case m => walk_at "sd"); (case S => with_reducible assumption); intro _)
  | ((with_reducible refine' inD ?I ?m ?D ?_); (case I => with_reducible assumption); (case m => walk_at "sd"); (case D => with_reducible assumption); intro _)
  | ((with_reducible refine' getD2 ?I ?m ?D ?_); (case I => with_reducible assumption); (case m => walk_at "sd"); (case D => with_reducible assumption); intro _)
  | ((with_reducible refine' addS ?I ?m ?S ?e ?H ?hb ?_); (case I => with_reducible assumption); (case m => walk_at "sd"); (case S => with_reducible assumption); (case e => rfl); (case H => walk_at "hole"); (case hb => omega); intro _ _ _ _ _)
  | ((with_reducible refine' appendL ?I ?m ?e ?H ?L ?hb ?_); (case I => with_reducible assumption); (case m => walk_at "sd"); (case L => with_reducible assumption); (case e => rfl); (case H => walk_at "hole"); (case hb => first | omega | (simp only [List.length_append, List.length_cons, List.length_nil]; omega)); intro _ _ _ _ _)
  | ((with_reducible refine' newD ?gd ?I ?_); (case gd => with_reducible assumption); (case I => with_reducible assumption); intro _ _ _ _ _)
  | with_reducible refine callWith_type0 ?_
  | with_reducible refine tests0 ?_
  | with_reducible refine tests1 ?_
  | with_reducible refine emit_ ?_
  | ((with_reducible refine' newS ?I ?_); (case I => with_reducible assumption); intro _ _ _ _ _)
  | ((with_reducible refine' listList ?I ?m ?L ?_); (case I => with_reducible assumption); (case m => walk_at "sd"); (case L => with_reducible assumption); intro _ _ _ _ _)
  | ((with_reducible refine' valuesD ?I ?m ?D ?_); (case I => with_reducible assumption); (case m => walk_at "sd"); (case D => with_reducible assumption); intro _ _ _ _ _)
  | ((with_reducible refine' next_spec2 ?gd ?ok ?nl ?na ?hf ?I ?m ?ho ?hs ?e ?H ?hsc ?hmany ?_); (case gd => with_reducible assumption); (case nl => with_reducible assumption); (case na => with_reducible assumption); (case hf => with_reducible assumption); (case I => with_reducible assumption); (case m => walk_at "sd"); (case ho => with_reducible assumption); (case hs => with_reducible assumption); (case ok => exact Ok.less (by assumption) (by decide)); (case e => rfl); (case H => walk_at "hole"); (case hsc => walk_at "allhas"); (case hmany => omega); intro _ _ _ _ _ _ _ _ _)
  | with_reducible refine partNone ?_
  | with_reducible refine partSome ?_
  | ((with_reducible refine' sliceAll ?I ?m ?L ?_); (case I => with_reducible assumption); (case m => walk_at "sd"); (case L => with_reducible assumption); intro _ _ _ _ _)
  | (with_reducible dsimp only [List.cons_append, List.nil_append, List.append_nil])
  )
section
variable {prog : Program} {w : World} {A : Around} {E : Value → Shared → Prop} {h G : Heap} {g : Array GenState} {d : Drawn} {t : Nat} {os : OsState}
  {env : Env} {l fo lc lg : List (Addr × Obj)} {mg mb : Str → Option Value} {k : Nat} {vs pv iv dvs : List Value} {ps : List (Int × Int)} {items ns : List Int} {due : List (List Int)}
  {sp rp pp up ap bp : Option Value} {il pl D sa sc : Addr} {oil opl oD oS osc : Obj} {kvs : List (Int × Value)} {dv : List (Int × Int)} {dp : Int → Int} {many : Int} {um : Tok}

set_option maxRecDepth 100000 in
set_option maxHeartbeats 4000000 in
theorem law_from7 (W : W1 prog w G mg mb) (ok : Ok A 40) (he : env.scope = fnScope (st1 10)) (gls : Gls env ["_law_next", "_law_row", "sort_as_subsets", "sort", "list", "range", "max"])
    (F : Frm env fo [("script", sp), ("state", some (.ref sa)), ("many", some (.int many um)), ("items", some (.ref il)), ("ranks", rp), ("pairs", some (.ref pl)), ("_", up), ("a", ap), ("b", bp), ("deep", some (.ref D)), ("due", none)])
    (hS : StO sc oS) (hsc : IntsO osc ns)
    (hps : PairsG G pv ps) (hpl : LstO opl pv) (hil : LstO oil iv) (hit : IntsAre iv items) (hmany : (items.length : Int) = many) (hD : DicO prog w D oD kvs) (hk : ∀ (i : Nat) c v, kvs[i]? = some (c, v) → ∃ n t, dv[i]? = some (c, n) ∧ v = .int n t) (hlen : dv.length = kvs.length) (hne : kvs ≠ [])
    (hdp : ∀ a ∈ items, ∃ t, valueAt kvs a = some (.int (dp a) t)) (h0 : ∀ x ∈ dv.map (·.2), 0 ≤ x ∧ x ≤ 15)
    (hb1 : ps.length ≤ 20) (hb2 : items.length ≤ 10) (hb0 : 0 < items.length)
    (hpure : ∀ it, (it = items ∨ ∃ x ∈ items, it = items ++ [x]) → ∀ M, M ∈ dv.map (·.2) → (∀ x ∈ dv.map (·.2), x ≤ M) → Layers ps it (dueOf it dp M) ∧ (dueOf it dp M).flatten.length ≤ 400)
    (I : Led G (fo ++ ((sa, oS) :: (sc, osc) :: (il, oil) :: (pl, opl) :: (D, oD) :: lg)) h) (Gi : GLed [] g) :
    wpAny (model prog w) A (execs ((fnBody (st1 10)).drop 7) env) (EndQ G os) NoE ⟨h, g, d, t, os⟩ := by
  have gd := W.gd
  obtain ⟨fnx, hnx, hfnx⟩ := W.next
  have nlen := W.nlen
  have nabs := W.nabs
  rw [show (fnBody (st1 10)).drop 7 = (fnBody (st1 10)).getD 7 (.Pass default) :: (fnBody (st1 10)).drop 8 from rfl]
  refine wpAny_execs_cons ?_
  conv in exec _ _ => (arg 1; whnf)
  repeat walk_at "nx"
  rename_i r tr h1 t1 oS1 hr0 hr1 hS1 I1
  by_cases h3 : r = 3
  · rw [if_pos (by simpa using h3)]
    repeat walk_at "nx"
    rename_i r2 tr2 h2 t2 oS2 hr20 hr21 hS2 I2
    obtain ⟨x, tx, hxx, hx⟩ := intAt' hit (i := r2.toNat) (by omega)
    have hivl : iv.length ≤ 10 := by rw [hit.length]; exact hb2
    have hbig : 10 + 1 ≤ 2 * big := by decide
    repeat walk_at "nx"
    rename_i h4 t4 oil4 hil4 I4
    have hxm : x ∈ items := List.mem_of_getElem? hxx
    have I5 : Led G (fo ++ ((il, oil4) :: (pl, opl) :: (D, oD) :: ((sa, oS2) :: (sc, osc) :: lg))) h4 := I4.perm (by walk_at "perm")
    refine law_from8 W ok he gls F hps hpl hil4 (hit.append (.cons x tx .nil)) hD hk hlen hne (fun a ha => ?_) h0 hb1 (by simp; omega) (hpure _ (.inr ⟨x, hxm, rfl⟩)) I5 Gi
    rcases List.mem_append.mp ha with ha | ha
    · exact hdp a ha
    · rw [List.mem_singleton.mp ha]; exact hdp x hxm
  · rw [if_neg (by simpa using h3)]
    repeat walk_at "nx"
    have I5 : Led G (fo ++ ((il, oil) :: (pl, opl) :: (D, oD) :: ((sa, oS1) :: (sc, osc) :: lg))) h1 := I1.perm (by walk_at "perm")
    exact law_from8 W ok he gls F hps hpl hil hit hD hk hlen hne hdp h0 hb1 (by omega) (hpure _ (.inl rfl)) I5 Gi
end
end Mine
namespace Mine

local macro_rules | `(tactic| walk_at "sub") => `(tactic| with_reducible first | exact List.Sublist.refl _ | exact List.nil_sublist _ | (refine List.Sublist.cons_cons _ ?_; walk_at "sub") | (refine List.Sublist.append (List.Sublist.refl _) ?_; walk_at "sub") | (refine List.Sublist.cons _ ?_; walk_at "sub"))
local macro_rules | `(tactic| walk_at "sd") => `(tactic| with_reducible first | assumption | exact List.mem_cons_self | exact SetV.head | exact Hole.mem (by assumption) _ | exact AllHas.mem (by assumption) _ | (refine List.mem_cons_of_mem _ ?_; walk_at "sd") | (apply SetV.tail; walk_at "sd") | (refine List.mem_append_right _ ?_; walk_at "sd") | (refine List.mem_append_left _ ?_; walk_at "sd"))
local macro_rules | `(tactic| walk_at "up") => `(tactic| with_reducible first | exact Upd.head | exact Hole.at (by assumption) _ _ | (refine Upd.tail ?_; walk_at "up") | (refine Upd.app ?_ _; walk_at "up") | (refine Upd.appl ?_ _; walk_at "up"))
local macro_rules | `(tactic| walk_at "hole") => `(tactic| first | with_reducible assumption | (intro _ _; walk_at "up"))
local macro_rules | `(tactic| walk_at "allhas") => `(tactic| first | with_reducible assumption | (intro _; walk_at "sd"))
local macro_rules | `(tactic| walk_at "led") => `(tactic| ((try simp only [List.append_assoc, List.cons_append, List.nil_append, List.append_nil]); (with_reducible refine' Led.sub ?I ?s); (case I => with_reducible assumption); (case s => walk_at "sub")))
local macro_rules | `(tactic| walk_at "sw") => `(tactic| fail "sw")
local macro_rules | `(tactic| walk_at "perm") => `(tactic| (refine permOf fun x => ?_; simp only [List.count_append, List.count_cons, List.count_nil, List.append_assoc, List.cons_append, List.nil_append] <;> omega))
local macro_rules | `(tactic| walk_at "sees") => `(tactic| first | with_reducible assumption | (intro _ _; walk_at "sd") | (intro _ hp; rcases List.mem_append.mp hp with hp | hp <;> walk_at "sd"))
local macro_rules | `(tactic| walk_at "nx") => `(tactic| first
  | with_reducible refine wpAny_execs_nil ?_
  | with_reducible refine wpAny_execs_cons ?_
  | with_reducible refine wpAny_If ?_
  | ((with_reducible refine wpAny_isTrue_Compare1 ?_ ?hs); case hs => with_unfolding_all rfl)
  | with_reducible refine wpAny_truthy_bool ?_
  | ((with_reducible refine wpAny_Compare1 ?_ ?hs); case hs => with_unfolding_all rfl)
  | ((with_reducible refine wpAny_Assign_Subscript ?_ ?hs); case hs => with_unfolding_all rfl)
  | ((with_reducible refine wpAny_Assign_Name ?_ ?hs); case hs => with_unfolding_all rfl)
  | with_reducible refine wpAny_Return_some ?_
  | with_reducible refine wpAny_BinOp ?_
  | ((with_reducible refine Slice_ ?_ ?ht); (case ht => (intro _ _; with_unfolding_all rfl)))
  | with_reducible refine Subscript_ ?_
  | ((with_reducible refine' MethodCall_ ?_ ?hs); case hs => with_unfolding_all rfl)
  | ((with_reducible refine Call_ ?_ ?hs); case hs => with_unfolding_all rfl)
  | with_reducible refine cInt ?_
  | with_reducible refine wpAny_UnaryOp ?_
  | with_reducible refine negI ?_
  | with_reducible refine addI ?_
  | with_reducible refine subI ?_
  | with_reducible refine ltI ?_
  | with_reducible refine eqI ?_
  | with_reducible refine neI ?_
  | with_reducible refine leI ?_
  | with_reducible refine gtI ?_
  | ((with_reducible refine modI ?h0 ?_); (case h0 => first | with_reducible assumption | decide | omega))
  | ((with_reducible refine divI ?h0 ?hp ?_); (case h0 => first | with_reducible assumption | decide | omega); (case hp => first | exact PyProof.noPylong_of_log2 (by decide +kernel) | exact PyProof.noPylong_small (by omega)))
  | ((with_reducible refine mulI ?h0 ?_); (case h0 => mul_fits))
  | ((with_reducible refine' ld ?I ?F ?m ?_ ?hd); (case I => with_reducible assumption); (case F => with_reducible assumption); (case m => walk_at "sd"); (case hd => decide))
  | ((with_reducible refine' ldB ?I ?F ?gls ?gd ?hx ?hmiss ?hv ?hn ?_ ?hd); (case I => with_reducible assumption); (case F => with_reducible assumption); (case gls => with_reducible assumption); (case gd => with_reducible assumption); (case hx => walk_at "sd"); (case hmiss => with_reducible assumption); (case hv => with_reducible assumption); (case hn => decide); (case hd => decide))
  | ((with_reducible refine' ldG ?I ?F ?gls ?gd ?hx ?hv ?_ ?hd); (case I => with_reducible assumption); (case F => with_reducible assumption); (case gls => with_reducible assumption); (case gd => with_reducible assumption); (case hx => walk_at "sd"); (case hv => with_reducible assumption); (case hd => decide))
  | ((with_reducible refine Assign_Tuple ?_ ?hs ?hw); (case hs => with_unfolding_all rfl); (case hw => first | with_unfolding_all rfl | exact swNone rfl | exact swNone (by walk_at "sw")))
  | ((with_reducible refine' asTuple ?ok ?I ?m ?T ?hn ?hst ?_); (case ok => with_reducible assumption); (case I => with_reducible assumption); (case m => walk_at "sd"); (case T => with_reducible assumption); (case hn => rfl); (case hst => rfl); intro _ _; (try simp only [assignEach, List.map_cons, List.map_nil]))
  | ((with_reducible refine' asTupleG ?ok ?I ?m ?T ?hn ?hst ?_); (case ok => with_reducible assumption); (case I => with_reducible assumption); (case m => with_reducible assumption); (case T => with_reducible assumption); (case hn => rfl); (case hst => rfl); intro _ _; (try simp only [assignEach, List.map_cons, List.map_nil]))
  | with_reducible refine inOrder_cons ?_
  | with_reducible refine inOrder_nil ?_
  | with_reducible refine asSub ?_
  | ((with_reducible refine' asName ?I ?F ?m ?_); (case I => with_reducible assumption); (case F => with_reducible assumption); (case m => walk_at "sd"); intro _ _ _ _ _)
  | with_reducible refine Tuple_ ?_
  | with_reducible refine List_ ?_
  | ((with_reducible refine' tupleN ?I ?hb ?_); (case I => with_reducible assumption); (case hb => first | (show _ ≤ _; simp only [List.length_cons, List.length_nil]; omega) | omega); intro _ _ _ _ _)
  | ((with_reducible refine' listN ?I ?hb ?_); (case I => with_reducible assumption); (case hb => first | (show _ ≤ _; simp only [List.length_cons, List.length_nil]; omega) | omega); intro _ _ _ _ _)
  | ((with_reducible refine' callW ?hf ?_ ?he); (case hf => with_reducible assumption); (case he => with_unfolding_all rfl))
  | ((with_reducible refine' callWD ?hf ?_ ?he); (case hf => with_reducible assumption); (case he => with_unfolding_all rfl))
  | with_reducible refine And.intro (Grd.of (by assumption)) ?_
  | ((with_reducible refine PyProof.Rows.callWith_type1 ?_ ?hs ?ht); (case hs => with_unfolding_all rfl); (case ht => with_unfolding_all rfl))
  | ((with_reducible refine' rangeC1 ?I ?_); (case I => with_reducible assumption); intro _ _ _ _ _ _)
  | ((with_reducible refine' rangeC2 ?I ?_); (case I => with_reducible assumption); intro _ _ _ _ _ _)
  | ((with_reducible refine' rangeC3 ?I ?hc ?hp ?_); (case I => with_reducible assumption); (case hc => first | decide | omega); (case hp => first | exact PyProof.noPylong_of_log2 (by decide +kernel) | exact PyProof.noPylong_small (by omega)); intro _ _ _ _ _ _)
  | ((with_reducible refine wpAny_For ?_ ?hs); case hs => (intro _; rfl))
  | ((with_reducible refine callWith_builtin1 ?_ ?hs ?ht); (case hs => with_unfolding_all rfl); (case ht => with_unfolding_all rfl))
  | ((with_reducible refine args_cons ?_ ?hs); (case hs => with_unfolding_all rfl))
  | with_reducible refine args_nil ?_
  | ((with_reducible refine' subL ?I ?m ?L ?h0 ?hx ?_ ?hs); (case I => with_reducible assumption); (case m => walk_at "sd"); (case L => with_reducible assumption); (case h0 => first | decide | omega); (case hx => first | with_reducible assumption | rfl); (case hs => with_unfolding_all rfl))
  | ((with_reducible refine' subD ?I ?m ?D ?hv ?_ ?hs); (case I => with_reducible assumption); (case m => walk_at "sd"); (case D => with_reducible assumption); (case hv => with_reducible assumption); (case hs => with_unfolding_all rfl); intro _)
  | ((with_reducible refine' setL ?I ?m ?L ?e ?H ?h0 ?hk ?hv ?_); (case I => with_reducible assumption); (case m => walk_at "sd"); (case L => with_reducible assumption); (case e => rfl); (case H => walk_at "hole"); (case h0 => first | decide | omega); (case hk => first | omega | (simp only [List.length_cons, List.length_nil, List.length_set, Int.reduceToNat]; omega)); (case hv => first | ((simp only [Int.reduceToNat, List.set_cons_zero, List.set_cons_succ]; done)) | ((simp only [Int.reduceToNat, List.set_cons_zero, List.set_cons_succ]; rfl)) | rfl); intro _ _ _ _ _)
  | ((with_reducible refine' lenL ?I ?m ?L ?_); (case I => with_reducible assumption); (case m => walk_at "sd"); (case L => with_reducible assumption); intro _ _)
  | ((with_reducible refine absI ?_); intro _ _)
  | ((with_reducible refine' st ?I ?F ?m ?_); (case I => with_reducible assumption); (case F => with_reducible assumption); (case m => walk_at "sd"); intro _ _ _ _ _)
  | ((with_reducible refine' ldS ?I ?hk ?S ?sub ?m ?_ ?hd); (case I => with_reducible assumption); (case hk => exact Frm.kind (by assumption)); (case S => with_reducible assumption); (case sub => walk_at "sees"); (case m => walk_at "sd"); (case hd => decide))
  | ((with_reducible refine' gmS ?slot ?hty ?I ?m ?S ?_); (case I => with_reducible assumption); (case m => walk_at "sd"); (case S => with_reducible assumption); (case slot => with_reducible first | exact F.slot_set_add | exact F.slot_set_isdisjoint | exact F.slot_set_difference_update); (case hty => with_reducible first | exact F.type_set_add | exact F.type_set_isdisjoint | exact F.type_set_difference_update))
  | ((with_reducible refine' gmD ?slot ?hty ?I ?m ?D ?_); (case I => with_reducible assumption); (case m => walk_at "sd"); (case D => with_reducible assumption); (case slot => with_reducible first | exact PySem.F.slot_dict_setdefault | exact PySem.F.slot_dict_get | exact PySem.F.slot_dict_values); (case hty => with_reducible first | exact PySem.F.type_dict_setdefault | exact PySem.F.type_dict_get | exact PySem.F.type_dict_values))
  | ((with_reducible refine' gmL ?slot ?hty ?I ?m ?L ?_); (case I => with_reducible assumption); (case m => walk_at "sd"); (case L => with_reducible assumption); (case slot => with_reducible first | exact F.slot_list_append | exact F.slot_list_extend); (case hty => with_reducible first | exact F.type_list_append | exact F.type_list_extend))
  | ((with_reducible refine callWith_method1 ?_ ?hs ?ht); (case hs => with_unfolding_all rfl); (case ht => with_unfolding_all rfl))
  | with_reducible refine callWith_method0 ?_
  | ((with_reducible refine' exprS ?_ ?hi ?hs); (case hi => exact Frm.kind (by assumption)); (case hs => with_unfolding_all rfl))
  | with_reducible refine wpAny_isTrue_Not ?_
  | ((with_reducible refine' truthyS ?I ?m ?S ?_); (case I => with_reducible assumption); (case m => walk_at "sd"); (case S => with_reducible assumption); intro _)
  | ((with_reducible refine' truthyL ?I ?m ?L ?_); (case I => with_reducible assumption); (case m => walk_at "sd"); (case L => with_reducible assumption); intro _)
  | with_reducible refine wpAny_IfExp ?_
  | with_reducible refine isTrue_and ?_
  | with_reducible refine isTrue_and_nil ?_
  | ((with_reducible refine isTrue_plain ?_ ?he); (case he => with_unfolding_all rfl))
  | ((with_reducible refine' inS ?I ?m ?S ?_); (case I => with_reducible assumption); (case m => walk_at "sd"); (case S => with_reducible assumption); intro _)
  | ((with_reducible refine' inD ?I ?m ?D ?_); (case I => with_reducible assumption); (case m => walk_at "sd"); (case D => with_reducible assumption); intro _)
  | ((with_reducible refine' getD2 ?I ?m ?D ?_); (case I => with_reducible assumption); (case m => walk_at "sd"); (case D => with_reducible assumption); intro _)
  | ((with_reducible refine' addS ?I ?m ?S ?e ?H ?hb ?_); (case I => with_reducible assumption); (case m => walk_at "sd"); (case S => with_reducible assumption); (case e => rfl); (case H => walk_at "hole"); (case hb => omega); intro _ _ _ _ _)
  | ((with_reducible refine' appendL ?I ?m ?e ?H ?L ?hb ?_); (case I => with_reducible assumption); (case m => walk_at "sd"); (case L => with_reducible assumption); (case e => rfl); (case H => walk_at "hole"); (case hb => first | omega | (simp only [List.length_append, List.length_cons, List.length_nil]; omega)); intro _ _ _ _ _)
  | ((with_reducible refine' newD ?gd ?I ?_); (case gd => with_reducible assumption); (case I => with_reducible assumption); intro _ _ _ _ _)
  | with_reducible refine callWith_type0 ?_
  | with_reducible refine tests0 ?_
  | with_reducible refine tests1 ?_
  | with_reducible refine emit_ ?_
  | ((with_reducible refine' newS ?I ?_); (case I => with_reducible assumption); intro _ _ _ _ _)
  | ((with_reducible refine' listList ?I ?m ?L ?_); (case I => with_reducible assumption); (case m => walk_at "sd"); (case L => with_reducible assumption); intro _ _ _ _ _)
  | ((with_reducible refine' valuesD ?I ?m ?D ?_); (case I => with_reducible assumption); (case m => walk_at "sd"); (case D => with_reducible assumption); intro _ _ _ _ _)
  | ((with_reducible refine' next_spec2 ?gd ?ok ?nl ?na ?hf ?I ?m ?ho ?hs ?e ?H ?hsc ?hmany ?_); (case gd => with_reducible assumption); (case nl => with_reducible assumption); (case na => with_reducible assumption); (case hf => with_reducible assumption); (case I => with_reducible assumption); (case m => walk_at "sd"); (case ho => with_reducible assumption); (case hs => with_reducible assumption); (case ok => exact Ok.less (by assumption) (by decide)); (case e => rfl); (case H => walk_at "hole"); (case hsc => walk_at "allhas"); (case hmany => omega); intro _ _ _ _ _ _ _ _ _)
  | with_reducible refine partNone ?_
  | with_reducible refine partSome ?_
  | ((with_reducible refine' sliceAll ?I ?m ?L ?_); (case I => with_reducible assumption); (case m => walk_at "sd"); (case L => with_reducible assumption); intro _ _ _ _ _)
  | (with_reducible dsimp only [List.cons_append, List.nil_append, List.append_nil])
  )
section
variable {prog : Program} {w : World} {A : Around} {E : Value → Shared → Prop} {h G : Heap} {g : Array GenState} {d : Drawn} {t : Nat} {os : OsState}
  {env : Env} {l fo lc lg : List (Addr × Obj)} {mg mb : Str → Option Value} {k : Nat} {vs pv iv rv dvs : List Value} {ps : List (Int × Int)} {items rs ns : List Int} {due : List (List Int)}
  {sp rp pp up ap bp : Option Value} {il rl pl D sa sc : Addr} {oil orl opl oD oS osc : Obj} {kvs : List (Int × Value)} {many : Nat} {um : Tok}

def rkOf (rs : List Int) (a : Int) : Int := rs.getD a.toNat 0

/-- what the pure part has to show -/
def Pure1 (ps : List (Int × Int)) (items rs : List Int) (many : Nat) : Prop := ∀ dv : List (Int × Int), dv.map (·.1) = ordOf items (rkOf rs) many → DProp ps dv → 
  (∀ a ∈ items, dget dv a = some ((dget dv a).getD 0)) ∧ (∀ x ∈ dv.map (·.2), 0 ≤ x ∧ x ≤ 15) ∧ dv ≠ [] ∧ 
  ∀ it, (it = items ∨ ∃ x ∈ items, it = items ++ [x]) → ∀ M, M ∈ dv.map (·.2) → (∀ x ∈ dv.map (·.2), x ≤ M) → Layers ps it (dueOf it (fun a => (dget dv a).getD 0) M) ∧ (dueOf it (fun a => (dget dv a).getD 0) M).flatten.length ≤ 400

set_option maxRecDepth 100000 in
set_option maxHeartbeats 4000000 in
theorem law_from5 (W : W1 prog w G mg mb) (ok : Ok A 40) (he : env.scope = fnScope (st1 10)) (gls : Gls env ["_law_next", "_law_row", "sort_as_subsets", "sort", "list", "range", "max"])
    (F : Frm env fo [("script", sp), ("state", some (.ref sa)), ("many", some (.int many um)), ("items", some (.ref il)), ("ranks", some (.ref rl)), ("pairs", some (.ref pl)), ("_", up), ("a", ap), ("b", bp), ("deep", none), ("due", none)])
    (hS : StO sc oS) (hsc : IntsO osc ns)
    (hps : PairsG G pv ps) (hpl : LstO opl pv) (hil : LstO oil iv) (hit : IntsAre iv items) (hrl : LstO orl rv) (hrt : IntsAre rv rs) (hmany : items.length = many) (hrs : rs.length = many) (hin : ∀ a ∈ items, 0 ≤ a ∧ a < (many : Int))
    (hord : (ordOf items (rkOf rs) many).length ≤ 20) (hondup : (ordOf items (rkOf rs) many).Nodup)
    (hb1 : ps.length ≤ 20) (hb2 : items.length ≤ 10) (hb0 : 0 < items.length) (hpure : Pure1 ps items rs many)
    (I : Led G (fo ++ ((sa, oS) :: (sc, osc) :: (il, oil) :: (rl, orl) :: (pl, opl) :: lg)) h) (Gi : GLed [] g) :
    wpAny (model prog w) A (execs ((fnBody (st1 10)).drop 5) env) (EndQ G os) NoE ⟨h, g, d, t, os⟩ := by
  have gd := W.gd
  have nrange := W.nrange
  have nmax := W.nmax
  have br : bootBuiltins "range" = some (.type "range") := by decide +kernel
  have bm : bootBuiltins "max" = some (.builtin "max") := by decide +kernel
  rw [show (fnBody (st1 10)).drop 5 = (fnBody (st1 10)).getD 5 (.Pass default) :: (fnBody (st1 10)).getD 6 (.Pass default) :: (fnBody (st1 10)).drop 7 from rfl]
  refine wpAny_execs_cons ?_
  conv in exec _ _ => (arg 1; whnf)
  repeat walk_at "nx"
  conv in exec _ _ => (arg 1; whnf)
  repeat walk_at "nx"
  rename_i D oD h1 hD I1 h2 t2 fo2 I2 F2
  refine ListComp_ (G := G) [("items", .ref il), ("ranks", .ref rl)] ["k", "a"] [] fo2 F2.kind F2.glob F2.bi (by simp only [List.map_cons, List.map_nil]; decide +kernel) rfl (F2.sees fun p hp => ?sees) ?_ (fun _ => rfl)
  case sees =>
    simp only [List.mem_cons, List.not_mem_nil, or_false] at hp
    rcases hp with rfl | rfl <;> exact ⟨by walk_at "sd", by rw [Env.kindOf, he]; rfl⟩
  repeat walk_at "nx"
  rename_i R oR h3 t3 hR I3
  refine iterRange (n := many) I3 (by walk_at "sd") hR (small_of (by decide) (by omega) (.inl rfl)) (by have := rsUp many (a := 0) (b := (many : Int)) (by omega); exact this) fun J oJ h hC I => ?_
  refine ⟨_, _, _, _, _, _, rfl, I, fun h' lg' Q' E' I' hq => selfR I' (by walk_at "sd") hC hq, fun cenv fo3 Z oZ h hZ I F3 S3 gls3 K => ?_⟩
  replace I := Led.jfront I
  refine compCur (fr0 := []) .l (turn_L2o ..) (Cur.range J _ _ _) ok (fun i l => ∃ fo3 v1 v2 oZ zv, l = fo3 ++ (Z, oZ) :: (fo2 ++ ((D, oD) :: (sa, oS) :: (sc, osc) :: (il, oil) :: (rl, orl) :: (pl, opl) :: lg)) ∧ Frm cenv fo3 [("k", v1), ("a", v2)] ∧ LstO oZ zv ∧
    IntsAre zv (ordOf items (rkOf rs) i)) (List.append_nil _).symm (I.sub (l' := (J, oJ) :: (fo3 ++ (Z, oZ) :: (fo2 ++ ((D, oD) :: (sa, oS) :: (sc, osc) :: (il, oil) :: (rl, orl) :: (pl, opl) :: lg)))) (by walk_at "sub")) hC ⟨_, _, _, _, _, rfl, F3, hZ, .nil⟩ (fun _ _ _ _ hp => by cases hp) ?_ ?_
  · rintro i v l fr h d t - hi ⟨tk, rfl⟩ ⟨fo3, v1, v2, oZ, zv, rfl, F3, hZ, hzv⟩ I
    simp only [List.append_assoc, List.cons_append] at I
    obtain ⟨kv, hkv⟩ : ∃ kv : Int, kv = 0 + (i : Int) * 1 := ⟨_, rfl⟩
    rw [← hkv]
    have hvk : kv = (i : Int) := by omega
    repeat walk_at "nx"
    rw [if_pos rfl]
    refine inner_ ?_ (fun _ => rfl)
    repeat walk_at "nx"
    rename_i h4 t4 fo4 I4 F4
    refine iterList I4 (by walk_at "sd") hil fun J2 oJ2 h hC2 I => ?_
    refine compStart_ .l rfl (fun Q' E' hq => selfL I (by walk_at "sd") hC2 hq) ?_
    refine compCur (fr0 := fr) .l (turn_L2i ..) (Cur.list J2 il oil iv hil) ok (fun j l => ∃ fo3 v1 oZ zv, l = fo3 ++ (Z, oZ) :: (fo2 ++ ((D, oD) :: (sa, oS) :: (sc, osc) :: (il, oil) :: (rl, orl) :: (pl, opl) :: lg)) ∧ Frm cenv fo3 [("k", some (.int kv tk)), ("a", v1)] ∧ LstO oZ zv ∧
      IntsAre zv (ordOf items (rkOf rs) i ++ (items.take j).filter fun a => decide (rkOf rs a = (i : Int)))) (by simp only [List.append_assoc, List.cons_append]) I hC2 ⟨_, _, _, _, rfl, F4, hZ, by rw [List.take_zero, List.filter_nil, List.append_nil]; exact hzv⟩ ?_ ?_ ?_
    · rintro i l ⟨fo2, v1, oZ, zv, rfl, _⟩ p hp
      rw [List.mem_singleton.mp hp]; walk_at "sd"
    · rintro j v l fr h d t - hj hv ⟨fo3, v1, oZ, zv, rfl, F3, hZ, hzv⟩ I
      simp only [List.append_assoc, List.cons_append] at I
      obtain ⟨x, tx, hxt, hx⟩ := intAt' hit (i := j) (by rw [← hit.length]; exact hj)
      rw [hx] at hv
      cases hv
      obtain ⟨hx0, hx1⟩ := hin x (List.mem_of_getElem? hxt)
      obtain ⟨y, ty, hyt, hy⟩ := intAt' hrt (i := x.toNat) (by omega)
      have hry : rkOf rs x = y := by unfold rkOf; rw [List.getD_eq_getElem?_getD, hyt]; rfl
      have hzl : zv.length ≤ 20 := by
        have e := ordOf_mono items (rkOf rs) (i := i + 1) (m := many) hi
        rw [ordOf_succ, List.length_append] at e
        rw [hzv.length, List.length_append]
        have e2 : ((items.take j).filter fun a => decide (rkOf rs a = (i : Int))).length ≤ (items.filter fun a => decide (rkOf rs a = (i : Int))).length := ((List.take_sublist j items).filter _).length_le
        omega
      have hbig : 20 + 1 ≤ 2 * big := by decide
      have htk : (items.take (j + 1)).filter (fun a => decide (rkOf rs a = (i : Int))) = (items.take j).filter (fun a => decide (rkOf rs a = (i : Int))) ++ (if decide (y = kv) = true then [x] else []) := by
        rw [List.take_add_one, hxt, List.filter_append, hvk]
        congr 1
        rw [Option.toList_some, List.filter_cons, List.filter_nil, hry]
      repeat walk_at "nx"
      by_cases hb : y = kv
      · rw [if_pos (by simpa using hb)]
        rw [if_pos (by simpa using hb)] at htk
        repeat walk_at "nx"
        refine' ⟨_, _, _, _, rfl, ?I, _, _, _, _, rfl, ?F, ?L, ?vv⟩
        case F => assumption
        case L => assumption
        case I => walk_at "led"
        case vv => rw [htk, ← List.append_assoc]; exact hzv.append (.cons _ _ .nil)
      · rw [if_neg (by simpa using hb)]
        rw [if_neg (by simpa using hb), List.append_nil] at htk
        refine' ⟨_, _, _, _, rfl, ?I, _, _, _, _, rfl, ?F, ?L, ?vv⟩
        case F => assumption
        case L => assumption
        case I => walk_at "led"
        case vv => rw [htk]; exact hzv
    · rintro l h d t ⟨fo3, v1, oZ, zv, rfl, F3, hZ, hzv⟩ I
      rw [List.take_of_length_le (by rw [hit.length]; exact Nat.le_refl _), ← ordOf_succ] at hzv
      refine ⟨rfl, _, _, _, _, rfl, I, _, _, _, _, _, rfl, F3, hZ, hzv⟩
  · rintro l h d t ⟨fo3, v1, v2, oZ, zv, rfl, F3, hZ, hzv⟩ I
    simp only [List.append_nil] at I
    refine ⟨rfl, fo3, _, F3, _, I, fun h3 I3 => ?_⟩
    refine iterList I3 (by walk_at "sd") hZ fun J oJ h hC I => ?_
    have I4 : Led G ((J, oJ) :: (fo2 ++ ((D, oD) :: (Z, oZ) :: (sa, oS) :: (sc, osc) :: (il, oil) :: (rl, orl) :: (pl, opl) :: lg))) h := I.perm (by walk_at "perm")
    have hzvl := hzv.length
    refine forCur (fr0 := []) (Cur.list J Z oZ zv hZ) ok (fun i l => ∃ fo2 ap oD kvs dv, l = fo2 ++ ((D, oD) :: (Z, oZ) :: (sa, oS) :: (sc, osc) :: (il, oil) :: (rl, orl) :: (pl, opl) :: lg) ∧
      Frm env fo2 [("script", sp), ("state", some (.ref sa)), ("many", some (.int many um)), ("items", some (.ref il)), ("ranks", some (.ref rl)), ("pairs", some (.ref pl)), ("_", up), ("a", ap), ("b", bp), ("deep", some (.ref D)), ("due", none)] ∧
      DicO prog w D oD kvs ∧ Match kvs dv ∧ dv.map (·.1) = (ordOf items (rkOf rs) many).take i ∧ DProp ps dv) (List.append_nil _).symm I4 hC ⟨_, _, _, _, [], rfl, F2, hD, .nil, by simp, by intro j a n hj; simp at hj⟩ ?_ ?_ ?_
    · rintro i l ⟨fo2, ap, oD, kvs, dv, rfl, _⟩ p hp
      rw [List.mem_singleton.mp hp]; walk_at "sd"
    · rintro i v l fr h d t - hi hv ⟨fo2, ap, oD, kvs, dv, rfl, F2, hD, hM, hkeys, hDP⟩ I
      simp only [List.append_assoc, List.cons_append] at I
      obtain ⟨x, tx, hxt, hx⟩ := intAt' hzv (i := i) (by omega)
      rw [hx] at hv
      cases hv
      repeat walk_at "nx"
      rename_i h4 t4 fo4 I4 F4 B oB h5 hB I5
      refine ListComp_ (G := G) [("a", .int x tx), ("deep", .ref D)] ["b", "c"] [] fo4 F4.kind F4.glob F4.bi (by simp only [List.map_cons, List.map_nil]; decide +kernel) rfl (F4.sees fun p hp => ?sees) ?_ (fun _ => rfl)
      case sees =>
        simp only [List.mem_cons, List.not_mem_nil, or_false] at hp
        rcases hp with rfl | rfl <;> exact ⟨by walk_at "sd", by rw [Env.kindOf, he]; rfl⟩
      repeat walk_at "nx"
      refine iterList I5 (by walk_at "sd") hpl fun J2 oJ2 h hC2 I => ?_
      refine ⟨_, _, _, _, _, _, rfl, I, fun h' lg' Q' E' I' hq => selfL I' (by walk_at "sd") hC2 hq, fun cenv fo5 Y oY h hY I F5 S5 gls5 _ => ?_⟩
      replace I := Led.jfront I
      refine compCur (fr0 := []) .l (turn_L1 ..) (Cur.list J2 pl opl pv hpl) ok (fun j l => ∃ fo5 v1 v2 oY yv, l = fo5 ++ (Y, oY) :: (fo4 ++ ((B, oB) :: (D, oD) :: (Z, oZ) :: (sa, oS) :: (sc, osc) :: (il, oil) :: (rl, orl) :: (pl, opl) :: (lg ++ fr))) ∧ Frm cenv fo5 [("b", v1), ("c", v2)] ∧ LstO oY yv ∧
        IntsAre yv (vals (ps.take j) dv x)) (List.append_nil _).symm I hC2 ⟨_, _, _, _, _, rfl, F5, hY, .nil⟩ ?_ ?_ ?_
      · rintro i l ⟨fo2, v1, v2, oZ, zv, rfl, _⟩ p hp
        rw [List.mem_singleton.mp hp]; walk_at "sd"
      · rintro j v l fr2 h d t - hj hv ⟨fo5, v1, v2, oY, yv, rfl, F5, hY, hyv⟩ I
        simp only [List.append_assoc, List.cons_append] at I
        have hjp : j < ps.length := by rw [← hps.1]; exact hj
        obtain ⟨b, c, hq'⟩ : ∃ b c, ps[j]? = some (b, c) := ⟨ps[j].1, ps[j].2, List.getElem?_eq_getElem hjp⟩
        obtain ⟨at', ot, t1, t2, hpx, hga, hT⟩ := hps.2 j b c hq'
        rw [hpx] at hv
        cases hv
        have htk : vals (ps.take (j + 1)) dv x = vals (ps.take j) dv x ++ (if c = x then ((dget dv b).map (1 + ·)).toList else []) := by rw [List.take_add_one, hq', Option.toList_some, vals_snoc]
        have hyl : yv.length ≤ 20 := by
          rw [hyv.length]
          have : (vals (ps.take j) dv x).length ≤ (ps.take j).length := List.length_filterMap_le _ _
          rw [List.length_take] at this; omega
        have hbig : 20 + 1 ≤ 2 * big := by decide
        repeat walk_at "nx"
        by_cases hc : c = x
        · subst hc
          rw [if_pos (by simp)]
          rw [if_pos rfl] at htk
          repeat walk_at "nx"
          cases hd : dget dv b with
          | some m =>
            obtain ⟨tm, hxv⟩ := hM.some hd
            rw [hd] at htk
            rw [hxv, if_pos (show (some (Value.int m tm)).isSome = true from rfl)]
            repeat walk_at "nx"
            rw [if_pos rfl]
            repeat walk_at "nx"
            refine' ⟨_, _, _, _, rfl, ?I, _, _, _, _, _, rfl, ?F, ?L, ?vv⟩
            case F => assumption
            case L => assumption
            case I => walk_at "led"
            case vv => rw [htk]; exact hyv.append (.cons _ _ .nil)
          | none =>
            have hxv := hM.none hd
            rw [hd] at htk
            rw [hxv, if_neg (by simp)]
            rw [if_neg (by simp)]
            refine' ⟨_, _, _, _, rfl, ?I, _, _, _, _, _, rfl, ?F, ?L, ?vv⟩
            case F => assumption
            case L => assumption
            case I => walk_at "led"
            case vv => rw [htk]; simpa using hyv
        · rw [if_neg (by simpa using hc)]
          rw [if_neg hc, List.append_nil] at htk
          rw [if_neg (by simp)]
          refine' ⟨_, _, _, _, rfl, ?I, _, _, _, _, _, rfl, ?F, ?L, ?vv⟩
          case F => assumption
          case L => assumption
          case I => walk_at "led"
          case vv => rw [htk]; exact hyv
      · rintro l h d t ⟨fo5, v1, v2, oY, yv, rfl, F5, hY, hyv⟩ I
        simp only [List.append_nil] at I
        rw [List.take_of_length_le (by rw [hps.1]; exact Nat.le_refl _)] at hyv
        refine ⟨rfl, fo5, _, F5, _, I, fun h3 I3 => ?_⟩
        have hyl : yv.length ≤ 20 := by
          rw [hyv.length]
          have : (vals ps dv x).length ≤ ps.length := List.length_filterMap_le _ _
          omega
        have hbig : 1 + 20 ≤ 2 * big := by decide
        have I6 : Led G (fo4 ++ ((Y, oY) :: (B, oB) :: (D, oD) :: (Z, oZ) :: (sa, oS) :: (sc, osc) :: (il, oil) :: (rl, orl) :: (pl, opl) :: (lg ++ fr))) h3 := I3.perm (by walk_at "perm")
        refine addL I6 (by walk_at "sd") (by walk_at "sd") hB hY (by simp; omega) fun U oU h hU I7 => ?_
        repeat walk_at "nx"
        refine maxL (k := 30) (ok.less (by omega)) I7 (by walk_at "sd") hU (IntsAre.append (.cons _ _ .nil) hyv) (by simp) fun n tn h t hn1 hn2 I8 => ?_
        repeat walk_at "nx"
        have hkl : kvs.length ≤ 20 := by
          have := congrArg List.length hkeys
          rw [List.length_map, hM.length, List.length_take] at this; omega
        have hnew : valueAt kvs x = none := by
          rw [valueAt_none, hM.keys, hkeys]
          intro hm
          obtain ⟨j, hj⟩ := List.mem_iff_getElem?.mp hm
          have hji : j < i := by
            have := (List.getElem?_eq_some_iff.mp hj).1
            rw [List.length_take] at this; omega
          rw [List.getElem?_take, if_pos hji] at hj
          have := (List.getElem?_inj (by have := (List.getElem?_eq_some_iff.mp hxt).1; omega) hondup).mp (hj.trans hxt.symm)
          omega
        refine setD (lf := fun o => fo4 ++ ((U, oU) :: (Y, oY) :: (B, oB) :: (D, o) :: (Z, oZ) :: (sa, oS) :: (sc, osc) :: (il, oil) :: (rl, orl) :: (pl, opl) :: (lg ++ fr))) I8 rfl (by walk_at "hole") hD (by omega) fun h' t' oD' hD' I9 => ?_
        rw [stored_new hnew] at hD'
        repeat walk_at "nx"
        refine' ⟨_, _, _, _, rfl, ?I, fo4, _, oD', _, dv ++ [(x, n)], rfl, F4, hD', hM.snoc _ _ _, ?kk, hDP.snoc hn1 hn2⟩
        case I => walk_at "led"
        case kk => rw [List.map_append, hkeys, List.take_add_one, hxt]; rfl
    · rintro l h d t ⟨fo2, ap, oD, kvs, dv, rfl, F2, hD, hM, hkeys, hDP⟩ I
      simp only [List.append_nil] at I
      rw [List.take_of_length_le (by omega)] at hkeys
      obtain ⟨p1, p2, p3, p4⟩ := hpure dv hkeys hDP
      have I5 : Led G (fo2 ++ ((sa, oS) :: (sc, osc) :: (il, oil) :: (pl, opl) :: (D, oD) :: ((Z, oZ) :: (rl, orl) :: lg))) h := I.perm (by walk_at "perm")
      refine law_from7 (dp := fun a => (dget dv a).getD 0) W ok he gls F2 hS hsc hps hpl hil hit (by omega) hD hM.get hM.length (fun e => p3 (by subst e; cases hM; rfl)) (fun a ha => hM.some (p1 a ha)) p2 hb1 hb2 hb0 p4 I5 Gi
end
end Mine
namespace Mine

def PairsIn (pr : List (Addr × Obj)) (vs : List Value) (ps : List (Int × Int)) : Prop := vs.length = ps.length ∧ ∀ (i : Nat) (p c : Int), ps[i]? = some (p, c) → ∃ a o t1 t2, vs[i]? = some (.ref a) ∧ (a, o) ∈ pr ∧ TupO o [.int p t1, .int c t2]
theorem PairsIn.nil {pr : List (Addr × Obj)} : PairsIn pr [] [] := ⟨rfl, fun i p c h => by simp at h⟩
theorem PairsIn.mono {pr pr' : List (Addr × Obj)} {vs : List Value} {ps : List (Int × Int)} (x : PairsIn pr vs ps) (h : ∀ p ∈ pr, p ∈ pr') : PairsIn pr' vs ps :=
  ⟨x.1, fun i p c hp => let ⟨a, o, t1, t2, e, hm, hT⟩ := x.2 i p c hp; ⟨a, o, t1, t2, e, h _ hm, hT⟩⟩
theorem PairsIn.snoc {pr : List (Addr × Obj)} {vs : List Value} {ps : List (Int × Int)} {a : Addr} {o : Obj} {p c : Int} {t1 t2 : Tok} (x : PairsIn pr vs ps) (hm : (a, o) ∈ pr) (hT : TupO o [.int p t1, .int c t2]) : PairsIn pr (vs ++ [.ref a]) (ps ++ [(p, c)]) := by
  refine ⟨by simp [x.1], fun i p' c' hp => ?_⟩
  by_cases hlt : i < ps.length
  · rw [List.getElem?_append_left hlt] at hp
    obtain ⟨a', o', t1', t2', e, r⟩ := x.2 i p' c' hp
    exact ⟨a', o', t1', t2', by rw [List.getElem?_append_left (by rw [x.1]; exact hlt)]; exact e, r⟩
  · have hi : i = ps.length := by
      have := (List.getElem?_eq_some_iff.mp hp).1
      simp at this; omega
    subst hi
    simp at hp
    obtain ⟨rfl, rfl⟩ := hp
    exact ⟨a, o, t1, t2, by rw [← x.1]; simp, hm, hT⟩

/-- a pair of the law's making -/
def GoodP (rs : List Int) (many : Nat) (q : Int × Int) : Prop := 0 ≤ q.1 → q.1 < (many : Int) → 0 ≤ q.2 → q.2 < (many : Int) → rkOf rs q.1 < rkOf rs q.2

local macro_rules | `(tactic| walk_at "sub") => `(tactic| with_reducible first | exact List.Sublist.refl _ | exact List.nil_sublist _ | (refine List.Sublist.cons_cons _ ?_; walk_at "sub") | (refine List.Sublist.append (List.Sublist.refl _) ?_; walk_at "sub") | (refine List.Sublist.cons _ ?_; walk_at "sub"))
local macro_rules | `(tactic| walk_at "sd") => `(tactic| with_reducible first | assumption | exact List.mem_cons_self | exact SetV.head | exact Hole.mem (by assumption) _ | exact AllHas.mem (by assumption) _ | (refine List.mem_cons_of_mem _ ?_; walk_at "sd") | (apply SetV.tail; walk_at "sd") | (refine List.mem_append_right _ ?_; walk_at "sd") | (refine List.mem_append_left _ ?_; walk_at "sd"))
local macro_rules | `(tactic| walk_at "up") => `(tactic| with_reducible first | exact Upd.head | exact Hole.at (by assumption) _ _ | (refine Upd.tail ?_; walk_at "up") | (refine Upd.app ?_ _; walk_at "up") | (refine Upd.appl ?_ _; walk_at "up"))
local macro_rules | `(tactic| walk_at "hole") => `(tactic| first | with_reducible assumption | (intro _ _; walk_at "up"))
local macro_rules | `(tactic| walk_at "allhas") => `(tactic| first | with_reducible assumption | (intro _; walk_at "sd"))
local macro_rules | `(tactic| walk_at "led") => `(tactic| ((try simp only [List.append_assoc, List.cons_append, List.nil_append, List.append_nil]); (with_reducible refine' Led.sub ?I ?s); (case I => with_reducible assumption); (case s => walk_at "sub")))
local macro_rules | `(tactic| walk_at "sw") => `(tactic| fail "sw")
local macro_rules | `(tactic| walk_at "perm") => `(tactic| (refine permOf fun x => ?_; simp only [List.count_append, List.count_cons, List.count_nil, List.append_assoc, List.cons_append, List.nil_append] <;> omega))
local macro_rules | `(tactic| walk_at "sees") => `(tactic| first | with_reducible assumption | (intro _ _; walk_at "sd") | (intro _ hp; rcases List.mem_append.mp hp with hp | hp <;> walk_at "sd"))
local macro_rules | `(tactic| walk_at "nx") => `(tactic| first
  | with_reducible refine wpAny_execs_nil ?_
  | with_reducible refine wpAny_execs_cons ?_
  | with_reducible refine wpAny_If ?_
  | ((with_reducible refine wpAny_isTrue_Compare1 ?_ ?hs); case hs => with_unfolding_all rfl)
  | with_reducible refine wpAny_truthy_bool ?_
  | ((with_reducible refine wpAny_Compare1 ?_ ?hs); case hs => with_unfolding_all rfl)
  | ((with_reducible refine wpAny_Assign_Subscript ?_ ?hs); case hs => with_unfolding_all rfl)
  | ((with_reducible refine wpAny_Assign_Name ?_ ?hs); case hs => with_unfolding_all rfl)
  | with_reducible refine wpAny_Return_some ?_
  | with_reducible refine wpAny_BinOp ?_
  | ((with_reducible refine Slice_ ?_ ?ht); (case ht => (intro _ _; with_unfolding_all rfl)))
  | with_reducible refine Subscript_ ?_
  | ((with_reducible refine' MethodCall_ ?_ ?hs); case hs => with_unfolding_all rfl)
  | ((with_reducible refine Call_ ?_ ?hs); case hs => with_unfolding_all rfl)
  | with_reducible refine cInt ?_
  | with_reducible refine wpAny_UnaryOp ?_
  | with_reducible refine negI ?_
  | with_reducible refine addI ?_
  | with_reducible refine subI ?_
  | with_reducible refine ltI ?_
  | with_reducible refine eqI ?_
  | with_reducible refine neI ?_
  | with_reducible refine leI ?_
  | with_reducible refine gtI ?_
  | ((with_reducible refine modI ?h0 ?_); (case h0 => first | with_reducible assumption | decide | omega))
  | ((with_reducible refine divI ?h0 ?hp ?_); (case h0 => first | with_reducible assumption | decide | omega); (case hp => first | exact PyProof.noPylong_of_log2 (by decide +kernel) | exact PyProof.noPylong_small (by omega)))
  | ((with_reducible refine mulI ?h0 ?_); (case h0 => mul_fits))
  | ((with_reducible refine' ld ?I ?F ?m ?_ ?hd); (case I => with_reducible assumption); (case F => with_reducible assumption); (case m => walk_at "sd"); (case hd => decide))
  | ((with_reducible refine' ldB ?I ?F ?gls ?gd ?hx ?hmiss ?hv ?hn ?_ ?hd); (case I => with_reducible assumption); (case F => with_reducible assumption); (case gls => with_reducible assumption); (case gd => with_reducible assumption); (case hx => walk_at "sd"); (case hmiss => with_reducible assumption); (case hv => with_reducible assumption); (case hn => decide); (case hd => decide))
  | ((with_reducible refine' ldG ?I ?F ?gls ?gd ?hx ?hv ?_ ?hd); (case I => with_reducible assumption); (case F => with_reducible assumption); (case gls => with_reducible assumption); (case gd => with_reducible assumption); (case hx => walk_at "sd"); (case hv => with_reducible assumption); (case hd => decide))
  | ((with_reducible refine Assign_Tuple ?_ ?hs ?hw); (case hs => with_unfolding_all rfl); (case hw => first | with_unfolding_all rfl | exact swNone rfl | exact swNone (by walk_at "sw")))
  | ((with_reducible refine' asTuple ?ok ?I ?m ?T ?hn ?hst ?_); (case ok => with_reducible assumption); (case I => with_reducible assumption); (case m => walk_at "sd"); (case T => with_reducible assumption); (case hn => rfl); (case hst => rfl); intro _ _; (try simp only [assignEach, List.map_cons, List.map_nil]))
  | ((with_reducible refine' asTupleG ?ok ?I ?m ?T ?hn ?hst ?_); (case ok => with_reducible assumption); (case I => with_reducible assumption); (case m => with_reducible assumption); (case T => with_reducible assumption); (case hn => rfl); (case hst => rfl); intro _ _; (try simp only [assignEach, List.map_cons, List.map_nil]))
  | with_reducible refine inOrder_cons ?_
  | with_reducible refine inOrder_nil ?_
  | with_reducible refine asSub ?_
  | ((with_reducible refine' asName ?I ?F ?m ?_); (case I => with_reducible assumption); (case F => with_reducible assumption); (case m => walk_at "sd"); intro _ _ _ _ _)
  | with_reducible refine Tuple_ ?_
  | with_reducible refine List_ ?_
  | ((with_reducible refine' tupleN ?I ?hb ?_); (case I => with_reducible assumption); (case hb => first | (show _ ≤ _; simp only [List.length_cons, List.length_nil]; omega) | omega); intro _ _ _ _ _)
  | ((with_reducible refine' listN ?I ?hb ?_); (case I => with_reducible assumption); (case hb => first | (show _ ≤ _; simp only [List.length_cons, List.length_nil]; omega) | omega); intro _ _ _ _ _)
  | ((with_reducible refine' callW ?hf ?_ ?he); (case hf => with_reducible assumption); (case he => with_unfolding_all rfl))
  | ((with_reducible refine' callWD ?hf ?_ ?he); (case hf => with_reducible assumption); (case he => with_unfolding_all rfl))
  | with_reducible refine And.intro (Grd.of (by assumption)) ?_
  | ((with_reducible refine PyProof.Rows.callWith_type1 ?_ ?hs ?ht); (case hs => with_unfolding_all rfl); (case ht => with_unfolding_all rfl))
  | ((with_reducible refine' rangeC1 ?I ?_); (case I => with_reducible assumption); intro _ _ _ _ _ _)
  | ((with_reducible refine' rangeC2 ?I ?_); (case I => with_reducible assumption); intro _ _ _ _ _ _)
  | ((with_reducible refine' rangeC3 ?I ?hc ?hp ?_); (case I => with_reducible assumption); (case hc => first | decide | omega); (case hp => first | exact PyProof.noPylong_of_log2 (by decide +kernel) | exact PyProof.noPylong_small (by omega)); intro _ _ _ _ _ _)
  | ((with_reducible refine wpAny_For ?_ ?hs); case hs => (intro _; rfl))
  | ((with_reducible refine callWith_builtin1 ?_ ?hs ?ht); (case hs => with_unfolding_all rfl); (case ht => with_unfolding_all rfl))
  | ((with_reducible refine args_cons ?_ ?hs); (case hs => with_unfolding_all rfl))
  | with_reducible refine args_nil ?_
  | ((with_reducible refine' subL ?I ?m ?L ?h0 ?hx ?_ ?hs); (case I => with_reducible assumption); (case m => walk_at "sd"); (case L => with_reducible assumption); (case h0 => first | decide | omega); (case hx => first | with_reducible assumption | rfl); (case hs => with_unfolding_all rfl))
  | ((with_reducible refine' subD ?I ?m ?D ?hv ?_ ?hs); (case I => with_reducible assumption); (case m => walk_at "sd"); (case D => with_reducible assumption); (case hv => with_reducible assumption); (case hs => with_unfolding_all rfl); intro _)
  | ((with_reducible refine' setL ?I ?m ?L ?e ?H ?h0 ?hk ?hv ?_); (case I => with_reducible assumption); (case m => walk_at "sd"); (case L => with_reducible assumption); (case e => rfl); (case H => walk_at "hole"); (case h0 => first | decide | omega); (case hk => first | omega | (simp only [List.length_cons, List.length_nil, List.length_set, Int.reduceToNat]; omega)); (case hv => first | ((simp only [Int.reduceToNat, List.set_cons_zero, List.set_cons_succ]; done)) | ((simp only [Int.reduceToNat, List.set_cons_zero, List.set_cons_succ]; rfl)) | rfl); intro _ _ _ _ _)
  | ((with_reducible refine' lenL ?I ?m ?L ?_); (case I => with_reducible assumption); (case m => walk_at "sd"); (case L => with_reducible assumption); intro _ _)
  | ((with_reducible refine absI ?_); intro _ _)
  | ((with_reducible refine' st ?I ?F ?m ?_); (case I => with_reducible assumption); (case F => with_reducible assumption); (case m => walk_at "sd"); intro _ _ _ _ _)
  | ((with_reducible refine' ldS ?I ?hk ?S ?sub ?m ?_ ?hd); (case I => with_reducible assumption); (case hk => exact Frm.kind (by assumption)); (case S => with_reducible assumption); (case sub => walk_at "sees"); (case m => walk_at "sd"); (case hd => decide))
  | ((with_reducible refine' gmS ?slot ?hty ?I ?m ?S ?_); (case I => with_reducible assumption); (case m => walk_at "sd"); (case S => with_reducible assumption); (case slot => with_reducible first | exact F.slot_set_add | exact F.slot_set_isdisjoint | exact F.slot_set_difference_update); (case hty => with_reducible first | exact F.type_set_add | exact F.type_set_isdisjoint | exact F.type_set_difference_update))
  | ((with_reducible refine' gmD ?slot ?hty ?I ?m ?D ?_); (case I => with_reducible assumption); (case m => walk_at "sd"); (case D => with_reducible assumption); (case slot => with_reducible first | exact PySem.F.slot_dict_setdefault | exact PySem.F.slot_dict_get | exact PySem.F.slot_dict_values); (case hty => with_reducible first | exact PySem.F.type_dict_setdefault | exact PySem.F.type_dict_get | exact PySem.F.type_dict_values))
  | ((with_reducible refine' gmL ?slot ?hty ?I ?m ?L ?_); (case I => with_reducible assumption); (case m => walk_at "sd"); (case L => with_reducible assumption); (case slot => with_reducible first | exact F.slot_list_append | exact F.slot_list_extend); (case hty => with_reducible first | exact F.type_list_append | exact F.type_list_extend))
  | ((with_reducible refine callWith_method1 ?_ ?hs ?ht); (case hs => with_unfolding_all rfl); (case ht => with_unfolding_all rfl))
  | with_reducible refine callWith_method0 ?_
  | ((with_reducible refine' exprS ?_ ?hi ?hs); (case hi => exact Frm.kind (by assumption)); (case hs => with_unfolding_all rfl))
  | with_reducible refine wpAny_isTrue_Not ?_
  | ((with_reducible refine' truthyS ?I ?m ?S ?_); (case I => with_reducible assumption); (case m => walk_at "sd"); (case S => with_reducible assumption); intro _)
  | ((with_reducible refine' truthyL ?I ?m ?L ?_); (case I => with_reducible assumption); (case m => walk_at "sd"); (case L => with_reducible assumption); intro _)
  | with_reducible refine wpAny_IfExp ?_
  | with_reducible refine isTrue_and ?_
  | with_reducible refine isTrue_and_nil ?_
  | ((with_reducible refine isTrue_plain ?_ ?he); (case he => with_unfolding_all rfl))
  | ((with_reducible refine' inS ?I ?m ?S ?_); (case I => with_reducible assumption); (case m => walk_at "sd"); (case S => with_reducible assumption); intro _)
  | ((with_reducible refine' inD ?I ?m ?D ?_); (case I => with_reducible assumption); (case m => walk_at "sd"); (case D => with_reducible assumption); intro _)
  | ((with_reducible refine' getD2 ?I ?m ?D ?_); (case I => with_reducible assumption); (case m => walk_at "sd"); (case D => with_reducible assumption); intro _)
  | ((with_reducible refine' addS ?I ?m ?S ?e ?H ?hb ?_); (case I => with_reducible assumption); (case m => walk_at "sd"); (case S => with_reducible assumption); (case e => rfl); (case H => walk_at "hole"); (case hb => omega); intro _ _ _ _ _)
  | ((with_reducible refine' appendL ?I ?m ?e ?H ?L ?hb ?_); (case I => with_reducible assumption); (case m => walk_at "sd"); (case L => with_reducible assumption); (case e => rfl); (case H => walk_at "hole"); (case hb => first | omega | (simp only [List.length_append, List.length_cons, List.length_nil]; omega)); intro _ _ _ _ _)
  | ((with_reducible refine' newD ?gd ?I ?_); (case gd => with_reducible assumption); (case I => with_reducible assumption); intro _ _ _ _ _)
  | with_reducible refine callWith_type0 ?_
  | with_reducible refine tests0 ?_
  | with_reducible refine tests1 ?_
  | with_reducible refine emit_ ?_
  | ((with_reducible refine' newS ?I ?_); (case I => with_reducible assumption); intro _ _ _ _ _)
  | ((with_reducible refine' listList ?I ?m ?L ?_); (case I => with_reducible assumption); (case m => walk_at "sd"); (case L => with_reducible assumption); intro _ _ _ _ _)
  | ((with_reducible refine' valuesD ?I ?m ?D ?_); (case I => with_reducible assumption); (case m => walk_at "sd"); (case D => with_reducible assumption); intro _ _ _ _ _)
  | ((with_reducible refine' next_spec2 ?gd ?ok ?nl ?na ?hf ?I ?m ?ho ?hs ?e ?H ?hsc ?hmany ?_); (case gd => with_reducible assumption); (case nl => with_reducible assumption); (case na => with_reducible assumption); (case hf => with_reducible assumption); (case I => with_reducible assumption); (case m => walk_at "sd"); (case ho => with_reducible assumption); (case hs => with_reducible assumption); (case ok => exact Ok.less (by assumption) (by decide)); (case e => rfl); (case H => walk_at "hole"); (case hsc => walk_at "allhas"); (case hmany => omega); intro _ _ _ _ _ _ _ _ _)
  | with_reducible refine partNone ?_
  | with_reducible refine partSome ?_
  | ((with_reducible refine' sliceAll ?I ?m ?L ?_); (case I => with_reducible assumption); (case m => walk_at "sd"); (case L => with_reducible assumption); intro _ _ _ _ _)
  | (with_reducible dsimp only [List.cons_append, List.nil_append, List.append_nil])
  )
section
variable {prog : Program} {w : World} {A : Around} {E : Value → Shared → Prop} {h G : Heap} {g : Array GenState} {d : Drawn} {t : Nat} {os : OsState}
  {env : Env} {l fo lc lg : List (Addr × Obj)} {mg mb : Str → Option Value} {k : Nat} {vs pv iv rv dvs : List Value} {items rs ns : List Int} {due : List (List Int)}
  {sp rp pp up ap bp : Option Value} {il rl pl D sa sc : Addr} {oil orl opl oD oS osc : Obj} {kvs : List (Int × Value)} {many : Nat} {um : Tok}

set_option maxRecDepth 100000 in
set_option maxHeartbeats 4000000 in
theorem law_from3 (W : W1 prog w G mg mb) (ok : Ok A 40) (he : env.scope = fnScope (st1 10)) (gls : Gls env ["_law_next", "_law_row", "sort_as_subsets", "sort", "list", "range", "max"])
    (F : Frm env fo [("script", sp), ("state", some (.ref sa)), ("many", some (.int many um)), ("items", some (.ref il)), ("ranks", some (.ref rl)), ("pairs", none), ("_", none), ("a", none), ("b", none), ("deep", none), ("due", none)])
    (hS : StO sc oS) (hsc : IntsO osc ns) (hil : LstO oil iv) (hit : IntsAre iv items) (hrl : LstO orl rv) (hrt : IntsAre rv rs) (hmany : items.length = many) (hrs : rs.length = many) (hin : ∀ a ∈ items, 0 ≤ a ∧ a < (many : Int))
    (hm1 : 2 ≤ many) (hm2 : many ≤ 8) (hrn : rs.Nodup)
    (hord : (ordOf items (rkOf rs) many).length ≤ 20) (hondup : (ordOf items (rkOf rs) many).Nodup)
    (hpure : ∀ ps : List (Int × Int), ps.length ≤ 10 → (∀ q ∈ ps, GoodP rs many q) → Pure1 ps items rs many)
    (I : Led G (fo ++ ((sa, oS) :: (sc, osc) :: (il, oil) :: (rl, orl) :: lg)) h) (Gi : GLed [] g) :
    wpAny (model prog w) A (execs ((fnBody (st1 10)).drop 3) env) (EndQ G os) NoE ⟨h, g, d, t, os⟩ := by
  have gd := W.gd
  have nrange := W.nrange
  have nlen := W.nlen
  have nabs := W.nabs
  obtain ⟨fnx, hnx, hfnx⟩ := W.next
  have br : bootBuiltins "range" = some (.type "range") := by decide +kernel
  rw [show (fnBody (st1 10)).drop 3 = (fnBody (st1 10)).getD 3 (.Pass default) :: (fnBody (st1 10)).getD 4 (.Pass default) :: (fnBody (st1 10)).drop 5 from rfl]
  refine wpAny_execs_cons ?_
  conv in exec _ _ => (arg 1; whnf)
  repeat walk_at "nx"
  conv in exec _ _ => (arg 1; whnf)
  repeat walk_at "nx"
  rename_i pl opl h1 hpl I1 h2 t2 fo2 I2 F2 r tr h3 t3 oS3 hr0 hr1 hS3 I3 R oR h4 t4 hR I4
  obtain ⟨n, rfl⟩ : ∃ n : Nat, r = (n : Int) := ⟨r.toNat, by omega⟩
  refine iterRange (n := n) I4 (by walk_at "sd") hR (small_of (by decide) (by omega) (.inl rfl)) (by have := rsUp n (a := 0) (b := (n : Int)) (by omega); exact this) fun J oJ h hC I => ?_
  have I5 : Led G ((J, oJ) :: (fo2 ++ ((sa, oS3) :: (sc, osc) :: (il, oil) :: (rl, orl) :: (pl, opl) :: ([] ++ lg)))) h :=
    (I.perm (l' := (R, oR) :: ((J, oJ) :: (fo2 ++ ((sa, oS3) :: (sc, osc) :: (il, oil) :: (rl, orl) :: (pl, opl) :: ([] ++ lg))))) (by walk_at "perm")).drop
  refine forCur (fr0 := []) (Cur.range J _ _ _) ok (fun i l => ∃ fo2 up ap bp oS opl pv pr ps, l = fo2 ++ ((sa, oS) :: (sc, osc) :: (il, oil) :: (rl, orl) :: (pl, opl) :: (pr ++ lg)) ∧
    Frm env fo2 [("script", sp), ("state", some (.ref sa)), ("many", some (.int many um)), ("items", some (.ref il)), ("ranks", some (.ref rl)), ("pairs", some (.ref pl)), ("_", up), ("a", ap), ("b", bp), ("deep", none), ("due", none)] ∧
    StO sc oS ∧ LstO opl pv ∧ PairsIn pr pv ps ∧ ps.length = i ∧ ∀ q ∈ ps, GoodP rs many q) (List.append_nil _).symm I5 hC ⟨_, _, _, _, _, _, _, [], [], rfl, F2, hS3, hpl, .nil, rfl, fun q hq => by cases hq⟩ (fun _ _ _ _ hp => by cases hp) ?_ ?_
  · rintro i v l fr h d t - hi ⟨tk, rfl⟩ ⟨fo2, up, ap, bp, oS, opl, pv, pr, ps, rfl, F2, hS, hpl, hps, hpsl, hgood⟩ I
    simp only [List.append_assoc, List.cons_append] at I
    have hpvl : pv.length ≤ 10 := by rw [hps.1]; omega
    have hbig : 10 + 1 ≤ 2 * big := by decide
    repeat walk_at "nx"
    refine Assign_Tuple ?_ ?hs ?hw
    case hs => with_unfolding_all rfl
    case hw => exact swNone (by simp only [nameLoc, Env.kindOf, he]; rfl)
    repeat walk_at "nx"
    rename_i ra va ha ta oa ra0 ra1 hSa Ia rb vb hb tb ob rb0 rb1 hSb Ib T oT hT TT IT h5 I5 h6 t6 fo6 I6 F6 h7 t7 fo7 I7 F7
    by_cases hab : ra = rb
    · subst hab
      rw [if_neg (by simp)]
      repeat walk_at "nx"
      rename_i T1 o1 h8 hT1 I8 T2 o2 h9 hT2 I9 T3 o3 h10 hT3 I10 B oB h11 hB I11 r vr h12 t12 o12 hr0' hr1' hS12 I12
      obtain rfl | rfl | rfl : r = 0 ∨ r = 1 ∨ r = 2 := by omega
      · repeat walk_at "nx"
        rename_i h13 t13 opl' hpl' I13
        refine ⟨_, _, _, fo7 ++ ((sa, o12) :: (sc, osc) :: (il, oil) :: (rl, orl) :: (pl, opl') :: (((T1, o1) :: pr) ++ lg)), rfl, (I13.perm (l' := [(B, oB), (T3, o3), (T2, o2), (T, oT)] ++ ((fo7 ++ ((sa, o12) :: (sc, osc) :: (il, oil) :: (rl, orl) :: (pl, opl') :: (((T1, o1) :: pr) ++ lg))) ++ fr)) (by walk_at "perm")).dropl _, fo7, _, _, _, o12, opl', _, (T1, o1) :: pr, ps ++ [(ra, 20)], rfl, F7, hS12, hpl', (hps.mono fun p hp => List.mem_cons_of_mem _ hp).snoc List.mem_cons_self hT1, by simp; omega, fun q hq => ?_⟩
        rcases List.mem_append.mp hq with hq | hq
        · exact hgood q hq
        · rw [List.mem_singleton.mp hq]; intro x1 x2 x3 x4; dsimp only at x1 x2 x3 x4; omega
      · repeat walk_at "nx"
        rename_i h13 t13 opl' hpl' I13
        refine ⟨_, _, _, fo7 ++ ((sa, o12) :: (sc, osc) :: (il, oil) :: (rl, orl) :: (pl, opl') :: (((T2, o2) :: pr) ++ lg)), rfl, (I13.perm (l' := [(B, oB), (T3, o3), (T1, o1), (T, oT)] ++ ((fo7 ++ ((sa, o12) :: (sc, osc) :: (il, oil) :: (rl, orl) :: (pl, opl') :: (((T2, o2) :: pr) ++ lg))) ++ fr)) (by walk_at "perm")).dropl _, fo7, _, _, _, o12, opl', _, (T2, o2) :: pr, ps ++ [(20, ra)], rfl, F7, hS12, hpl', (hps.mono fun p hp => List.mem_cons_of_mem _ hp).snoc List.mem_cons_self hT2, by simp; omega, fun q hq => ?_⟩
        rcases List.mem_append.mp hq with hq | hq
        · exact hgood q hq
        · rw [List.mem_singleton.mp hq]; intro x1 x2 x3 x4; dsimp only at x1 x2 x3 x4; omega
      · repeat walk_at "nx"
        rename_i h13 t13 opl' hpl' I13
        refine ⟨_, _, _, fo7 ++ ((sa, o12) :: (sc, osc) :: (il, oil) :: (rl, orl) :: (pl, opl') :: (((T3, o3) :: pr) ++ lg)), rfl, (I13.perm (l' := [(B, oB), (T1, o1), (T2, o2), (T, oT)] ++ ((fo7 ++ ((sa, o12) :: (sc, osc) :: (il, oil) :: (rl, orl) :: (pl, opl') :: (((T3, o3) :: pr) ++ lg))) ++ fr)) (by walk_at "perm")).dropl _, fo7, _, _, _, o12, opl', _, (T3, o3) :: pr, ps ++ [(21, 20)], rfl, F7, hS12, hpl', (hps.mono fun p hp => List.mem_cons_of_mem _ hp).snoc List.mem_cons_self hT3, by simp; omega, fun q hq => ?_⟩
        rcases List.mem_append.mp hq with hq | hq
        · exact hgood q hq
        · rw [List.mem_singleton.mp hq]; intro x1 x2 x3 x4; dsimp only at x1 x2 x3 x4; omega
    · rw [if_pos (by simpa using hab)]
      obtain ⟨ya, tya, hya, hxa⟩ := intAt' hrt (i := ra.toNat) (by omega)
      obtain ⟨yb, tyb, hyb, hxb⟩ := intAt' hrt (i := rb.toNat) (by omega)
      have hka : rkOf rs ra = ya := by unfold rkOf; rw [List.getD_eq_getElem?_getD, hya]; rfl
      have hkb : rkOf rs rb = yb := by unfold rkOf; rw [List.getD_eq_getElem?_getD, hyb]; rfl
      have hyne : ya ≠ yb := fun e => by
        subst e
        have := (List.getElem?_inj (by omega) hrn).mp (hya.trans hyb.symm)
        omega
      repeat walk_at "nx"
      by_cases hlt : ya < yb
      · rw [if_pos (by simpa using hlt)]
        repeat walk_at "nx"
        rename_i T1 o1 h8 hT1 I8 h13 t13 opl' hpl' I13
        refine ⟨_, _, _, fo7 ++ ((sa, ob) :: (sc, osc) :: (il, oil) :: (rl, orl) :: (pl, opl') :: (((T1, o1) :: pr) ++ lg)), rfl, (I13.perm (l' := [(T, oT)] ++ ((fo7 ++ ((sa, ob) :: (sc, osc) :: (il, oil) :: (rl, orl) :: (pl, opl') :: (((T1, o1) :: pr) ++ lg))) ++ fr)) (by walk_at "perm")).dropl _, fo7, _, _, _, ob, opl', _, (T1, o1) :: pr, ps ++ [(ra, rb)], rfl, F7, hSb, hpl', (hps.mono fun p hp => List.mem_cons_of_mem _ hp).snoc List.mem_cons_self hT1, by simp; omega, fun q hq => ?_⟩
        rcases List.mem_append.mp hq with hq | hq
        · exact hgood q hq
        · rw [List.mem_singleton.mp hq]; intro x1 x2 x3 x4; show rkOf rs ra < rkOf rs rb; omega
      · rw [if_neg (by simpa using hlt)]
        repeat walk_at "nx"
        rename_i T1 o1 h8 hT1 I8 h13 t13 opl' hpl' I13
        refine ⟨_, _, _, fo7 ++ ((sa, ob) :: (sc, osc) :: (il, oil) :: (rl, orl) :: (pl, opl') :: (((T1, o1) :: pr) ++ lg)), rfl, (I13.perm (l' := [(T, oT)] ++ ((fo7 ++ ((sa, ob) :: (sc, osc) :: (il, oil) :: (rl, orl) :: (pl, opl') :: (((T1, o1) :: pr) ++ lg))) ++ fr)) (by walk_at "perm")).dropl _, fo7, _, _, _, ob, opl', _, (T1, o1) :: pr, ps ++ [(rb, ra)], rfl, F7, hSb, hpl', (hps.mono fun p hp => List.mem_cons_of_mem _ hp).snoc List.mem_cons_self hT1, by simp; omega, fun q hq => ?_⟩
        rcases List.mem_append.mp hq with hq | hq
        · exact hgood q hq
        · rw [List.mem_singleton.mp hq]; intro x1 x2 x3 x4; show rkOf rs rb < rkOf rs ra; omega
  · rintro l h d t ⟨fo2, up, ap, bp, oS, opl, pv, pr, ps, rfl, F2, hS, hpl, hps, hpsl, hgood⟩ I
    simp only [List.append_nil] at I
    have I6 : Led G (pr ++ (fo2 ++ ((sa, oS) :: (sc, osc) :: (il, oil) :: (rl, orl) :: (pl, opl) :: lg))) h := I.perm (by walk_at "perm")
    obtain ⟨G', hGG, hpr, I7⟩ := I6.ground
    have hpsG : PairsG G' pv ps := ⟨hps.1, fun i p c hp => let ⟨a, o, t1, t2, e, hm, hT⟩ := hps.2 i p c hp; ⟨a, o, t1, t2, e, hpr _ hm, hT⟩⟩
    refine wpAny_mono (law_from5 (W.up hGG) ok he gls F2 hS hsc hpsG hpl hil hit hrl hrt hmany hrs hin hord hondup (by omega) (by omega) (by omega) (hpure ps (by omega) hgood) I7 Gi) (fun fl s' hq => ?_) fun _ _ x => x.elim
    exact hq.down hGG
end
end Mine
namespace Mine

theorem mem_ordOf {p : List Int} {rk : Int → Int} {m : Nat} {a : Int} : a ∈ ordOf p rk m ↔ a ∈ p ∧ 0 ≤ rk a ∧ rk a < (m : Int) := by
  unfold ordOf
  simp only [List.mem_flatMap, List.mem_range, List.mem_filter, decide_eq_true_eq]
  constructor
  · rintro ⟨k, hk, h1, h2⟩; exact ⟨h1, by omega, by omega⟩
  · rintro ⟨h1, h2, h3⟩; exact ⟨(rk a).toNat, by omega, h1, by omega⟩
theorem ordOf_nodup {p : List Int} {rk : Int → Int} (hp : p.Nodup) : ∀ m : Nat, (ordOf p rk m).Nodup
  | 0 => by unfold ordOf; simp
  | m + 1 => by
    rw [ordOf_succ, List.nodup_append]
    refine ⟨ordOf_nodup hp m, hp.filter _, fun a ha b hb e => ?_⟩
    have h1 := (mem_ordOf.mp ha).2.2
    have h2 := (List.mem_filter.mp hb).2
    rw [decide_eq_true_eq, ← e] at h2
    omega
theorem ordOf_len {p : List Int} {rk : Int → Int} (hp : p.Nodup) (m : Nat) : (ordOf p rk m).length ≤ p.length := by
  rcases Nat.le_total (ordOf p rk m).length p.length with h | h
  · exact h
  · have := perm_of_len (ordOf_nodup hp m) (fun x hx => (mem_ordOf.mp hx).1) h
    rw [this.length_eq]; exact Nat.le_refl _
theorem range_nodup (m : Nat) : ((List.range m).map fun i : Nat => (i : Int)).Nodup := by
  refine List.Pairwise.map _ (fun a b h e => h (by omega)) List.nodup_range

/-- the plain law -/
def PureAll : Prop := ∀ (m : Nat) (items rs : List Int), 2 ≤ m → m ≤ 8 → items.Perm ((List.range m).map fun i : Nat => (i : Int)) → rs.Perm ((List.range m).map fun i : Nat => (i : Int)) →
  ∀ ps : List (Int × Int), ps.length ≤ 10 → (∀ q ∈ ps, GoodP rs m q) → Pure1 ps items rs m

local macro_rules | `(tactic| walk_at "sub") => `(tactic| with_reducible first | exact List.Sublist.refl _ | exact List.nil_sublist _ | (refine List.Sublist.cons_cons _ ?_; walk_at "sub") | (refine List.Sublist.append (List.Sublist.refl _) ?_; walk_at "sub") | (refine List.Sublist.cons _ ?_; walk_at "sub"))
local macro_rules | `(tactic| walk_at "sd") => `(tactic| with_reducible first | assumption | exact List.mem_cons_self | exact SetV.head | exact Hole.mem (by assumption) _ | exact AllHas.mem (by assumption) _ | (refine List.mem_cons_of_mem _ ?_; walk_at "sd") | (apply SetV.tail; walk_at "sd") | (refine List.mem_append_right _ ?_; walk_at "sd") | (refine List.mem_append_left _ ?_; walk_at "sd"))
local macro_rules | `(tactic| walk_at "up") => `(tactic| with_reducible first | exact Upd.head | exact Hole.at (by assumption) _ _ | (refine Upd.tail ?_; walk_at "up") | (refine Upd.app ?_ _; walk_at "up") | (refine Upd.appl ?_ _; walk_at "up"))
local macro_rules | `(tactic| walk_at "hole") => `(tactic| first | with_reducible assumption | (intro _ _; walk_at "up"))
local macro_rules | `(tactic| walk_at "allhas") => `(tactic| first | with_reducible assumption | (intro _; walk_at "sd"))
local macro_rules | `(tactic| walk_at "led") => `(tactic| ((try simp only [List.append_assoc, List.cons_append, List.nil_append, List.append_nil]); (with_reducible refine' Led.sub ?I ?s); (case I => with_reducible assumption); (case s => walk_at "sub")))
local macro_rules | `(tactic| walk_at "sw") => `(tactic| fail "sw")
local macro_rules | `(tactic| walk_at "perm") => `(tactic| (refine permOf fun x => ?_; simp only [List.count_append, List.count_cons, List.count_nil, List.append_assoc, List.cons_append, List.nil_append] <;> omega))
local macro_rules | `(tactic| walk_at "sees") => `(tactic| first | with_reducible assumption | (intro _ _; walk_at "sd") | (intro _ hp; rcases List.mem_append.mp hp with hp | hp <;> walk_at "sd"))
local macro_rules | `(tactic| walk_at "nx") => `(tactic| first
  | with_reducible refine wpAny_execs_nil ?_
  | with_reducible refine wpAny_execs_cons ?_
  | with_reducible refine wpAny_If ?_
  | ((with_reducible refine wpAny_isTrue_Compare1 ?_ ?hs); case hs => with_unfolding_all rfl)
  | with_reducible refine wpAny_truthy_bool ?_
  | ((with_reducible refine wpAny_Compare1 ?_ ?hs); case hs => with_unfolding_all rfl)
  | ((with_reducible refine wpAny_Assign_Subscript ?_ ?hs); case hs => with_unfolding_all rfl)
  | ((with_reducible refine wpAny_Assign_Name ?_ ?hs); case hs => with_unfolding_all rfl)
  | with_reducible refine wpAny_Return_some ?_
  | with_reducible refine wpAny_BinOp ?_
  | ((with_reducible refine Slice_ ?_ ?ht); (case ht => (intro _ _; with_unfolding_all rfl)))
  | with_reducible refine Subscript_ ?_
  | ((with_reducible refine' MethodCall_ ?_ ?hs); case hs => with_unfolding_all rfl)
  | ((with_reducible refine Call_ ?_ ?hs); case hs => with_unfolding_all rfl)
  | with_reducible refine cInt ?_
  | with_reducible refine wpAny_UnaryOp ?_
  | with_reducible refine negI ?_
  | with_reducible refine addI ?_
  | with_reducible refine subI ?_
  | with_reducible refine ltI ?_
  | with_reducible refine eqI ?_
  | with_reducible refine neI ?_
  | with_reducible refine leI ?_
  | with_reducible refine gtI ?_
  | ((with_reducible refine modI ?h0 ?_); (case h0 => first | with_reducible assumption | decide | omega))
  | ((with_reducible refine divI ?h0 ?hp ?_); (case h0 => first | with_reducible assumption | decide | omega); (case hp => first | exact PyProof.noPylong_of_log2 (by decide +kernel) | exact PyProof.noPylong_small (by omega)))
  | ((with_reducible refine mulI ?h0 ?_); (case h0 => mul_fits))
  | ((with_reducible refine' ld ?I ?F ?m ?_ ?hd); (case I => with_reducible assumption); (case F => with_reducible assumption); (case m => walk_at "sd"); (case hd => decide))
  | ((with_reducible refine' ldB ?I ?F ?gls ?gd ?hx ?hmiss ?hv ?hn ?_ ?hd); (case I => with_reducible assumption); (case F => with_reducible assumption); (case gls => with_reducible assumption); (case gd => with_reducible assumption); (case hx => walk_at "sd"); (case hmiss => with_reducible assumption); (case hv => with_reducible assumption); (case hn => decide); (case hd => decide))
  | ((with_reducible refine' ldG ?I ?F ?gls ?gd ?hx ?hv ?_ ?hd); (case I => with_reducible assumption); (case F => with_reducible assumption); (case gls => with_reducible assumption); (case gd => with_reducible assumption); (case hx => walk_at "sd"); (case hv => with_reducible assumption); (case hd => decide))
  | ((with_reducible refine Assign_Tuple ?_ ?hs ?hw); (case hs => with_unfolding_all rfl); (case hw => first | with_unfolding_all rfl | exact swNone rfl | exact swNone (by walk_at "sw")))
  | ((with_reducible refine' asTuple ?ok ?I ?m ?T ?hn ?hst ?_); (case ok => with_reducible assumption); (case I => with_reducible assumption); (case m => walk_at "sd"); (case T => with_reducible assumption); (case hn => rfl); (case hst => rfl); intro _ _; (try simp only [assignEach, List.map_cons, List.map_nil]))
  | ((with_reducible refine' asTupleG ?ok ?I ?m ?T ?hn ?hst ?_); (case ok => with_reducible assumption); (case I => with_reducible assumption); (case m => with_reducible assumption); (case T => with_reducible assumption); (case hn => rfl); (case hst => rfl); intro _ _; (try simp only [assignEach, List.map_cons, List.map_nil]))
  | with_reducible refine inOrder_cons ?_
  | with_reducible refine inOrder_nil ?_
  | with_reducible refine asSub ?_
  | ((with_reducible refine' asName ?I ?F ?m ?_); (case I => with_reducible assumption); (case F => with_reducible assumption); (case m => walk_at "sd"); intro _ _ _ _ _)
  | with_reducible refine Tuple_ ?_
  | with_reducible refine List_ ?_
  | ((with_reducible refine' tupleN ?I ?hb ?_); (case I => with_reducible assumption); (case hb => first | (show _ ≤ _; simp only [List.length_cons, List.length_nil]; omega) | omega); intro _ _ _ _ _)
  | ((with_reducible refine' listN ?I ?hb ?_); (case I => with_reducible assumption); (case hb => first | (show _ ≤ _; simp only [List.length_cons, List.length_nil]; omega) | omega); intro _ _ _ _ _)
  | ((with_reducible refine' callW ?hf ?_ ?he); (case hf => with_reducible assumption); (case he => with_unfolding_all rfl))
  | ((with_reducible refine' callWD ?hf ?_ ?he); (case hf => with_reducible assumption); (case he => with_unfolding_all rfl))
  | with_reducible refine And.intro (Grd.of (by assumption)) ?_
  | ((with_reducible refine PyProof.Rows.callWith_type1 ?_ ?hs ?ht); (case hs => with_unfolding_all rfl); (case ht => with_unfolding_all rfl))
  | ((with_reducible refine' rangeC1 ?I ?_); (case I => with_reducible assumption); intro _ _ _ _ _ _)
  | ((with_reducible refine' rangeC2 ?I ?_); (case I => with_reducible assumption); intro _ _ _ _ _ _)
  | ((with_reducible refine' rangeC3 ?I ?hc ?hp ?_); (case I => with_reducible assumption); (case hc => first | decide | omega); (case hp => first | exact PyProof.noPylong_of_log2 (by decide +kernel) | exact PyProof.noPylong_small (by omega)); intro _ _ _ _ _ _)
  | ((with_reducible refine wpAny_For ?_ ?hs); case hs => (intro _; rfl))
  | ((with_reducible refine callWith_builtin1 ?_ ?hs ?ht); (case hs => with_unfolding_all rfl); (case ht => with_unfolding_all rfl))
  | ((with_reducible refine args_cons ?_ ?hs); (case hs => with_unfolding_all rfl))
  | with_reducible refine args_nil ?_
  | ((with_reducible refine' subL ?I ?m ?L ?h0 ?hx ?_ ?hs); (case I => with_reducible assumption); (case m => walk_at "sd"); (case L => with_reducible assumption); (case h0 => first | decide | omega); (case hx => first | with_reducible assumption | rfl); (case hs => with_unfolding_all rfl))
  | ((with_reducible refine' subD ?I ?m ?D ?hv ?_ ?hs); (case I => with_reducible assumption); (case m => walk_at "sd"); (case D => with_reducible assumption); (case hv => with_reducible assumption); (case hs => with_unfolding_all rfl); intro _)
  | ((with_reducible refine' setL ?I ?m ?L ?e ?H ?h0 ?hk ?hv ?_); (case I => with_reducible assumption); (case m => walk_at "sd"); (case L => with_reducible assumption); (case e => rfl); (case H => walk_at "hole"); (case h0 => first | decide | omega); (case hk => first | omega | (simp only [List.length_cons, List.length_nil, List.length_set, Int.reduceToNat]; omega)); (case hv => first | ((simp only [Int.reduceToNat, List.set_cons_zero, List.set_cons_succ]; done)) | ((simp only [Int.reduceToNat, List.set_cons_zero, List.set_cons_succ]; rfl)) | rfl); intro _ _ _ _ _)
  | ((with_reducible refine' lenL ?I ?m ?L ?_); (case I => with_reducible assumption); (case m => walk_at "sd"); (case L => with_reducible assumption); intro _ _)
  | ((with_reducible refine absI ?_); intro _ _)
  | ((with_reducible refine' st ?I ?F ?m ?_); (case I => with_reducible assumption); (case F => with_reducible assumption); (case m => walk_at "sd"); intro _ _ _ _ _)
  | ((with_reducible refine' ldS ?I ?hk ?S ?sub ?m ?_ ?hd); (case I => with_reducible assumption); (case hk => exact Frm.kind (by assumption)); (case S => with_reducible assumption); (case sub => walk_at "sees"); (case m => walk_at "sd"); (case hd => decide))
  | ((with_reducible refine' gmS ?slot ?hty ?I ?m ?S ?_); (case I => with_reducible assumption); (case m => walk_at "sd"); (case S => with_reducible assumption); (case slot => with_reducible first | exact F.slot_set_add | exact F.slot_set_isdisjoint | exact F.slot_set_difference_update); (case hty => with_reducible first | exact F.type_set_add | exact F.type_set_isdisjoint | exact F.type_set_difference_update))
  | ((with_reducible refine' gmD ?slot ?hty ?I ?m ?D ?_); (case I => with_reducible assumption); (case m => walk_at "sd"); (case D => with_reducible assumption); (case slot => with_reducible first | exact PySem.F.slot_dict_setdefault | exact PySem.F.slot_dict_get | exact PySem.F.slot_dict_values); (case hty => with_reducible first | exact PySem.F.type_dict_setdefault | exact PySem.F.type_dict_get | exact PySem.F.type_dict_values))
  | ((with_reducible refine' gmL ?slot ?hty ?I ?m ?L ?_); (case I => with_reducible assumption); (case m => walk_at "sd"); (case L => with_reducible assumption); (case slot => with_reducible first | exact F.slot_list_append | exact F.slot_list_extend); (case hty => with_reducible first | exact F.type_list_append | exact F.type_list_extend))
  | ((with_reducible refine callWith_method1 ?_ ?hs ?ht); (case hs => with_unfolding_all rfl); (case ht => with_unfolding_all rfl))
  | with_reducible refine callWith_method0 ?_
  | ((with_reducible refine' exprS ?_ ?hi ?hs); (case hi => exact Frm.kind (by assumption)); (case hs => with_unfolding_all rfl))
  | with_reducible refine wpAny_isTrue_Not ?_
  | ((with_reducible refine' truthyS ?I ?m ?S ?_); (case I => with_reducible assumption); (case m => walk_at "sd"); (case S => with_reducible assumption); intro _)
  | ((with_reducible refine' truthyL ?I ?m ?L ?_); (case I => with_reducible assumption); (case m => walk_at "sd"); (case L => with_reducible assumption); intro _)
  | with_reducible refine wpAny_IfExp ?_
  | with_reducible refine isTrue_and ?_
  | with_reducible refine isTrue_and_nil ?_
  | ((with_reducible refine isTrue_plain ?_ ?he); (case he => with_unfolding_all rfl))
  | ((with_reducible refine' inS ?I ?m ?S ?_); (case I => with_reducible assumption); (case m => walk_at "sd"); (case S => with_reducible assumption); intro _)
  | ((with_reducible refine' inD ?I ?m ?D ?_); (case I => with_reducible assumption); (case m => walk_at "sd"); (case D => with_reducible assumption); intro _)
  | ((with_reducible refine' getD2 ?I ?m ?D ?_); (case I => with_reducible assumption); (case m => walk_at "sd"); (case D => with_reducible assumption); intro _)
  | ((with_reducible refine' addS ?I ?m ?S ?e ?H ?hb ?_); (case I => with_reducible assumption); (case m => walk_at "sd"); (case S => with_reducible assumption); (case e => rfl); (case H => walk_at "hole"); (case hb => omega); intro _ _ _ _ _)
  | ((with_reducible refine' appendL ?I ?m ?e ?H ?L ?hb ?_); (case I => with_reducible assumption); (case m => walk_at "sd"); (case L => with_reducible assumption); (case e => rfl); (case H => walk_at "hole"); (case hb => first | omega | (simp only [List.length_append, List.length_cons, List.length_nil]; omega)); intro _ _ _ _ _)
  | ((with_reducible refine' newD ?gd ?I ?_); (case gd => with_reducible assumption); (case I => with_reducible assumption); intro _ _ _ _ _)
  | with_reducible refine callWith_type0 ?_
  | with_reducible refine tests0 ?_
  | with_reducible refine tests1 ?_
  | with_reducible refine emit_ ?_
  | ((with_reducible refine' newS ?I ?_); (case I => with_reducible assumption); intro _ _ _ _ _)
  | ((with_reducible refine' listList ?I ?m ?L ?_); (case I => with_reducible assumption); (case m => walk_at "sd"); (case L => with_reducible assumption); intro _ _ _ _ _)
  | ((with_reducible refine' valuesD ?I ?m ?D ?_); (case I => with_reducible assumption); (case m => walk_at "sd"); (case D => with_reducible assumption); intro _ _ _ _ _)
  | ((with_reducible refine' next_spec2 ?gd ?ok ?nl ?na ?hf ?I ?m ?ho ?hs ?e ?H ?hsc ?hmany ?_); (case gd => with_reducible assumption); (case nl => with_reducible assumption); (case na => with_reducible assumption); (case hf => with_reducible assumption); (case I => with_reducible assumption); (case m => walk_at "sd"); (case ho => with_reducible assumption); (case hs => with_reducible assumption); (case ok => exact Ok.less (by assumption) (by decide)); (case e => rfl); (case H => walk_at "hole"); (case hsc => walk_at "allhas"); (case hmany => omega); intro _ _ _ _ _ _ _ _ _)
  | with_reducible refine partNone ?_
  | with_reducible refine partSome ?_
  | ((with_reducible refine' sliceAll ?I ?m ?L ?_); (case I => with_reducible assumption); (case m => walk_at "sd"); (case L => with_reducible assumption); intro _ _ _ _ _)
  | (with_reducible dsimp only [List.cons_append, List.nil_append, List.append_nil])
  )
section
variable {prog : Program} {w : World} {A : Around} {E : Value → Shared → Prop} {h G : Heap} {g : Array GenState} {d : Drawn} {t : Nat} {os : OsState}
  {env : Env} {l fo lc lg : List (Addr × Obj)} {mg mb : Str → Option Value} {k : Nat} {vs : List Value} {ns : List Int} {la fa : Addr}

set_option maxRecDepth 100000 in
set_option maxHeartbeats 4000000 in
theorem law_from0 (hP : PureAll) (W : W1 prog w G mg mb) (ok : Ok A 40) (he : env.scope = fnScope (st1 10)) (gls : Gls env ["_law_next", "_law_row", "sort_as_subsets", "sort", "list", "range", "max"])
    (F : Frm env fo [("script", some (.ref la)), ("state", none), ("many", none), ("items", none), ("ranks", none), ("pairs", none), ("_", none), ("a", none), ("b", none), ("deep", none), ("due", none)])
    (hl : G.IsList la vs.toArray) (hi : IntsAre vs ns) (hn : ns.length ≤ 63) (I : Led G (fo ++ []) h) (Gi : GLed [] g) :
    wpAny (model prog w) A (execs (fnBody (st1 10)) env) (EndQ G os) NoE ⟨h, g, d, t, os⟩ := by
  have gd := W.gd
  have nlen := W.nlen
  have nabs := W.nabs
  obtain ⟨fnx, hnx, hfnx⟩ := W.next
  obtain ⟨frw, hrw, hfrw⟩ := W.row
  have hll : h.IsList la vs.toArray := let ⟨o, ho, r⟩ := hl; ⟨o, I.gr _ _ ho, r⟩
  rw [show fnBody (st1 10) = (fnBody (st1 10)).getD 0 (.Pass default) :: (fnBody (st1 10)).getD 1 (.Pass default) :: (fnBody (st1 10)).getD 2 (.Pass default) :: (fnBody (st1 10)).drop 3 from rfl]
  refine wpAny_execs_cons ?_
  conv in exec _ _ => (arg 1; whnf)
  repeat walk_at "nx"
  refine sliceAt (us := vs.take 60) I hll (by rw [hi.length]; exact Nat.le_trans hn (by decide)) .none (.int 60 _) (slicePick_upto' _ 60) (by rw [List.length_take]; omega) fun sc osc h hsc I => ?_
  repeat walk_at "nx"
  rename_i sa oS h1 hSL I1 h2 t2 fo2 I2 F2
  have hS : StO sc oS := ⟨0, 17, _, _, hSL, by omega, by omega, by omega⟩
  have hscI : IntsO osc (ns.take 60) := ⟨vs.take 60, hsc, hi.take 60⟩
  conv in exec _ _ => (arg 1; whnf)
  repeat walk_at "nx"
  rename_i r tr h3 t3 oS3 hr0 hr1 hS3 I3 h4 t4 fo4 I4 F4
  obtain ⟨m, hm⟩ : ∃ m : Nat, 2 + r = (m : Int) := ⟨(2 + r).toNat, by omega⟩
  rw [hm] at F4
  conv in exec _ _ => (arg 1; whnf)
  refine Assign_Tuple ?_ ?hs ?hw
  case hs => with_unfolding_all rfl
  case hw => exact swNone (by simp only [nameLoc, Env.kindOf, he]; rfl)
  repeat walk_at "nx"
  refine row_spec (k := 30) (lf := fun o => fo4 ++ (sa, o) :: (sc, osc) :: []) gd (ok.less (by omega)) nlen nabs W.nrange W.nlist hfnx hnx hfrw I4 (by walk_at "hole") hS3 (by walk_at "allhas") hscI (by omega) fun il p oil h d t oS4 hil hp hS4 I5 => ?_
  replace I5 := I5.perm (l' := fo4 ++ (il, oil) :: (sa, oS4) :: [(sc, osc)]) (by walk_at "perm")
  repeat walk_at "nx"
  refine row_spec (k := 30) (lf := fun o => fo4 ++ (il, oil) :: (sa, o) :: [(sc, osc)]) gd (ok.less (by omega)) nlen nabs W.nrange W.nlist hfnx hnx hfrw I5 (by walk_at "hole") hS4 (by walk_at "allhas") hscI (by omega) fun rl rs orl h d t oS5 hrl hrs hS5 I6 => ?_
  replace I6 := I6.perm (l' := fo4 ++ (rl, orl) :: (il, oil) :: (sa, oS5) :: [(sc, osc)]) (by walk_at "perm")
  repeat walk_at "nx"
  rename_i T oT h7 hT I7 h8 I8 h9 t9 fo9 I9 F9 h10 t10 fo10 I10 F10
  obtain ⟨iv, hil, hit⟩ := hil
  obtain ⟨rv, hrl, hrt⟩ := hrl
  have hpl : p.length = m := by rw [hp.length_eq]; simp
  have hrl' : rs.length = m := by rw [hrs.length_eq]; simp
  have hpn : p.Nodup := hp.nodup_iff.mpr (range_nodup m)
  have hrn : rs.Nodup := hrs.nodup_iff.mpr (range_nodup m)
  have hin : ∀ a ∈ p, 0 ≤ a ∧ a < (m : Int) := fun a ha => by
    obtain ⟨i, hi, rfl⟩ := List.mem_map.mp (hp.mem_iff.mp ha)
    have := List.mem_range.mp hi
    omega
  have I11 : Led G (fo10 ++ ((sa, oS5) :: (sc, osc) :: (il, oil) :: (rl, orl) :: [])) h10 := (I10.perm (l' := (T, oT) :: (fo10 ++ ((sa, oS5) :: (sc, osc) :: (il, oil) :: (rl, orl) :: []))) (by walk_at "perm")).drop
  exact law_from3 W ok he gls F10 hS5 hscI hil hit hrl hrt hpl hrl' hin (by omega) (by omega) hrn (Nat.le_trans (ordOf_len hpn m) (by omega)) (ordOf_nodup hpn m) (fun ps h1 h2 => hP m p rs (by omega) (by omega) hp hrs ps h1 h2) I11 Gi

theorem law_call {Q : Value → Shared → Prop} (hP : PureAll) (W : W1 prog w G mg mb) (ok : Ok A 41) (hlaw : FnIs G fa "law" (fnParams (st1 10)) (fnBody (st1 10)) (fnScope (st1 10))) (hl : G.IsList la vs.toArray) (hi : IntsAre vs ns) (hn : ns.length ≤ 63) (I : Led G [] h) (Gi : GLed [] g)
    (hQ : ∀ s', (∀ b o, G.get? b = some o → s'.heap.get? b = some o) → s'.os = os → AllBare s'.gens → Q (.bool true) s') :
    wpAny (model prog w) A (call (.ref fa) [.ref la]) Q E ⟨h, g, d, t, os⟩ := by
  refine callFn (binds := [("script", .ref la)]) ["script"] ["state", "many", "items", "ranks", "pairs", "_", "a", "b", "deep", "due"] ["_law_next", "_law_row", "sort_as_subsets", "sort", "list", "range", "max"] ok W.gd I hlaw (fun _ _ _ => by rfl) (by rfl) (by decide +kernel) rfl ?_
  intro env fo h t he I F gls ok
  simp only [varsOf, List.map_cons, List.map_nil, List.cons_append, List.nil_append] at F
  refine wpAny_mono (law_from0 hP W ok he gls F hl hi hn I Gi) (fun fl s' hq => ?_) fun _ _ x => x
  obtain ⟨rfl, h1, h2, h3⟩ := hq
  exact hQ s' h1 h2 h3
end
end Mine
namespace Mine

section
variable {ps : List (Int × Int)} {it : List Int} {dp : Int → Int} {M : Int}

theorem ready_at (h1 : ∀ a ∈ it, ∀ b ∈ it, (b, a) ∈ ps → dp b + 1 ≤ dp a) (h2 : ∀ a ∈ it, 0 < dp a → ∃ b ∈ it, (b, a) ∈ ps ∧ dp a = dp b + 1) {k : Int} (hk : 0 ≤ k) :
    ready ps (it.filter fun a => decide (k ≤ dp a)) = it.filter fun a => decide (dp a = k) := by
  unfold ready
  rw [List.filter_filter]
  refine List.filter_congr fun a ha => ?_
  rw [Bool.eq_iff_iff]
  simp only [Bool.and_eq_true, decide_eq_true_eq, mem_mf, List.mem_filter, not_and]
  constructor
  · rintro ⟨hr, hka⟩
    rcases Int.lt_or_le k (dp a) with hlt | hle
    · obtain ⟨b, hb, hba, he⟩ := h2 a ha (by omega)
      exact absurd (show k ≤ dp b by omega) (hr b hba hb)
    · omega
  · intro he
    refine ⟨fun p hp hpi hkp => ?_, by omega⟩
    have := h1 a ha p hpi hp
    omega

theorem layers_at (h1 : ∀ a ∈ it, ∀ b ∈ it, (b, a) ∈ ps → dp b + 1 ≤ dp a) (h2 : ∀ a ∈ it, 0 < dp a → ∃ b ∈ it, (b, a) ∈ ps ∧ dp a = dp b + 1) (hM : ∀ a ∈ it, dp a ≤ M) (hex : ∀ k : Int, 0 ≤ k → k ≤ M → ∃ a ∈ it, dp a = k) :
    ∀ (n k : Nat), (k : Int) + n = M + 1 → Layers ps (it.filter fun a => decide ((k : Int) ≤ dp a)) ((List.range' k n).map fun j : Nat => it.filter fun a => decide (dp a = (j : Int)))
  | 0, k, e => by
    have : (it.filter fun a => decide ((k : Int) ≤ dp a)) = [] := by
      rw [List.filter_eq_nil_iff]
      intro a ha
      have := hM a ha
      simp; omega
    rw [this]
    exact .done
  | n + 1, k, e => by
    have ih := layers_at h1 h2 hM hex n (k + 1) (by push_cast at e ⊢; omega)
    have hr := ready_at h1 h2 (k := (k : Int)) (by omega)
    rw [List.range'_succ, List.map_cons, ← hr]
    refine .step ?_ ?_
    · rw [hr]
      intro h0
      obtain ⟨a, ha, hak⟩ := hex k (by omega) (by omega)
      rw [List.filter_eq_nil_iff] at h0
      exact h0 a ha (by simpa using hak)
    · have : ((it.filter fun a => decide ((k : Int) ≤ dp a)).filter fun n => decide (n ∉ ready ps (it.filter fun a => decide ((k : Int) ≤ dp a)))) = it.filter fun a => decide (((k + 1 : Nat) : Int) ≤ dp a) := by
        rw [hr, List.filter_filter]
        refine List.filter_congr fun a ha => ?_
        rw [Bool.eq_iff_iff]
        simp only [Bool.and_eq_true, decide_eq_true_eq, List.mem_filter, not_and]
        constructor
        · rintro ⟨h, h'⟩
          have := h ha
          push_cast; omega
        · intro h
          push_cast at h
          exact ⟨fun _ => by omega, by omega⟩
      rw [this]
      exact ih

theorem layers_due (h0 : ∀ a ∈ it, 0 ≤ dp a) (h1 : ∀ a ∈ it, ∀ b ∈ it, (b, a) ∈ ps → dp b + 1 ≤ dp a) (h2 : ∀ a ∈ it, 0 < dp a → ∃ b ∈ it, (b, a) ∈ ps ∧ dp a = dp b + 1) (hM : ∀ a ∈ it, dp a ≤ M) (hM0 : 0 ≤ M) (hm : ∃ a ∈ it, dp a = M) : Layers ps it (dueOf it dp M) := by
  have hex : ∀ (n : Nat) (k : Int), 0 ≤ k → k + n = M → ∃ a ∈ it, dp a = k := by
    intro n
    induction n with
    | zero => intro k _ e; obtain ⟨a, ha, e2⟩ := hm; exact ⟨a, ha, by omega⟩
    | succ n ih =>
      intro k hk e
      obtain ⟨a, ha, e2⟩ := ih (k + 1) (by omega) (by push_cast at e; omega)
      obtain ⟨b, hb, _, e3⟩ := h2 a ha (by omega)
      exact ⟨b, hb, by omega⟩
  have := layers_at h1 h2 hM (fun k hk1 hk2 => hex (M - k).toNat k hk1 (by omega)) (1 + M).toNat 0 (by omega)
  have e : (it.filter fun a => decide (((0 : Nat) : Int) ≤ dp a)) = it := by
    rw [List.filter_eq_self]
    intro a ha
    have := h0 a ha
    simpa using this
  rw [e] at this
  unfold dueOf
  rw [List.range_eq_range']
  exact this
theorem flat_len {α β : Type} (f : α → List β) (c : Nat) : ∀ l : List α, (∀ x ∈ l, (f x).length ≤ c) → (l.map f).flatten.length ≤ l.length * c
  | [], _ => by simp
  | x :: r, h => by
    have := flat_len f c r fun y hy => h y (List.mem_cons_of_mem _ hy)
    have := h x List.mem_cons_self
    rw [List.map_cons, List.flatten_cons, List.length_append, List.length_cons, Nat.succ_mul]
    omega
end

theorem dget_some {dv : List (Int × Int)} {b n : Int} (h : dget dv b = some n) : (b, n) ∈ dv := by
  unfold dget at h
  obtain ⟨p, hp, rfl⟩ := Option.map_eq_some_iff.mp h
  have := List.find?_some hp
  have hc : p.1 = b := by simpa using this
  rw [← hc]; exact List.mem_of_find?_eq_some hp
theorem dget_mem {dv : List (Int × Int)} (nd : (dv.map (·.1)).Nodup) {b n : Int} (h : (b, n) ∈ dv) : dget dv b = some n := by
  induction dv with
  | nil => cases h
  | cons q r ih =>
    rw [List.map_cons, List.nodup_cons] at nd
    unfold dget
    rw [List.find?_cons]
    rcases List.mem_cons.mp h with rfl | h
    · simp
    · have : q.1 ≠ b := fun e => nd.1 (List.mem_map.mpr ⟨_, h, e.symm⟩)
      simp only [this, decide_false]
      exact ih nd.2 h
theorem dget_take {dv : List (Int × Int)} (nd : (dv.map (·.1)).Nodup) {i j : Nat} {b n : Int} (h : dv[i]? = some (b, n)) (hij : i < j) : dget (dv.take j) b = some n := by
  refine dget_mem ?_ ?_
  · rw [List.map_take]; exact nd.sublist (List.take_sublist _ _)
  · refine List.mem_of_getElem? (i := i) ?_
    rw [List.getElem?_take, if_pos hij]; exact h
theorem ordOf_sorted {p : List Int} {rk : Int → Int} : ∀ m : Nat, (ordOf p rk m).Pairwise fun x y => rk x ≤ rk y
  | 0 => by unfold ordOf; simp
  | m + 1 => by
    rw [ordOf_succ, List.pairwise_append]
    refine ⟨ordOf_sorted m, ?_, fun a ha b hb => ?_⟩
    · refine List.Pairwise.imp_of_mem (R := fun _ _ => True) (fun {a b} ha hb _ => ?_) (List.pairwise_of_forall fun _ _ => trivial)
      have h1 := (List.mem_filter.mp ha).2
      have h2 := (List.mem_filter.mp hb).2
      rw [decide_eq_true_eq] at h1 h2
      omega
    · have h1 := (mem_ordOf.mp ha).2.2
      have h2 := (List.mem_filter.mp hb).2
      rw [decide_eq_true_eq] at h2
      omega

theorem pureAll : PureAll := by
  intro m items rs hm1 hm2 hpi hpr ps hpl hgood dv hkeys hDP
  have hin : ∀ a ∈ items, 0 ≤ a ∧ a < (m : Int) := fun a ha => by
    obtain ⟨i, hi, rfl⟩ := List.mem_map.mp (hpi.mem_iff.mp ha)
    have := List.mem_range.mp hi
    omega
  have hlen : items.length = m := by rw [hpi.length_eq]; simp
  have hrl : rs.length = m := by rw [hpr.length_eq]; simp
  have hpn : items.Nodup := hpi.nodup_iff.mpr (range_nodup m)
  have hrk : ∀ a ∈ items, 0 ≤ rkOf rs a ∧ rkOf rs a < (m : Int) := fun a ha => by
    obtain ⟨h1, h2⟩ := hin a ha
    have hlt : a.toNat < rs.length := by omega
    have : rkOf rs a ∈ rs := by unfold rkOf; rw [List.getD_eq_getElem?_getD, List.getElem?_eq_getElem hlt]; exact List.getElem_mem hlt
    obtain ⟨i, hi, e⟩ := List.mem_map.mp (hpr.mem_iff.mp this)
    have := List.mem_range.mp hi
    omega
  have hord : ∀ a, a ∈ ordOf items (rkOf rs) m ↔ a ∈ items := fun a => by
    rw [mem_ordOf]
    exact ⟨fun h => h.1, fun h => ⟨h, hrk a h⟩⟩
  have nd : (dv.map (·.1)).Nodup := by rw [hkeys]; exact ordOf_nodup hpn m
  have hdl : dv.length ≤ 8 := by
    have := ordOf_len hpn (rk := rkOf rs) m
    rw [← hkeys, List.length_map] at this; omega
  have hmem : ∀ a n, (a, n) ∈ dv → a ∈ items := fun a n h => (hord a).mp (by rw [← hkeys]; exact List.mem_map.mpr ⟨_, h, rfl⟩)
  have hget : ∀ a ∈ items, ∃ j : Nat, ∃ n, dv[j]? = some (a, n) ∧ dget dv a = some n := fun a ha => by
    have : a ∈ dv.map (·.1) := by rw [hkeys]; exact (hord a).mpr ha
    obtain ⟨p, hp, e⟩ := List.mem_map.mp this
    obtain ⟨a', n⟩ := p
    cases e
    obtain ⟨j, hj⟩ := List.mem_iff_getElem?.mp hp
    exact ⟨j, n, hj, dget_mem nd hp⟩
  have hbound : ∀ (j : Nat) a n, dv[j]? = some (a, n) → 0 ≤ n ∧ n ≤ j := by
    intro j
    induction j using Nat.strongRecOn with
    | ind j ih =>
      intro a n hj
      obtain ⟨h1, h2⟩ := hDP j a n hj
      refine ⟨h2 0 List.mem_cons_self, ?_⟩
      rcases List.mem_cons.mp h1 with rfl | h1
      · omega
      · unfold vals at h1
        obtain ⟨q, hq, he⟩ := List.mem_filterMap.mp h1
        split at he
        · obtain ⟨x, hx, rfl⟩ := Option.map_eq_some_iff.mp he
          have hxm := dget_some hx
          obtain ⟨i, hi⟩ := List.mem_iff_getElem?.mp hxm
          rw [List.getElem?_take] at hi
          split at hi
          · have := (ih i (by assumption) _ _ hi).2
            omega
          · cases hi
        · cases he
  have c1 : ∀ a ∈ items, dget dv a = some ((dget dv a).getD 0) := fun a ha => by obtain ⟨j, n, _, h⟩ := hget a ha; rw [h]; rfl
  have hdp : ∀ a j n, dv[j]? = some (a, n) → (dget dv a).getD 0 = n := fun a j n h => by rw [dget_mem nd (List.mem_of_getElem? h)]; rfl
  have d1 : ∀ a ∈ items, ∀ b ∈ items, (b, a) ∈ ps → (dget dv b).getD 0 + 1 ≤ (dget dv a).getD 0 := fun a ha b hb hq => by
    obtain ⟨j, n, hj, _⟩ := hget a ha
    obtain ⟨i, n', hi, _⟩ := hget b hb
    rw [hdp a j n hj, hdp b i n' hi]
    have hlt : rkOf rs b < rkOf rs a := hgood (b, a) hq (hin b hb).1 (hin b hb).2 (hin a ha).1 (hin a ha).2
    have hki : (ordOf items (rkOf rs) m)[i]? = some b := by rw [← hkeys, List.getElem?_map, hi]; rfl
    have hkj : (ordOf items (rkOf rs) m)[j]? = some a := by rw [← hkeys, List.getElem?_map, hj]; rfl
    have hij : i < j := by
      rcases Nat.lt_trichotomy i j with h | h | h
      · exact h
      · subst h
        rw [hki] at hkj; cases hkj; omega
      · have hs := ordOf_sorted (p := items) (rk := rkOf rs) m
        rw [List.pairwise_iff_getElem] at hs
        obtain ⟨hi', ei⟩ := List.getElem?_eq_some_iff.mp hki
        obtain ⟨hj', ej⟩ := List.getElem?_eq_some_iff.mp hkj
        have := hs j i hj' hi' h
        rw [ei, ej] at this
        omega
    obtain ⟨_, h2⟩ := hDP j a n hj
    have := h2 (1 + n') (List.mem_cons_of_mem _ (List.mem_filterMap.mpr ⟨(b, a), hq, by
      rw [if_pos rfl, dget_take nd hi hij]; rfl⟩))
    omega
  have d2 : ∀ a ∈ items, 0 < (dget dv a).getD 0 → ∃ b ∈ items, (b, a) ∈ ps ∧ (dget dv a).getD 0 = (dget dv b).getD 0 + 1 := fun a ha h0 => by
    obtain ⟨j, n, hj, _⟩ := hget a ha
    rw [hdp a j n hj] at h0 ⊢
    obtain ⟨h1, _⟩ := hDP j a n hj
    rcases List.mem_cons.mp h1 with rfl | h1
    · omega
    · unfold vals at h1
      obtain ⟨q, hq, he⟩ := List.mem_filterMap.mp h1
      obtain ⟨b, c⟩ := q
      split at he
      · rename_i hc
        obtain ⟨x, hx, rfl⟩ := Option.map_eq_some_iff.mp he
        have hxm : (b, x) ∈ dv := List.mem_of_mem_take (dget_some hx)
        refine ⟨b, hmem b x hxm, by rw [← hc]; exact hq, ?_⟩
        rw [dget_mem nd hxm]
        show 1 + x = x + 1
        omega
      · cases he
  have h0 : ∀ a ∈ items, 0 ≤ (dget dv a).getD 0 := fun a ha => by
    obtain ⟨j, n, hj, _⟩ := hget a ha
    rw [hdp a j n hj]; exact (hbound j a n hj).1
  refine ⟨c1, fun x hx => ?_, fun e => ?_, fun it hit M hM hmax => ?_⟩
  · obtain ⟨p, hp, rfl⟩ := List.mem_map.mp hx
    obtain ⟨j, hj⟩ := List.mem_iff_getElem?.mp hp
    obtain ⟨h1, h2⟩ := hbound j p.1 p.2 hj
    have := (List.getElem?_eq_some_iff.mp hj).1
    exact ⟨h1, by omega⟩
  · subst e
    have : 0 < items.length := by omega
    obtain ⟨a, ha⟩ := List.exists_mem_of_length_pos this
    obtain ⟨j, n, hj, _⟩ := hget a ha
    simp at hj
  · obtain ⟨p, hp, hpM⟩ := List.mem_map.mp hM
    obtain ⟨a0, n0⟩ := p
    have ha0 := hmem a0 n0 hp
    have hmm : ∀ a, a ∈ it ↔ a ∈ items := fun a => by
      rcases hit with rfl | ⟨x, hx, rfl⟩
      · exact Iff.rfl
      · rw [List.mem_append, List.mem_singleton]
        exact ⟨fun h => h.elim id fun e => e ▸ hx, .inl⟩
    have hle : ∀ a ∈ items, (dget dv a).getD 0 ≤ M := fun a ha => by
      obtain ⟨j, n, hj, hg⟩ := hget a ha
      rw [hg]
      exact hmax n (List.mem_map.mpr ⟨(a, n), List.mem_of_getElem? hj, rfl⟩)
    have hd0 : (dget dv a0).getD 0 = M := by rw [dget_mem nd hp]; exact hpM
    have hM0 : 0 ≤ M := by rw [← hd0]; exact h0 a0 ha0
    have hM1 : M ≤ 8 := by
      obtain ⟨j, hj⟩ := List.mem_iff_getElem?.mp hp
      have := (hbound j a0 n0 hj).2
      have := (List.getElem?_eq_some_iff.mp hj).1
      have : n0 = M := hpM
      omega
    refine ⟨layers_due (fun a ha => h0 a ((hmm a).mp ha)) (fun a ha b hb => d1 a ((hmm a).mp ha) b ((hmm b).mp hb)) (fun a ha h => ?_) (fun a ha => hle a ((hmm a).mp ha)) hM0 ⟨a0, (hmm a0).mpr ha0, hd0⟩, ?_⟩
    · obtain ⟨b, hb, r⟩ := d2 a ((hmm a).mp ha) h
      exact ⟨b, (hmm b).mpr hb, r⟩
    · have hil : it.length ≤ 9 := by
        rcases hit with rfl | ⟨x, hx, rfl⟩
        · omega
        · rw [List.length_append, List.length_singleton]; omega
      have hfl := flat_len (fun k : Nat => it.filter fun a => decide ((dget dv a).getD 0 = (k : Int))) 9 (List.range (1 + M).toNat) (fun x _ => Nat.le_trans (List.length_filter_le _ _) hil)
      rw [List.length_range] at hfl
      unfold dueOf
      have h9 : (1 + M).toNat ≤ 9 := by omega
      have h81 := Nat.mul_le_mul_right 9 h9
      exact Nat.le_trans hfl (by omega)
end Mine
namespace Mine

def fnName : Stmt → Str
  | .FunctionDef n _ _ _ _ _ _ _ _ _ => n
  | _ => Str.empty

section
variable {prog : Program} {w : World} {K : Frag} {h : Heap} {mg mb : Str → Option Value}

theorem fn_in {n : Str} {a c : Addr} {o oc : Obj} {params : Arguments} {body : List Stmt} {sc : Scope} {pm doc : Value} {vs : Array Value} {t : Tok} (X : K.In h) (g : h.Ns mainGlobals mg) (e1 : nsIn K mainGlobals n = some (some (.ref a))) (e2 : K.lookup a = some o)
    (e3 : o.data = .func (docDef n params body sc pm (.ref c) doc)) (e5 : K.lookup c = some oc) (e6 : oc.data = .fields vs) (e7 : vs[1]? = some (.str n t)) : ∃ f, mg n = some (.ref f) ∧ FnIs h f n params body sc :=
  ⟨a, mg_of X g e1, o, pm, .ref c, doc, X _ _ e2, e3, c, oc, vs, t, rfl, X _ _ e5, e6, e7⟩

theorem sort_in {n : Str} {a c dt : Addr} {o oc od : Obj} {fd : FuncData} {body : List Stmt} {sc : Scope} {vs : Array Value} {t : Tok} {nn : Nat} (X : K.In h) (g : h.Ns mainGlobals mg) (e1 : nsIn K mainGlobals n = some (some (.ref a))) (e2 : K.lookup a = some o)
    (e3 : o.data = .func fd) (e4 : fd.code = .ref c) (e5 : K.lookup c = some oc) (e6 : oc.data = .fields vs) (e7 : vs[1]? = some (.str fd.qualname t)) (e8 : fd.globals = mainGlobals) (e9 : fd.builtins = builtinsNs) (e10 : fd.closure = [])
    (e11 : fd.body = .stmts body) (e12 : fd.scope = sc) (e13 : fd.defaults = .ref dt) (e14 : K.lookup dt = some od) (e15 : od.data = .seq #[.bool true] nn)
    (e16 : ∀ x y, ∃ k, bindArgs fd ⟨[x, y], []⟩ = (seqItems? fd.defaults >>= k) ∧ k (some #[.bool true]) = pure [(("tuples" : Str), x), (("allitems" : Str), y), (("deterministic_order" : Str), Value.bool true)]) :
    ∃ f fd, mg n = some (.ref f) ∧ FdIs h f fd ∧ fd.body = .stmts body ∧ fd.scope = sc ∧
    ∀ (A : Around) (E : Value → Shared → Prop) (x y : Value) (s : Shared), (∀ b o, h.get? b = some o → s.heap.get? b = some o) →
      wpAny (model prog w) A (bindArgs fd ⟨[x, y], []⟩) (fun b s' => b = [(("tuples" : Str), x), (("allitems" : Str), y), (("deterministic_order" : Str), Value.bool true)] ∧ s' = s) E s := by
  refine ⟨a, fd, mg_of X g e1, ⟨o, X _ _ e2, e3, ⟨c, oc, vs, t, e4, X _ _ e5, e6, e7⟩, e8, e9, e10⟩, e11, e12, fun A E x y s hs => ?_⟩
  obtain ⟨k, hk, hk2⟩ := e16 x y
  rw [hk, e13]
  refine wpAny_bind (wpAny_seqItems (hs _ _ (X _ _ e14)) e15 ?_)
  rw [hk2]
  exact wpAny_pure ⟨rfl, rfl⟩
end
end Mine
set_option maxRecDepth 100000 in
set_option maxHeartbeats 16000000 in
theorem PySem.Challenge.cw_eu0029_01_holds : PySem.Challenge.rw_eu0029_01.Holds := by
  (w_on; o_law; k_head; (case hw => w_witness2); w_strict (
  k_fill
  intro w s₀ s₁ mg mb G Y fa o pm cd doc dV kV ho hd hcd hD hmg hg args vals as hpre hlay hrd hwl hlo
  have KX := kIn_of Y
  have X := (Ground.X G).1
  have V := (Ground.X G).2
  try w_nolog (first | (have GL := glob_more (Ground.glob G (by first | k_qdec | decide +kernel) (by first | k_qdec | decide +kernel)) V) | (have GL := glob_more (Ground.glob G (by decide +kernel)) V))
  refine Ground.open G ?_
  intro T B D TE TW
  try (refine guard_noD D (by decide +kernel) ?_; clear D)
  wrow_args hpre hlay hrd hwl hlo
  rename_i ns _ _ _ _ _ _ _ la vs _ hL ra w1 r0 hI hr hc1 hc2
  have gns := GL.g
  have gd : Mine.Gd s₁.heap mg mb := ⟨GL.g, GL.b, GL.builtins, GL.nolimit⟩
  have hlaw : Mine.FnIs s₁.heap fa "law" (Mine.fnParams (Mine.st1 10)) (Mine.fnBody (Mine.st1 10)) (Mine.fnScope (Mine.st1 10)) := by
    obtain ⟨f, hf, hfn⟩ : ∃ f, mg "law" = some (.ref f) ∧ Mine.FnIs s₁.heap f "law" (Mine.fnParams (Mine.st1 10)) (Mine.fnBody (Mine.st1 10)) (Mine.fnScope (Mine.st1 10)) := Mine.fn_in KX gns rfl rfl rfl rfl rfl rfl
    have : some (Value.ref f) = some (Value.ref fa) := hf.symm.trans hmg
    cases this
    exact hfn
  have W : Mine.W1 Challenge.rw_eu0029_01.row.prog w s₁.heap mg mb := {
    gd := gd
    nlen := GL.free _ (by decide +kernel) (by decide +kernel)
    nabs := GL.free _ (by decide +kernel) (by decide +kernel)
    nrange := GL.free _ (by decide +kernel) (by decide +kernel)
    nlist := GL.free _ (by decide +kernel) (by decide +kernel)
    nset := GL.free _ (by decide +kernel) (by decide +kernel)
    nmax := GL.free _ (by decide +kernel) (by decide +kernel)
    next := Mine.fn_in KX gns rfl rfl rfl rfl rfl rfl
    row := Mine.fn_in KX gns rfl rfl rfl rfl rfl rfl
    sas := Mine.fn_in KX gns rfl rfl rfl rfl rfl rfl
    sort := Mine.sort_in KX gns rfl rfl rfl rfl rfl rfl rfl rfl rfl rfl rfl rfl rfl rfl rfl (fun x y => ⟨_, rfl, rfl⟩) }
  have I0 : Mine.Led s₁.heap [] s₁.heap := ⟨fun _ _ e => e, fun p hp => (by cases hp), fun p hp => (by cases hp), List.nodup_nil⟩
  have ok : Mine.Ok callerA 41 := ⟨rfl, by decide, by decide⟩
  refine Mine.law_call (h := s₁.heap) (g := s₁.gens) (d := s₁.drawn) (t := s₁.toks) (os := s₁.os) Mine.pureAll W ok hlaw hL hI (by omega) I0 (Mine.GLed.of_all (.of_eq hg)) fun s' hk hos hb => ?_
  exact ⟨.inl ⟨.bool true, .bool true, [], rfl, fun cls => rfl, .bool true, by wrow_post, fun _ => ⟨List.nodup_nil, fun a ha => (by cases ha)⟩⟩, .of_keep hk, hos, hb⟩))
