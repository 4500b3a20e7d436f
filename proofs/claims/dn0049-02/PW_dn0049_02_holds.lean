import PyProof.Rows.All
import Wide.All
import OpenK.AllK
import Wide.FinOn
import Lean
import PySem.Challenge.RW_dn0049_02
set_option Elab.async false
set_option compiler.extract_closed false
set_option maxRecDepth 100000
namespace Mine
open PySem PySem.W PySem.Calls PyProof.Rows

/-- nothing shrinks as a run goes on: the heap, the tokens, the generators -/
structure Grown (s s' : Shared) : Prop where
  heap : s.heap.objs.size ≤ s'.heap.objs.size
  toks : s.toks ≤ s'.toks
  gens : s.gens.size ≤ s'.gens.size
theorem Grown.refl (s : Shared) : Grown s s := ⟨Nat.le_refl _, Nat.le_refl _, Nat.le_refl _⟩
theorem Grown.trans {a b c : Shared} (x : Grown a b) (y : Grown b c) : Grown a c := ⟨Nat.le_trans x.heap y.heap, Nat.le_trans x.toks y.toks, Nat.le_trans x.gens y.gens⟩

theorem Grown.setGen (s : Shared) (g : Nat) (x : GenState) : Grown s (s.setGen g x) := ⟨Nat.le_refl _, Nat.le_refl _, by simp [Shared.setGen]⟩
theorem runs_grown {M : Model} {Γ : Ctx} {p : Pos} {t : Sem Fin} {fs : List Frame} {s s' : Shared} {e : End} (h : Runs M Γ p t fs s e s') : Grown s s' := by
  induction h <;> first
    | exact .refl _
    | assumption
    | exact Grown.trans (by assumption) (by assumption)
    | (refine Grown.trans ?_ (by assumption); exact ⟨by simp, Nat.le_refl _, Nat.le_refl _⟩)
    | (refine Grown.trans ?_ (by assumption); exact ⟨Nat.le_refl _, Nat.le_succ _, Nat.le_refl _⟩)
    | (refine Grown.trans ?_ (by assumption); exact ⟨Nat.le_refl _, Nat.le_refl _, by simp⟩)
    | (refine Grown.trans (Grown.setGen _ _ _) (Grown.trans (by assumption) (Grown.trans (Grown.setGen _ _ _) (by assumption))))
    | (refine Grown.trans (by assumption) (Grown.trans (by assumption) (by assumption)))
    | (refine Grown.trans (by assumption) (Grown.trans (Grown.setGen _ _ _) (by assumption)))
    | (refine Grown.trans (Grown.setGen _ _ _) (by assumption))
    | skip

theorem Wakes.grown {M : Model} {Γ : Ctx} {p : Pos} {g : Nat} {r : Resume} {s s' : Shared} {res : GenResult} (h : Wakes M Γ p g r s res s') : Grown s s' := by
  unfold Wakes at h
  split at h
  · exact h.elim
  · split at h
    · obtain ⟨e₁, s₁, hr, _, _, rfl⟩ := h; exact (Grown.setGen _ _ _).trans ((runs_grown hr).trans (Grown.setGen _ _ _))
    · rw [h.2]; exact .refl _
    · rw [h.2]; exact ⟨Nat.le_refl _, Nat.le_refl _, by simp [Shared.setGen]⟩
  · obtain ⟨e₁, s₁, hr, _, _, rfl⟩ := h; exact (Grown.setGen _ _ _).trans ((runs_grown hr).trans (Grown.setGen _ _ _))
  · rw [h.2]; exact .refl _
  · rw [h.2]; exact .refl _

theorem wp_grown {α : Type} (M : Model) (Γ : Ctx) (s₀ : Shared) (t : Sem α) : ∀ (Q : α → Pos → Shared → Prop) (E : Value → Pos → Shared → Prop) (p : Pos) (s : Shared), Grown s₀ s → Sem.wp M Γ t Q E p s →
    Sem.wp M Γ t (fun a p' s' => Grown s₀ s' ∧ Q a p' s') (fun e p' s' => Grown s₀ s' ∧ E e p' s') p s := by
  induction t with
  | pure a => intro Q E p s hn h; exact ⟨hn, h⟩
  | raise e => intro Q E p s hn h; exact ⟨hn, h⟩
  | unsupported _ => intro Q E p s _ h; exact h
  | finish _ => intro Q E p s _ h; exact h
  | rule _ k ih => intro Q E p s hn h; exact ih () Q E p s hn h
  | «at» p' k ih => intro Q E p s hn h; exact ih () Q E p' s hn h
  | load a _ k ih => intro Q E p s hn h; obtain ⟨o, ho, h⟩ := h; exact ⟨o, ho, ih o Q E p s hn h⟩
  | update a _ f k ih => intro Q E p s hn h; exact ⟨h.1, ih () Q E p _ (hn.trans ⟨by simp, Nat.le_refl _, Nat.le_refl _⟩) h.2⟩
  | loadIfAlive a k ih => intro Q E p s hn h; exact ih _ Q E p s hn h
  | point _ k ih => intro Q E p s hn h; exact ih () Q E p s hn h
  | register _ _ => intro Q E p s _ h; exact h
  | alloc o k ih => intro Q E p s hn h; exact ih _ Q E p _ (hn.trans ⟨by simp, Nat.le_refl _, Nat.le_refl _⟩) h
  | fresh k ih => intro Q E p s hn h; exact ih _ Q E p _ (hn.trans ⟨Nat.le_refl _, Nat.le_succ _, Nat.le_refl _⟩) h
  | ask k ih => intro Q E p s hn h; exact ih _ Q E p s hn h
  | choose src m k ih => intro Q E p s hn h; exact ⟨h.1, ih _ Q E p _ (hn.trans ⟨Nat.le_refl _, Nat.le_refl _, Nat.le_refl _⟩) h.2⟩
  | os q _ k ih => intro Q E p s hn h; exact ih _ Q E p _ (hn.trans ⟨Nat.le_refl _, Nat.le_refl _, Nat.le_refl _⟩) h
  | call c hd _ _ k ih => intro Q E p s hn h; obtain ⟨r, s', hr, h⟩ := h; exact ⟨r, s', hr, ih r Q E p s' (hn.trans (runs_grown hr)) h⟩
  | handled own k ih => intro Q E p s hn h; exact ih _ Q E p s hn h
  | genState g k ih => intro Q E p s hn h; obtain ⟨st, hs, h⟩ := h; exact ⟨st, hs, ih _ Q E p s hn h⟩
  | newGen c k ih => intro Q E p s hn h; exact ih _ Q E p _ (hn.trans ⟨Nat.le_refl _, Nat.le_refl _, by simp⟩) h
  | resume g r _ k ih => intro Q E p s hn h; obtain ⟨res, s', hw, h⟩ := h; exact ⟨res, s', hw, ih res Q E p s' (hn.trans (Wakes.grown hw)) h⟩
  | yield _ _ _ _ => intro Q E p s _ h; exact h
  | stack k ih => intro Q E p s hn h; exact ih _ Q E p s hn h
  | fork _ _ => intro Q E p s _ h; exact h
  | thread k ih => intro Q E p s hn h; exact ih _ Q E p s hn h
  | await _ _ _ _ _ => intro Q E p s _ h; exact h

theorem wpAny_grown {α : Type} {M : Model} {A : Around} {s : Shared} {t : Sem α} {Q : α → Shared → Prop} {E : Value → Shared → Prop}
    (h : wpAny M A t (fun a s' => Grown s s' → Q a s') (fun e s' => Grown s s' → E e s') s) : wpAny M A t Q E s :=
  wpAny_mono (fun Γ p hΓ => wp_grown M Γ s t _ _ p s (.refl s) (h Γ p hΓ) : wpAny M A t (fun a s' => Grown s s' ∧ (Grown s s' → Q a s')) (fun e s' => Grown s s' ∧ (Grown s s' → E e s')) s) (fun _ _ x => x.2 x.1) (fun _ _ x => x.2 x.1)
end Mine
set_option maxRecDepth 100000
namespace Mine
open PySem PySem.W PySem.Calls PyProof.Rows

/-- plain data: what a value says, apart from addresses -/
inductive D where
  | raw (v : Value)
  | int (i : Int)
  | str (s : List Nat)
  | list (xs : List D)
  | tup (xs : List D)
  | rng (a b c : Int)

noncomputable abbrev D.bool (b : Bool) : D := .raw (.bool b)
noncomputable abbrev D.none : D := .raw .none

noncomputable def Keep (g h : Heap) : Prop := ∀ b o, g.get? b = some o → h.get? b = some o
theorem Keep.refl (g : Heap) : Keep g g := fun _ _ e => e
theorem Keep.trans {a b c : Heap} (x : Keep a b) (y : Keep b c) : Keep a c := fun p o e => y p o (x p o e)

noncomputable abbrev listO (vs : List Value) (n : Nat) : Obj := { cls := .type "list", data := .seq vs.toArray n }
noncomputable abbrev tupO (vs : List Value) (n : Nat) : Obj := { cls := .type "tuple", data := .seq vs.toArray n }
mutual
inductive Rd (g : Heap) : Value → D → Prop where
  | raw (v : Value) : Rd g v (.raw v)
  | int (i : Int) (t : Tok) : Rd g (.int i t) (.int i)
  | str (s : List Nat) (t : Tok) : s.length ≤ sizeLine → Rd g (.str ⟨s.toArray⟩ t) (.str s)
  | list {a : Addr} {vs : List Value} {n : Nat} {xs : List D} : g.get? a = some (listO vs n) → vs.length ≤ sizeLine → Rds g vs xs → Rd g (.ref a) (.list xs)
  | tup {a : Addr} {vs : List Value} {n : Nat} {xs : List D} : g.get? a = some (tupO vs n) → vs.length ≤ sizeLine → Rds g vs xs → Rd g (.ref a) (.tup xs)
  | rng {r : Addr} {a b c : Int} {t u v : Tok} : g.get? r = some { cls := .type "range", dict := Option.none, data := .fields #[.int a t, .int b u, .int c v], slots := #[] } → Rd g (.ref r) (.rng a b c)
inductive Rds (g : Heap) : List Value → List D → Prop where
  | nil : Rds g [] []
  | cons {v : Value} {d : D} {vs : List Value} {ds : List D} : Rd g v d → Rds g vs ds → Rds g (v :: vs) (d :: ds)
end

mutual
theorem Rd.mono {g g' : Heap} (k : Keep g g') : ∀ {v : Value} {d : D}, Rd g v d → Rd g' v d
  | _, _, .raw v => .raw v
  | _, _, .int i t => .int i t
  | _, _, .str s t h => .str s t h
  | _, _, .list e hl r => .list (k _ _ e) hl (Rds.mono k r)
  | _, _, .tup e hl r => .tup (k _ _ e) hl (Rds.mono k r)
  | _, _, .rng e => .rng (k _ _ e)
theorem Rds.mono {g g' : Heap} (k : Keep g g') : ∀ {vs : List Value} {ds : List D}, Rds g vs ds → Rds g' vs ds
  | _, _, .nil => .nil
  | _, _, .cons a b => .cons (Rd.mono k a) (Rds.mono k b)
end

theorem Rds.length {g : Heap} : ∀ {vs : List Value} {ds : List D}, Rds g vs ds → vs.length = ds.length
  | _, _, .nil => rfl
  | _, _, .cons _ b => by simp [b.length]
theorem Rds.append {g : Heap} : ∀ {vs ws : List Value} {ds es : List D}, Rds g vs ds → Rds g ws es → Rds g (vs ++ ws) (ds ++ es)
  | _, _, _, _, .nil, y => y
  | _, _, _, _, .cons a b, y => .cons a (b.append y)
theorem Rds.get {g : Heap} : ∀ {vs : List Value} {ds : List D}, Rds g vs ds → ∀ (i : Nat) {d : D}, ds[i]? = some d → ∃ v, vs[i]? = some v ∧ Rd g v d
  | _, _, .nil, _, _, e => by simp at e
  | _, _, .cons a _, 0, _, e => by simp at e; subst e; exact ⟨_, rfl, a⟩
  | _, _, .cons _ b, i + 1, _, e => by simpa using b.get i (by simpa using e)
theorem Rds.drop {g : Heap} : ∀ {vs : List Value} {ds : List D}, Rds g vs ds → ∀ n : Nat, Rds g (vs.drop n) (ds.drop n)
  | _, _, .nil, _ => by simp; exact .nil
  | _, _, .cons a b, 0 => .cons a b
  | _, _, .cons _ b, n + 1 => by simpa using b.drop n
theorem Rds.take {g : Heap} : ∀ {vs : List Value} {ds : List D}, Rds g vs ds → ∀ n : Nat, Rds g (vs.take n) (ds.take n)
  | _, _, .nil, _ => by simp; exact .nil
  | _, _, .cons a b, 0 => by simp; exact .nil
  | _, _, .cons a b, n + 1 => by simpa using Rds.cons a (b.take n)
/-- the part of h at the addresses in P -/
noncomputable def cut (h : Heap) (P : Addr → Bool) : Heap := ⟨h.objs.mapIdx fun i o => if P i then o else { o with data := .freed }, h.life⟩
theorem cut_get (h : Heap) (P : Addr → Bool) (b : Addr) : (cut h P).get? b = if P b then h.get? b else Option.none := by
  unfold cut Heap.get?
  simp only [Array.getElem?_mapIdx]
  cases h.objs[b]? with
  | none => simp
  | some o => cases P b <;> simp
theorem cut_some {h : Heap} {P : Addr → Bool} {b : Addr} {o : Obj} : (cut h P).get? b = some o ↔ P b = true ∧ h.get? b = some o := by
  rw [cut_get]
  cases P b <;> simp

/-- a setting: the program, the world, the written part of the heap, the names, the code tables that may grow -/
structure Sig where
  prog : Program
  w : World
  K : Frag
  mg : Str → Option Value
  mb : Str → Option Value
  tabs : List (Addr × Addr)
  qualAt : Pos → Str
  z : Addr

noncomputable abbrev Sig.M (S : Sig) : Model := model S.prog S.w
noncomputable def Sig.T (S : Sig) (b : Addr) : Prop := b ∈ S.tabs.map (·.2)

structure Base (S : Sig) (g : Heap) : Prop where
  kin : S.K.In g
  glob : g.Ns mainGlobals S.mg
  blt : g.Ns builtinsNs S.mb
  nolimit : g.NoLimit
  boot : ∀ x : Str, x ≠ "__name__" → S.mb x = bootBuiltins x
  bmain : ∃ bm ob, S.mg "__builtins__" = some (.ref bm) ∧ bm ≠ builtinsNs ∧ g.get? bm = some ob ∧ ob.cls = .type "module" ∧ ob.dict = some builtinsNs ∧ ob.data = .plain
  heads : ∀ q ∈ S.tabs, CodeHd g q.1 q.2 ∧ g.get? q.2 = Option.none

theorem Base.mono {S : Sig} {g g' : Heap} (B : Base S g) (k : Keep g g') (hT : ∀ q ∈ S.tabs, g'.get? q.2 = Option.none) : Base S g' where
  kin := B.kin.keeps k
  glob := B.glob.keeps k
  blt := B.blt.keeps k
  nolimit := B.nolimit.keeps k
  boot := B.boot
  bmain := let ⟨bm, ob, h1, h2, h3, r⟩ := B.bmain; ⟨bm, ob, h1, h2, k _ _ h3, r⟩
  heads := fun q hq => ⟨(B.heads q hq).1.keeps k, hT q hq⟩

/-- the tables at the state: grown so far, each code in them known to the world -/
structure Tabs (S : Sig) (g : Heap) (s : Shared) : Prop where
  pos : 0 < s.toks
  all : ∀ q ∈ S.tabs, ∃ ps, s.heap.get? q.2 = some (tabObj ps) ∧ TriplesOk ps.toList ∧ ∀ pos cv, codeAmong pos ps.toList = some cv → g.CodeRec cv (S.qualAt pos)

/-- the same object; a frame of the call's own may have got other slots -/
noncomputable def Like (S : Sig) (a : Addr) (o o' : Obj) : Prop := o' = o ∨ (S.z ≤ a ∧ o.cls = .type "frame" ∧ ∃ sl, o' = { o with slots := sl })
theorem Like.refl {S : Sig} {a : Addr} (o : Obj) : Like S a o o := .inl rfl
theorem Like.trans {S : Sig} {a : Addr} {o₁ o₂ o₃ : Obj} (x : Like S a o₁ o₂) (y : Like S a o₂ o₃) : Like S a o₁ o₃ := by
  rcases x with rfl | ⟨h1, h2, sl, rfl⟩
  · exact y
  · rcases y with rfl | ⟨_, _, sl', rfl⟩
    · exact .inr ⟨h1, h2, sl, rfl⟩
    · exact .inr ⟨h1, h2, sl', rfl⟩
theorem Like.data {S : Sig} {a : Addr} {o o' : Obj} (x : Like S a o o') : o'.data = o.data := by
  rcases x with rfl | ⟨_, _, sl, rfl⟩ <;> rfl
theorem Like.eq {S : Sig} {a : Addr} {o o' : Obj} (x : Like S a o o') (h : o.cls ≠ .type "frame") : o' = o := by
  rcases x with rfl | ⟨_, h2, _⟩
  · rfl
  · exact absurd h2 h

/-- the addresses from b on -/
noncomputable abbrev Ab (b : Addr) : Addr → Prop := fun a => b ≤ a
/-- the addresses that are new to s -/
noncomputable abbrev Nw (s : Shared) : Addr → Prop := Ab s.heap.objs.size

/-- a stretch of the run: worlds g to g', states s to s'; objects outside W are kept but for the tables -/
structure Tr (S : Sig) (W : Addr → Prop) (g : Heap) (s : Shared) (g' : Heap) (s' : Shared) : Prop where
  mono : Keep g g'
  keep : Keep g' s'.heap
  same : ∀ a o, ¬ W a → ¬ S.T a → s.heap.get? a = some o → ∃ o', s'.heap.get? a = some o' ∧ Like S a o o'
  fresh : ∀ a o, g'.get? a = some o → g.get? a = some o ∨ W a
  size : s.heap.objs.size ≤ s'.heap.objs.size
  tabs : ∀ q ∈ S.tabs, ∀ ps, s.heap.get? q.2 = some (tabObj ps) → ∃ more, s'.heap.get? q.2 = some (tabObj (ps ++ more))
  base : Base S g'
  now : Tabs S g' s'
  os : s'.os = s.os
  bare : AllBare s.gens → AllBare s'.gens
  gens : s.gens.size ≤ s'.gens.size
  toks : s.toks ≤ s'.toks

theorem Tr.weak {S : Sig} {W V : Addr → Prop} {g g' : Heap} {s s' : Shared} (x : Tr S V g s g' s') (h : ∀ a, V a → W a) : Tr S W g s g' s' :=
  { x with same := fun a o l n e => x.same a o (fun q => l (h a q)) n e, fresh := fun a o e => (x.fresh a o e).imp id (h a) }
theorem Tr.trans {S : Sig} {W V : Addr → Prop} {g₁ g₂ g₃ : Heap} {s₁ s₂ s₃ : Shared} (x : Tr S W g₁ s₁ g₂ s₂) (y : Tr S V g₂ s₂ g₃ s₃) (h : ∀ a, V a → W a) : Tr S W g₁ s₁ g₃ s₃ where
  mono := x.mono.trans y.mono
  keep := y.keep
  same := fun a o l n e => let ⟨o', e', k⟩ := x.same a o l n e; let ⟨o'', e'', k'⟩ := y.same a o' (fun q => l (h a q)) n e'; ⟨o'', e'', k.trans k'⟩
  fresh := fun a o e => (y.fresh a o e).elim (fun e => x.fresh a o e) fun l => .inr (h a l)
  size := Nat.le_trans x.size y.size
  tabs := fun q hq ps e => let ⟨m, e'⟩ := x.tabs q hq ps e; let ⟨m', e''⟩ := y.tabs q hq _ e'; ⟨m ++ m', by rw [e'', Array.append_assoc]⟩
  base := y.base
  now := y.now
  os := y.os.trans x.os
  bare := y.bare ∘ x.bare
  gens := Nat.le_trans x.gens y.gens
  toks := Nat.le_trans x.toks y.toks
theorem Tr.refl {S : Sig} {g : Heap} {s : Shared} (W : Addr → Prop) (k : Keep g s.heap) (B : Base S g) (T : Tabs S g s) : Tr S W g s g s where
  mono := .refl g
  keep := k
  same := fun _ o _ _ e => ⟨o, e, .refl o⟩
  fresh := fun _ _ e => .inl e
  size := Nat.le_refl _
  tabs := fun _ _ ps e => ⟨#[], by rw [e, Array.append_empty]⟩
  base := B
  now := T
  os := rfl
  bare := id
  gens := Nat.le_refl _
  toks := Nat.le_refl _

open Classical in
/-- nothing old was touched but for F; the new objects in N are the world's -/
theorem Tr.growF {S : Sig} {g : Heap} {s s' : Shared} (F N : Addr → Prop) (k : Keep g s.heap) (B : Base S g) (T : Tabs S g s) (old : ∀ b o, ¬ F b → s.heap.get? b = some o → s'.heap.get? b = some o) (hFg : ∀ b, F b → g.get? b = Option.none) (hFT : ∀ b, F b → ¬ S.T b)
    (hz : s.heap.objs.size ≤ s'.heap.objs.size) (hos : s'.os = s.os) (hg : s'.gens = s.gens) (ht : s.toks ≤ s'.toks) :
    ∃ g', Tr S (fun a => Nw s a ∨ F a) g s g' s' ∧ (∀ b o, s'.heap.get? b = some o → s.heap.objs.size ≤ b → N b → g'.get? b = some o) ∧ (∀ b, g'.get? b ≠ Option.none → g.get? b ≠ Option.none ∨ (s.heap.objs.size ≤ b ∧ N b)) := by
  have nF : ∀ {b o}, g.get? b = some o → ¬ F b := fun {b o} e q => by rw [hFg b q] at e; cases e
  have nFT : ∀ q ∈ S.tabs, ¬ F q.2 := fun q hq h => hFT _ h (List.mem_map_of_mem hq)
  have mono : Keep g (cut s'.heap fun b => (g.get? b).isSome || (decide (s.heap.objs.size ≤ b) && decide (N b))) := fun b o e => cut_some.mpr ⟨by simp [e], old b o (nF e) (k b o e)⟩
  have fr' : ∀ a o, (cut s'.heap fun b => (g.get? b).isSome || (decide (s.heap.objs.size ≤ b) && decide (N b))).get? a = some o → g.get? a = some o ∨ (s.heap.objs.size ≤ a ∧ N a) := fun a o e => by
    obtain ⟨e1, e2⟩ := cut_some.mp e
    cases q : g.get? a with
    | none => simp [q] at e1; exact .inr e1
    | some x => exact .inl ((old a x (nF q) (k a x q)).symm.trans e2)
  have fr : ∀ a o, (cut s'.heap fun b => (g.get? b).isSome || (decide (s.heap.objs.size ≤ b) && decide (N b))).get? a = some o → g.get? a = some o ∨ s.heap.objs.size ≤ a := fun a o e => (fr' a o e).imp id And.left
  have hT : ∀ q ∈ S.tabs, (cut s'.heap fun b => (g.get? b).isSome || (decide (s.heap.objs.size ≤ b) && decide (N b))).get? q.2 = Option.none := fun q hq => by
    cases e : (cut s'.heap fun b => (g.get? b).isSome || (decide (s.heap.objs.size ≤ b) && decide (N b))).get? q.2 with
    | none => rfl
    | some o =>
      obtain ⟨ps, e', _⟩ := T.all q hq
      rcases fr _ _ e with h | h
      · rw [(B.heads q hq).2] at h; cases h
      · exact absurd (Heap.lt_size e') (Nat.not_lt.mpr h)
  refine ⟨cut s'.heap fun b => (g.get? b).isSome || (decide (s.heap.objs.size ≤ b) && decide (N b)), ?_, fun b o e l n => cut_some.mpr ⟨by simp [l, n], e⟩, fun b hb => ?_⟩
  · exact {
      mono := mono
      keep := fun b o e => (cut_some.mp e).2
      same := fun a o h _ e => ⟨o, old a o (fun q => h (.inr q)) e, .refl o⟩
      fresh := fun a o e => (fr a o e).imp id .inl
      size := hz
      tabs := fun q hq ps e => ⟨#[], by rw [old _ _ (nFT q hq) e, Array.append_empty]⟩
      base := B.mono mono hT
      now := ⟨Nat.lt_of_lt_of_le T.pos ht, fun q hq => let ⟨ps, e1, e2, e3⟩ := T.all q hq; ⟨ps, old _ _ (nFT q hq) e1, e2, fun pos cv e => (e3 pos cv e).keeps mono⟩⟩
      os := hos
      bare := fun h => by rw [hg]; exact h
      gens := by rw [hg]; exact Nat.le_refl _
      toks := ht }
  · cases e : (cut s'.heap fun b => (g.get? b).isSome || (decide (s.heap.objs.size ≤ b) && decide (N b))).get? b with
    | none => exact absurd e hb
    | some o => exact (fr' b o e).imp (fun q => by rw [q]; nofun) id

/-- nothing old was touched; the new objects in N are the world's -/
theorem Tr.grow {S : Sig} {g : Heap} {s s' : Shared} (N : Addr → Prop) (k : Keep g s.heap) (B : Base S g) (T : Tabs S g s) (old : Keep s.heap s'.heap) (hz : s.heap.objs.size ≤ s'.heap.objs.size) (hos : s'.os = s.os) (hg : s'.gens = s.gens) (ht : s.toks ≤ s'.toks) :
    ∃ g', Tr S (Nw s) g s g' s' ∧ (∀ b o, s'.heap.get? b = some o → s.heap.objs.size ≤ b → N b → g'.get? b = some o) ∧ (∀ b, s.heap.objs.size ≤ b → ¬ N b → g'.get? b = Option.none) := by
  obtain ⟨g', t, h1, h2⟩ := Tr.growF (fun _ => False) N k B T (fun b o _ e => old b o e) (fun _ h => h.elim) (fun _ h => h.elim) hz hos hg ht
  refine ⟨g', t.weak fun a h => h.elim id False.elim, h1, fun b l n => ?_⟩
  cases e : g'.get? b with
  | none => rfl
  | some o =>
    rcases h2 b (by rw [e]; nofun) with q | q
    · cases e' : g.get? b with
      | none => exact absurd e' q
      | some o' => exact absurd (Heap.lt_size (k b o' e')) (Nat.not_lt.mpr l)
    · exact absurd q.2 n

/-- only the tokens went on -/
theorem Tr.tick {S : Sig} {g : Heap} {s : Shared} {t : Nat} (W : Addr → Prop) (k : Keep g s.heap) (B : Base S g) (T : Tabs S g s) (ht : s.toks ≤ t) : Tr S W g s g { s with toks := t } :=
  { Tr.refl W k B T with toks := ht, now := ⟨Nat.lt_of_lt_of_le T.pos ht, T.all⟩ }

/-- what is known of a frame beforehand -/
structure Fi where
  scope : Scope
  qual : Str
  code : Value
  vars : List Str
  kinds : List NameKind
  nodup : vars.Nodup
  ok : ((vars.zip kinds).all fun p => scope.names.lookup p.1 == some p.2) = true

theorem Fi.kind (f : Fi) {i : Nat} {x : Str} {kd : NameKind} (h1 : f.vars[i]? = some x) (h2 : f.kinds[i]? = some kd) : f.scope.names.lookup x = some kd := by
  have h := List.all_eq_true.mp f.ok (x, kd) (by
    rw [List.mem_iff_getElem?]
    exact ⟨i, by rw [List.getElem?_zip_eq_some]; exact ⟨h1, h2⟩⟩)
  simpa using h
theorem Fi.inj (f : Fi) {i j : Nat} {x : Str} (h1 : f.vars[i]? = some x) (h2 : f.vars[j]? = some x) : i = j := by
  obtain ⟨hi, e1⟩ := List.getElem?_eq_some_iff.mp h1
  obtain ⟨hj, e2⟩ := List.getElem?_eq_some_iff.mp h2
  have h := List.pairwise_iff_getElem.mp f.nodup
  rcases Nat.lt_trichotomy i j with l | l | l
  · exact absurd (e1.trans e2.symm) (h i j hi hj l)
  · exact l
  · exact absurd (e2.trans e1.symm) (h j i hj hi l)

structure EnvIs (f : Fi) (env : Env) : Prop where
  scope : env.scope = f.scope
  qual : env.qual = f.qual
  code : env.code = f.code
  globals : env.globals = mainGlobals
  builtins : env.builtins = builtinsNs
  kind : env.scope.kind = .function

/-- what a name is bound to: data that nobody changes; a list of the frame's own; that list's bound append; a cell of the frame's own -/
inductive B where
  | val (d : D)
  | own (xs : List D)
  | app (i : Nat)
  | cell (d : Option D)

noncomputable def Var (h : Heap) (env : Env) (m : Str → Option Value) (x : Str) (v : Value) : Prop :=
  match env.kindOf x with
  | some .local => m x = some v
  | some .cell => ∃ c, env.cells.lookup x = some c ∧ h.IsCell c (some v)
  | some .free => ∃ c, env.cells.lookup x = some c ∧ h.IsCell c (some v)
  | _ => False

noncomputable def OwnList (g h : Heap) (W : Addr → Prop) (a : Addr) (xs : List D) : Prop :=
  ∃ vs n, h.get? a = some (listO vs n) ∧ vs.length ≤ sizeLine ∧ Rds g vs xs ∧ g.get? a = Option.none ∧ W a

noncomputable def OwnCell (g h : Heap) (W : Addr → Prop) (env : Env) (x : Str) (od : Option D) : Prop :=
  ∃ c ov, env.cells.lookup x = some c ∧ h.IsCell c ov ∧ g.get? c = Option.none ∧ W c ∧ (∀ y, env.cells.lookup y = some c → y = x) ∧ ∀ d, od = some d → ∃ v, ov = some v ∧ Rd g v d

noncomputable abbrev appO (l : Addr) : Obj := { cls := .type "builtin_function_or_method", data := .fields #[.builtin "list.append", .ref l] }
noncomputable def BoundAppend (g : Heap) (q a : Addr) : Prop := g.get? q = some (appO a)

noncomputable def Holds (g h : Heap) (W : Addr → Prop) (env : Env) (m : Str → Option Value) (ad : Nat → Addr) (i : Nat) (x : Str) : B → Prop
  | .val d => ∃ v, Var h env m x v ∧ Rd g v d
  | .own xs => env.kindOf x = some .local ∧ m x = some (.ref (ad i)) ∧ OwnList g h W (ad i) xs
  | .app y => env.kindOf x = some .local ∧ ∃ q, m x = some (.ref q) ∧ BoundAppend g q (ad y)
  | .cell od => env.kindOf x = some .cell ∧ OwnCell g h W env x od

noncomputable abbrev Ctxt := List (Option B)

structure St (S : Sig) (f : Fi) (Γ : Ctxt) (g : Heap) (W : Addr → Prop) (env : Env) (s : Shared) : Prop where
  keep : Keep g s.heap
  base : Base S g
  tabs : Tabs S g s
  envIs : EnvIs f env
  wide : ∀ a, s.heap.objs.size ≤ a → W a
  clt : ∀ x c, env.cells.lookup x = some c → c < s.heap.objs.size
  vars : ∃ m ad, s.heap.Ns env.locals m ∧ W env.locals ∧ g.get? env.locals = Option.none ∧
    (∀ i x b, f.vars[i]? = some x → Γ[i]? = some (some b) → Holds g s.heap W env m ad i x b) ∧
    ∀ i j xs ys, Γ[i]? = some (some (.own xs)) → Γ[j]? = some (some (.own ys)) → ad i = ad j → i = j

theorem Tabs.notT {S : Sig} {g : Heap} {s : Shared} (T : Tabs S g s) {a : Addr} {o : Obj} (e : s.heap.get? a = some o) (hd : ∀ vs, o.data ≠ .fields vs) : ¬ S.T a := fun ht => by
  obtain ⟨q, hq, rfl⟩ := List.mem_map.mp ht
  obtain ⟨ps, e', _⟩ := T.all q hq
  rw [e] at e'
  cases e'
  exact hd _ rfl

section
variable {S : Sig} {V : Addr → Prop} {g g' : Heap} {s s' : Shared}
theorem Tr.ns (t : Tr S V g s g' s') (T : Tabs S g s) {L : Addr} {m : Str → Option Value} (h : s.heap.Ns L m) (hl : ¬ V L) : s'.heap.Ns L m := by
  obtain ⟨o, es, ep, e, hd, r⟩ := h
  obtain ⟨o', e', k⟩ := t.same L o hl (T.notT e (by rw [hd]; nofun)) e
  exact ⟨o', es, ep, e', k.data.trans hd, r⟩
theorem Tr.isCell (t : Tr S V g s g' s') (T : Tabs S g s) {c : Addr} {v : Option Value} (h : s.heap.IsCell c v) (hl : ¬ V c) : s'.heap.IsCell c v := by
  obtain ⟨o, e, hd⟩ := h
  obtain ⟨o', e', k⟩ := t.same c o hl (T.notT e (by rw [hd]; nofun)) e
  exact ⟨o', e', k.data.trans hd⟩
theorem Tr.none (t : Tr S V g s g' s') {a : Addr} (h : g.get? a = Option.none) (hl : ¬ V a) : g'.get? a = Option.none := by
  cases e : g'.get? a with
  | none => rfl
  | some o => exact (t.fresh a o e).elim (fun q => by rw [h] at q; cases q) fun q => absurd q hl
theorem Tr.ownList (t : Tr S V g s g' s') (T : Tabs S g s) {W : Addr → Prop} {a : Addr} {xs : List D} (h : OwnList g s.heap W a xs) (hl : ¬ V a) : OwnList g' s'.heap W a xs := by
  obtain ⟨vs, n, e, hz, r, hn, hb⟩ := h
  obtain ⟨o', e', k⟩ := t.same a _ hl (T.notT e nofun) e
  obtain rfl := k.eq (show Value.type "list" ≠ Value.type "frame" by decide)
  exact ⟨vs, n, e', hz, r.mono t.mono, t.none hn hl, hb⟩
end

theorem OwnList.lt {g h : Heap} {W : Addr → Prop} {a : Addr} {xs : List D} (x : OwnList g h W a xs) : a < h.objs.size := let ⟨_, _, e, _⟩ := x; Heap.lt_size e

section
variable {S : Sig} {f : Fi} {Γ : Ctxt} {g g' : Heap} {W : Addr → Prop} {env : Env} {s s' : Shared}
theorem Tr.var (t : Tr S (Nw s) g s g' s') (T : Tabs S g s) {m : Str → Option Value} {x : Str} {v : Value} (h : Var s.heap env m x v) : Var s'.heap env m x v := by
  unfold Var at h ⊢
  split at h
  · exact h
  · obtain ⟨c, h1, h2⟩ := h; exact ⟨c, h1, t.isCell T h2 (Nat.not_le.mpr h2.lt)⟩
  · obtain ⟨c, h1, h2⟩ := h; exact ⟨c, h1, t.isCell T h2 (Nat.not_le.mpr h2.lt)⟩
  · exact h
theorem Tr.holds (t : Tr S (Nw s) g s g' s') (T : Tabs S g s) {m : Str → Option Value} {ad : Nat → Addr} {i : Nat} {x : Str} {b : B} (h : Holds g s.heap W env m ad i x b) : Holds g' s'.heap W env m ad i x b := by
  cases b with
  | val d => obtain ⟨v, h1, h2⟩ := h; exact ⟨v, t.var T h1, h2.mono t.mono⟩
  | own xs => exact ⟨h.1, h.2.1, t.ownList T h.2.2 (Nat.not_le.mpr h.2.2.lt)⟩
  | app y => obtain ⟨h1, q, h2, h3⟩ := h; exact ⟨h1, q, h2, t.mono _ _ h3⟩
  | cell od =>
    obtain ⟨h1, c, ov, h2, h3, h4, h5, h6, h7⟩ := h
    exact ⟨h1, c, ov, h2, t.isCell T h3 (Nat.not_le.mpr h3.lt), t.none h4 (Nat.not_le.mpr h3.lt), h5, h6, fun d e => let ⟨v, e', r⟩ := h7 d e; ⟨v, e', r.mono t.mono⟩⟩
theorem St.move (h : St S f Γ g W env s) (t : Tr S (Nw s) g s g' s') : St S f Γ g' W env s' where
  keep := t.keep
  base := t.base
  tabs := t.now
  envIs := h.envIs
  wide := fun a l => h.wide a (Nat.le_trans t.size l)
  clt := fun x c e => Nat.lt_of_lt_of_le (h.clt x c e) t.size
  vars := by
    obtain ⟨m, ad, h1, h2, h3, h4, h5⟩ := h.vars
    exact ⟨m, ad, t.ns h.tabs h1 (Nat.not_le.mpr h1.lt), h2, t.none h3 (Nat.not_le.mpr h1.lt), fun i x b e e' => t.holds h.tabs (h4 i x b e e'), h5⟩
theorem St.new (h : St S f Γ g W env s) : ∀ a, Nw s a → W a := h.wide
end

/-- room left: frames and C units -/
structure Room (k : Nat) (A : Around) : Prop where
  handled : A.handled = none
  depth : A.depth + k < recursionLimit
  units : A.units + 40 * k + 100 < cLine

/-- e comes to d: whatever the frame, the world and the rest -/
noncomputable def EV (S : Sig) (k : Nat) (f : Fi) (Γ : Ctxt) (e : Expr) (d : D) : Prop :=
  ∀ (A : Around) (g : Heap) (W : Addr → Prop) (env : Env) (s : Shared) (Q : Value → Shared → Prop) (E : Value → Shared → Prop), Room k A → St S f Γ g W env s →
    (∀ v g' s', Tr S (Nw s) g s g' s' → Rd g' v d → Q v s') → wpAny S.M A (eval e env) Q E s

/-- the test comes to b -/
noncomputable def TV (S : Sig) (k : Nat) (f : Fi) (Γ : Ctxt) (e : Expr) (b : Bool) : Prop :=
  ∀ (A : Around) (g : Heap) (W : Addr → Prop) (env : Env) (s : Shared) (Q : Bool → Shared → Prop) (E : Value → Shared → Prop), Room k A → St S f Γ g W env s →
    (∀ g' s', Tr S (Nw s) g s g' s' → Q b s') → wpAny S.M A (isTrue e env (eval e env)) Q E s

inductive Res where
  | next (Γ : Ctxt)
  | ret (d : D)
  | brk (Γ : Ctxt)
  | cont (Γ : Ctxt)

noncomputable def Post (S : Sig) (f : Fi) (r : Res) (g : Heap) (W : Addr → Prop) (env : Env) (fl : Flow) (s : Shared) : Prop :=
  match r with
  | .next Γ => fl = .next ∧ St S f Γ g W env s
  | .ret d => ∃ v, fl = .ret v ∧ Rd g v d
  | .brk Γ => fl = .brk ∧ St S f Γ g W env s
  | .cont Γ => fl = .cont ∧ St S f Γ g W env s

noncomputable def EX (S : Sig) (k : Nat) (f : Fi) (Γ : Ctxt) (st : Stmt) (r : Res) : Prop :=
  ∀ (A : Around) (g : Heap) (W : Addr → Prop) (env : Env) (s : Shared) (Q : Flow → Shared → Prop) (E : Value → Shared → Prop), Room k A → St S f Γ g W env s →
    (∀ fl g' s', Tr S W g s g' s' → Post S f r g' W env fl s' → Q fl s') → wpAny S.M A (exec st env) Q E s

noncomputable def EXs (S : Sig) (k : Nat) (f : Fi) (Γ : Ctxt) (sts : List Stmt) (r : Res) : Prop :=
  ∀ (A : Around) (g : Heap) (W : Addr → Prop) (env : Env) (s : Shared) (Q : Flow → Shared → Prop) (E : Value → Shared → Prop), Room k A → St S f Γ g W env s →
    (∀ fl g' s', Tr S W g s g' s' → Post S f r g' W env fl s' → Q fl s') → wpAny S.M A (execs sts env) Q E s

end Mine
set_option maxRecDepth 100000
set_option linter.unusedVariables false
namespace Mine
open PySem PySem.W PySem.Calls PyProof.Rows

structure At (S : Sig) (k : Nat) (A : Around) (g : Heap) (s : Shared) : Prop where
  room : Room k A
  keep : Keep g s.heap
  base : Base S g
  tabs : Tabs S g s

section
variable {S : Sig} {k : Nat} {f : Fi} {Γ : Ctxt} {A : Around} {g g' : Heap} {W : Addr → Prop} {env : Env} {s s' : Shared}
theorem St.at (h : St S f Γ g W env s) (R : Room k A) : At S k A g s := ⟨R, h.keep, h.base, h.tabs⟩
theorem Tr.at {V : Addr → Prop} (t : Tr S V g s g' s') (R : Room k A) : At S k A g' s' := ⟨R, t.keep, t.base, t.now⟩
theorem At.refl (a : At S k A g s) (V : Addr → Prop) : Tr S V g s g s := Tr.refl V a.keep a.base a.tabs
theorem At.tick (a : At S k A g s) (V : Addr → Prop) {t : Nat} (ht : s.toks ≤ t) : Tr S V g s g { s with toks := t } := Tr.tick V a.keep a.base a.tabs ht
theorem Tr.then {g₂ : Heap} {s₂ : Shared} (x : Tr S (Nw s) g s g' s') (y : Tr S (Nw s') g' s' g₂ s₂) : Tr S (Nw s) g s g₂ s₂ := x.trans y fun _ l => Nat.le_trans x.size l
end

/-- a step upon one value, two, a list of values -/
noncomputable def Op1 (S : Sig) (k : Nat) (t : Value → Sem Value) (d₁ d : D) : Prop :=
  ∀ (A : Around) (g : Heap) (s : Shared) (v₁ : Value) (Q : Value → Shared → Prop) (E : Value → Shared → Prop), At S k A g s → Rd g v₁ d₁ →
    (∀ v g' s', Tr S (Nw s) g s g' s' → Rd g' v d → Q v s') → wpAny S.M A (t v₁) Q E s
noncomputable def Op2 (S : Sig) (k : Nat) (t : Value → Value → Sem Value) (d₁ d₂ d : D) : Prop :=
  ∀ (A : Around) (g : Heap) (s : Shared) (v₁ v₂ : Value) (Q : Value → Shared → Prop) (E : Value → Shared → Prop), At S k A g s → Rd g v₁ d₁ → Rd g v₂ d₂ →
    (∀ v g' s', Tr S (Nw s) g s g' s' → Rd g' v d → Q v s') → wpAny S.M A (t v₁ v₂) Q E s
noncomputable def Ops (S : Sig) (k : Nat) (t : List Value → Sem Value) (ds : List D) (d : D) : Prop :=
  ∀ (A : Around) (g : Heap) (s : Shared) (vs : List Value) (Q : Value → Shared → Prop) (E : Value → Shared → Prop), At S k A g s → Rds g vs ds →
    (∀ v g' s', Tr S (Nw s) g s g' s' → Rd g' v d → Q v s') → wpAny S.M A (t vs) Q E s
noncomputable def OpT (S : Sig) (k : Nat) (d : D) (b : Bool) : Prop :=
  ∀ (A : Around) (g : Heap) (s : Shared) (v : Value) (Q : Bool → Shared → Prop) (E : Value → Shared → Prop), At S k A g s → Rd g v d →
    (∀ g' s', Tr S (Nw s) g s g' s' → Q b s') → wpAny S.M A (truthy v) Q E s

section
variable {S : Sig} {k : Nat} {f : Fi} {Γ : Ctxt} {e l r : Expr} {d d₁ d₂ : D} {pos : Pos}

/- names -/
theorem kindOf_eq {f : Fi} {env : Env} (h : EnvIs f env) (x : Str) : env.kindOf x = f.scope.names.lookup x := by
  show env.scope.names.lookup x = _
  rw [h.scope]

theorem EV.name {x : Str} (i : Nat) (hx : f.vars[i]? = some x) (hl : Γ[i]? = some (some (.val d))) (hd : (x == ("__debug__" : Str)) = false := by decide) (hcd : (x == ("__classdict__" : Str)) = false := by decide) : EV S k f Γ (.Name x pos) d := by
  intro A g W env s Q E R st h
  obtain ⟨m, ad, hns, hb, hg, hH, hI⟩ := st.vars
  obtain ⟨v, hv, hr⟩ := hH i x _ hx hl
  refine wpAny_Name ?_ hd
  have fin := h v g s ((st.at R).refl _) hr
  unfold Var at hv
  split at hv
  · exact wpAny_loadName_local st.envIs.kind (by assumption) hns hv fin
  · obtain ⟨c, h1, h2⟩ := hv; exact wpAny_loadName_cell st.envIs.kind (by assumption) h1 h2 fin
  · obtain ⟨c, h1, h2⟩ := hv; exact wpAny_loadName_free st.envIs.kind (by assumption) h1 h2 fin hcd
  · exact hv.elim
theorem EV.nameC {x : Str} (i : Nat) (hx : f.vars[i]? = some x) (hl : Γ[i]? = some (some (.cell (some d)))) (hd : (x == ("__debug__" : Str)) = false := by decide) : EV S k f Γ (.Name x pos) d := by
  intro A g W env s Q E R st h
  obtain ⟨m, ad, hns, hb, hg, hH, hI⟩ := st.vars
  obtain ⟨hk, c, ov, hc, hcell, hgc, hbc, huniq, hval⟩ := hH i x _ hx hl
  obtain ⟨v, rfl, hr⟩ := hval d rfl
  exact wpAny_Name (wpAny_loadName_cell st.envIs.kind hk hc hcell (h v g s ((st.at R).refl _) hr)) hd

/-- a global of the text's -/
theorem EV.global {x : Str} {v : Value} (hk : f.scope.names.lookup x = some .globalImplicit) (hn : nsIn S.K mainGlobals x = some (some v)) (hd : (x == ("__debug__" : Str)) = false := by decide) : EV S k f Γ (.Name x pos) (.raw v) := by
  intro A g W env s Q E R st h
  have e : env.globals = mainGlobals := st.envIs.globals
  refine Name_function_global st.envIs.kind ((kindOf_eq st.envIs x).trans hk) (loadGlobal_global (env := env) (mg := S.mg) ?_ (mg_of st.base.kin st.base.glob hn) (h v g s ((st.at R).refl _) (.raw v))) hd
  rw [e]
  exact st.base.glob.keeps st.keep
/-- a built-in name -/
theorem EV.boot {x : Str} {v : Value} (hk : f.scope.names.lookup x = some .globalImplicit) (hn : nsIn S.K mainGlobals x = some none) (hv : bootBuiltins x = some v) (hx : x ≠ "__name__" := by decide) (hd : (x == ("__debug__" : Str)) = false := by decide) : EV S k f Γ (.Name x pos) (.raw v) := by
  intro A g W env s Q E R st h
  have e : env.globals = mainGlobals := st.envIs.globals
  have e2 : env.builtins = builtinsNs := st.envIs.builtins
  refine Name_function_global st.envIs.kind ((kindOf_eq st.envIs x).trans hk) (loadGlobal_builtin (env := env) (mg := S.mg) (mb := S.mb) ?_ (mg_none_of st.base.kin st.base.glob hn) ?_ ((st.base.boot x hx).trans hv) (h v g s ((st.at R).refl _) (.raw v))) hd
  · rw [e]; exact st.base.glob.keeps st.keep
  · rw [e2]; exact st.base.blt.keeps st.keep

/- constants -/
theorem EV.cInt {i : Int} {kk : Nat} : EV S k f Γ (.Constant (.int i) kk pos) (.int i) := by
  intro A g W env s Q E R st h
  exact wpAny_Constant_int (h _ g _ ((st.at R).tick _ (Nat.le_succ _)) (.int i _))
theorem EV.cStr {x : Str} {cs : List Nat} {kk : Nat} (hx : x.cps.toList = cs) (hl : cs.length ≤ sizeLine) : EV S k f Γ (.Constant (.str x) kk pos) (.str cs) := by
  intro A g W env s Q E R st h
  subst hx
  exact Constant_str (h _ g _ ((st.at R).tick _ (Nat.le_succ _)) (by have := Rd.str (g := g) x.cps.toList s.toks hl; simpa using this))
theorem EV.cBool {b : Bool} {kk : Nat} : EV S k f Γ (.Constant (.bool b) kk pos) (.bool b) := by
  intro A g W env s Q E R st h
  exact wpAny_Constant_bool (h _ g _ ((st.at R).refl _) (.raw _))
/- operators -/
theorem EV.bin {op : Operator} (h1 : EV S k f Γ l d₁) (h2 : EV S k f Γ r d₂) (h3 : Op2 S k (binaryOp op) d₁ d₂ d) : EV S k f Γ (.BinOp l op r pos) d := by
  intro A g W env s Q E R st h
  exact wpAny_BinOp (h1 A g W env s _ E R st fun v1 g1 s1 t1 r1 => h2 A g1 W env s1 _ E R (st.move t1) fun v2 g2 s2 t2 r2 =>
    h3 A g2 s2 v1 v2 Q E (t2.at R) (r1.mono t2.mono) r2 fun v g3 s3 t3 r3 => h v g3 s3 ((t1.then t2).then t3) r3)
theorem EV.un {op : UnaryOp} (h1 : EV S k f Γ l d₁) (h3 : Op1 S k (unaryOp op) d₁ d) : EV S k f Γ (.UnaryOp op l pos) d := by
  intro A g W env s Q E R st h
  exact wpAny_UnaryOp (h1 A g W env s _ E R st fun v1 g1 s1 t1 r1 => h3 A g1 s1 v1 Q E (t1.at R) r1 fun v g3 s3 t3 r3 => h v g3 s3 (t1.then t3) r3)
theorem EV.cmp {op : CmpOp} (h1 : EV S k f Γ l d₁) (h2 : EV S k f Γ r d₂) (h3 : Op2 S k (compareOp op) d₁ d₂ d) (hm : behindInMarks op r = false := by rfl) : EV S k f Γ (.Compare l [op] [r] pos) d := by
  intro A g W env s Q E R st h
  exact wpAny_Compare1 (h1 A g W env s _ E R st fun v1 g1 s1 t1 r1 => h2 A g1 W env s1 _ E R (st.move t1) fun v2 g2 s2 t2 r2 =>
    h3 A g2 s2 v1 v2 Q E (t2.at R) (r1.mono t2.mono) r2 fun v g3 s3 t3 r3 => h v g3 s3 ((t1.then t2).then t3) r3) hm

/- tests -/
theorem OpT.bool {b : Bool} : OpT S k (.bool b) b := by
  intro A g s v Q E a r h
  cases r
  exact wpAny_truthy_bool (h g s (a.refl _))
theorem OpT.str {x : List Nat} : OpT S k (.str x) (decide (x ≠ [])) := by
  intro A g s v Q E a r h
  cases r with
  | str _ t hs =>
    have hz := sizeLine_eq
    have e : (((⟨x.toArray⟩ : Str).length : Int) != 0) = decide (x ≠ []) := by
      show ((x.toArray.size : Int) != 0) = _
      cases x <;> simp; omega
    refine P.truthy_str ?_ ?_
    · show ¬ ((x.toArray.size : Int) ≥ 2 ^ 63)
      simp only [List.size_toArray]; omega
    · rw [e]; exact h g _ (a.tick _ (by omega))
theorem OpT.list {xs : List D} : OpT S k (.list xs) (decide (xs ≠ [])) := by
  intro A g s v Q E a r h
  cases r with
  | list ho hl rs =>
    rename_i ad vs n
    have hz := sizeLine_eq
    have hlen := rs.length
    refine wpAny_truthy_list (items := vs.toArray) ⟨_, a.keep _ _ ho, rfl, n, rfl⟩ (by simp only [List.size_toArray]; omega) ?_
    have e : (!vs.toArray.isEmpty) = decide (xs ≠ []) := by
      cases rs <;> simp
    rw [e]; exact h g _ (a.tick _ (by omega))

theorem TV.val (hv : ∀ env w, isTrue e env w = (do let v ← w; standAt e.pos; holding [v] (truthy v))) (h1 : EV S k f Γ e d) {b : Bool} (h2 : OpT S k d b) : TV S k f Γ e b := by
  intro A g W env s Q E R st h
  rw [hv]
  exact wpAny_bind (wpAny_mono (h1 A g W env s (fun v s₁ => wpAny S.M A (truthy v) Q E s₁) E R st fun v1 g1 s1 t1 r1 => h2 A g1 s1 v1 Q E (t1.at R) r1 fun g2 s2 t2 => h g2 s2 (t1.then t2))
    (fun v s₁ h₁ => wpAny_bind (wpAny_standAt (wpAny_holding h₁))) fun _ _ x => x)
theorem TV.not {b : Bool} (h1 : TV S k f Γ e b) : TV S k f Γ (.UnaryOp .Not e pos) (!b) := by
  intro A g W env s Q E R st h
  rw [arm_isTrue_UnaryOp]
  exact wpAny_bind (wpAny_mono (h1 A g W env s (fun b' s₁ => Q (!b') s₁) E R st fun g1 s1 t1 => h g1 s1 t1) (fun v s₁ h₁ => wpAny_pure h₁) fun _ _ x => x)
theorem TV.cmp {op : CmpOp} {b : Bool} (h1 : EV S k f Γ l d₁) (h2 : EV S k f Γ r d₂) (h3 : Op2 S k (compareOp op) d₁ d₂ (.bool b)) (hm : behindInMarks op r = false := by rfl) : TV S k f Γ (.Compare l [op] [r] pos) b := by
  intro A g W env s Q E R st h
  refine wpAny_isTrue_Compare1 (h1 A g W env s _ E R st fun v1 g1 s1 t1 r1 => h2 A g1 W env s1 _ E R (st.move t1) fun v2 g2 s2 t2 r2 =>
    h3 A g2 s2 v1 v2 _ E (t2.at R) (r1.mono t2.mono) r2 fun v g3 s3 t3 r3 => ?_) hm
  exact (OpT.bool (k := k)) A g3 s3 v Q E (t3.at R) r3 fun g4 s4 t4 => h g4 s4 (((t1.then t2).then t3).then t4)
end

theorem At.push {S : Sig} {k : Nat} {A : Around} {g : Heap} {s : Shared} (a : At S k A g s) (o : Obj) (hf : o.isFreed = false := by rfl) {t : Nat} (ht : s.toks ≤ t := by omega) :
    ∃ g', Tr S (Nw s) g s g' { s with heap := s.heap.push o, toks := t } ∧ g'.get? s.heap.objs.size = some o := by
  obtain ⟨g', h1, h2, _⟩ := Tr.grow (s' := { s with heap := s.heap.push o, toks := t }) (fun _ => True) a.keep a.base a.tabs (fun b x e => Heap.get?_push_of_some _ e) (by simp) rfl rfl ht
  exact ⟨g', h1, h2 _ _ (Heap.get?_push_size _ hf) (Nat.le_refl _) trivial⟩

/-- a list of expressions, one after the other -/
structure EVs (S : Sig) (k : Nat) (f : Fi) (Γ : Ctxt) (es : List Expr) (ds : List D) : Prop where
  plain : ∀ env pos, (backTo pos (starEach es env)).any (·.1) = false
  run : ∀ (pos : Pos) (A : Around) (g : Heap) (W : Addr → Prop) (env : Env) (s : Shared) (Q : List Value → Shared → Prop) (E : Value → Shared → Prop), Room k A → St S f Γ g W env s →
    (∀ vs g' s', Tr S (Nw s) g s g' s' → Rds g' vs ds → Q vs s') → wpAny S.M A (spliced (backTo pos (starEach es env))) Q E s

section
variable {S : Sig} {k : Nat} {f : Fi} {Γ : Ctxt} {e l r : Expr} {es : List Expr} {d d₁ d₂ : D} {ds : List D} {pos : Pos}

theorem EVs.nil : EVs S k f Γ [] [] := ⟨fun _ _ => rfl, fun pos A g W env s Q E R st h => spliced_nil (h [] g s ((st.at R).refl _) .nil)⟩
theorem EVs.cons (h1 : EV S k f Γ e d) (h2 : EVs S k f Γ es ds) (hs : ∀ env, starEach (e :: es) env = (false, eval e env) :: starEach es env := by intro _; rfl) : EVs S k f Γ (e :: es) (d :: ds) := by
  refine ⟨fun env pos => ?_, fun pos A g W env s Q E R st h => ?_⟩
  · rw [hs]
    show (false || (backTo pos (starEach es env)).any (·.1)) = false
    rw [h2.plain]; rfl
  · rw [hs]
    show wpAny S.M A (spliced ((false, eval e env) :: backTo pos (starEach es env))) Q E s
    exact spliced_cons (h1 A g W env s _ E R st fun v g1 s1 t1 r1 => h2.run pos A g1 W env s1 _ E R (st.move t1) fun vs g2 s2 t2 r2 => h _ g2 s2 (t1.then t2) (.cons (r1.mono t2.mono) r2))

theorem EV.list (h : EVs S k f Γ es ds) (hl : ds.length ≤ sizeLine := by decide) : EV S k f Γ (.List es pos) (.list ds) := by
  intro A g W env s Q E R st hQ
  refine wpAny_List_spliced (h.run pos A g W env s _ E R st fun vs g1 s1 t1 r1 => ?_)
  have hlen := r1.length
  obtain ⟨g2, t2, e2⟩ := (t1.at R).push { cls := .type "list", data := .seq vs.toArray } (t := s1.toks)
  exact ⟨by omega, hQ _ g2 _ (t1.then t2) (.list e2 (by omega) (r1.mono t2.mono))⟩
theorem EV.tup {kk : Nat} (h : EVs S k f Γ es ds) (hl : ds.length ≤ sizeLine := by decide) : EV S k f Γ (.Tuple es kk pos) (.tup ds) := by
  intro A g W env s Q E R st hQ
  refine wpAny_Tuple_spliced (h.run pos A g W env s _ E R st fun vs g1 s1 t1 r1 => ?_)
  have hlen := r1.length
  obtain ⟨g2, t2, e2⟩ := (t1.at R).push { cls := .type "tuple", data := .seq vs.toArray } (t := s1.toks)
  exact ⟨by omega, hQ _ g2 _ (t1.then t2) (.tup e2 (by omega) (r1.mono t2.mono))⟩

theorem EV.ifExp {c : Expr} {b : Bool} (h1 : TV S k f Γ c b) (h2 : b = true → EV S k f Γ l d) (h3 : b = false → EV S k f Γ r d) : EV S k f Γ (.IfExp c l r pos) d := by
  intro A g W env s Q E R st hQ
  refine wpAny_IfExp (h1 A g W env s _ E R st fun g1 s1 t1 => ?_)
  cases b with
  | true => exact h2 rfl A g1 W env s1 Q E R (st.move t1) fun v g2 s2 t2 r2 => hQ v g2 s2 (t1.then t2) r2
  | false => exact h3 rfl A g1 W env s1 Q E R (st.move t1) fun v g2 s2 t2 r2 => hQ v g2 s2 (t1.then t2) r2

/-- a chain of tests -/
noncomputable def ATV (S : Sig) (k : Nat) (f : Fi) (Γ : Ctxt) (op : BoolOp) (es : List Expr) (b : Bool) : Prop :=
  ∀ (A : Around) (g : Heap) (W : Addr → Prop) (env : Env) (s : Shared) (Q : Bool → Shared → Prop) (E : Value → Shared → Prop), Room k A → St S f Γ g W env s →
    (∀ g' s', Tr S (Nw s) g s g' s' → Q b s') → wpAny S.M A (allTrue op es env) Q E s
theorem ATV.andNil : ATV S k f Γ .And [] true := fun A g W env s Q E R st h => wpAny_allTrue_And_nil (h g s ((st.at R).refl _))
theorem ATV.orNil : ATV S k f Γ .Or [] false := fun A g W env s Q E R st h => wpAny_allTrue_Or_nil (h g s ((st.at R).refl _))
theorem ATV.and {b c : Bool} (h1 : TV S k f Γ e b) (h2 : b = true → ATV S k f Γ .And es c) : ATV S k f Γ .And (e :: es) (b && c) := by
  intro A g W env s Q E R st h
  refine wpAny_allTrue_And_cons (h1 A g W env s _ E R st fun g1 s1 t1 => ?_)
  cases b with
  | true => exact h2 rfl A g1 W env s1 Q E R (st.move t1) fun g2 s2 t2 => h g2 s2 (t1.then t2)
  | false => exact h g1 s1 t1
theorem ATV.or {b c : Bool} (h1 : TV S k f Γ e b) (h2 : b = false → ATV S k f Γ .Or es c) : ATV S k f Γ .Or (e :: es) (b || c) := by
  intro A g W env s Q E R st h
  refine wpAny_allTrue_Or_cons (h1 A g W env s _ E R st fun g1 s1 t1 => ?_)
  cases b with
  | false => exact h2 rfl A g1 W env s1 Q E R (st.move t1) fun g2 s2 t2 => h g2 s2 (t1.then t2)
  | true => exact h g1 s1 t1
theorem TV.boolOp {op : BoolOp} {b : Bool} (h : ATV S k f Γ op es b) : TV S k f Γ (.BoolOp op es pos) b := by
  intro A g W env s Q E R st hQ
  exact wpAny_isTrue_BoolOp (h A g W env s Q E R st hQ)

/-- and, or as values -/
noncomputable def BV (S : Sig) (k : Nat) (f : Fi) (Γ : Ctxt) (op : BoolOp) (es : List Expr) (d : D) : Prop :=
  ∀ (pos : Pos) (A : Around) (g : Heap) (W : Addr → Prop) (env : Env) (s : Shared) (Q : Value → Shared → Prop) (E : Value → Shared → Prop), Room k A → St S f Γ g W env s →
    (∀ v g' s', Tr S (Nw s) g s g' s' → Rd g' v d → Q v s') → wpAny S.M A (boolOp pos op (evalEach es env)) Q E s
theorem BV.last {op : BoolOp} (h : EV S k f Γ e d) : BV S k f Γ op [e] d := fun _ A g W env s Q E R st hQ => h A g W env s Q E R st hQ
theorem BV.cons {op : BoolOp} {b : Bool} {e' : Expr} (h1 : EV S k f Γ e d₁) (h2 : OpT S k d₁ b) (h3 : (b = (op == .Or)) → d = d₁) (h4 : (b = (op == .And)) → BV S k f Γ op (e' :: es) d) : BV S k f Γ op (e :: e' :: es) d := by
  intro pos A g W env s Q E R st hQ
  show wpAny S.M A (do
    let v ← eval e env
    standAt pos
    let t ← holding [v] (truthy v)
    match op, t with
    | .And, false | .Or, true => pure v
    | _, _ => boolOp pos op (evalEach (e' :: es) env)) Q E s
  refine wpAny_bind (h1 A g W env s _ E R st fun v g1 s1 t1 r1 => wpAny_bind (wpAny_standAt (wpAny_bind (wpAny_holding (h2 A g1 s1 v _ E (t1.at R) r1 fun g2 s2 t2 => ?_)))))
  have go : (b = (op == .And)) → wpAny S.M A (boolOp pos op (evalEach (e' :: es) env)) Q E s2 := fun q =>
    h4 q pos A g2 W env s2 Q E R ((st.move t1).move t2) fun v' g3 s3 t3 r3 => hQ v' g3 s3 ((t1.then t2).then t3) r3
  have stop : (b = (op == .Or)) → wpAny S.M A (pure v) Q E s2 := fun q => wpAny_pure (hQ v g2 s2 (t1.then t2) (by rw [h3 q]; exact r1.mono t2.mono))
  cases op <;> cases b
  · exact stop rfl
  · exact go rfl
  · exact go rfl
  · exact stop rfl
theorem EV.boolOp {op : BoolOp} (h : BV S k f Γ op es d) : EV S k f Γ (.BoolOp op es pos) d := by
  intro A g W env s Q E R st hQ
  rw [arm_eval_BoolOp]
  exact h pos A g W env s Q E R st hQ

theorem evalArgs_any {M : Model} {A : Around} {E : Value → Shared → Prop} {s : Shared} {fv : Value} {args : List (Bool × Sem Value)} {Q : Args → Shared → Prop} (hp : args.any (·.1) = false)
    (h : wpAny M A (spliced args) (fun vs s₁ => Q ⟨vs, []⟩ s₁) E s) : wpAny M A (evalArgs fv true args []) Q E s := by
  cases args with
  | nil =>
    unfold evalArgs
    show wpAny M A (spliced [] >>= _) Q E s
    refine wpAny_bind (wpAny_mono h (fun vs s₁ h₁ => ?_) fun _ _ x => x)
    refine wpAny_bind (wpAny_pure ?_)
    refine wpAny_holding ?_
    exact wpAny_bind (wpAny_pure (wpAny_bind (wpAny_pure (wpAny_pure h₁))))
  | cons x rest =>
    obtain ⟨b, t⟩ := x
    cases b with
    | true => simp at hp
    | false => exact evalArgs_plain h
/-- what may be called here: looking at it does nothing -/
noncomputable def Callee (S : Sig) (fv : Value) : Prop := ∀ h, S.K.In h → ∃ kk, (kk = Keeper.frame ∨ kk = Keeper.machine ∨ kk = Keeper.boundFrame) ∧ Looks S.M h (keeperOf fv) kk
theorem Callee.builtin {id : String} : Callee S (.builtin id) := fun _ _ => ⟨.machine, .inr (.inl rfl), .of_pure rfl⟩
theorem Callee.type {T : String} : Callee S (.type T) := fun _ _ => ⟨.machine, .inr (.inl rfl), .of_pure rfl⟩
theorem Callee.fn {fv : Value} (h : keepIn S.K fv = true) : Callee S fv := fun hp X => keeps_K h hp X

theorem EV.call {fn : Expr} {fv : Value} (hn : ∀ env, eval (.Call fn es [] pos) env = (do callWith pos (← eval fn env) [] (backTo pos (starEach es env)) (backToKw pos (keywordEach [] env)))) (h1 : EV S k f Γ fn (.raw fv)) (hc : Callee S fv) (h2 : EVs S k f Γ es ds) (h3 : Ops S k (fun vs => PySem.call fv vs) ds d) :
    EV S k f Γ (.Call fn es [] pos) d := by
  intro A g W env s Q E R st hQ
  rw [hn]
  refine wpAny_bind (h1 A g W env s _ E R st fun v g1 s1 t1 r1 => ?_)
  cases r1
  refine callWith_of (P := fun h => S.K.In h) (by show ((backTo pos (starEach es env)).any (·.1) || false) = false; rw [h2.plain]; rfl) hc ?_
  refine evalArgs_any (h2.plain _ _) (h2.run pos A g1 W env s1 _ E R (st.move t1) fun vs g2 s2 t2 r2 => ⟨t2.base.kin.keeps t2.keep, ?_⟩)
  exact h3 A g2 s2 vs Q E (t2.at R) r2 fun v' g3 s3 t3 r3 => hQ v' g3 s3 ((t1.then t2).then t3) r3

/-- the type of what reads d -/
noncomputable def TyD : D → String → Prop
  | .str _, T => T = "str"
  | .int _, T => T = "int"
  | .list _, T => T = "list"
  | .tup _, T => T = "tuple"
  | .rng .., T => T = "range"
  | .raw _, _ => False
theorem TyD.is {g : Heap} {v : Value} {d : D} {T : String} {s : Shared} (h : TyD d T) (r : Rd g v d) (kp : Keep g s.heap) : s.TypeIs v T ∧ ∀ a, v = .ref a → ∃ ob, s.heap.get? a = some ob ∧ ob.dict = Option.none := by
  cases r with
  | raw => exact h.elim
  | int i t => cases h; exact ⟨typeIs_int s i t, nofun⟩
  | str x t => cases h; exact ⟨typeIs_str s _ t, nofun⟩
  | list e => cases h; exact ⟨⟨_, kp _ _ e, rfl⟩, fun a q => by cases q; exact ⟨_, kp _ _ e, rfl⟩⟩
  | tup e => cases h; exact ⟨⟨_, kp _ _ e, rfl⟩, fun a q => by cases q; exact ⟨_, kp _ _ e, rfl⟩⟩
  | rng e => cases h; exact ⟨⟨_, kp _ _ e, rfl⟩, fun a q => by cases q; exact ⟨_, kp _ _ e, rfl⟩⟩

theorem EV.meth {o : Expr} {name : Str} {apos : Pos} {T id : String} {d₀ : D} (pa : PlainAttrs T) (slot : Slot T name id) (hty : typeOf (.builtin id) = pure (.type "method_descriptor"))
    (h1 : EV S k f Γ o d₀) (ht : TyD d₀ T) (h2 : EVs S k f Γ es ds) (h3 : Ops S k (fun vs => PySem.call (.builtin id) vs) (d₀ :: ds) d)
    (hbase : ∀ env, attributeBase o name env (eval o env) = eval o env := by intro _; rfl)
    (hline : (apos.endLine == pos.line) = true := by rfl)
    (hfew : ∀ env, ((backTo pos (starEach es env)).all (fun x => !x.1) && (backToKw pos (keywordEach [] env)).all (fun x => x.1.isSome)
      && decide (es.length + ([] : List Keyword).length + (if ([] : List Keyword).isEmpty then 0 else 1) < 30)) = true := by intro _; rfl) :
    EV S k f Γ (.Call (.Attribute o name apos) es [] pos) d := by
  intro A g W env s Q E R st hQ
  refine wpAny_Call_method (T := T) (id := id) (hbase env) (hfew env) hline pa slot hty ?_
  refine h1 A g W env s _ E R st fun ov g1 s1 t1 r1 => ?_
  obtain ⟨hT, hd⟩ := ht.is r1 t1.keep
  refine ⟨hT, hd, ?_⟩
  refine callWith_of (P := fun h => S.K.In h) (by show ((backTo pos (starEach es env)).any (·.1) || false) = false; rw [h2.plain]; rfl) (Callee.builtin (S := S)) ?_
  refine evalArgs_any (h2.plain _ _) (h2.run pos A g1 W env s1 _ E R (st.move t1) fun vs g2 s2 t2 r2 => ⟨t2.base.kin.keeps t2.keep, ?_⟩)
  exact h3 A g2 s2 (ov :: vs) Q E (t2.at R) (.cons (r1.mono t2.mono) r2) fun v' g3 s3 t3 r3 => hQ v' g3 s3 ((t1.then t2).then t3) r3

/- items -/
theorem EV.item {T id : String} (h1 : EV S k f Γ l d₁) (h2 : EV S k f Γ r d₂) (ht : TyD d₁ T) (hl : typeLookup (.type T) "__getitem__" = pure (some (.builtin id))) (h3 : Op2 S k getItem d₁ d₂ d)
    (hs : ∀ o i, subscripted r false o i = operate [o, i] (getItem o i) := by intro _ _; with_unfolding_all rfl) : EV S k f Γ (.Subscript l r pos) d := by
  intro A g W env s Q E R st hQ
  refine Subscript_ (h1 A g W env s _ E R st fun v1 g1 s1 t1 r1 => h2 A g1 W env s1 _ E R (st.move t1) fun v2 g2 s2 t2 r2 => ?_)
  refine tail_any (ht.is (r1.mono t2.mono) t2.keep).1 hl ?_ (hs _ _)
  exact h3 A g2 s2 v1 v2 Q E (t2.at R) (r1.mono t2.mono) r2 fun v g3 s3 t3 r3 => hQ v g3 s3 ((t1.then t2).then t3) r3
end
end Mine
set_option maxRecDepth 100000
set_option linter.unusedVariables false
namespace Mine
open PySem PySem.W PySem.Calls PyProof.Rows

section
variable {S : Sig} {k : Nat} {f : Fi} {Γ Γ' Γ₁ Γ₂ : Ctxt} {e l r : Expr} {es : List Expr} {d d₁ d₂ : D} {ds : List D} {pos p' : Pos} {st : Stmt} {sts : List Stmt} {res : Res}

/- a change at one address that is nobody's but the frame's own -/
theorem Tr.set {W : Addr → Prop} {a : Addr} {g : Heap} {s : Shared} {h' : Heap} {t : Nat} (kp : Keep g s.heap) (B : Base S g) (T : Tabs S g s) (hs : Heap.SameBut a s.heap h') (ha : W a) (hg : g.get? a = Option.none) (hT : ¬ S.T a) (ht : s.toks ≤ t) : Tr S W g s g { s with heap := h', toks := t } where
  mono := .refl g
  keep := fun b o e => (hs.2 b (fun q => by rw [q, hg] at e; cases e)).trans (kp b o e)
  same := fun b o l n e => ⟨o, (hs.2 b (fun q => l (q ▸ ha))).trans e, .refl o⟩
  fresh := fun _ _ e => .inl e
  size := Nat.le_of_eq hs.1.symm
  tabs := fun q hq ps e => ⟨#[], by rw [hs.2 q.2 (fun z => hT (by rw [← z]; exact List.mem_map_of_mem hq)), e, Array.append_empty]⟩
  base := B
  now := ⟨Nat.lt_of_lt_of_le T.pos ht, fun q hq => let ⟨ps, e1, e2, e3⟩ := T.all q hq; ⟨ps, (hs.2 q.2 (fun z => hT (by rw [← z]; exact List.mem_map_of_mem hq))).trans e1, e2, e3⟩⟩
  os := rfl
  bare := id
  gens := Nat.le_refl _
  toks := ht

theorem get_set {Γ : Ctxt} {i j : Nat} {b c : B} (h : (Γ.set i (some b))[j]? = some (some c)) : (j = i ∧ c = b) ∨ (j ≠ i ∧ Γ[j]? = some (some c)) := by
  rw [List.getElem?_set] at h
  by_cases q : i = j
  · simp only [q, if_true] at h
    split at h
    · simp only [Option.some.injEq] at h; exact .inl ⟨q.symm, h.symm⟩
    · cases h
  · simp only [q, if_false] at h; exact .inr ⟨fun z => q z.symm, h⟩

/-- a store to a local name -/
theorem wp_storeL {A : Around} {g : Heap} {W : Addr → Prop} {env : Env} {s : Shared} {m : Str → Option Value} {ad ad' : Nat → Addr} {i : Nat} {x : Str} {v : Value} {b : B} {Q : Unit → Shared → Prop} {E : Value → Shared → Prop}
    (kp : Keep g s.heap) (Bs : Base S g) (T : Tabs S g s) (eI : EnvIs f env) (wide : ∀ a, s.heap.objs.size ≤ a → W a) (clt : ∀ x c, env.cells.lookup x = some c → c < s.heap.objs.size) (hx : f.vars[i]? = some x) (hk : f.kinds[i]? = some .local)
    (hns : s.heap.Ns env.locals m) (hb : W env.locals) (hg : g.get? env.locals = Option.none) (hH : ∀ i x b, f.vars[i]? = some x → Γ[i]? = some (some b) → Holds g s.heap W env m ad i x b)
    (hI : ∀ p q xs ys, (Γ.set i (some b))[p]? = some (some (.own xs)) → (Γ.set i (some b))[q]? = some (some (.own ys)) → ad' p = ad' q → p = q)
    (hnew : ∀ h' m', h'.Ns env.locals m' → m' x = some v → Heap.SameBut env.locals s.heap h' → env.kindOf x = some .local → Holds g h' W env m' ad' i x b)
    (hsame : ∀ j xs, j ≠ i → Γ[j]? = some (some (.own xs)) → ad' j = ad j) (happ : ∀ j q, j ≠ i → Γ[j]? = some (some (.app q)) → ad' q = ad q)
    (h : ∀ g' s', Tr S W g s g' s' → St S f (Γ.set i (some b)) g' W env s' → Q () s') : wpAny S.M A (storeName env x v) Q E s := by
  have hki : env.kindOf x = some .local := (kindOf_eq eI x).trans (f.kind hx hk)
  have nT : ¬ S.T env.locals := by obtain ⟨o, es, ep, e, hd, _⟩ := hns; exact T.notT e (by rw [hd]; nofun)
  refine wpAny_storeName_local hki hns (fun h' hn hs => ?_) (by rw [eI.kind]; rfl)
  have t : Tr S W g s g { s with heap := h', toks := s.toks + 1 } := Tr.set kp Bs T hs hb hg nT (Nat.le_succ _)
  refine h g _ t ⟨t.keep, Bs, t.now, eI, fun a l => wide a (Nat.le_trans t.size l), fun x c e => Nat.lt_of_lt_of_le (clt x c e) t.size, _, ad', hn, hb, hg, fun j y c hy hc => ?_, hI⟩
  rcases get_set hc with ⟨rfl, rfl⟩ | ⟨hj, hc'⟩
  · obtain rfl : x = y := Option.some.inj (hx.symm.trans hy)
    exact hnew _ _ hn (by simp) hs hki
  · have hyx : y ≠ x := fun q => hj (f.inj hy (q ▸ hx))
    have H := hH j y c hy hc'
    have cellOk : ∀ {c ov}, s.heap.IsCell c ov → h'.IsCell c ov := fun {c ov} hc => hc.sameBut hs (fun q => by
      obtain ⟨o, e, hd⟩ := hc
      obtain ⟨o', es, ep, e', hd', _⟩ := hns
      rw [q, e'] at e; cases e; rw [hd'] at hd; cases hd)
    cases c with
    | val d =>
      obtain ⟨v', hv, hr⟩ := H
      refine ⟨v', ?_, hr⟩
      unfold Var at hv ⊢
      split at hv
      · simp only [if_neg hyx]; exact hv
      · obtain ⟨c, h1, h2⟩ := hv; exact ⟨c, h1, cellOk h2⟩
      · obtain ⟨c, h1, h2⟩ := hv; exact ⟨c, h1, cellOk h2⟩
      · exact hv.elim
    | own xs =>
      obtain ⟨h1, h2, vs, n, e, h3, r⟩ := H
      rw [← hsame j xs hj hc'] at h2 e r
      refine ⟨h1, by simp only [if_neg hyx]; exact h2, vs, n, (hs.2 _ fun q => ?_).trans e, h3, r⟩
      obtain ⟨o', es, ep, e', hd', _⟩ := hns
      rw [q, e'] at e; cases e; cases hd'
    | app q =>
      obtain ⟨h1, a, h2, h3⟩ := H
      rw [← happ j q hj hc'] at h3
      exact ⟨h1, a, by simp only [if_neg hyx]; exact h2, h3⟩
    | cell od =>
      obtain ⟨h1, c, ov, h2, h3, r⟩ := H
      exact ⟨h1, c, ov, h2, cellOk h3, r⟩

/-- assigning a value to a target -/
noncomputable def AS (S : Sig) (k : Nat) (f : Fi) (Γ : Ctxt) (t : Expr) (d : D) (Γ' : Ctxt) : Prop :=
  ∀ (A : Around) (g : Heap) (W : Addr → Prop) (env : Env) (s : Shared) (v : Value) (Q : Unit → Shared → Prop) (E : Value → Shared → Prop), Room k A → St S f Γ g W env s → Rd g v d →
    (∀ g' s', Tr S W g s g' s' → St S f Γ' g' W env s' → Q () s') → wpAny S.M A (assign t env v) Q E s
noncomputable def ASs (S : Sig) (k : Nat) (f : Fi) (Γ : Ctxt) (ts : List Expr) (ds : List D) (Γ' : Ctxt) : Prop :=
  (∀ env, (assignEach ts env).findIdx? (·.1) = Option.none) ∧ (∀ env, (assignEach ts env).length = ts.length) ∧ ts.length = ds.length ∧
  ∀ (A : Around) (g : Heap) (W : Addr → Prop) (env : Env) (s : Shared) (vs : List Value) (Q : Unit → Shared → Prop) (E : Value → Shared → Prop), Room k A → St S f Γ g W env s → Rds g vs ds →
    (∀ g' s', Tr S W g s g' s' → St S f Γ' g' W env s' → Q () s') → wpAny S.M A (assignInOrder ((assignEach ts env).map (·.2)) vs) Q E s

theorem wp_storeVal {A : Around} {g : Heap} {W : Addr → Prop} {env : Env} {s : Shared} {i : Nat} {x : Str} {v : Value} {Q : Unit → Shared → Prop} {E : Value → Shared → Prop}
    (hx : f.vars[i]? = some x) (hk : f.kinds[i]? = some .local) (st : St S f Γ g W env s) (hr : Rd g v d)
    (h : ∀ g' s', Tr S W g s g' s' → St S f (Γ.set i (some (.val d))) g' W env s' → Q () s') : wpAny S.M A (storeName env x v) Q E s := by
  obtain ⟨m, ad, hns, hb, hg, hH, hI⟩ := st.vars
  refine wp_storeL (b := .val d) (ad := ad) (ad' := ad) st.keep st.base st.tabs st.envIs st.wide st.clt hx hk hns hb hg hH (fun p q xs ys h1 h2 => ?_) (fun h' m' hn hv hs hki => ⟨v, by unfold Var; rw [hki]; exact hv, hr⟩) (fun _ _ _ _ => rfl) (fun _ _ _ _ => rfl) h
  rcases get_set h1 with ⟨_, q⟩ | ⟨_, h1⟩
  · cases q
  · rcases get_set h2 with ⟨_, q⟩ | ⟨_, h2⟩
    · cases q
    · exact hI p q xs ys h1 h2

theorem AS.name {x : Str} (i : Nat) (hx : f.vars[i]? = some x) (hk : f.kinds[i]? = some .local) : AS S k f Γ (.Name x pos) d (Γ.set i (some (.val d))) := by
  intro A g W env s v Q E R st hr h
  rw [arm_assign_Name]
  exact wpAny_bind (wpAny_standAt (wpAny_bindName (wp_storeVal hx hk st hr h)))

/-- a store to a cell of the frame's own -/
theorem AS.cell {x : Str} {od : Option D} (i : Nat) (hx : f.vars[i]? = some x) (hl : Γ[i]? = some (some (.cell od))) : AS S k f Γ (.Name x pos) d (Γ.set i (some (.cell (some d)))) := by
  intro A g W env s v Q E R st hr h
  rw [arm_assign_Name]
  refine wpAny_bind (wpAny_standAt (wpAny_bindName ?_))
  obtain ⟨m, ad, hns, hb, hg, hH, hI⟩ := st.vars
  obtain ⟨hki, c, ov, hc, hcell, hgc, hbc, huniq, hval⟩ := hH i x _ hx hl
  refine wpAny_storeName_cell st.envIs.kind hki hc hcell fun h' hcell' hs => ?_
  have nT : ¬ S.T c := by obtain ⟨o, e, hd⟩ := hcell; exact st.tabs.notT e (by rw [hd]; nofun)
  have t : Tr S W g s g { s with heap := h', toks := s.toks } := Tr.set st.keep st.base st.tabs hs hbc hgc nT (Nat.le_refl _)
  have ne : ∀ {a o}, s.heap.get? a = some o → (∀ v, o.data ≠ .cell v) → a ≠ c := fun {a o} e hd q => by
    obtain ⟨o', e', hd'⟩ := hcell
    rw [q, e'] at e; cases e; exact hd _ hd'
  have hns' : h'.Ns env.locals m := by
    obtain ⟨o, es, ep, e, hd, r⟩ := hns
    exact ⟨o, es, ep, (hs.2 _ (ne e (by rw [hd]; nofun))).trans e, hd, r⟩
  refine h g _ t ⟨t.keep, st.base, t.now, st.envIs, fun a l => st.wide a (Nat.le_trans t.size l), fun x c e => Nat.lt_of_lt_of_le (st.clt x c e) t.size, m, ad, hns', hb, hg, fun j y b hy hbj => ?_, fun p q xs ys h1 h2 => ?_⟩
  · rcases get_set hbj with ⟨rfl, rfl⟩ | ⟨hj, hb'⟩
    · obtain rfl : x = y := Option.some.inj (hx.symm.trans hy)
      exact ⟨hki, c, some v, hc, hcell', hgc, hbc, huniq, fun d' e => by cases e; exact ⟨v, rfl, hr⟩⟩
    · have hyx : y ≠ x := fun q => hj (f.inj hy (q ▸ hx))
      have H := hH j y b hy hb'
      have cellOk : ∀ {c' ov}, env.cells.lookup y = some c' → s.heap.IsCell c' ov → h'.IsCell c' ov := fun {c' ov} hl hc' => hc'.sameBut hs (fun q => hyx (huniq y (q ▸ hl)))
      cases b with
      | val d =>
        obtain ⟨v', hv, hr⟩ := H
        refine ⟨v', ?_, hr⟩
        unfold Var at hv ⊢
        split at hv
        · exact hv
        · obtain ⟨c, h1, h2⟩ := hv; exact ⟨c, h1, cellOk h1 h2⟩
        · obtain ⟨c, h1, h2⟩ := hv; exact ⟨c, h1, cellOk h1 h2⟩
        · exact hv.elim
      | own xs =>
        obtain ⟨h1, h2, vs, n, e, h3, r⟩ := H
        exact ⟨h1, h2, vs, n, (hs.2 _ (ne e nofun)).trans e, h3, r⟩
      | app q => exact H
      | cell od' =>
        obtain ⟨h1, c', ov', h2, h3, r⟩ := H
        exact ⟨h1, c', ov', h2, cellOk h2 h3, r⟩
  · rcases get_set h1 with ⟨_, q⟩ | ⟨_, h1⟩
    · cases q
    · rcases get_set h2 with ⟨_, q⟩ | ⟨_, h2⟩
      · cases q
      · exact hI p q xs ys h1 h2

theorem ASs.nil : ASs S k f Γ [] [] Γ := ⟨fun _ => rfl, fun _ => rfl, rfl, fun A g W env s vs Q E R st hr h => by
  cases hr
  exact wpAny_pure (h g s ((st.at R).refl _) st)⟩
theorem ASs.cons {t : Expr} {ts : List Expr} (h1 : AS S k f Γ t d Γ₁) (h2 : ASs S k f Γ₁ ts ds Γ') (hs : ∀ env, assignEach (t :: ts) env = (false, assign t env) :: assignEach ts env := by intro _; rfl) : ASs S k f Γ (t :: ts) (d :: ds) Γ' := by
  obtain ⟨a1, a2, a3, a4⟩ := h2
  refine ⟨fun env => ?_, fun env => ?_, by simp [a3], fun A g W env s vs Q E R st hr h => ?_⟩
  · rw [hs, List.findIdx?_cons]; simp [a1]
  · rw [hs, List.length_cons, a2]; rfl
  · cases hr with
    | cons r1 r2 =>
      rw [hs]
      show wpAny S.M A (do holding _ (assign t env _); assignInOrder ((assignEach ts env).map (·.2)) _) Q E s
      exact wpAny_bind (wpAny_holding (h1 A g W env s _ _ E R st r1 fun g1 s1 t1 st1 => a4 A g1 W env s1 _ Q E R st1 (r2.mono t1.mono) fun g2 s2 t2 st2 => h g2 s2 (t1.trans t2 (fun _ q => q)) st2))

theorem AS.tup {ts : List Expr} {kk : Nat} (h : ASs S k f Γ ts ds Γ') : AS S k f Γ (.Tuple ts kk pos) (.tup ds) Γ' := by
  intro A g W env s v Q E R st hr hQ
  obtain ⟨a1, a2, a3, a4⟩ := h
  cases hr with
  | tup e hl rs =>
    rename_i a vs n
    have hlen := rs.length
    have ht : s.heap.IsTuple a vs.toArray := ⟨_, st.keep _ _ e, rfl, n, rfl⟩
    rw [arm_assign_Tuple]
    refine wpAny_bind (wpAny_standAt ?_)
    unfold unpack
    rw [show (assignEach ts env).length = vs.toArray.size by rw [a2, a3]; simp [hlen], a1 env]
    refine wpAny_bind (wpAny_holding (wpAny_grown (wpAny_unpackItems_tuple R.handled ht fun h' hx G => ?_)))
    have old : Keep s.heap h' := fun b o e => hx b o (Nat.ne_of_lt (Heap.lt_size e)) e
    obtain ⟨g1, t1, _⟩ := Tr.grow (s' := { s with heap := h' }) (fun _ => False) st.keep st.base st.tabs old G.heap rfl rfl (Nat.le_refl _)
    exact a4 A g1 W env _ _ _ E R (st.move t1) (rs.mono t1.mono) fun g2 s2 t2 st2 => hQ g2 s2 ((t1.weak st.new).trans t2 (fun _ q => q)) st2

/- statements -/
theorem EXs.nil : EXs S k f Γ [] (.next Γ) := fun A g W env s Q E R st h => wpAny_execs_nil (h _ g s ((st.at R).refl _) ⟨rfl, st⟩)
theorem EXs.cons (h1 : EX S k f Γ st (.next Γ₁)) (h2 : EXs S k f Γ₁ sts res) : EXs S k f Γ (st :: sts) res := by
  intro A g W env s Q E R st h
  refine wpAny_execs_cons (h1 A g W env s _ E R st fun fl g1 s1 t1 p1 => ?_)
  obtain ⟨rfl, st1⟩ := p1
  exact h2 A g1 W env s1 Q E R st1 fun fl g2 s2 t2 p2 => h fl g2 s2 (t1.trans t2 (fun _ q => q)) p2
noncomputable def Res.leaves : Res → Bool
  | .next _ => false
  | _ => true
theorem EXs.stop (h1 : EX S k f Γ st res) (hr : res.leaves = true := by rfl) : EXs S k f Γ (st :: sts) res := by
  intro A g W env s Q E R st h
  refine wpAny_execs_cons (h1 A g W env s _ E R st fun fl g1 s1 t1 p1 => ?_)
  have := h fl g1 s1 t1 p1
  cases res with
  | next _ => cases hr
  | ret d => obtain ⟨v, rfl, _⟩ := p1; exact this
  | brk Γ => obtain ⟨rfl, _⟩ := p1; exact this
  | cont Γ => obtain ⟨rfl, _⟩ := p1; exact this

theorem EX.brk : EX S k f Γ (.Break pos) (.brk Γ) := fun A g W env s Q E R st h => wpAny_Break (h _ g s ((st.at R).refl _) ⟨rfl, st⟩)
theorem EX.cont : EX S k f Γ (.Continue pos) (.cont Γ) := fun A g W env s Q E R st h => wpAny_Continue (h _ g s ((st.at R).refl _) ⟨rfl, st⟩)
theorem EX.ret (h : EV S k f Γ e d) : EX S k f Γ (.Return (some e) pos) (.ret d) := fun A g W env s Q E R st hQ =>
  wpAny_Return_some (h A g W env s _ E R st fun v g1 s1 t1 r1 => hQ _ g1 s1 (t1.weak st.new) ⟨v, rfl, r1⟩)

theorem EX.if {c : Expr} {b : Bool} {body orelse : List Stmt} (h1 : TV S k f Γ c b) (h2 : b = true → EXs S k f Γ body res) (h3 : b = false → EXs S k f Γ orelse res) : EX S k f Γ (.If c body orelse pos) res := by
  intro A g W env s Q E R st hQ
  refine wpAny_If (h1 A g W env s _ E R st fun g1 s1 t1 => ?_)
  cases b with
  | true => exact h2 rfl A g1 W env s1 Q E R (st.move t1) fun fl g2 s2 t2 p2 => hQ fl g2 s2 ((t1.weak st.new).trans t2 (fun _ q => q)) p2
  | false => exact h3 rfl A g1 W env s1 Q E R (st.move t1) fun fl g2 s2 t2 p2 => hQ fl g2 s2 ((t1.weak st.new).trans t2 (fun _ q => q)) p2

theorem EX.assert {c : Expr} {msg : Option Expr} (h1 : TV S k f Γ c true) : EX S k f Γ (.Assert c msg pos) (.next Γ) := by
  intro A g W env s Q E R st hQ
  rw [arm_exec_Assert]
  exact wpAny_bind (wpAny_standAt (wpAny_bind (h1 A g W env s _ E R st fun g1 s1 t1 => wpAny_pure (hQ _ g1 s1 (t1.weak st.new) ⟨rfl, st.move t1⟩))))

theorem EX.assign {t : Expr} (h1 : EV S k f Γ e d) (h2 : AS S k f Γ t d Γ₁) (hs : ∀ env, swapsWithSole [t] e pos.line env = pure false := by intro _; rfl) (hw : ∀ env, swappedStores [t] e env = pure none := by intro _; rfl)
    (ha : ∀ env v, assignAll v ((assignEach [t] env).map (·.2)) = assign t env v := by intro _ _; rfl) : EX S k f Γ (.Assign [t] e pos) (.next Γ₁) := by
  intro A g W env s Q E R st hQ
  refine wpAny_Assign_stores (h1 A g W env s _ E R st fun v g1 s1 t1 r1 => ?_) (hs env) (hw env)
  rw [ha]
  exact h2 A g1 W env s1 v _ E R (st.move t1) r1 fun g2 s2 t2 st2 => hQ _ g2 s2 ((t1.weak st.new).trans t2 (fun _ q => q)) ⟨rfl, st2⟩

theorem not_interactive {env : Env} (h : EnvIs f env) : interactive env = false := by
  unfold interactive
  rw [h.kind]; rfl

/- while -/
inductive WL (S : Sig) (k : Nat) (f : Fi) (test : Expr) (body : List Stmt) : Ctxt → Res → Prop where
  | stop {Γ : Ctxt} : TV S k f Γ test false → WL S k f test body Γ (.next Γ)
  | next {Γ Γ₁ : Ctxt} {r : Res} : TV S k f Γ test true → EXs S k f Γ body (.next Γ₁) → WL S k f test body Γ₁ r → WL S k f test body Γ r
  | cont {Γ Γ₁ : Ctxt} {r : Res} : TV S k f Γ test true → EXs S k f Γ body (.cont Γ₁) → WL S k f test body Γ₁ r → WL S k f test body Γ r
  | brk {Γ Γ₁ : Ctxt} : TV S k f Γ test true → EXs S k f Γ body (.brk Γ₁) → WL S k f test body Γ (.next Γ₁)
  | ret {Γ : Ctxt} {d : D} : TV S k f Γ test true → EXs S k f Γ body (.ret d) → WL S k f test body Γ (.ret d)

/-- what a loop's code does -/
noncomputable def Cd (S : Sig) (k : Nat) (f : Fi) (Γ : Ctxt) (c : Env → Code) (r : Res) : Prop :=
  ∀ (A : Around) (g : Heap) (W : Addr → Prop) (env : Env) (s : Shared) (R : Result → Shared → Prop), Room k A → St S f Γ g W env s →
    (∀ fl g' s', Tr S W g s g' s' → Post S f r g' W env fl s' → R (.ok fl) s') → codeAny S.M A (c env) R s

theorem under_loop (A : Around) (test : Expr) (body orelse : List Stmt) (env : Env) : A.under (.whileLoop test body orelse env) = A := Around.under_of_weight rfl
theorem whileTurn_ok {A : Around} {test : Expr} {body : List Stmt} {env : Env} {Q : PySem.Fin → Shared → Prop} {E : Value → Shared → Prop} {s : Shared}
    (h : wpAny S.M A (whileTurn test body [] env) Q E s) (hE : ∀ e s, E e s → False) : wpAny S.M A ((whileTurn test body [] env).onRaise (fun x => do noteFrame x env; theTreesLotGoes x)) Q E s :=
  wpAny_onRaise (wpAny_mono h (fun _ _ x => x) fun _ _ x => (hE _ _ x).elim)

theorem WL.code {test : Expr} {body : List Stmt} (w : WL S k f test body Γ res) : Cd S k f Γ (fun env => .whileLoop test body [] env) res := by
  induction w with
  | stop ht =>
    intro A g W env s R Rm st h
    refine codeAny_of_tree ?_
    rw [under_loop]
    refine wpAny_mono (whileTurn_ok (Q := fun fin s' => match fin with | .done f => R (.ok f) s' | .again c' => c'.quiet = true ∧ codeAny S.M A c' R s') (E := fun _ _ => False) ?_ fun _ _ x => x) (fun _ _ x => x) fun _ _ x => x.elim
    unfold whileTurn
    refine wpAny_bind (ht A g W env s _ _ Rm st fun g1 s1 t1 => ?_)
    simp only [Bool.false_eq_true, if_false]
    exact wpAny_bind (wpAny_execs_nil (wpAny_pure (h _ g1 s1 (t1.weak st.new) ⟨rfl, st.move t1⟩)))
  | next ht hb _ ih =>
    intro A g W env s R Rm st h
    refine codeAny_of_tree ?_
    rw [under_loop]
    refine wpAny_mono (whileTurn_ok (Q := fun fin s' => match fin with | .done f => R (.ok f) s' | .again c' => c'.quiet = true ∧ codeAny S.M A c' R s') (E := fun _ _ => False) ?_ fun _ _ x => x) (fun _ _ x => x) fun _ _ x => x.elim
    unfold whileTurn
    refine wpAny_bind (ht A g W env s _ _ Rm st fun g1 s1 t1 => ?_)
    simp only [if_true]
    refine wpAny_bind (hb A g1 W env s1 _ _ Rm (st.move t1) fun fl g2 s2 t2 p2 => ?_)
    obtain ⟨rfl, st2⟩ := p2
    refine wpAny_pure ⟨rfl, ih A g2 W env s2 R Rm st2 fun fl g3 s3 t3 p3 => h fl g3 s3 (((t1.weak st.new).trans t2 (fun _ q => q)).trans t3 (fun _ q => q)) p3⟩
  | cont ht hb _ ih =>
    intro A g W env s R Rm st h
    refine codeAny_of_tree ?_
    rw [under_loop]
    refine wpAny_mono (whileTurn_ok (Q := fun fin s' => match fin with | .done f => R (.ok f) s' | .again c' => c'.quiet = true ∧ codeAny S.M A c' R s') (E := fun _ _ => False) ?_ fun _ _ x => x) (fun _ _ x => x) fun _ _ x => x.elim
    unfold whileTurn
    refine wpAny_bind (ht A g W env s _ _ Rm st fun g1 s1 t1 => ?_)
    simp only [if_true]
    refine wpAny_bind (hb A g1 W env s1 _ _ Rm (st.move t1) fun fl g2 s2 t2 p2 => ?_)
    obtain ⟨rfl, st2⟩ := p2
    refine wpAny_pure ⟨rfl, ih A g2 W env s2 R Rm st2 fun fl g3 s3 t3 p3 => h fl g3 s3 (((t1.weak st.new).trans t2 (fun _ q => q)).trans t3 (fun _ q => q)) p3⟩
  | brk ht hb =>
    intro A g W env s R Rm st h
    refine codeAny_of_tree ?_
    rw [under_loop]
    refine wpAny_mono (whileTurn_ok (Q := fun fin s' => match fin with | .done f => R (.ok f) s' | .again c' => c'.quiet = true ∧ codeAny S.M A c' R s') (E := fun _ _ => False) ?_ fun _ _ x => x) (fun _ _ x => x) fun _ _ x => x.elim
    unfold whileTurn
    refine wpAny_bind (ht A g W env s _ _ Rm st fun g1 s1 t1 => ?_)
    simp only [if_true]
    refine wpAny_bind (hb A g1 W env s1 _ _ Rm (st.move t1) fun fl g2 s2 t2 p2 => ?_)
    obtain ⟨rfl, st2⟩ := p2
    exact wpAny_pure (h _ g2 s2 ((t1.weak st.new).trans t2 (fun _ q => q)) ⟨rfl, st2⟩)
  | ret ht hb =>
    intro A g W env s R Rm st h
    refine codeAny_of_tree ?_
    rw [under_loop]
    refine wpAny_mono (whileTurn_ok (Q := fun fin s' => match fin with | .done f => R (.ok f) s' | .again c' => c'.quiet = true ∧ codeAny S.M A c' R s') (E := fun _ _ => False) ?_ fun _ _ x => x) (fun _ _ x => x) fun _ _ x => x.elim
    unfold whileTurn
    refine wpAny_bind (ht A g W env s _ _ Rm st fun g1 s1 t1 => ?_)
    simp only [if_true]
    refine wpAny_bind (hb A g1 W env s1 _ _ Rm (st.move t1) fun fl g2 s2 t2 p2 => ?_)
    obtain ⟨v, rfl, r2⟩ := p2
    exact wpAny_pure (h _ g2 s2 ((t1.weak st.new).trans t2 (fun _ q => q)) ⟨v, rfl, r2⟩)

theorem EX.while {test : Expr} {body : List Stmt} (w : WL S k f test body Γ res) : EX S k f Γ (.While test body [] pos) res := by
  intro A g W env s Q E R st hQ
  exact wpAny_While (w.code A g W env s _ R st hQ)
end
end Mine
set_option maxRecDepth 100000
set_option linter.unusedVariables false
namespace Mine
open PySem PySem.W PySem.Calls PyProof.Rows

/-- the objects in F stand as they stood -/
noncomputable def Same (F : Addr → Prop) (s s' : Shared) : Prop := ∀ a o, F a → s.heap.get? a = some o → s'.heap.get? a = some o
theorem Same.refl (F : Addr → Prop) (s : Shared) : Same F s s := fun _ _ _ e => e
theorem Same.trans {F : Addr → Prop} {a b c : Shared} (x : Same F a b) (y : Same F b c) : Same F a c := fun p o h e => y p o h (x p o h e)

/-- the iterator at I hands out ds, one after the other, to the target tg; F: its own objects -/
noncomputable def Yl (S : Sig) (k : Nat) (F : Addr → Prop) (I : Addr) (tg : Expr) : List D → Heap → Shared → Prop
  | [], g, s => ∀ (A : Around) (g' : Heap) (s' : Shared) (Q : Option Value → Shared → Prop) (E : Value → Shared → Prop), At S k A g' s' → Keep g g' → Same F s s' → (∀ a, F a → g'.get? a = none) →
      (∀ g₁ s₁, Tr S (fun a => Nw s' a ∨ F a) g' s' g₁ s₁ → Q none s₁) → wpAny S.M A (pyNext (.ref I)) Q E s'
  | d :: ds, g, s => ∀ (A : Around) (g' : Heap) (s' : Shared) (Q : Option Value → Shared → Prop) (E : Value → Shared → Prop), At S k A g' s' → Keep g g' → Same F s s' → (∀ a, F a → g'.get? a = none) →
      (∀ v g₁ s₁, Tr S (fun a => Nw s' a ∨ F a) g' s' g₁ s₁ → (∀ a, F a → g₁.get? a = none) →
        (∀ (f : Fi) (Γ Γ' : Ctxt) (W : Addr → Prop) (env : Env) (Q' : Unit → Shared → Prop) (E' : Value → Shared → Prop), AS S k f Γ tg d Γ' → St S f Γ g₁ W env s₁ → (∀ a, F a → ¬ W a) → (∀ x c, env.cells.lookup x = some c → ¬ F c) →
          (∀ g₂ s₂, Tr S (fun a => W a ∨ F a) g₁ s₁ g₂ s₂ → (∀ a, F a → g₂.get? a = none) → (∀ a o, F a → s₂.heap.get? a = some o → o.cls ≠ .type "frame") → St S f Γ' g₂ W env s₂ → Yl S k F I tg ds g₂ s₂ → Q' () s₂) → wpAny S.M A (do letOwnedTupleGo tg (.ref I) v; assign tg env v) Q' E' s₁) →
        Q (some v) s₁) → wpAny S.M A (pyNext (.ref I)) Q E s'

theorem Yl.mono {S : Sig} {k : Nat} {F : Addr → Prop} {I : Addr} {tg : Expr} {ds : List D} {g g' : Heap} {s s' : Shared} (y : Yl S k F I tg ds g s) (hk : Keep g g') (hs : Same F s s') : Yl S k F I tg ds g' s' := by
  cases ds with
  | nil => exact fun A g₁ s₁ Q E a k₁ h₁ => y A g₁ s₁ Q E a (hk.trans k₁) (hs.trans h₁)
  | cons d ds => exact fun A g₁ s₁ Q E a k₁ h₁ => y A g₁ s₁ Q E a (hk.trans k₁) (hs.trans h₁)

/-- an iterator that is its own iterator -/
noncomputable def Self (S : Sig) (k : Nat) (F : Addr → Prop) (I : Addr) (g : Heap) (s : Shared) : Prop :=
  ∀ (A : Around) (g' : Heap) (s' : Shared) (Q : Value → Shared → Prop) (E : Value → Shared → Prop), At S k A g' s' → Keep g g' → Same F s s' → Q (.ref I) s' → wpAny S.M A (pyIter (.ref I)) Q E s'
/-- going over what reads d gives ds -/
noncomputable def It (S : Sig) (k : Nat) (d : D) (tg : Expr) (ds : List D) : Prop :=
  ∀ (A : Around) (g : Heap) (s : Shared) (v : Value) (Q : Value → Shared → Prop) (E : Value → Shared → Prop), At S k A g s → Rd g v d →
    (∀ I F g' s', Tr S (Nw s) g s g' s' → (∀ a, F a → Nw s a ∧ g'.get? a = none ∧ a < s'.heap.objs.size) → Self S k F I g' s' → Yl S k F I tg ds g' s' → Q (.ref I) s') → wpAny S.M A (pyIter v) Q E s

section
variable {S : Sig} {k : Nat} {f : Fi} {Γ Γ' Γ₁ Γ₂ : Ctxt} {e l r : Expr} {es : List Expr} {d d₁ d₂ : D} {ds : List D} {pos p' : Pos} {st : Stmt} {sts : List Stmt} {res : Res}

/-- a frame's state under a smaller and a larger writable set -/
theorem St.widen {g : Heap} {W V : Addr → Prop} {env : Env} {s : Shared} (h : St S f Γ g V env s) (hv : ∀ a, V a → W a) : St S f Γ g W env s where
  keep := h.keep
  base := h.base
  tabs := h.tabs
  envIs := h.envIs
  wide := fun a l => hv a (h.wide a l)
  clt := h.clt
  vars := by
    obtain ⟨m, ad, h1, h2, h3, h4, h5⟩ := h.vars
    refine ⟨m, ad, h1, hv _ h2, h3, fun i x b e e' => ?_, h5⟩
    have H := h4 i x b e e'
    cases b with
    | val d => exact H
    | own xs => obtain ⟨a1, a2, vs, n, a3, a4, a5, a6, a7⟩ := H; exact ⟨a1, a2, vs, n, a3, a4, a5, a6, hv _ a7⟩
    | app y => exact H
    | cell od => obtain ⟨a1, c, ov, a2, a3, a4, a5, r⟩ := H; exact ⟨a1, c, ov, a2, a3, a4, hv _ a5, r⟩
/-- new objects F may be kept out of the writable set -/
theorem St.without {g g' : Heap} {W : Addr → Prop} {env : Env} {s s' : Shared} {F : Addr → Prop} (h : St S f Γ g W env s) (t : Tr S (Nw s) g s g' s') (hF : ∀ a, F a → Nw s a ∧ a < s'.heap.objs.size) : St S f Γ g' (fun a => W a ∧ ¬ F a) env s' := by
  have h' := h.move t
  obtain ⟨m, ad, h1, h2, h3, h4, h5⟩ := h.vars
  have nF : ∀ {a o}, s.heap.get? a = some o → ¬ F a := fun {a o} e q => absurd (Heap.lt_size e) (Nat.not_lt.mpr (hF a q).1)
  refine ⟨t.keep, t.base, t.now, h.envIs, fun a l => ⟨h'.wide a l, fun q => absurd (hF a q).2 (Nat.not_lt.mpr l)⟩, h'.clt, m, ad, t.ns h.tabs h1 (Nat.not_le.mpr h1.lt), ⟨h2, fun q => by obtain ⟨o, _, _, e, _⟩ := h1; exact nF e q⟩, t.none h3 (Nat.not_le.mpr h1.lt), fun i x b e e' => ?_, h5⟩
  have H := t.holds h.tabs (h4 i x b e e')
  have H₀ := h4 i x b e e'
  cases b with
  | val d => exact H
  | own xs => obtain ⟨a1, a2, vs, n, a3, a4, a5, a6, a7⟩ := H; exact ⟨a1, a2, vs, n, a3, a4, a5, a6, a7, fun q => by obtain ⟨_, _, _, _, e, _⟩ := H₀; exact nF e q⟩
  | app y => exact H
  | cell od =>
    obtain ⟨a1, c, ov, a2, a3, a4, a5, r⟩ := H
    obtain ⟨_, c', ov', b2, b3, _⟩ := H₀
    obtain rfl : c = c' := Option.some.inj (a2.symm.trans b2)
    exact ⟨a1, c, ov, a2, a3, a4, ⟨a5, fun q => by obtain ⟨o, e, _⟩ := b3; exact nF e q⟩, r⟩

/-- a stretch that touches new objects and F alone moves a frame that does not own F -/
theorem St.moveF {g g' : Heap} {W : Addr → Prop} {env : Env} {s s' : Shared} {F : Addr → Prop} (h : St S f Γ g W env s) (t : Tr S (fun a => Nw s a ∨ F a) g s g' s') (hF : ∀ a, F a → ¬ W a) (hc : ∀ x c, env.cells.lookup x = some c → ¬ F c) : St S f Γ g' W env s' := by
  obtain ⟨m, ad, h1, h2, h3, h4, h5⟩ := h.vars
  have nV : ∀ {a o}, s.heap.get? a = some o → W a → ¬ (Nw s a ∨ F a) := fun {a o} e w q => q.elim (fun q => absurd (Heap.lt_size e) (Nat.not_lt.mpr q)) fun q => hF a q w
  refine ⟨t.keep, t.base, t.now, h.envIs, fun a l => h.wide a (Nat.le_trans t.size l), fun x c e => Nat.lt_of_lt_of_le (h.clt x c e) t.size, m, ad, t.ns h.tabs h1 (by obtain ⟨o, _, _, e, _⟩ := h1; exact nV e h2), h2, t.none h3 (by obtain ⟨o, _, _, e, _⟩ := h1; exact nV e h2), fun i x b e e' => ?_, h5⟩
  have H := h4 i x b e e'
  cases b with
  | val d =>
    obtain ⟨v, hv, hr⟩ := H
    refine ⟨v, ?_, hr.mono t.mono⟩
    have cl : ∀ c, env.cells.lookup x = some c → s.heap.IsCell c (some v) → s'.heap.IsCell c (some v) := fun c h1 h2 => t.isCell h.tabs h2 fun q => q.elim (fun q => absurd h2.lt (Nat.not_lt.mpr q)) (hc x c h1)
    unfold Var at hv ⊢
    split at hv
    · exact hv
    · obtain ⟨c, h1, h2⟩ := hv; exact ⟨c, h1, cl c h1 h2⟩
    · obtain ⟨c, h1, h2⟩ := hv; exact ⟨c, h1, cl c h1 h2⟩
    · exact hv
  | own xs => exact ⟨H.1, H.2.1, t.ownList h.tabs H.2.2 (by obtain ⟨_, _, _, _, e, _, _, _, w⟩ := H; exact nV e w)⟩
  | app y => obtain ⟨a1, q, a2, a3⟩ := H; exact ⟨a1, q, a2, t.mono _ _ a3⟩
  | cell od =>
    obtain ⟨a1, c, ov, a2, a3, a4, a5, a6, a7⟩ := H
    have nc := (by obtain ⟨o, e, _⟩ := a3; exact nV e a5 : ¬ (Nw s c ∨ F c))
    exact ⟨a1, c, ov, a2, t.isCell h.tabs a3 nc, t.none a4 nc, a5, a6, fun d e => let ⟨v, e', r⟩ := a7 d e; ⟨v, e', r.mono t.mono⟩⟩
end

section
variable {S : Sig} {k : Nat} {f : Fi} {Γ Γ' Γ₁ Γ₂ : Ctxt} {e l r : Expr} {es : List Expr} {d d₁ d₂ : D} {ds : List D} {pos p' : Pos} {st : Stmt} {sts : List Stmt} {res : Res} {tg : Expr}

theorem Tr.keepF {F : Addr → Prop} {g g' : Heap} {s s' : Shared} {V : Addr → Prop} (t : Tr S V g s g' s') (T : Tabs S g s) (hF : ∀ a o, F a → s.heap.get? a = some o → ¬ V a ∧ (∀ vs, o.data = .fields vs → ¬ S.T a) ∧ o.cls ≠ .type "frame") : Same F s s' := fun a o h e => by
  obtain ⟨h1, h2, h3⟩ := hF a o h e
  have nT : ¬ S.T a := by
    cases q : o.data with
    | fields vs => exact h2 vs q
    | _ => exact T.notT e (by rw [q]; nofun)
  obtain ⟨o', e', k⟩ := t.same a o h1 nT e
  rw [e', k.eq h3]

/-- the kit's walks, said here: wr are the iterator's own objects, the rest of its footprint is the world's -/
theorem Yl.walks {I : Addr} {fp wr : List Addr} {n : Nat} {P : Nat → Value → Prop} {Stt : Nat → Heap → Prop} (Wk : ∀ A : Around, A.handled = none → Walks S.prog S.w A I fp wr n P Stt)
    (hlet : ∀ i A E s v (Q : Unit → Shared → Prop), Stt i s.heap → Q () s → wpAny S.M A (letOwnedTupleGo tg (.ref I) v) Q E s) (hT : ∀ b ∈ wr, ¬ S.T b) (hfl : ∀ (b : Addr) (o : Obj), b ∈ wr → ∀ i h, Stt i h → h.get? b = some o → o.cls ≠ .type "frame") (hsize : ∀ b ∈ wr, ∀ i h, Stt i h → (h.get? b).isSome) :
    ∀ (ds : List D) (i : Nat) (g : Heap) (s : Shared), Keep g s.heap → i + ds.length = n → (∀ j d, ds[j]? = some d → ∀ g', Keep g g' → ∀ v, P (i + j) v → Rd g' v d) → (∀ b ∈ fp, b ∈ wr ∨ ∃ o, g.get? b = some o) → Stt i s.heap → Yl S k (fun a => a ∈ wr) I tg ds g s := by
  have step : ∀ {g : Heap} {s : Shared} {h' : Heap} {tk : Nat} {A : Around}, At S k A g s → (∀ b o, b ∉ wr → s.heap.get? b = some o → h'.get? b = some o) → (∀ a, a ∈ wr → g.get? a = none) → Grown s { s with heap := h', toks := tk } →
      ∃ g', Tr S (fun a => Nw s a ∨ a ∈ wr) g s g' { s with heap := h', toks := tk } ∧ ∀ a, a ∈ wr → g'.get? a = none := by
    intro g s h' tk A a hk hg G
    obtain ⟨g', t, _, h2⟩ := Tr.growF (s' := { s with heap := h', toks := tk }) (fun a => a ∈ wr) (fun _ => False) a.keep a.base a.tabs hk hg hT G.heap rfl rfl G.toks
    refine ⟨g', t, fun b hb => ?_⟩
    cases e : g'.get? b with
    | none => rfl
    | some o => exact (h2 b (by rw [e]; nofun)).elim (fun q => absurd (hg b hb) q) fun q => q.2.elim
  have frame : ∀ {i : Nat} {g g' : Heap} {s s' : Shared}, Keep g s.heap → Keep g' s'.heap → Keep g g' → Same (fun a => a ∈ wr) s s' → (∀ b ∈ fp, b ∈ wr ∨ ∃ o, g.get? b = some o) → Stt i s.heap → Stt i s'.heap := by
    intro i g g' s s' k1 k2 kg sm hfp hst
    refine (Wk { handled := none } rfl).frame _ _ _ hst fun b hb o e => (hfp b hb).elim (fun w => sm b o w e) fun ⟨o', e'⟩ => ?_
    obtain rfl : o = o' := Option.some.inj (e.symm.trans (k1 b o' e'))
    exact k2 _ _ (kg _ _ e')
  intro ds
  induction ds with
  | nil =>
    intro i g s kp hn hP hfp hst A g' s' Q E a kg sm hF hQ
    have fr : Stt n s'.heap := frame kp a.keep kg sm hfp (by simpa using hn ▸ hst)
    refine wpAny_grown ((Wk A a.room.handled).done s' _ _ fr fun h' tk hk G => ?_)
    obtain ⟨g₁, t, _⟩ := step a hk hF G
    exact hQ g₁ _ t
  | cons d ds ih =>
    intro i g s kp hn hP hfp hst A g' s' Q E a kg sm hF hQ
    have fr : Stt i s'.heap := frame kp a.keep kg sm hfp hst
    simp only [List.length_cons] at hn
    refine wpAny_grown ((Wk A a.room.handled).item i s' _ _ (by omega) fr fun v h' tk hPv hst' hk G => ?_)
    obtain ⟨g₁, t, hF₁⟩ := step a hk hF G
    refine hQ v g₁ _ t hF₁ fun f Γ Γ' W env Q' E' has st hW hc hQ' => ?_
    refine wpAny_bind (hlet (i + 1) A E' _ v _ hst' ?_)
    refine has A g₁ W env _ v Q' E' a.room st (hP 0 d rfl g₁ (kg.trans t.mono) v hPv) fun g₂ s₂ t₂ st₂ => ?_
    have hF₂ : ∀ b, b ∈ wr → g₂.get? b = none := fun b hb => t₂.none (hF₁ b hb) (hW b hb)
    have sm₂ : Same (fun a => a ∈ wr) { s' with heap := h', toks := tk } s₂ := t₂.keepF t.now fun b o hb e => ⟨hW b hb, fun _ _ => hT b hb, hfl b o hb _ _ hst' e⟩
    have hfp' : ∀ b ∈ fp, b ∈ wr ∨ ∃ o, g₁.get? b = some o := fun b hb => (hfp b hb).imp id fun ⟨o, e⟩ => ⟨o, t.mono _ _ (kg _ _ e)⟩
    have hst₂ : Stt (i + 1) s₂.heap := frame t.keep t₂.keep t₂.mono sm₂ hfp' hst'
    refine hQ' g₂ s₂ (t₂.weak fun _ => .inl) hF₂ (fun b o hb e => hfl b o hb _ _ hst₂ e) st₂ ?_
    refine ih (i + 1) g₂ s₂ t₂.keep (by omega) (fun j d' hj g₃ k₃ v' hv' => hP (j + 1) d' (by simpa using hj) g₃ (kg.trans (t.mono.trans (t₂.mono.trans k₃))) v' (by rw [show i + (j + 1) = i + 1 + j by omega]; exact hv')) (fun b hb => (hfp' b hb).imp id fun ⟨o, e⟩ => ⟨o, t₂.mono _ _ e⟩) hst₂

theorem Self.walks {I : Addr} {fp wr : List Addr} {n : Nat} {P : Nat → Value → Prop} {Stt : Nat → Heap → Prop} (Wk : ∀ A : Around, A.handled = none → Walks S.prog S.w A I fp wr n P Stt)
    {g : Heap} {s : Shared} (kp : Keep g s.heap) (hfp : ∀ b ∈ fp, b ∈ wr ∨ ∃ o, g.get? b = some o) (hst : Stt 0 s.heap) : Self S k (fun a => a ∈ wr) I g s := by
  intro A g' s' Q E a kg sm hQ
  refine (Wk A a.room.handled).self 0 s' Q E ((Wk A a.room.handled).frame _ _ _ hst fun b hb o e => (hfp b hb).elim (fun w => sm b o w e) fun ⟨o', e'⟩ => ?_) hQ
  obtain rfl : o = o' := Option.some.inj (e.symm.trans (kp b o' e'))
  exact a.keep _ _ (kg _ _ e')
/-- targets for which the loop does nothing of its own to the item -/
noncomputable def Plain (tg : Expr) : Prop := ∀ (M : Model) (A : Around) (E : Value → Shared → Prop) (s : Shared) (I : Addr) (v : Value) (Q : Unit → Shared → Prop) (T : String) (vs : Array Value) (o : Obj), s.heap.get? I = some o → o.cls = .type T → o.data = .fields vs →
  (["enumerate", "zip", "dict_itemiterator", "dict_reverseitemiterator", "odict_iterator", "itertools.zip_longest", "itertools.pairwise"].contains T) = false → Q () s → wpAny M A (letOwnedTupleGo tg (.ref I) v) Q E s
theorem plain (tg : Expr) : Plain tg := by
  intro M A E s I v Q T vs o ho hc hd hT hQ
  have key : ∀ a, wpAny M A (do
      let o ← load I
      match o.cls, o.data with
      | .type n, .fields vs =>
        if ["enumerate", "zip", "dict_itemiterator", "dict_reverseitemiterator", "odict_iterator", "itertools.zip_longest", "itertools.pairwise"].contains n && vs[0]? == some (rawInt a) then
          rule "for.unpacks-the-owned-tuple"
          updateField I 0 .none
      | _, _ => pure ()) Q E s := fun a => by
    refine wpAny_bind (wpAny_load ho ?_)
    rw [hc, hd]
    dsimp only
    rw [hT, Bool.false_and, if_neg Bool.false_ne_true]
    exact wpAny_pure hQ
  unfold letOwnedTupleGo
  split
  · cases v <;> first | exact wpAny_pure hQ | exact key _
  · cases v <;> first | exact wpAny_pure hQ | exact key _
  · exact wpAny_pure hQ

theorem It.list {xs : List D} : It S k (.list xs) tg xs := by
  intro A g s v Q E a r hQ
  cases r with
  | list e hl rs =>
    rename_i ad vs n
    have hls : s.heap.IsList ad vs.toArray := ⟨_, a.keep _ _ e, rfl, n, rfl⟩
    refine wpAny_pyIter_list hls ?_
    let s' : Shared := { s with heap := s.heap.push { cls := .type "list_iterator", data := .fields #[.ref ad, .int 0 0] } }
    obtain ⟨g', t, _, h2⟩ := Tr.grow (s' := s') (fun _ => False) a.keep a.base a.tabs (fun b x e => Heap.get?_push_of_some _ e) (by simp [s']) rfl rfl (Nat.le_refl _)
    have hlt : ad < s.heap.objs.size := Heap.lt_size (a.keep _ _ e)
    have nT : ∀ b, s.heap.objs.size ≤ b → ¬ S.T b := fun b hb q => by
      obtain ⟨p, hp, rfl⟩ := List.mem_map.mp q
      obtain ⟨ps, e', _⟩ := a.tabs.all p hp
      exact absurd (Heap.lt_size e') (Nat.not_lt.mpr hb)
    refine hQ s.heap.objs.size (fun b => b ∈ [s.heap.objs.size]) g' s' t (fun b hb => ?_) ?_ ?_
    · obtain rfl := List.mem_singleton.mp hb
      exact ⟨Nat.le_refl _, h2 _ (Nat.le_refl _) id, by simp [s']⟩
    · refine Self.walks (fun A hh => Walks.list hh s.heap.objs.size ad (Nat.ne_of_lt hlt) vs.toArray) t.keep (fun b hb => ?_) ⟨⟨_, Heap.get?_push_size _ rfl, rfl, rfl⟩, hls.push _⟩
      rcases List.mem_cons.mp hb with rfl | hb
      · exact .inl (by simp)
      · obtain rfl := List.mem_singleton.mp hb
        exact .inr ⟨_, t.mono _ _ e⟩
    · refine Yl.walks (fun A hh => Walks.list hh s.heap.objs.size ad (Nat.ne_of_lt hlt) vs.toArray) (fun i A E s₁ v Q h q => ?_) (fun b hb => ?_) (fun b o hb i h st eb => ?_) (fun b hb i h st => ?_) xs 0 g' s' t.keep ?_ ?_ ?_ ⟨⟨_, Heap.get?_push_size _ rfl, rfl, rfl⟩, hls.push _⟩
      · obtain ⟨⟨o, ho, hc, hd⟩, _⟩ := h
        exact plain tg _ _ _ _ _ _ _ _ _ o ho hc hd (by decide) q
      · obtain rfl := List.mem_singleton.mp hb; exact nT _ (Nat.le_refl _)
      · obtain rfl := List.mem_singleton.mp hb
        obtain ⟨⟨o', ho, hc, hd⟩, _⟩ := st
        rw [eb] at ho; cases ho; rw [hc]; nofun
      · obtain rfl := List.mem_singleton.mp hb
        obtain ⟨⟨o', ho, hc, hd⟩, _⟩ := st
        rw [ho]; rfl
      · simp [rs.length]
      · intro j d hj g₂ k₂ v hv
        obtain ⟨v', hv', r'⟩ := rs.get j hj
        have : v = v' := by simpa [hv'] using hv.symm
        subst this
        exact r'.mono (t.mono.trans k₂)
      · intro b hb
        rcases List.mem_cons.mp hb with rfl | hb
        · exact .inl (by simp)
        · obtain rfl := List.mem_singleton.mp hb
          exact .inr ⟨_, t.mono _ _ e⟩
theorem isTuple_push {h : Heap} {t : Addr} {its : Array Value} (x : h.IsTuple t its) (o : Obj) : (h.push o).IsTuple t its := x.at fun o' e => Heap.get?_push_of_some _ e
theorem It.tup {xs : List D} : It S k (.tup xs) tg xs := by
  intro A g s v Q E a r hQ
  cases r with
  | tup e hl rs =>
    rename_i ad vs n
    have hls : s.heap.IsTuple ad vs.toArray := ⟨_, a.keep _ _ e, rfl, n, rfl⟩
    refine wpAny_pyIter_tuple hls ?_
    let s' : Shared := { s with heap := s.heap.push { cls := .type "tuple_iterator", data := .fields #[.ref ad, .int 0 0] } }
    obtain ⟨g', t, _, h2⟩ := Tr.grow (s' := s') (fun _ => False) a.keep a.base a.tabs (fun b x e => Heap.get?_push_of_some _ e) (by simp [s']) rfl rfl (Nat.le_refl _)
    have hlt : ad < s.heap.objs.size := Heap.lt_size (a.keep _ _ e)
    have nT : ∀ b, s.heap.objs.size ≤ b → ¬ S.T b := fun b hb q => by
      obtain ⟨p, hp, rfl⟩ := List.mem_map.mp q
      obtain ⟨ps, e', _⟩ := a.tabs.all p hp
      exact absurd (Heap.lt_size e') (Nat.not_lt.mpr hb)
    refine hQ s.heap.objs.size (fun b => b ∈ [s.heap.objs.size]) g' s' t (fun b hb => ?_) ?_ ?_
    · obtain rfl := List.mem_singleton.mp hb
      exact ⟨Nat.le_refl _, h2 _ (Nat.le_refl _) id, by simp [s']⟩
    · refine Self.walks (fun A hh => Walks.tuple hh s.heap.objs.size ad (Nat.ne_of_lt hlt) vs.toArray) t.keep (fun b hb => ?_) ⟨⟨_, Heap.get?_push_size _ rfl, rfl, rfl⟩, isTuple_push hls _⟩
      rcases List.mem_cons.mp hb with rfl | hb
      · exact .inl (by simp)
      · obtain rfl := List.mem_singleton.mp hb
        exact .inr ⟨_, t.mono _ _ e⟩
    · refine Yl.walks (fun A hh => Walks.tuple hh s.heap.objs.size ad (Nat.ne_of_lt hlt) vs.toArray) (fun i A E s₁ v Q h q => ?_) (fun b hb => ?_) (fun b o hb i h st eb => ?_) (fun b hb i h st => ?_) xs 0 g' s' t.keep ?_ ?_ ?_ ⟨⟨_, Heap.get?_push_size _ rfl, rfl, rfl⟩, isTuple_push hls _⟩
      · obtain ⟨⟨o, ho, hc, hd⟩, _⟩ := h
        exact plain tg _ _ _ _ _ _ _ _ _ o ho hc hd (by decide) q
      · obtain rfl := List.mem_singleton.mp hb; exact nT _ (Nat.le_refl _)
      · obtain rfl := List.mem_singleton.mp hb
        obtain ⟨⟨o', ho, hc, hd⟩, _⟩ := st
        rw [eb] at ho; cases ho; rw [hc]; nofun
      · obtain rfl := List.mem_singleton.mp hb
        obtain ⟨⟨o', ho, hc, hd⟩, _⟩ := st
        rw [ho]; rfl
      · simp [rs.length]
      · intro j d hj g₂ k₂ v hv
        obtain ⟨v', hv', r'⟩ := rs.get j hj
        have : v = v' := by simpa [hv'] using hv.symm
        subst this
        exact r'.mono (t.mono.trans k₂)
      · intro b hb
        rcases List.mem_cons.mp hb with rfl | hb
        · exact .inl (by simp)
        · obtain rfl := List.mem_singleton.mp hb
          exact .inr ⟨_, t.mono _ _ e⟩

/-- a range's ints -/
noncomputable def intD (a c : Int) (n : Nat) : List D := (List.range n).map fun i => .int (a + (i : Nat) * c)
theorem It.range {a₀ b₀ c₀ : Int} {n : Nat} (hsm : Builtin.Range.small a₀ b₀ c₀ = true) (hn : Builtin.Range.rangeSize a₀ b₀ c₀ = (n : Int)) : It S k (.rng a₀ b₀ c₀) tg (intD a₀ c₀ n) := by
  intro A g s v Q E a r hQ
  cases r with
  | rng e =>
    rename_i ad t u w
    have hls : IsRange s.heap ad a₀ b₀ c₀ t u w := a.keep _ _ e
    refine wpAny_pyIter_range hls hsm ?_
    let s' : Shared := { s with heap := s.heap.push { cls := .type "range_iterator", data := .fields #[rawInt a₀, rawInt (Builtin.Range.rangeSize a₀ b₀ c₀), rawInt c₀] } }
    obtain ⟨g', t, _, h2⟩ := Tr.grow (s' := s') (fun _ => False) a.keep a.base a.tabs (fun b x e => Heap.get?_push_of_some _ e) (by simp [s']) rfl rfl (Nat.le_refl _)
    have nT : ∀ b, s.heap.objs.size ≤ b → ¬ S.T b := fun b hb q => by
      obtain ⟨p, hp, rfl⟩ := List.mem_map.mp q
      obtain ⟨ps, e', _⟩ := a.tabs.all p hp
      exact absurd (Heap.lt_size e') (Nat.not_lt.mpr hb)
    refine hQ s.heap.objs.size (fun b => b ∈ [s.heap.objs.size]) g' s' t (fun b hb => ?_) ?_ ?_
    · obtain rfl := List.mem_singleton.mp hb
      exact ⟨Nat.le_refl _, h2 _ (Nat.le_refl _) id, by simp [s']⟩
    · refine Self.walks (fun A hh => Walks.range hh s.heap.objs.size a₀ c₀ n) t.keep (fun b hb => .inl hb) ?_
      show IsRangeIter s'.heap _ _ _ _
      have e1 : a₀ + ((0 : Nat) : Int) * c₀ = a₀ := by simp
      have e2 : (n : Int) - ((0 : Nat) : Int) = n := by simp
      rw [e1, e2, ← hn]
      exact Heap.get?_push_size _ rfl
    · refine Yl.walks (fun A hh => Walks.range hh s.heap.objs.size a₀ c₀ n) (fun i A E s₁ v Q h q => ?_) (fun b hb => ?_) (fun b o hb i h st eb => ?_) (fun b hb i h st => ?_) (intD a₀ c₀ n) 0 g' s' t.keep ?_ ?_ ?_ ?_
      · exact plain tg _ _ _ _ _ _ _ _ _ _ h rfl rfl (by decide) q
      · obtain rfl := List.mem_singleton.mp hb; exact nT _ (Nat.le_refl _)
      · obtain rfl := List.mem_singleton.mp hb
        have st' : h.get? s.heap.objs.size = some _ := st
        rw [eb] at st'; cases st'; (show Value.type "range_iterator" ≠ Value.type "frame"); decide
      · obtain rfl := List.mem_singleton.mp hb
        have st' : h.get? s.heap.objs.size = some _ := st
        rw [st']; rfl
      · simp [intD]
      · intro j d hj g₂ k₂ v hv
        obtain ⟨t', rfl⟩ := hv
        have hj' : j < n := by
          have := (List.getElem?_eq_some_iff.mp hj).1
          simpa [intD] using this
        have : d = .int (a₀ + ((0 + j : Nat) : Int) * c₀) := by
          simp [intD, hj'] at hj
          simp [← hj]
        rw [this]
        exact .int _ _
      · intro b hb
        exact .inl hb
      · show IsRangeIter s'.heap _ _ _ _
        have e1 : a₀ + ((0 : Nat) : Int) * c₀ = a₀ := by simp
        have e2 : (n : Int) - ((0 : Nat) : Int) = n := by simp
        rw [e1, e2, ← hn]
        exact Heap.get?_push_size _ rfl

theorem bind_assoc' {α β γ : Type} {M : Model} {A : Around} {E : Value → Shared → Prop} {s : Shared} {a : Sem α} {b : Sem β} {c : β → Sem γ} {Q : γ → Shared → Prop} (h : wpAny M A (do let _ ← a; b) (fun x s' => wpAny M A (c x) Q E s') E s) : wpAny M A (do let _ ← a; let x ← b; c x) Q E s := by
  intro Γ p hΓ
  have := h Γ p hΓ
  simp only [Sem.wp_bind'] at this ⊢
  exact Sem.wp_mono _ _ _ (fun x p' s' h' => Sem.wp_mono _ _ _ (fun y p'' s'' h'' => h'' Γ p'' hΓ) (fun _ _ _ h => h) _ _ h') (fun _ _ _ h => h) _ _ this

/-- for, over the items -/
inductive FL (S : Sig) (k : Nat) (f : Fi) (tg : Expr) (body : List Stmt) : Ctxt → List D → Res → Prop where
  | nil {Γ : Ctxt} : FL S k f tg body Γ [] (.next Γ)
  | next {Γ Γ₁ Γ₂ : Ctxt} {d : D} {ds : List D} {r : Res} : AS S k f Γ tg d Γ₁ → EXs S k f Γ₁ body (.next Γ₂) → FL S k f tg body Γ₂ ds r → FL S k f tg body Γ (d :: ds) r
  | cont {Γ Γ₁ Γ₂ : Ctxt} {d : D} {ds : List D} {r : Res} : AS S k f Γ tg d Γ₁ → EXs S k f Γ₁ body (.cont Γ₂) → FL S k f tg body Γ₂ ds r → FL S k f tg body Γ (d :: ds) r
  | brk {Γ Γ₁ Γ₂ : Ctxt} {d : D} {ds : List D} : AS S k f Γ tg d Γ₁ → EXs S k f Γ₁ body (.brk Γ₂) → FL S k f tg body Γ (d :: ds) (.next Γ₂)
  | ret {Γ Γ₁ : Ctxt} {d d' : D} {ds : List D} : AS S k f Γ tg d Γ₁ → EXs S k f Γ₁ body (.ret d') → FL S k f tg body Γ (d :: ds) (.ret d')

theorem under_for (A : Around) (tg : Expr) (it : Value) (body orelse : List Stmt) (env : Env) : A.under (.forLoop tg it body orelse env) = A := Around.under_of_weight rfl

theorem forTurn_ok {A : Around} {it : Value} {body : List Stmt} {env : Env} {Q : PySem.Fin → Shared → Prop} {s : Shared}
    (h : wpAny S.M A (forTurn tg it body [] env) Q (fun _ _ => False) s) {E : Value → Shared → Prop} : wpAny S.M A ((forTurn tg it body [] env).onRaise (fun x => do noteFrame x env; theTreesLotGoes x)) Q E s :=
  wpAny_onRaise (wpAny_mono h (fun _ _ x => x) fun _ _ x => x.elim)

theorem FL.code {body : List Stmt} {I : Addr} {F : Addr → Prop} (fl : FL S k f tg body Γ ds res) : ∀ (A : Around) (g : Heap) (W : Addr → Prop) (env : Env) (s : Shared) (R : Result → Shared → Prop), Room k A → St S f Γ g W env s → (∀ a, F a → ¬ W a) → (∀ x c, env.cells.lookup x = some c → ¬ F c) → (∀ a, F a → g.get? a = none) → (∀ a, F a → ¬ S.T a) →
    Yl S k F I tg ds g s → (∀ r g' s', Tr S (fun a => W a ∨ F a) g s g' s' → Post S f res g' W env r s' → R (.ok r) s') → codeAny S.M A (.forLoop tg (.ref I) body [] env) R s := by
  induction fl with
  | nil =>
    intro A g W env s R Rm st hW hc hg hT y hR
    refine codeAny_of_tree ?_
    rw [under_for]
    refine forTurn_ok ?_
    unfold forTurn
    refine wpAny_bind (wpAny_standAt (wpAny_bind (wpAny_onRaise ?_)))
    refine y A g s _ _ (st.at Rm) (.refl g) (.refl F s) hg fun g₁ s₁ t₁ => ?_
    refine wpAny_pure ⟨rfl, codeAny_block (wpAny_execs_nil ?_)⟩
    exact hR _ g₁ s₁ (t₁.weak fun a => Or.imp (st.new a) id) ⟨rfl, st.moveF t₁ hW hc⟩
  | next has hb _ ih =>
    intro A g W env s R Rm st hW hc hg hT y hR
    refine codeAny_of_tree ?_
    rw [under_for]
    refine forTurn_ok ?_
    unfold forTurn
    refine wpAny_bind (wpAny_standAt (wpAny_bind (wpAny_onRaise ?_)))
    refine y A g s _ _ (st.at Rm) (.refl g) (.refl F s) hg fun v g₁ s₁ t₁ hg₁ hass => ?_
    dsimp only
    refine bind_assoc' (hass f _ _ W env _ _ has (st.moveF t₁ hW hc) hW hc fun g₂ s₂ t₂ hg₂ hfr st₂ y₂ => ?_)
    refine wpAny_bind (hb A g₂ W env s₂ _ _ Rm st₂ fun fl g₃ s₃ t₃ p₃ => ?_)
    obtain ⟨rfl, st₃⟩ := p₃
    have sm : Same F s₂ s₃ := t₃.keepF st₂.tabs fun a o h e => ⟨hW a h, fun _ _ => hT a h, hfr a o h e⟩
    refine wpAny_pure ⟨rfl, ih A g₃ W env s₃ R Rm st₃ hW hc (fun a h => t₃.none (hg₂ a h) (hW a h)) hT (y₂.mono t₃.mono sm) fun r g₄ s₄ t₄ p₄ => ?_⟩
    exact hR r g₄ s₄ (((t₁.weak fun a => Or.imp (st.new a) id).trans t₂ fun _ q => q).trans t₃ (fun _ => .inl) |>.trans t₄ fun _ q => q) p₄
  | cont has hb _ ih =>
    intro A g W env s R Rm st hW hc hg hT y hR
    refine codeAny_of_tree ?_
    rw [under_for]
    refine forTurn_ok ?_
    unfold forTurn
    refine wpAny_bind (wpAny_standAt (wpAny_bind (wpAny_onRaise ?_)))
    refine y A g s _ _ (st.at Rm) (.refl g) (.refl F s) hg fun v g₁ s₁ t₁ hg₁ hass => ?_
    dsimp only
    refine bind_assoc' (hass f _ _ W env _ _ has (st.moveF t₁ hW hc) hW hc fun g₂ s₂ t₂ hg₂ hfr st₂ y₂ => ?_)
    refine wpAny_bind (hb A g₂ W env s₂ _ _ Rm st₂ fun fl g₃ s₃ t₃ p₃ => ?_)
    obtain ⟨rfl, st₃⟩ := p₃
    have sm : Same F s₂ s₃ := t₃.keepF st₂.tabs fun a o h e => ⟨hW a h, fun _ _ => hT a h, hfr a o h e⟩
    refine wpAny_pure ⟨rfl, ih A g₃ W env s₃ R Rm st₃ hW hc (fun a h => t₃.none (hg₂ a h) (hW a h)) hT (y₂.mono t₃.mono sm) fun r g₄ s₄ t₄ p₄ => ?_⟩
    exact hR r g₄ s₄ (((t₁.weak fun a => Or.imp (st.new a) id).trans t₂ fun _ q => q).trans t₃ (fun _ => .inl) |>.trans t₄ fun _ q => q) p₄
  | brk has hb =>
    intro A g W env s R Rm st hW hc hg hT y hR
    refine codeAny_of_tree ?_
    rw [under_for]
    refine forTurn_ok ?_
    unfold forTurn
    refine wpAny_bind (wpAny_standAt (wpAny_bind (wpAny_onRaise ?_)))
    refine y A g s _ _ (st.at Rm) (.refl g) (.refl F s) hg fun v g₁ s₁ t₁ hg₁ hass => ?_
    dsimp only
    refine bind_assoc' (hass f _ _ W env _ _ has (st.moveF t₁ hW hc) hW hc fun g₂ s₂ t₂ hg₂ hfr st₂ y₂ => ?_)
    refine wpAny_bind (hb A g₂ W env s₂ _ _ Rm st₂ fun fl g₃ s₃ t₃ p₃ => ?_)
    obtain ⟨rfl, st₃⟩ := p₃
    exact wpAny_pure (hR _ g₃ s₃ (((t₁.weak fun a => Or.imp (st.new a) id).trans t₂ fun _ q => q).trans t₃ (fun _ => .inl)) ⟨rfl, st₃⟩)
  | ret has hb =>
    intro A g W env s R Rm st hW hc hg hT y hR
    refine codeAny_of_tree ?_
    rw [under_for]
    refine forTurn_ok ?_
    unfold forTurn
    refine wpAny_bind (wpAny_standAt (wpAny_bind (wpAny_onRaise ?_)))
    refine y A g s _ _ (st.at Rm) (.refl g) (.refl F s) hg fun v g₁ s₁ t₁ hg₁ hass => ?_
    dsimp only
    refine bind_assoc' (hass f _ _ W env _ _ has (st.moveF t₁ hW hc) hW hc fun g₂ s₂ t₂ hg₂ hfr st₂ y₂ => ?_)
    refine wpAny_bind (hb A g₂ W env s₂ _ _ Rm st₂ fun fl g₃ s₃ t₃ p₃ => ?_)
    obtain ⟨v', rfl, r₃⟩ := p₃
    exact wpAny_pure (hR _ g₃ s₃ (((t₁.weak fun a => Or.imp (st.new a) id).trans t₂ fun _ q => q).trans t₃ (fun _ => .inl)) ⟨v', rfl, r₃⟩)

theorem EX.for {iter : Expr} {body : List Stmt} (h1 : EV S k f Γ iter d) (h2 : It S k d tg ds) (h3 : FL S k f tg body Γ ds res) (hs : ∀ env x, foldedSetIterable iter env x = pure x := by intro _ _; rfl) : EX S k f Γ (.For tg iter body [] pos) res := by
  intro A g W env s Q E R st hQ
  refine wpAny_For (h1 A g W env s _ E R st fun v g₁ s₁ t₁ r₁ => h2 A g₁ s₁ v _ E (t₁.at R) r₁ fun I F g₂ s₂ t₂ hF _ y => ?_) (hs env)
  have st₁ := st.move t₁
  have st₂ := st₁.without t₂ fun a h => ⟨(hF a h).1, (hF a h).2.2⟩
  have hc : ∀ x c, env.cells.lookup x = some c → ¬ F c := fun x c e h => absurd (st₁.clt x c e) (Nat.not_lt.mpr (hF c h).1)
  have hT : ∀ a, F a → ¬ S.T a := fun a h q => by
    obtain ⟨p, hp, rfl⟩ := List.mem_map.mp q
    obtain ⟨ps, e', _⟩ := st₁.tabs.all p hp
    exact absurd (Heap.lt_size e') (Nat.not_lt.mpr (hF _ h).1)
  refine h3.code A g₂ _ env s₂ _ R st₂ (fun a h q => q.2 h) hc (fun a h => (hF a h).2.1) hT y fun r g₃ s₃ t₃ p₃ => ?_
  have inW : ∀ a, (W a ∧ ¬ F a) ∨ F a → W a := fun a q => q.elim And.left fun h => st₁.new a (hF a h).1
  refine hQ r g₃ s₃ (((t₁.then t₂).weak st.new).trans t₃ inW) ?_
  cases res with
  | next Γ' => exact ⟨p₃.1, p₃.2.widen fun _ => And.left⟩
  | ret d => exact p₃
  | brk Γ' => exact ⟨p₃.1, p₃.2.widen fun _ => And.left⟩
  | cont Γ' => exact ⟨p₃.1, p₃.2.widen fun _ => And.left⟩
end
end Mine
set_option maxRecDepth 100000
set_option linter.unusedVariables false
namespace Mine
open PySem PySem.W PySem.Calls PyProof.Rows

theorem bindL_off {kd : Str → Option NameKind} {y : Str} : ∀ (bs : List (Str × Value)) (m : Str → Option Value), (∀ p ∈ bs, p.1 ≠ y) → bindL kd bs m y = m y
  | [], _, _ => rfl
  | (n, v) :: r, m, h => by
    show bindL kd r _ y = m y
    rw [bindL_off r _ fun p hp => h p (.tail _ hp)]
    have hn : y ≠ n := fun q => h (n, v) (.head _) q.symm
    split <;> simp [hn]
theorem bindC_off {kd : Str → Option NameKind} {y : Str} : ∀ (bs : List (Str × Value)) (m : Str → Option Value), (∀ p ∈ bs, p.1 ≠ y) → bindC kd bs m y = m y
  | [], _, _ => rfl
  | (n, v) :: r, m, h => by
    show bindC kd r _ y = m y
    rw [bindC_off r _ fun p hp => h p (.tail _ hp)]
    have hn : y ≠ n := fun q => h (n, v) (.head _) q.symm
    split <;> simp [hn]
theorem zip_off {y : Str} {names : List Str} {vs : List Value} (h : y ∉ names) : ∀ p ∈ names.zip vs, p.1 ≠ y := fun p hp q => h (q ▸ (List.of_mem_zip hp).1)
theorem bindL_get {kd : Str → Option NameKind} {x : Str} {v : Value} (hk : kd x = some .local) : ∀ (names : List Str) (vs : List Value) (m : Str → Option Value) (i : Nat), names.Nodup → names[i]? = some x → vs[i]? = some v → bindL kd (names.zip vs) m x = some v
  | [], _, _, _, _, h, _ => by simp at h
  | _ :: _, [], _, _, _, _, h => by simp at h
  | n :: ns, w :: ws, m, 0, hd, h1, h2 => by
    simp at h1 h2
    subst h1 h2
    show bindL kd (ns.zip ws) _ n = some w
    rw [bindL_off _ _ (zip_off (List.nodup_cons.mp hd).1), if_pos hk]
    simp
  | n :: ns, w :: ws, m, i + 1, hd, h1, h2 => bindL_get hk ns ws _ i (List.nodup_cons.mp hd).2 (by simpa using h1) (by simpa using h2)
theorem bindC_get {kd : Str → Option NameKind} {x : Str} {v : Value} (hk : kd x ≠ some .local) : ∀ (names : List Str) (vs : List Value) (m : Str → Option Value) (i : Nat), names.Nodup → names[i]? = some x → vs[i]? = some v → bindC kd (names.zip vs) m x = some v
  | [], _, _, _, _, h, _ => by simp at h
  | _ :: _, [], _, _, _, _, h => by simp at h
  | n :: ns, w :: ws, m, 0, hd, h1, h2 => by
    simp at h1 h2
    subst h1 h2
    show bindC kd (ns.zip ws) _ n = some w
    rw [bindC_off _ _ (zip_off (List.nodup_cons.mp hd).1), if_neg hk]
    simp
  | n :: ns, w :: ws, m, i + 1, hd, h1, h2 => bindC_get hk ns ws _ i (List.nodup_cons.mp hd).2 (by simpa using h1) (by simpa using h2)

/-- the names of a frame as a call leaves them: the parameters, the cells -/
noncomputable def ctx0 : List NameKind → List D → Ctxt
  | [], _ => []
  | kd :: ks, d :: ds => some (if kd = .cell then .cell (some d) else .val d) :: ctx0 ks ds
  | kd :: ks, [] => (if kd = .cell then some (.cell none) else none) :: ctx0 ks []
theorem ctx0_get : ∀ (ks : List NameKind) (ds : List D) (i : Nat) (kd : NameKind) (b : B), ks[i]? = some kd → (ctx0 ks ds)[i]? = some (some b) →
    (∃ d, ds[i]? = some d ∧ b = if kd = .cell then .cell (some d) else .val d) ∨ (ds[i]? = none ∧ kd = .cell ∧ b = .cell none)
  | [], _, _, _, _, h, _ => by simp at h
  | k :: ks, d :: ds, 0, kd, b, h1, h2 => by
    simp at h1; subst h1
    simp [ctx0] at h2
    exact .inl ⟨d, rfl, h2.symm⟩
  | k :: ks, [], 0, kd, b, h1, h2 => by
    simp at h1; subst h1
    simp [ctx0] at h2
    exact .inr ⟨rfl, h2.1, h2.2.symm⟩
  | k :: ks, d :: ds, i + 1, kd, b, h1, h2 => by
    have := ctx0_get ks ds i kd b (by simpa using h1) (by simpa [ctx0] using h2)
    simpa using this
  | k :: ks, [], i + 1, kd, b, h1, h2 => by
    have := ctx0_get ks [] i kd b (by simpa using h1) (by simpa [ctx0] using h2)
    simpa using this
theorem ctx0_len : ∀ (ks : List NameKind) (ds : List D), (ctx0 ks ds).length = ks.length
  | [], _ => rfl
  | _ :: ks, _ :: ds => by simp [ctx0, ctx0_len ks ds]
  | _ :: ks, [] => by simp [ctx0, ctx0_len ks []]

/-- the def at a, as the written part of the heap has it -/
structure FnAt (S : Sig) (a : Addr) (f : Fi) (names : List Str) (body : List Stmt) : Prop where
  there : ∃ oc od osl name qual params dV kV doc pm an ct, S.K.lookup a = some ⟨oc, od, .func (fnOf name qual params body f.scope dV kV doc pm an f.code ct), osl⟩ ∧ codeIn S.K f.code qual = true ∧ f.qual = qual ++ ".<locals>." ∧
    ∀ vs : List Value, vs.length = names.length → bindArgs (fnOf name qual params body f.scope dV kV doc pm an f.code ct) ⟨vs, []⟩ = pure (names.zip vs)
  kind : f.scope.kind = .function
  co : f.scope.isCoroutine = false
  gen : f.scope.isGenerator = false
  pre : f.vars.take names.length = names
  len : f.kinds.length = f.vars.length
  lc : f.kinds.all (fun kd => kd == .local || kd == .cell) = true

theorem Room.under {k : Nat} {A : Around} {env : Env} (R : Room (k + 1) A) : Room k (A.deeper env) := ⟨R.handled, by have := R.depth; show A.depth + 1 + k < _; omega, by have := R.units; show A.units + 3 + 40 * k + 100 < _; omega⟩

theorem Fn.intro {S : Sig} {k : Nat} {a : Addr} {f : Fi} {names : List Str} {body : List Stmt} {ds : List D} {d : D} (F : FnAt S a f names body) (hl : names.length = ds.length) (hb : EXs S k f (ctx0 f.kinds ds) body (.ret d)) : Ops S (k + 1) (fun vs => call (.ref a) vs) ds d := by
  intro A g s vs Q E at' rs hQ
  obtain ⟨⟨oc, od, osl, name, qual, params, dV, kV, doc, pm, an, ct, hlook, hcode, hqual, hbind⟩, hkind, hco, hgen, hpre, hlen, hlc⟩ := F
  have hvl : vs.length = names.length := by rw [rs.length, hl]
  have KI := at'.base.kin.keeps at'.keep
  have hnd : names.Nodup := by rw [← hpre]; exact f.nodup.sublist (List.take_sublist _ _)
  have hin : ∀ i x, names[i]? = some x → f.vars[i]? = some x := fun i x e => by
    rw [← hpre, List.getElem?_take] at e
    split at e
    · exact e
    · cases e
  have hkd : ∀ i x, f.vars[i]? = some x → ∃ kd, f.kinds[i]? = some kd ∧ (kd = .local ∨ kd = .cell) ∧ f.scope.names.lookup x = some kd := fun i x e => by
    have hi : i < f.kinds.length := by rw [hlen]; exact (List.getElem?_eq_some_iff.mp e).1
    refine ⟨f.kinds[i], List.getElem?_eq_getElem hi, ?_, f.kind e (List.getElem?_eq_getElem hi)⟩
    have := List.all_eq_true.mp hlc _ (List.getElem_mem hi)
    simpa using this
  refine wpAny_call (codeAny_call_function (fd := fnOf name qual params body f.scope dV kV doc pm an f.code ct) (by have := at'.room.depth; omega) (KI _ _ hlook) rfl hco hgen rfl (codeRec_of KI hcode) ?_)
  rw [hbind vs hvl]
  refine wpAny_pure (wpAny_grown (wpAny_newFunctionEnv_cells hkind (fun p hp => ?_) fun env he s' x G => ⟨(at'.base.nolimit.keeps at'.keep).keeps x.toInCall.keep, codeAny_func ?_⟩))
  · obtain ⟨i, hi, e⟩ := List.getElem_of_mem (List.of_mem_zip hp).1
    obtain ⟨kd, _, hk, hlk⟩ := hkd i p.1 (hin i _ (by rw [List.getElem?_eq_getElem hi, e]))
    rcases hk with rfl | rfl
    · exact .inl hlk
    · exact .inr ⟨hlk, cellsFrom_some _ _ _ (.inl hlk)⟩
  · have hloc : env.locals = s.heap.objs.size := by rw [he]; rfl
    have hscope : env.scope = f.scope := by rw [he]; rfl
    have hcells : env.cells = cellsFrom (s.heap.objs.size + 1) f.scope.names [] := by rw [he]; rfl
    have hqual' : env.qual = f.qual := by rw [he, hqual]; rfl
    have hcode' : env.code = f.code := by rw [he]; rfl
    have hgl : env.globals = mainGlobals := by rw [he]; rfl
    have hbl : env.builtins = builtinsNs := by rw [he]; rfl
    have hkE : ∀ x, env.kindOf x = f.scope.names.lookup x := fun x => by show env.scope.names.lookup x = _; rw [hscope]
    obtain ⟨h₁, tk, rfl⟩ := x.toInCall.same
    obtain ⟨g', t, _, hno⟩ := Tr.grow (s' := { s with heap := h₁, toks := tk }) (fun _ => False) at'.keep at'.base at'.tabs x.toInCall.keep G.heap rfl rfl G.toks
    have st : St S f (ctx0 f.kinds ds) g' (Nw s) env { s with heap := h₁, toks := tk } := by
      refine ⟨t.keep, t.base, t.now, ⟨hscope, hqual', hcode', hgl, hbl, by rw [hscope]; exact hkind⟩, fun a l => Nat.le_trans t.size l, fun y c e => ?_, _, fun _ => 0, x.toInCall.ns, by show s.heap.objs.size ≤ env.locals; rw [hloc]; exact Nat.le_refl _, hno _ (by rw [hloc]; exact Nat.le_refl _) id, fun i y b hy hb' => ?_, fun i j xs ys h1 h2 _ => ?_⟩
      · exact (x.cell y c e).lt
      · obtain ⟨kd, hki, hlk, hlook'⟩ := hkd i y hy
        rcases ctx0_get _ _ _ _ _ hki hb' with ⟨d', hd', rfl⟩ | ⟨hd', rfl, rfl⟩
        · obtain ⟨v, hv, hr⟩ := rs.get i hd'
          have hni : names[i]? = some y := by
            have hi : i < names.length := by rw [hl]; exact (List.getElem?_eq_some_iff.mp hd').1
            rw [← hpre, List.getElem?_take, if_pos hi, hy]
          rcases hlk with rfl | rfl
          · refine ⟨v, ?_, hr.mono t.mono⟩
            unfold Var
            rw [hkE, hlook']
            exact bindL_get (by rw [hkE, hlook']) names vs _ i hnd hni hv
          · obtain ⟨c, hc⟩ := Option.isSome_iff_exists.mp (cellsFrom_some f.scope.names (s.heap.objs.size + 1) [] (.inl hlook'))
            rw [← hcells] at hc
            simp only [if_true]
            refine ⟨by rw [hkE, hlook'], c, _, hc, x.cell y c hc, ?_, ?_, fun z hz => name_of_addr x.apart (mem_of_lookup hz) (mem_of_lookup hc), fun d'' e => ?_⟩
            · have := x.above y c (mem_of_lookup hc); rw [hloc] at this; exact hno _ (Nat.le_of_lt this) id
            · have := x.above y c (mem_of_lookup hc); rw [hloc] at this; exact Nat.le_of_lt this
            · cases e
              exact ⟨v, bindC_get (by rw [hkE, hlook']; decide) names vs _ i hnd hni hv, hr.mono t.mono⟩
        · obtain ⟨c, hc⟩ := Option.isSome_iff_exists.mp (cellsFrom_some f.scope.names (s.heap.objs.size + 1) [] (.inl hlook'))
          rw [← hcells] at hc
          refine ⟨by rw [hkE, hlook'], c, _, hc, x.cell y c hc, ?_, ?_, fun z hz => name_of_addr x.apart (mem_of_lookup hz) (mem_of_lookup hc), nofun⟩
          · have := x.above y c (mem_of_lookup hc); rw [hloc] at this; exact hno _ (Nat.le_of_lt this) id
          · have := x.above y c (mem_of_lookup hc); rw [hloc] at this; exact Nat.le_of_lt this
      · exfalso
        have hi : i < f.kinds.length := by
          have := (List.getElem?_eq_some_iff.mp h1).1
          rwa [ctx0_len] at this
        rcases ctx0_get _ _ _ _ _ (List.getElem?_eq_getElem hi) h1 with ⟨d', _, q⟩ | ⟨_, _, q⟩
        · split at q <;> cases q
        · cases q
    refine wpAny_mono (hb (A.deeper env) g' (Nw s) env _ _ _ at'.room.under st fun fl g₂ s₂ t₂ p₂ => ?_) (fun _ _ h => h) fun _ _ h => h
    obtain ⟨v, rfl, r⟩ := p₂
    exact hQ v g₂ s₂ (t.trans t₂ fun _ l => l) r
end Mine
set_option maxRecDepth 100000
set_option linter.unusedVariables false
namespace Mine
open PySem PySem.W PySem.Calls PyProof.Rows

section
variable {S : Sig} {k : Nat} {f : Fi} {Γ Γ' Γ₁ Γ₂ : Ctxt} {e l r : Expr} {es : List Expr} {d d₁ d₂ : D} {ds : List D} {pos p' : Pos} {sts : List Stmt} {res : Res}

/-- the world as it is and one more address -/
theorem Tr.take {g : Heap} {s : Shared} {W : Addr → Prop} {a : Addr} {o : Obj} (kp : Keep g s.heap) (B : Base S g) (T : Tabs S g s) (ho : s.heap.get? a = some o) (hT : ¬ S.T a) (ha : W a) :
    ∃ g', Tr S W g s g' s ∧ g'.get? a = some o ∧ ∀ b, b ≠ a → g'.get? b = g.get? b := by
  have mono : Keep g (cut s.heap fun b => (g.get? b).isSome || b == a) := fun b o' e => cut_some.mpr ⟨by simp [e], kp b o' e⟩
  have off : ∀ b, b ≠ a → (cut s.heap fun b => (g.get? b).isSome || b == a).get? b = g.get? b := fun b hb => by
    rw [cut_get]
    have : (b == a) = false := by simpa using hb
    rw [this, Bool.or_false]
    cases e : g.get? b with
    | none => rfl
    | some o' => exact kp b o' e
  have hT' : ∀ q ∈ S.tabs, (cut s.heap fun b => (g.get? b).isSome || b == a).get? q.2 = Option.none := fun q hq => by
    rw [off _ fun z => hT (z ▸ List.mem_map_of_mem hq)]; exact (B.heads q hq).2
  refine ⟨cut s.heap fun b => (g.get? b).isSome || b == a, ⟨mono, fun b o' e => (cut_some.mp e).2, fun b o' _ _ e => ⟨o', e, .refl o'⟩, fun b o' e => ?_, Nat.le_refl _, fun _ _ ps e => ⟨#[], by rw [e, Array.append_empty]⟩, B.mono mono hT', ⟨T.pos, fun q hq => ?_⟩, rfl, id, Nat.le_refl _, Nat.le_refl _⟩, cut_some.mpr ⟨by simp, ho⟩, off⟩
  · by_cases hb : b = a
    · exact .inr (hb ▸ ha)
    · rw [off b hb] at e; exact .inl e
  · obtain ⟨ps, e1, e2, e3⟩ := T.all q hq
    exact ⟨ps, e1, e2, fun pos cv e => (e3 pos cv e).keeps mono⟩
/-- and back again -/
theorem Tr.drop {g g' g'' : Heap} {s s'' : Shared} {V : Addr → Prop} {a : Addr} (B : Base S g) (hg : g.get? a = Option.none) (hoff : ∀ b, b ≠ a → g'.get? b = g.get? b) (hd : ∀ o, g'.get? a = some o → ∀ vs, o.data ≠ .fields vs) (ha : g'.get? a ≠ Option.none) (t : Tr S V g' s g'' s'') :
    ∃ g₃, Tr S V g s g₃ s'' := by
  have get : ∀ b, (cut g'' fun b => !(b == a)).get? b = if b = a then Option.none else g''.get? b := fun b => by
    rw [cut_get]; by_cases hb : b = a <;> simp [hb]
  have mono : Keep g (cut g'' fun b => !(b == a)) := fun b o e => by
    have hb : b ≠ a := fun q => by rw [q, hg] at e; cases e
    rw [get, if_neg hb]
    exact t.mono b o ((hoff b hb).trans e)
  refine ⟨cut g'' fun b => !(b == a), ⟨mono, fun b o e => ?_, t.same, fun b o e => ?_, t.size, t.tabs, B.mono mono fun q hq => ?_, ⟨t.now.pos, fun q hq => ?_⟩, t.os, t.bare, t.gens, t.toks⟩⟩
  · rw [get] at e; split at e
    · cases e
    · exact t.keep b o e
  · rw [get] at e; split at e
    · cases e
    · rename_i hb
      exact (t.fresh b o e).imp (fun q => (hoff b hb).symm.trans q) id
  · rw [get]; split
    · rfl
    · exact (t.base.heads q hq).2
  · obtain ⟨ps, e1, e2, e3⟩ := t.now.all q hq
    refine ⟨ps, e1, e2, fun pos cv e => ?_⟩
    obtain ⟨c, o, vs, tt, h1, h2, h3, h4⟩ := e3 pos cv e
    refine ⟨c, o, vs, tt, h1, ?_, h3, h4⟩
    rw [get, if_neg]
    · exact h2
    · rintro rfl
      cases q' : g'.get? c with
      | none => exact ha q'
      | some o' =>
        have := t.mono _ _ q'
        rw [h2] at this; cases this
        exact hd _ q' _ h3

/-- a list of the frame's own, handed to the world -/
theorem St.freeze {g : Heap} {W : Addr → Prop} {env : Env} {s : Shared} {j : Nat} {xs : List D} (st : St S f Γ g W env s) (hj : Γ[j]? = some (some (.own xs))) (hx : j < f.vars.length) :
    ∃ a vs n g', g.get? a = Option.none ∧ g'.get? a = some (listO vs n) ∧ (∀ b, b ≠ a → g'.get? b = g.get? b) ∧ Tr S W g s g' s ∧ St S f (Γ.set j (some (.val (.list xs)))) g' W env s := by
  obtain ⟨m, ad, hns, hb, hg, hH, hI⟩ := st.vars
  have hx' : f.vars[j]? = some f.vars[j] := List.getElem?_eq_getElem hx
  obtain ⟨hk, hm, vs, n, e, hz, rs, hn, hw⟩ := hH j _ _ hx' hj
  obtain ⟨g', t, h1, h2⟩ := Tr.take st.keep st.base st.tabs e (st.tabs.notT e nofun) hw
  have ne : ∀ {b o}, s.heap.get? b = some o → o ≠ listO vs n → b ≠ ad j := fun {b o} e' hq q => by rw [q, e] at e'; cases e'; exact hq rfl
  refine ⟨ad j, vs, n, g', hn, h1, h2, t, t.keep, t.base, t.now, st.envIs, st.wide, st.clt, m, ad, hns, hb, ?_, fun i x b hy hb' => ?_, fun p q xs ys e1 e2 => ?_⟩
  · rw [h2]; exact hg
    obtain ⟨o, es, ep, e', hd, _⟩ := hns
    exact ne e' (fun q => by rw [q] at hd; cases hd)
  · rcases get_set hb' with ⟨rfl, rfl⟩ | ⟨hi, hb''⟩
    · have : f.vars[i] = x := Option.some.inj (hx'.symm.trans hy)
      refine ⟨.ref (ad i), ?_, .list h1 hz (rs.mono t.mono)⟩
      unfold Var
      rw [← this, hk]; exact hm
    · have H := hH i x b hy hb''
      cases b with
      | val d => obtain ⟨v, a1, a2⟩ := H; exact ⟨v, a1, a2.mono t.mono⟩
      | own ys =>
        obtain ⟨a1, a2, vs', n', a3, a4, a5, a6, a7⟩ := H
        refine ⟨a1, a2, vs', n', a3, a4, a5.mono t.mono, ?_, a7⟩
        rw [h2 _ fun q => hi (hI _ _ _ _ hb'' hj q)]; exact a6
      | app y => obtain ⟨a1, q, a2, a3⟩ := H; exact ⟨a1, q, a2, t.mono _ _ a3⟩
      | cell od =>
        obtain ⟨a1, c, ov, a2, a3, a4, a5, a6, a7⟩ := H
        refine ⟨a1, c, ov, a2, a3, ?_, a5, a6, fun d e => let ⟨v, e', r⟩ := a7 d e; ⟨v, e', r.mono t.mono⟩⟩
        rw [h2]; exact a4
        obtain ⟨o, e', hd⟩ := a3
        exact ne e' (fun q => by rw [q] at hd; cases hd)
  · rcases get_set e1 with ⟨_, z⟩ | ⟨_, e1⟩
    · cases z
    · rcases get_set e2 with ⟨_, z⟩ | ⟨_, e2⟩
      · cases z
      · exact hI p q xs ys e1 e2

theorem EXs.freeze {xs : List D} (j : Nat) (hj : Γ[j]? = some (some (.own xs))) (h : EXs S k f (Γ.set j (some (.val (.list xs)))) sts res) (hx : j < f.vars.length := by decide) : EXs S k f Γ sts res := by
  intro A g W env s Q E R st hQ
  obtain ⟨a, vs, n, g', _, _, _, t, st'⟩ := st.freeze hj hx
  exact h A g' W env s Q E R st' fun fl g₂ s₂ t₂ p₂ => hQ fl g₂ s₂ (t.trans t₂ fun _ q => q) p₂
theorem TV.borrow {xs : List D} {b : Bool} (j : Nat) (hj : Γ[j]? = some (some (.own xs))) (h : TV S k f (Γ.set j (some (.val (.list xs)))) e b) (hx : j < f.vars.length := by decide) : TV S k f Γ e b := by
  intro A g W env s Q E R st hQ
  obtain ⟨a, vs, n, g', h1, h2, h3, t, st'⟩ := st.freeze hj hx
  refine h A g' W env s Q E R st' fun g₂ s₂ t₂ => ?_
  obtain ⟨g₃, t₃⟩ := Tr.drop st.base h1 h3 (fun o e => by rw [h2] at e; cases e; nofun) (by rw [h2]; nofun) t₂
  exact hQ g₃ s₂ t₃

/-- the own list as the heap has it, and what a change of it leaves -/
theorem St.own {g : Heap} {W : Addr → Prop} {env : Env} {s : Shared} {j : Nat} {x : Str} {xs : List D} (st : St S f Γ g W env s) (hj : Γ[j]? = some (some (.own xs))) (hx : f.vars[j]? = some x) :
    ∃ a vs n m, env.kindOf x = some .local ∧ s.heap.Ns env.locals m ∧ m x = some (.ref a) ∧ s.heap.get? a = some (listO vs n) ∧ vs.length ≤ sizeLine ∧ Rds g vs xs ∧ g.get? a = Option.none ∧
      (∀ (i : Nat) (y : Str), Γ[i]? = some (some (B.app j)) → f.vars[i]? = some y → env.kindOf y = some .local ∧ ∃ q, m y = some (.ref q) ∧ g.get? q = some (appO a)) ∧
      ∀ h' vs' n' xs' t, h'.get? a = some (listO vs' n') → Heap.SameBut a s.heap h' → vs'.length ≤ sizeLine → Rds g vs' xs' → s.toks ≤ t →
        Tr S W g s g { s with heap := h', toks := t } ∧ St S f (Γ.set j (some (.own xs'))) g W env { s with heap := h', toks := t } := by
  obtain ⟨m, ad, hns, hb, hg, hH, hI⟩ := st.vars
  obtain ⟨hk, hm, vs, n, e, hz, rs, hn, hw⟩ := hH j _ _ hx hj
  refine ⟨ad j, vs, n, m, hk, hns, hm, e, hz, rs, hn, fun i y hi hy => hH i y _ hy hi, fun h' vs' n' xs' t e' hs hz' rs' ht => ?_⟩
  have T : Tr S W g s g { s with heap := h', toks := t } := Tr.set st.keep st.base st.tabs hs hw hn (st.tabs.notT e nofun) ht
  have ne : ∀ {b o}, s.heap.get? b = some o → o ≠ listO vs n → b ≠ ad j := fun {b o} e' hq q => by rw [q, e] at e'; cases e'; exact hq rfl
  refine ⟨T, T.keep, st.base, T.now, st.envIs, fun a l => st.wide a (Nat.le_trans T.size l), fun y c e => Nat.lt_of_lt_of_le (st.clt y c e) T.size, m, ad, ?_, hb, hg, fun i y b hy hb' => ?_, fun p q xs₁ ys₁ e1 e2 => ?_⟩
  · obtain ⟨o, es, ep, e1, hd, r⟩ := hns
    exact ⟨o, es, ep, (hs.2 _ (ne e1 fun q => by rw [q] at hd; cases hd)).trans e1, hd, r⟩
  · rcases get_set hb' with ⟨rfl, rfl⟩ | ⟨hi, hb''⟩
    · obtain rfl : x = y := Option.some.inj (hx.symm.trans hy)
      exact ⟨hk, hm, vs', n', e', hz', rs', hn, hw⟩
    · have H := hH i y b hy hb''
      have cellOk : ∀ {c ov}, s.heap.IsCell c ov → h'.IsCell c ov := fun {c ov} hc => hc.sameBut hs (by obtain ⟨o, e1, hd⟩ := hc; exact ne e1 fun q => by rw [q] at hd; cases hd)
      cases b with
      | val d =>
        obtain ⟨v, hv, hr⟩ := H
        refine ⟨v, ?_, hr⟩
        unfold Var at hv ⊢
        split at hv
        · exact hv
        · obtain ⟨c, h1, h2⟩ := hv; exact ⟨c, h1, cellOk h2⟩
        · obtain ⟨c, h1, h2⟩ := hv; exact ⟨c, h1, cellOk h2⟩
        · exact hv.elim
      | own ys =>
        obtain ⟨a1, a2, vs₂, n₂, a3, a4⟩ := H
        exact ⟨a1, a2, vs₂, n₂, (hs.2 _ fun q => hi (hI _ _ _ _ hb'' hj q)).trans a3, a4⟩
      | app y => exact H
      | cell od =>
        obtain ⟨a1, c, ov, a2, a3, r⟩ := H
        exact ⟨a1, c, ov, a2, cellOk a3, r⟩
  · have got : ∀ {p : Nat} {ys : List D}, (Γ.set j (some (.own xs')))[p]? = some (some (.own ys)) → ∃ zs, Γ[p]? = some (some (.own zs)) := fun {p ys} e => by
      rcases get_set e with ⟨rfl, _⟩ | ⟨_, e⟩
      · exact ⟨xs, hj⟩
      · exact ⟨ys, e⟩
    obtain ⟨_, e1⟩ := got e1
    obtain ⟨_, e2⟩ := got e2
    exact hI p q _ _ e1 e2

/-- a step that changes a list -/
noncomputable def OwnOp (S : Sig) (k : Nat) (t : Value → List Value → Sem Value) (xs : List D) (ds : List D) (xs' : List D) (d : D) : Prop :=
  ∀ (A : Around) (g : Heap) (s : Shared) (a : Addr) (vs : List Value) (n : Nat) (args : List Value) (Q : Value → Shared → Prop) (E : Value → Shared → Prop), At S k A g s → s.heap.get? a = some (listO vs n) → vs.length ≤ sizeLine → Rds g vs xs → Rds g args ds →
    (∀ v h' vs' n' t', h'.get? a = some (listO vs' n') → Heap.SameBut a s.heap h' → vs'.length ≤ sizeLine → Rds g vs' xs' → s.toks ≤ t' → Rd g v d → Q v { s with heap := h', toks := t' }) → wpAny S.M A (t (.ref a) args) Q E s

/-- x.name(es) as a statement, x a list of the frame's own -/
theorem EX.ownMeth {x name : Str} {apos npos : Pos} {id : String} {xs xs' : List D} (j : Nat) (slot : Slot "list" name id) (hty : typeOf (.builtin id) = pure (.type "method_descriptor")) (hx : f.vars[j]? = some x) (hj : Γ[j]? = some (some (.own xs)))
    (h2 : EVs S k f Γ es ds) (h3 : OwnOp S k (fun o vs => PySem.call (.builtin id) (o :: vs)) xs ds xs' d)
    (hdb : (x == ("__debug__" : Str)) = false := by decide)
    (hline : (apos.endLine == pos.line) = true := by rfl)
    (hfew : ∀ env, ((backTo pos (starEach es env)).all (fun x => !x.1) && (backToKw pos (keywordEach [] env)).all (fun x => x.1.isSome)
      && decide (es.length + ([] : List Keyword).length + (if ([] : List Keyword).isEmpty then 0 else 1) < 30)) = true := by intro _; rfl)
    (hs : ∀ env, swapsWith (.Call (.Attribute (.Name x npos) name apos) es [] pos) none p'.line env = pure false := by intro _; rfl) :
    EX S k f Γ (.Expr (.Call (.Attribute (.Name x npos) name apos) es [] pos) p') (.next (Γ.set j (some (.own xs')))) := by
  intro A g W env s Q E R st hQ
  refine wpAny_Expr_any ?_ (not_interactive st.envIs) (hs env)
  refine wpAny_Call_method (T := "list") (id := id) (by rfl) (hfew env) hline PySem.F.plainAttrs_list slot hty ?_
  obtain ⟨a, vs, n, m, hk, hns, hm, ho, hz, rs, hn, _, _⟩ := st.own hj hx
  refine wpAny_Name (wpAny_loadName_local st.envIs.kind hk hns hm ?_) hdb
  refine ⟨⟨_, ho, rfl⟩, fun a' q => by cases q; exact ⟨_, ho, rfl⟩, ?_⟩
  refine callWith_of (P := fun h => S.K.In h) (by show ((backTo pos (starEach es env)).any (·.1) || false) = false; rw [h2.plain]; rfl) (Callee.builtin (S := S)) ?_
  refine evalArgs_any (h2.plain _ _) (h2.run pos A g W env s _ E R st fun args g2 s2 t2 r2 => ⟨t2.base.kin.keeps t2.keep, ?_⟩)
  have st2 := st.move t2
  obtain ⟨o', eo, hl⟩ := t2.same a _ (Nat.not_le.mpr (Heap.lt_size ho)) (st.tabs.notT ho nofun) ho
  obtain rfl := hl.eq (show Value.type "list" ≠ Value.type "frame" by decide)
  obtain ⟨a₂, vs₂, n₂, m₂, hk₂, hns₂, hm₂, ho₂, hz₂, rs₂, hn₂, _, hch⟩ := st2.own hj hx
  have : a₂ = a := by
    have e := hns₂.agree (t2.ns st.tabs hns (Nat.not_le.mpr hns.lt)) x
    rw [hm₂, hm] at e; cases e; rfl
  subst this
  refine h3 A g2 s2 a₂ _ _ args _ E (t2.at R) ho₂ hz₂ rs₂ r2 fun v h' vs' n' t' e1 e2 e3 e4 e5 _ => ?_
  obtain ⟨T, st3⟩ := hch h' vs' n' xs' t' e1 e2 e3 e4 e5
  exact hQ _ g2 _ ((t2.weak st.new).trans T fun _ q => q) ⟨rfl, st3⟩

theorem OwnOp.append {xs : List D} {d : D} (hz : xs.length < sizeLine) : OwnOp S k (fun o vs => PySem.call (.builtin "list.append") (o :: vs)) xs [d] (xs ++ [d]) .none := by
  intro A g s a vs n args Q E at' ho hl rs ra hQ
  cases ra with
  | cons r1 r2 =>
    cases r2
    rename_i v
    have hlen := rs.length
    refine wpAny_list_append_plain ⟨n, ho⟩ (fun h' hp hs => ?_) (by simpa using hl)
    obtain ⟨n', e⟩ := hp
    exact hQ _ h' (vs ++ [v]) n' _ (by simpa using e) hs (by simp; omega) (rs.append (.cons r1 .nil)) (Nat.le_refl _) (.raw _)
theorem OwnOp.pop {xs : List D} {d : D} : OwnOp S k (fun o vs => PySem.call (.builtin "list.pop") (o :: vs)) (xs ++ [d]) [] xs d := by
  intro A g s a vs n args Q E at' ho hl rs ra hQ
  cases ra
  have hlen := rs.length
  simp at hlen
  have hd := rs.get xs.length (d := d) (by simp)
  obtain ⟨v, hv, hr⟩ := hd
  have hv' : vs.toArray[vs.toArray.size - 1]? = some v := by rw [← List.getElem?_toArray] at hv; simpa [hlen] using hv
  have e : vs.toArray.eraseIdxIfInBounds (vs.toArray.size - 1) = (vs.take xs.length).toArray := by
    apply Array.toList_inj.mp
    simp [hlen, List.eraseIdx_eq_take_drop_succ]
    try omega
  refine call_meets PySem.F.slot_list_pop ⟨_, ho, rfl⟩ PySem.F.entry_list_pop (PySem.F.args_list_pop_1 _) (PySem.MeetsSeq.list_pop_last a vs.toArray n v hv' (by simpa using hl)) ⟨ho, ?_⟩
  have q := PySem.IsL.update (n := n) ho (fun xs => xs.eraseIdxIfInBounds (vs.toArray.size - 1))
  rw [e] at q
  have hr' : Rds g (vs.take xs.length) xs := by simpa using rs.take xs.length
  have fin := hQ v _ (vs.take xs.length) _ s.toks q (Heap.SameBut.update ..) (by simp; omega) hr' (Nat.le_refl _) hr
  exact fin

/-- x = [..], a list of the frame's own -/
theorem EX.ownNew {x : Str} {npos : Pos} (i : Nat) (hx : f.vars[i]? = some x) (hk : f.kinds[i]? = some .local) (h : EVs S k f Γ es ds)
    (hna : (Γ.all fun b => match b with | some (.app q) => q != i | _ => true) = true := by rfl) (hl : ds.length ≤ sizeLine := by decide)
    (hs : ∀ env, swapsWithSole [.Name x npos] (.List es pos) p'.line env = pure false := by intro _; rfl) (hw : ∀ env, swappedStores [.Name x npos] (.List es pos) env = pure none := by intro _; rfl)
    (ha : ∀ env v, assignAll v ((assignEach [.Name x npos] env).map (·.2)) = PySem.assign (.Name x npos) env v := by intro _ _; rfl) (hΓ : Γ.length ≤ f.vars.length := by decide) :
    EX S k f Γ (.Assign [.Name x npos] (.List es pos) p') (.next (Γ.set i (some (.own ds)))) := by
  intro A g W env s Q E R st hQ
  refine wpAny_Assign_stores ?_ (hs env) (hw env)
  refine wpAny_List_spliced (h.run pos A g W env s _ E R st fun vs g1 s1 t1 r1 => ?_)
  have hlen := r1.length
  refine ⟨by omega, ?_⟩
  rw [ha env, arm_assign_Name]
  refine wpAny_bind (wpAny_standAt (wpAny_bindName ?_))
  have a1 := t1.at R
  have st1 := st.move t1
  obtain ⟨g2, t2, _, hno⟩ := Tr.grow (s' := { s1 with heap := s1.heap.push (listO vs 0) }) (fun _ => False) a1.keep a1.base a1.tabs (fun b x e => Heap.get?_push_of_some _ e) (by simp) rfl rfl (Nat.le_refl _)
  have st2 := st1.move t2
  obtain ⟨m, ad, hns, hb, hg, hH, hI⟩ := st1.vars
  have hbig : ∀ {j ys}, Γ[j]? = some (some (.own ys)) → ad j < s1.heap.objs.size := fun {j ys} e => by
    have hj : j < f.vars.length := Nat.lt_of_lt_of_le (List.getElem?_eq_some_iff.mp e).1 hΓ
    exact (hH j _ _ (List.getElem?_eq_getElem hj) e).2.2.lt
  refine wp_storeL (b := .own ds) (ad := ad) (ad' := fun p => if p = i then s1.heap.objs.size else ad p) t2.keep t2.base t2.now st2.envIs st2.wide st2.clt hx hk (t2.ns st1.tabs hns (Nat.not_le.mpr hns.lt)) hb (t2.none hg (Nat.not_le.mpr hns.lt)) (fun i x b e e' => t2.holds st1.tabs (hH i x b e e')) (fun p q xs ys h1 h2 => ?_) (fun h' m' hn hv hs' hki => ?_) (fun j xs hj _ => by simp [hj]) (fun j q hj hq => ?_) fun g3 s3 t3 st3 => hQ _ g3 s3 (((t1.then t2).weak st.new).trans t3 fun _ z => z) ⟨rfl, st3⟩
  · intro e
    rcases get_set h1 with ⟨e1, _⟩ | ⟨n1, h1'⟩
    · rcases get_set h2 with ⟨e2, _⟩ | ⟨n2, h2'⟩
      · exact e1.trans e2.symm
      · rw [if_pos e1, if_neg n2] at e; exact absurd e (Nat.ne_of_gt (hbig h2'))
    · rcases get_set h2 with ⟨e2, _⟩ | ⟨n2, h2'⟩
      · rw [if_neg n1, if_pos e2] at e; exact absurd e (Nat.ne_of_lt (hbig h1'))
      · rw [if_neg n1, if_neg n2] at e; exact hI _ _ _ _ h1' h2' e
  · refine ⟨hki, by simpa using hv, vs, 0, ?_, by omega, r1.mono t2.mono, by simpa using hno _ (Nat.le_refl _) id, by simpa using st1.wide _ (Nat.le_refl _)⟩
    simp only [if_true]
    refine (hs'.2 _ fun q => ?_).trans (Heap.get?_push_size _ rfl)
    have := hns.lt; rw [← q] at this; exact absurd this (Nat.lt_irrefl _)
  · have : q ≠ i := by
      have := List.all_eq_true.mp hna _ (List.mem_of_getElem? hq)
      simpa using this
    simp [this]
end
end Mine
set_option maxRecDepth 100000
set_option linter.unusedVariables false
namespace Mine
open PySem PySem.W PySem.Calls PyProof.Rows

theorem slot_mdget : Slot "method_descriptor" "__get__" "method_descriptor.__get__" :=
  .of (owner := "method_descriptor") (n := "__get__") (by rw [typeLookup_type, builtinLookup_eq_fast]; kernel_rfl) (by decide +kernel) (by decide +kernel) (by decide +kernel)
    (by first | exact .inl (by decide +kernel) | exact .inr (by decide +kernel)) (by rw [isSubtype_type]; kernel_rfl)
theorem entry_mdget : entryFor table "method_descriptor.__get__" = some Builtin.«method_descriptor.__get__» := entryFor_of_tree (by kernel_rfl)
theorem args_mdget (a b c : Value) : argsOk "method_descriptor.__get__" ⟨[a, b, c], []⟩ := by unfold argsOk; kernel_rfl
theorem none_mdset : typeLookup (.type "method_descriptor") "__set__" = pure none := by rw [typeLookup_type, builtinLookup_eq_fast]; kernel_rfl
theorem none_mddel : typeLookup (.type "method_descriptor") "__delete__" = pure none := by rw [typeLookup_type, builtinLookup_eq_fast]; kernel_rfl
theorem look_append : typeLookup (.type "list") "append" = pure (some (.builtin "list.append")) := by rw [typeLookup_type, builtinLookup_eq_fast]; kernel_rfl
theorem ty_append : typeOf (.builtin "list.append") = pure (.type "method_descriptor") := PySem.F.type_list_append

theorem mdget_run {prog : Program} {w : World} {A : Around} {E : Value → Shared → Prop} {s : Shared} {l : Addr} {vs : List Value} {n : Nat} {P : PySem.Fin → Shared → Prop} (ho : s.heap.get? l = some (listO vs n))
    (h : P (.done (.ret (.ref s.heap.objs.size))) { s with heap := s.heap.push (appO l) }) : wpAny (model prog w) A (Builtin.«method_descriptor.__get__» ⟨[.builtin "list.append", .ref l, .type "list"], []⟩) P E s := by
  unfold Builtin.«method_descriptor.__get__»
  refine wpAny_bind (wpAny_of_eq (a := (.builtin "list.append", some (.ref l), some (.type "list"))) (by first | rfl | kernel_rfl) ?_)
  dsimp only
  rw [if_neg (by decide +kernel)]
  refine wpAny_bind (m := _) (f := fun _ => newFields "builtin_function_or_method" [.builtin "list.append", .ref l] >>= fun v => ret v) ?_
  refine wpAny_bind (m := _) (f := fun (q : Str × Value) => isInstance (.ref l) q.2 >>= fun b => _) (wpAny_of_eq (a := (("append" : Str), .type "list")) (by kernel_rfl) ?_)
  refine wpAny_bind (wpAny_isInstance (T := "list") (b := true) ⟨_, ho, rfl⟩ ?_ ?_)
  · rw [isSubtype_type]; kernel_rfl
  refine wpAny_pure ?_
  exact wpAny_bind (wpAny_newObj_type (wpAny_pure h))
theorem look_get : specialOf (.builtin "list.append") "__get__" = pure (some (.builtin "method_descriptor.__get__")) := by
  unfold specialOf
  rw [ty_append]
  show typeLookup _ _ = _
  exact slot_mdget.lookup
theorem look_set : specialOf (.builtin "list.append") "__set__" = pure none := by
  unfold specialOf
  rw [ty_append]
  exact none_mdset
theorem look_del : specialOf (.builtin "list.append") "__delete__" = pure none := by
  unfold specialOf
  rw [ty_append]
  exact none_mddel
theorem getattribute_run {prog : Program} {w : World} {A : Around} {E : Value → Shared → Prop} {s : Shared} {l : Addr} {vs : List Value} {n : Nat} {t : Tok} {P : PySem.Fin → Shared → Prop} (ho : s.heap.get? l = some (listO vs n))
    (h : P (.done (.ret (.ref s.heap.objs.size))) { s with heap := s.heap.push (appO l) }) : wpAny (model prog w) A (Builtin.«object.__getattribute__» ⟨[.ref l, .str "append" t], []⟩) P E s := by
  obtain ⟨hp, g, d, tk, os⟩ := s
  have hT : ∀ tk', (⟨hp, g, d, tk', os⟩ : Shared).TypeIs (.ref l) "list" := fun _ => ⟨_, ho, rfl⟩
  have f1 := look_append
  have f2 := look_get
  have f3 := look_set
  have f4 := look_del
  unfold Builtin.«object.__getattribute__»
  repeat (any_goals (first | assumption | wp_step))
  refine codeAny_call_builtin slot_mdget.plain entry_mdget (slot_mdget.check _ _ _ _ _ _ _ _ ty_append (args_mdget _ _ _) ?_)
  refine mdget_run (n := n) (vs := vs) ho ?_
  exact wpAny_pure h
theorem getAttr_append {prog : Program} {w : World} {A : Around} {E : Value → Shared → Prop} {s : Shared} {l : Addr} {vs : List Value} {n : Nat} {ex : Bool} {Q : Value → Shared → Prop} (ho : s.heap.get? l = some (listO vs n))
    (h : Q (.ref s.heap.objs.size) { s with heap := s.heap.push (appO l), toks := s.toks + 1 }) : wpAny (model prog w) A (getAttr (.ref l) "append" ex) Q E s := by
  obtain ⟨hp, g, d, tk, os⟩ := s
  have hT : ∀ tk', (⟨hp, g, d, tk', os⟩ : Shared).TypeIs (.ref l) "list" := fun _ => ⟨_, ho, rfl⟩
  have f3 := F.slot_list_getattribute.lookup
  have f4 := F.slot_list_getattribute.bind (.ref l)
  unfold getAttr getAttrBy
  repeat (any_goals (first | assumption | exact hT _ | wp_step))
  rw [if_neg (by rw [show onTheHeap (Value.builtin "list.__getattribute__") = false from rfl, Bool.and_false]; exact Bool.false_ne_true)]
  unfold boundAndCalled
  refine wpAny_bind (wpAny_of_eq f4 ?_)
  refine wpAny_call_entry F.slot_list_getattribute (hT _) am_entry_list_getattribute (getattribute_run (n := n) (vs := vs) ho ⟨_, rfl, ?_⟩) (F.args_list_getattribute_2 _ _)
  exact wpAny_pure h

section
variable {S : Sig} {k : Nat} {f : Fi} {Γ Γ' Γ₁ Γ₂ : Ctxt} {e l r : Expr} {es : List Expr} {d d₁ d₂ : D} {ds : List D} {pos p' : Pos} {sts : List Stmt} {res : Res}

/-- y = x.append -/
theorem EX.appBind {x y : Str} {npos npos' : Pos} {xs : List D} (i j : Nat) (hx : f.vars[j]? = some x) (hj : Γ[j]? = some (some (.own xs))) (hy : f.vars[i]? = some y) (hk : f.kinds[i]? = some .local) (hij : i ≠ j)
    (hdb : (x == ("__debug__" : Str)) = false := by decide) (hna : (Γ.all fun b => match b with | some (.app q) => q != i | _ => true) = true := by rfl)
    (hs : ∀ env, swapsWithSole [.Name y npos] (.Attribute (.Name x npos') "append" pos) p'.line env = pure false := by intro _; rfl) (hw : ∀ env, swappedStores [.Name y npos] (.Attribute (.Name x npos') "append" pos) env = pure none := by intro _; rfl)
    (ha : ∀ env v, assignAll v ((assignEach [.Name y npos] env).map (·.2)) = PySem.assign (.Name y npos) env v := by intro _ _; rfl) :
    EX S k f Γ (.Assign [.Name y npos] (.Attribute (.Name x npos') "append" pos) p') (.next (Γ.set i (some (.app j)))) := by
  intro A g W env s Q E R st hQ
  refine wpAny_Assign_stores ?_ (hs env) (hw env)
  obtain ⟨m, ad, hns, hb, hg, hH, hI⟩ := st.vars
  obtain ⟨hki, hm, vs, n, ho, hz, rs, hn, hw'⟩ := hH j _ _ hx hj
  refine Attribute_name (wpAny_Name (wpAny_loadName_local st.envIs.kind hki hns hm ?_) hdb)
  refine getAttr_append (n := n) (vs := vs) ho ?_
  obtain ⟨g2, t2, e2⟩ := (st.at R).push (appO (ad j)) (t := s.toks + 1)
  have st2 := st.move t2
  rw [ha env, arm_assign_Name]
  refine wpAny_bind (wpAny_standAt (wpAny_bindName ?_))
  refine wp_storeL (b := .app j) (ad := ad) (ad' := ad) t2.keep t2.base t2.now st2.envIs st2.wide st2.clt hy hk (t2.ns st.tabs hns (Nat.not_le.mpr hns.lt)) hb (t2.none hg (Nat.not_le.mpr hns.lt)) (fun i x b e e' => t2.holds st.tabs (hH i x b e e')) (fun p q xs ys h1 h2 => ?_) (fun h' m' hn hv hs' hki => ⟨hki, _, hv, e2⟩) (fun _ _ _ _ => rfl) (fun _ _ _ _ => rfl) fun g3 s3 t3 st3 => hQ _ g3 s3 ((t2.weak st.new).trans t3 fun _ z => z) ⟨rfl, st3⟩
  rcases get_set h1 with ⟨_, q⟩ | ⟨_, h1⟩
  · cases q
  · rcases get_set h2 with ⟨_, q⟩ | ⟨_, h2⟩
    · cases q
    · exact hI p q xs ys h1 h2

theorem sig_append : Manifest.signature? "list.append" = some ⟨.oneArg, "list.append", "append", .self, [⟨"object", .posOnly, true⟩]⟩ := by
  rw [signature?_of (id := "list.append") (n := ['d', 'n', 'e', 'p', 'p', 'a']) (o := ['t', 's', 'i', 'l']) (by kernel_rfl) PySem.F.owner_list]; kernel_rfl
theorem kind_append : builtinKind "list.append" = some .method := by kernel_rfl
theorem check_append {M : Model} {A : Around} {E : Value → Shared → Prop} {s : Shared} {l : Addr} {v : Value} {vs : List Value} {n : Nat} {Q : Unit → Shared → Prop} (ho : s.heap.get? l = some (listO vs n)) (h : Q () s) : wpAny M A (checkBoundCall "list.append" ⟨[.ref l, v], []⟩) Q E s := by
  obtain ⟨hp, g, d, tk, os⟩ := s
  have hT : ∀ tk', (⟨hp, g, d, tk', os⟩ : Shared).TypeIs (.ref l) "list" := fun _ => ⟨_, ho, rfl⟩
  unfold checkBoundCall
  rw [sig_append, kind_append]
  dsimp only
  rw [if_neg (by decide)]
  refine wpAny_bind (wpAny_isInstance (T := "list") (b := false) (hT _) (by rw [isSubtype_type]; kernel_rfl) ?_)
  rw [if_neg (by decide +kernel)]
  repeat (any_goals (first | assumption | exact hT _ | wp_step))

theorem call_app {A : Around} {E : Value → Shared → Prop} {s : Shared} {q l : Addr} {v : Value} {vs : List Value} {n : Nat} {Q : Value → Shared → Prop} (hq : s.heap.get? q = some (appO l)) (ho : s.heap.get? l = some (listO vs n)) (hz : vs.length ≤ sizeLine)
    (h : ∀ h' n', h'.get? l = some (listO (vs ++ [v]) n') → Heap.SameBut l s.heap h' → Q .none { s with heap := h' }) : wpAny S.M A (call (.ref q) [v]) Q E s := by
  refine wpAny_call (codeAny_of_tree ?_)
  show wpAny _ A.in1 (callAny (.ref q) ⟨[v], []⟩) _ _ s
  simp only [callAny]
  refine wpAny_bind (wpAny_load hq ?_)
  simp only [show (Value.type "builtin_function_or_method" == Value.type "method" || Value.type "builtin_function_or_method" == Value.type "builtin_function_or_method" || Value.type "builtin_function_or_method" == Value.type "method-wrapper") = true by decide, if_true]
  refine KFB.if_so (by decide) ?_
  refine wpAny_bind (check_append (vs := vs) (n := n) ho ?_)
  refine wpAny_bind (wpAny_pure (wpAny_pure ?_))
  refine ⟨Code.quiet_builtin _ (by decide +kernel), codeAny_builtin entry_list_append ?_⟩
  show wpAny _ _ (updateSeq l (·.push v) >>= fun _ => ret .none) _ _ s
  refine wpAny_bind ?_
  refine wpAny_updateSeq ho rfl (wpAny_pure ?_) (hz := by simpa using hz)
  have e := Heap.get?_update_self (Obj.mapSeq (·.push v)) ho (by rw [Obj.mapSeq_push_plain]; rfl)
  rw [Obj.mapSeq_push_plain] at e
  exact h _ (n + 1) (by rw [e]; simp) (Heap.SameBut.update ..)

theorem callWith_app {A : Around} {E : Value → Shared → Prop} {s : Shared} {q l : Addr} {args : List (Bool × Sem Value)} {Q : Value → Shared → Prop} (hplain : args.any (·.1) = false)
    (h : wpAny S.M A (evalArgs (.ref q) true args []) (fun x s₁ => s₁.heap.get? q = some (appO l) ∧ wpAny S.M A (call (.ref q) x.pos x.kw) Q E s₁) E s) : wpAny S.M A (callWith pos (.ref q) [] args []) Q E s := by
  unfold callWith
  refine wpAny_bind (wpAny_holding (wpAny_mono h (fun x s₁ h₁ => wpAny_bind (wpAny_standAt ?_)) fun _ _ x => x))
  obtain ⟨ho, hcall⟩ := h₁
  simp only [hplain, List.any_nil, Bool.or_false]
  refine wpAny_bind (m := keeperOf (.ref q)) ?_
  unfold keeperOf
  refine wpAny_bind (wpAny_load ho ?_)
  simp only [show (Value.type "builtin_function_or_method" != Value.type "method") = true by decide, show (Value.type "builtin_function_or_method" == Value.type "builtin_function_or_method" || Value.type "builtin_function_or_method" == Value.type "method-wrapper") = true by decide, if_true]
  refine wpAny_pure ?_
  exact wpAny_bind (wpAny_mono hcall (fun r s₂ hr => wpAny_bind (wpAny_holding (wpAny_point (wpAny_pure hr)))) fun _ _ x => x)

/-- add(e), add the append of a list of the frame's own -/
theorem EX.appCall {y : Str} {npos : Pos} {xs : List D} (i j : Nat) (hy : f.vars[i]? = some y) (hi : Γ[i]? = some (some (.app j))) (hj : Γ[j]? = some (some (.own xs))) (h2 : EV S k f Γ e d) (hz : xs.length < sizeLine) (hjl : j < f.vars.length := by decide)
    (hdb : (y == ("__debug__" : Str)) = false := by decide) (hn : ∀ env, eval (.Call (.Name y npos) [e] [] pos) env = (do callWith pos (← eval (.Name y npos) env) [] (backTo pos (starEach [e] env)) (backToKw pos (keywordEach [] env))) := by intro _; rfl)
    (hse : ∀ env, starEach [e] env = [(false, eval e env)] := by intro _; rfl)
    (hs : ∀ env, swapsWith (.Call (.Name y npos) [e] [] pos) none p'.line env = pure false := by intro _; rfl) :
    EX S k f Γ (.Expr (.Call (.Name y npos) [e] [] pos) p') (.next (Γ.set j (some (.own (xs ++ [d]))))) := by
  intro A g W env s Q E R st hQ
  refine wpAny_Expr_any ?_ (not_interactive st.envIs) (hs env)
  rw [hn]
  obtain ⟨a, vs, n, m, hk, hns, hm, ho, hz', rs, hgn, happ, _⟩ := st.own hj (List.getElem?_eq_getElem hjl)
  obtain ⟨hky, q, hmq, hq⟩ := happ i y hi hy
  refine wpAny_bind (wpAny_Name (wpAny_loadName_local st.envIs.kind hky hns hmq ?_) hdb)
  rw [hse]
  refine callWith_app (l := a) rfl ?_
  refine evalArgs_any rfl ?_
  show wpAny S.M A (spliced [(false, eval e env)]) _ _ _
  refine spliced_cons (h2 A g W env s _ E R st fun v g2 s2 t2 r2 => spliced_nil ?_)
  have st2 := st.move t2
  refine ⟨t2.keep _ _ (t2.mono _ _ hq), ?_⟩
  obtain ⟨a₂, vs₂, n₂, m₂, hk₂, hns₂, hm₂, ho₂, hz₂, rs₂, hn₂, _, hch⟩ := st2.own hj (List.getElem?_eq_getElem hjl)
  have : a₂ = a := by
    have e := hns₂.agree (t2.ns st.tabs hns (Nat.not_le.mpr hns.lt)) f.vars[j]
    rw [hm₂, hm] at e; cases e; rfl
  subst this
  refine call_app (t2.keep _ _ (t2.mono _ _ hq)) ho₂ hz₂ fun h' n' e1 e2 => ?_
  have hl := rs₂.length
  obtain ⟨T, st3⟩ := hch h' (vs₂ ++ [v]) n' (xs ++ [d]) s2.toks e1 e2 (by simp; omega) (rs₂.append (.cons r2 .nil)) (Nat.le_refl _)
  exact hQ _ g2 _ ((t2.weak st.new).trans T fun _ q => q) ⟨rfl, st3⟩

/-- the place that an index names -/
noncomputable def idx (n : Nat) (i : Int) : Nat := if i < 0 then (i + (n : Int)).toNat else i.toNat

theorem wp_getAt {A : Around} {E : Value → Shared → Prop} {s : Shared} (a : Addr) {vs : List Value} {n : Nat} {i : Int} {t : Tok} {v : Value} {Q : Value → Shared → Prop} (ho : s.heap.get? a = some (listO vs n)) (hz : vs.length ≤ sizeLine) (h0 : -(vs.length : Int) ≤ i) (h1 : i < vs.length) (hv : vs[idx vs.length i]? = some v)
    (hQ : Q v s) : wpAny S.M A (getItem (.ref a) (.int i t)) Q E s := by
  have hsz := sizeLine_eq
  have hl : s.heap.IsList a vs.toArray := ⟨_, ho, rfl, n, rfl⟩
  by_cases hi : i < 0
  · refine wpAny_getItem_list_neg hl hi (by simpa using h0) (by omega) ?_ hQ
    have hi' : idx vs.length i = (i + vs.toArray.size).toNat := by simp [idx, hi]
    rw [hi'] at hv
    simpa using hv
  · refine wpAny_getItem_list hl (by omega) (by omega) ?_ hQ
    have hi' : idx vs.length i = i.toNat := by simp [idx, hi]
    rw [hi'] at hv
    simpa using hv

end
end Mine
set_option maxRecDepth 100000
set_option linter.unusedVariables false
namespace Mine
open PySem PySem.W PySem.Calls PyProof.Rows

section
variable {S : Sig} {k : Nat} {f : Fi} {Γ Γ' : Ctxt} {e l r : Expr} {es : List Expr} {d d₁ d₂ : D} {ds : List D} {pos : Pos}

/- ints -/
theorem Op2.addI {a b : Int} : Op2 S k (binaryOp .Add) (.int a) (.int b) (.int (a + b)) := by
  intro A g s v₁ v₂ Q E at' r1 r2 h
  cases r1; cases r2
  exact P.add_int (h _ g _ (at'.tick _ (Nat.le_succ _)) (.int _ _))
theorem Op2.eqI {a b : Int} : Op2 S k (compareOp .Eq) (.int a) (.int b) (.bool (a == b)) := by
  intro A g s v₁ v₂ Q E at' r1 r2 h
  cases r1; cases r2
  exact P.eq_int (h _ g _ (at'.refl _) (.raw _))
theorem Op2.ltI {a b : Int} : Op2 S k (compareOp .Lt) (.int a) (.int b) (.bool (decide (a < b))) := by
  intro A g s v₁ v₂ Q E at' r1 r2 h
  cases r1; cases r2
  exact P.lt_int (h _ g _ (at'.refl _) (.raw _))
theorem Op2.gtI {a b : Int} : Op2 S k (compareOp .Gt) (.int a) (.int b) (.bool (decide (a > b))) := by
  intro A g s v₁ v₂ Q E at' r1 r2 h
  cases r1; cases r2
  exact P.gt_int (h _ g _ (at'.refl _) (.raw _))
theorem Op2.geI {a b : Int} : Op2 S k (compareOp .GtE) (.int a) (.int b) (.bool (decide (a ≥ b))) := by
  intro A g s v₁ v₂ Q E at' r1 r2 h
  cases r1; cases r2
  exact P.ge_int (h _ g _ (at'.refl _) (.raw _))
theorem Op1.negI {a : Int} : Op1 S k (unaryOp .USub) (.int a) (.int (-a)) := by
  intro A g s v₁ Q E at' r1 h
  cases r1
  exact P.neg_int (h _ g _ (at'.tick _ (Nat.le_succ _)) (.int _ _))
theorem Op2.modI {a b : Int} (hb : b ≠ 0) (hs : b.natAbs.log2 < 200 := by decide +kernel) : Op2 S k (binaryOp .Mod) (.int a) (.int b) (.int (a.fmod b)) := by
  intro A g s v₁ v₂ Q E at' r1 r2 h
  cases r1; cases r2
  exact mod_int' hb (h _ g _ (at'.tick _ (Nat.le_succ _)) (.int _ _))

theorem Op2.idivI {a b : Int} (hb : b ≠ 0) (hs : b.natAbs.log2 < 9000 := by decide +kernel) : Op2 S k (binaryOp .FloorDiv) (.int a) (.int b) (.int (a.fdiv b)) := by
  intro A g s v₁ v₂ Q E at' r1 r2 h
  cases r1; cases r2
  exact floordiv_int hb (h _ g _ (at'.tick _ (Nat.le_succ _)) (.int _ _)) (.inl (PyProof.noPylong_of_log2 hs))
theorem Ops.absI {a : Int} : Ops S k (fun vs => call (.builtin "abs") vs) [.int a] (.int (if a < 0 then -a else a)) := by
  intro A g s vs Q E at' rs h
  cases rs with
  | cons r1 r2 =>
    cases r2; cases r1
    refine wpAny_grown (call_abs_int fun u tk G => ?_)
    exact h _ g _ (at'.tick _ G.toks) (.int _ _)

/- texts -/
theorem strEq (a b : List Nat) : ((⟨a.toArray⟩ : Str).cps.toList == (⟨b.toArray⟩ : Str).cps.toList) = (a == b) := by simp
theorem Op2.eqS {a b : List Nat} : Op2 S k (compareOp .Eq) (.str a) (.str b) (.bool (a == b)) := by
  intro A g s v₁ v₂ Q E at' r1 r2 h
  cases r1; cases r2
  exact P.eq_str (h _ g _ (at'.refl _) (by rw [strEq]; exact .raw _))
theorem Op2.neS {a b : List Nat} : Op2 S k (compareOp .NotEq) (.str a) (.str b) (.bool (a != b)) := by
  intro A g s v₁ v₂ Q E at' r1 r2 h
  cases r1; cases r2
  refine P.ne_str (h _ g _ (at'.refl _) ?_)
  have : ((⟨a.toArray⟩ : Str).cps.toList != (⟨b.toArray⟩ : Str).cps.toList) = (a != b) := by simp
  rw [this]; exact .raw _
theorem strApp (a b : List Nat) : (⟨a.toArray⟩ : Str) ++ ⟨b.toArray⟩ = ⟨(a ++ b).toArray⟩ := by
  show (⟨a.toArray ++ b.toArray⟩ : Str) = _
  simp
theorem Op2.addS {a b : List Nat} (hz : a.length + b.length ≤ sizeLine) : Op2 S k (binaryOp .Add) (.str a) (.str b) (.str (a ++ b)) := by
  intro A g s v₁ v₂ Q E at' r1 r2 h
  cases r1; cases r2
  refine wpAny_grown (PyProof.Rows.add_str (fun t' tk G => ?_) (by simpa [Str.length] using hz))
  refine h _ g _ (at'.tick _ G.toks) ?_
  have := Rd.str (g := g) (a ++ b) t' (by simpa using hz)
  rw [strApp]; exact this
theorem Ops.lenS {a : List Nat} : Ops S k (fun vs => call (.builtin "len") vs) [.str a] (.int a.length) := by
  intro A g s vs Q E at' rs h
  cases rs with
  | cons r1 r2 =>
    cases r2; cases r1
    rename_i t hs
    have hz := sizeLine_eq
    refine P.len_str (by show ¬ ((a.toArray.size : Int) ≥ 2 ^ 63); simp only [List.size_toArray]; omega) ?_
    refine h _ g _ (at'.tick _ (by omega)) ?_
    have := Rd.int (g := g) (a.length : Int) (s.toks + 1)
    simpa [Str.length] using this
theorem Op2.itemS {a : List Nat} {i : Int} {c : Nat} (hc : a[idx a.length i]? = some c) (h0 : -(a.length : Int) ≤ i) : Op2 S k getItem (.str a) (.int i) (.str [c]) := by
  intro A g s v₁ v₂ Q E at' r1 r2 h
  cases r1; cases r2
  rename_i t hs u
  have hz := sizeLine_eq
  have hl : idx a.length i < a.length := (List.getElem?_eq_some_iff.mp hc).1
  unfold idx at hc hl
  refine P.getItem_str (c := c) ?_ ?_ (h _ g _ (at'.tick _ (Nat.le_succ _)) ?_)
  · simp only [Bool.or_eq_false_iff, decide_eq_false_iff_not]
    split at hl <;> constructor <;> omega
  · show (seqIndex? i a.toArray.size).bind (a.toArray[·]?) = some c
    simp only [List.size_toArray]
    by_cases hi : i < 0
    · rw [PySem.seqIndex_neg hi h0]
      simp only [if_pos hi] at hc
      simpa using hc
    · simp only [if_neg hi] at hc hl
      obtain ⟨j, rfl⟩ := Int.eq_ofNat_of_zero_le (show 0 ≤ i by omega)
      have : seqIndex? (j : Int) a.length = some j := by unfold seqIndex?; simp at hl ⊢; omega
      rw [this]
      simpa using hc
  · have := Rd.str (g := g) [c] s.toks (by show 1 ≤ sizeLine; omega)
    simpa using this

/-- the part of a list between two places -/
noncomputable def pick {α : Type} (lo hi : Option Int) (l : List α) : List α := (l.drop (kms_lo lo l.length)).take (kms_hi hi l.length - kms_lo lo l.length)
theorem Rds.pick {g : Heap} {vs : List Value} {ds : List D} (h : Rds g vs ds) (lo hi : Option Int) : Rds g (pick lo hi vs) (pick lo hi ds) := by
  unfold Mine.pick
  rw [h.length]
  exact (h.drop _).take _
theorem pick_length_le {α : Type} (lo hi : Option Int) (l : List α) : (pick lo hi l).length ≤ l.length := by
  unfold pick; simp; omega

structure PV (S : Sig) (k : Nat) (f : Fi) (Γ : Ctxt) (o : Option Expr) (i : Option Int) : Prop where
  run : ∀ (A : Around) (g : Heap) (W : Addr → Prop) (env : Env) (s : Shared) (Q : Value → Shared → Prop) (E : Value → Shared → Prop), Room k A → St S f Γ g W env s →
    (∀ p g' s', Tr S (Nw s) g s g' s' → p.map Prod.fst = i → Q (partValue p) s') → wpAny S.M A (evalPart o env) Q E s
theorem PV.none : PV S k f Γ none none := ⟨fun A g W env s Q E R st h => wpAny_pure (h Option.none g s ((st.at R).refl _) rfl)⟩
theorem PV.some {i : Int} (h1 : EV S k f Γ e (.int i)) : PV S k f Γ (some e) (some i) := ⟨fun A g W env s Q E R st h => by
  rw [evalPart_some]
  exact h1 A g W env s Q E R st fun v g' s' t r => by cases r; exact h (Option.some (_, _)) g' s' t rfl⟩

theorem kms_hi_le (v : Option Int) (n : Nat) : kms_hi v n ≤ n := by
  unfold kms_hi
  split
  · omega
  · split <;> omega
theorem picked_range {a : List Nat} {p q : Option (Int × Tok)} : slicePicked (⟨a.toArray⟩ : Str) p q Option.none = sliceRange ((kms_lo (p.map Prod.fst) a.length : Nat) : Int) ((kms_hi (q.map Prod.fst) a.length : Nat) : Int) 1 := by
  show Builtin.Str.strSliceIndices _ _ 1 a.toArray.size = _
  rw [List.size_toArray]
  have h1 : (1 : Int) > 0 := by decide
  unfold Builtin.Str.strSliceIndices
  simp only [h1, if_true]
  congr 1
  · cases p with
    | none => simp [kms_lo]
    | some x =>
      simp only [kms_lo, Option.map_some]
      split <;> omega
  · cases q with
    | none => simp [kms_hi]
    | some x =>
      simp only [kms_hi, Option.map_some]
      split <;> omega
theorem picked_eq {a : List Nat} {p q : Option (Int × Tok)} : (slicePicked (⟨a.toArray⟩ : Str) p q Option.none).filterMap ((⟨a.toArray⟩ : Str).cps[·]?) = pick (p.map Prod.fst) (q.map Prod.fst) a := by
  rw [picked_range, sliceRange_one, pick_run]
  simp [pick]
theorem picked_len {a : List Nat} {p q : Option (Int × Tok)} : (slicePicked (⟨a.toArray⟩ : Str) p q Option.none).length = (pick (p.map Prod.fst) (q.map Prod.fst) a).length := by
  have := kms_hi_le (q.map Prod.fst) a.length
  rw [picked_range, sliceRange_one]
  simp [pick]; omega
theorem slice_whole {α : Type} (lo hi : Option Int) (l : List α) (h : (pick lo hi l).length = l.length) : pick lo hi l = l := by
  unfold pick at h ⊢
  rw [List.length_take, List.length_drop] at h
  have : kms_lo lo l.length = 0 ∨ l.length = 0 := by omega
  rcases this with h0 | h0
  · rw [h0, List.drop_zero, List.take_of_length_le]
    omega
  · have : l = [] := List.length_eq_zero_iff.mp h0
    subst this; simp
theorem EV.sliceS {a : List Nat} {lo hi : Option Expr} {i j : Option Int} {p : Pos} (h1 : EV S k f Γ e (.str a)) (h2 : PV S k f Γ lo i) (h3 : PV S k f Γ hi j) (ht : ∀ o r, letTemporaryGo e o r = pure () := by intro _ _; rfl) :
    EV S k f Γ (.Subscript e (.Slice lo hi none p) pos) (.str (pick i j a)) := by
  intro A g W env s Q E R st hQ
  refine wpAny_Subscript_str_slice (h1 A g W env s _ E R st fun v g1 s1 t1 r1 => h2.run A g1 W env s1 _ E R (st.move t1) fun p2 g2 s2 t2 e2 => h3.run A g2 W env s2 _ E R ((st.move t1).move t2) fun p3 g3 s3 t3 e3 => ?_) ht
  cases r1
  rename_i t hs
  refine ⟨_, t, p2, p3, rfl, rfl, rfl, ?_⟩
  have a3 := (((st.move t1).move t2).move t3).at R
  have T := (t1.then t2).then t3
  have hp := picked_eq (a := a) (p := p2) (q := p3)
  rw [e2, e3] at hp
  unfold sliceMade
  split
  · rename_i hw
    obtain ⟨g4, t4, _⟩ := a3.push { cls := .type "slice", data := .fields #[partValue p2, partValue p3, .none] } (t := s3.toks)
    refine hQ _ g4 _ (T.then t4) ?_
    have : (pick i j a) = a := by
      apply slice_whole
      have hl := picked_len (a := a) (p := p2) (q := p3)
      rw [e2, e3] at hl
      rw [← hl]
      simpa [Str.length] using hw
    rw [this]; exact .str a t hs
  · obtain ⟨g4, t4, _⟩ := a3.push { cls := .type "slice", data := .fields #[partValue p2, partValue p3, .none] } (t := s3.toks + 1)
    rw [hp]
    have hl := Nat.le_trans (pick_length_le i j a) hs
    refine ⟨by show (pick i j a).toArray.size ≤ _; simpa using hl, hQ _ g4 _ (T.then t4) (.str _ _ hl)⟩
end

theorem sub_str_self : isSubtype (.type "str") (.type "str") = pure true := by rw [isSubtype_type]; kernel_rfl
theorem nested_str {prog : Program} {w : World} {A : Around} {E : Value → Shared → Prop} {s : Shared} {n : Int} {t : Tok} {Q : PySem.Fin → Shared → Prop} (hq : Q (.done (.ret (.bool true))) s) :
    wpAny (model prog w) A (Builtin.«issubclass.nested» ⟨[.type "str", .type "str", .int n t], []⟩) Q E s := by
  have hself := sub_str_self
  have hm : (Value.type "type" == Value.type "type") = true := by decide
  have ht : typeOf (.type "str") = pure (.type "type") := by first | rfl | kernel_rfl
  unfold Builtin.«issubclass.nested»
  repeat (any_goals (first | assumption | (rw [if_pos hm]) | (rw [hself]) | (rw [ht]) | wp_step))
theorem issubclass_str {A : Around} {E : Value → Shared → Prop} {prog : Program} {w : World} {s : Shared} {a : Addr} {v : Value} {n : Nat} {Q : Value → Shared → Prop} (ho : s.heap.get? a = some (tupO [.type "str", v] n))
    (h : Q (.bool true) s) : wpAny (model prog w) A (call (.builtin "issubclass") [.type "str", .ref a]) Q E s := by
  refine call_issubclass (S := fun A R s => s.heap.get? a = some (tupO [.type "str", v] n) ∧ R (.ok (.ret (.bool true))) s) (fun prog w A R s hs => issubclass_outer ?_) ⟨ho, h⟩
  obtain ⟨hp, g, d, tk, os⟩ := s
  obtain ⟨ho, h⟩ := hs
  have hT : ∀ tk', (⟨hp, g, d, tk', os⟩ : Shared).TypeIs (.ref a) "tuple" := fun _ => ⟨_, ho, rfl⟩
  unfold Builtin.«issubclass.nested»
  repeat (any_goals (first | assumption | exact hT _ | wp_step))
  refine wpAny_of_eq (a := true) (show isSubtype (.type "tuple") (.type "tuple") = pure true by rw [isSubtype_type]; kernel_rfl) ?_
  rw [if_pos rfl]
  dsimp only
  rw [if_neg (by decide)]
  refine wpAny_bind (wpAny_seqItems ho rfl ?_)
  rw [Option.getD_some, ← Array.forIn_toList]
  show wpAny _ _ (forIn [Value.type "str", v] _ _ >>= _) _ _ _
  rw [List.forIn_cons]
  refine wpAny_bind (wpAny_bind (wpAny_bind ?_))
  refine call_function_entry (by decide +kernel) (by decide +kernel) F.entry_issubclass_nested (by unfold argsOk; kernel_rfl) (nested_str ⟨_, rfl, ?_⟩)
  refine wpAny_bind (wpAny_truthy_bool ?_)
  rw [if_pos rfl]
  exact wpAny_bind (wpAny_pure (wpAny_pure (wpAny_pure (wpAny_pure h))))

section
variable {S : Sig} {k : Nat} {f : Fi} {Γ Γ' : Ctxt} {e l r : Expr} {es : List Expr} {d d₁ d₂ : D} {ds : List D} {pos : Pos}
theorem Ops.issubStr {d₂ : D} : Ops S k (fun vs => call (.builtin "issubclass") vs) [.raw (.type "str"), .tup [.raw (.type "str"), d₂]] (.bool true) := by
  intro A g s vs Q E at' rs h
  cases rs with
  | cons r1 r2 =>
    cases r2 with
    | cons r2 r3 =>
      cases r3; cases r1
      cases r2 with
      | tup e hl rs =>
        cases rs with
        | cons r4 r5 =>
          cases r4
          cases r5 with
          | cons r6 r7 =>
            cases r7
            exact issubclass_str (at'.keep _ _ e) (h _ g _ (at'.refl _) (.raw _))
theorem Ops.typeOf {d : D} {T : String} (ht : TyD d T) (hT : (Value.type T == Value.type "builtin_function_or_method") = false := by decide) : Ops S k (fun vs => call (.type "type") vs) [d] (.raw (.type T)) := by
  intro A g s vs Q E at' rs h
  cases rs with
  | cons r1 r2 =>
    cases r2
    exact call_type_of (ht.is r1 at'.keep).1 hT (h _ g _ (at'.refl _) (.raw _))
theorem Ops.isinstSB {a : List Nat} : Ops S k (fun vs => call (.builtin "isinstance") vs) [.str a, .raw (.type "bytes")] (.bool false) := by
  intro A g s vs Q E at' rs h
  cases rs with
  | cons r1 r2 =>
    cases r2 with
    | cons r2 r3 =>
      cases r3; cases r1; cases r2
      exact IsiPair.str_bytes (h _ g _ (at'.tick _ (Nat.le_succ _)) (.raw _))
theorem Ops.isinstSS {a : List Nat} : Ops S k (fun vs => call (.builtin "isinstance") vs) [.str a, .raw (.type "str")] (.bool true) := by
  intro A g s vs Q E at' rs h
  cases rs with
  | cons r1 r2 =>
    cases r2 with
    | cons r2 r3 =>
      cases r3; cases r1; cases r2
      exact IsiPair.str_str (h _ g _ (at'.refl _) (.raw _))
end
end Mine
set_option maxRecDepth 100000
set_option linter.unusedVariables false
namespace Mine
open PySem PySem.W PySem.Calls PyProof.Rows

/- equality of data -/
mutual
noncomputable def D.py : D → PyData
  | .raw (.bool b) => .bool b
  | .raw _ => .none
  | .int i => .int i
  | .str s => .str ⟨s.toArray⟩
  | .list xs => .list (D.pys xs)
  | .tup xs => .tuple (D.pys xs)
  | .rng .. => .none
noncomputable def D.pys : List D → List PyData
  | [] => []
  | d :: ds => D.py d :: D.pys ds
end
noncomputable def okC (s : List Nat) : Bool := s.all fun c => decide (c < 0x110000)
/-- data that may be compared: truth values (m) or ints, never both -/
noncomputable def D.ok (m : Bool) : Nat → D → Bool
  | _, .raw .none => true
  | _, .raw (.bool _) => m
  | _, .int _ => !m
  | _, .str s => okC s
  | n + 1, .tup ds => ds.all (D.ok m n)
  | n + 1, .list ds => ds.all (D.ok m n)
  | _, _ => false

theorem strOk_of {s : List Nat} (h : okC s = true) : PyData.strOk ⟨s.toArray⟩ = true := by
  unfold okC at h
  unfold PyData.strOk
  simp at h ⊢
  exact h
mutual
theorem py_reads {g h : Heap} (k : Keep g h) {m : Bool} : ∀ {v : Value} {d : D} (n : Nat), Rd g v d → D.ok m n d = true → ∃ as, Reads h v (D.py d) as
  | _, _, n, .raw v, hk => by
    cases v <;> first | (cases n <;> simp [D.ok] at hk; done) | exact ⟨_, Reads.none⟩ | exact ⟨_, Reads.bool _⟩
  | _, _, _, .int i t, _ => ⟨_, Reads.int i t⟩
  | _, _, _, .str x t _, _ => ⟨_, Reads.str _ t⟩
  | _, _, n, .rng _, hk => by cases n <;> simp [D.ok] at hk
  | _, _, 0, .tup _ _ _, hk => by simp [D.ok] at hk
  | _, _, 0, .list _ _ _, hk => by simp [D.ok] at hk
  | _, _, n + 1, .tup e _ r, hk => by
    obtain ⟨as, q⟩ := py_all k n r (by simpa [D.ok] using hk)
    rw [D.py]
    exact ⟨as, reads_tuple_at (k _ _ e) rfl rfl (by simpa using q)⟩
  | _, _, n + 1, .list e _ r, hk => by
    obtain ⟨as, q⟩ := py_all k n r (by simpa [D.ok] using hk)
    rw [D.py]
    exact ⟨_, reads_list_at (k _ _ e) rfl rfl (by simpa using q)⟩
theorem py_all {g h : Heap} (k : Keep g h) {m : Bool} : ∀ {vs : List Value} {ds : List D} (n : Nat), Rds g vs ds → (∀ d ∈ ds, D.ok m n d = true) → ∃ as, ReadsAll h vs (D.pys ds) as
  | _, _, _, .nil, _ => ⟨_, .nil⟩
  | _, _, n, .cons a b, hk => by
    obtain ⟨as, q⟩ := py_reads k n a (hk _ (.head _))
    obtain ⟨bs, r⟩ := py_all k n b fun d hd => hk d (.tail _ hd)
    exact ⟨_, .cons q r⟩
end
theorem py_lay {m : Bool} : ∀ (n : Nat) (d : D), D.ok m n d = true → (D.py d).canLay0 = true ∧ (D.py d).depth ≤ n := by
  have all : ∀ (n : Nat), (∀ d, D.ok m n d = true → (D.py d).canLay0 = true ∧ (D.py d).depth ≤ n) → ∀ ds : List D, (∀ d ∈ ds, D.ok m n d = true) → PyData.canLayAll0 (D.pys ds) = true ∧ PyData.depthAll (D.pys ds) ≤ n := by
    intro n ih ds
    induction ds with
    | nil => intro _; simp [D.pys, PyData.canLayAll0, PyData.depthAll]
    | cons d ds hi =>
      intro h
      have h1 := ih d (h d (.head _))
      have h2 := hi fun e he => h e (.tail _ he)
      simp only [D.pys, PyData.canLayAll0, PyData.depthAll, h1.1, h2.1, Bool.and_self, true_and]
      have a1 := h1.2
      have a2 := h2.2
      omega
  have base : ∀ (n : Nat) (d : D), D.ok m n d = true → (∀ ds, d ≠ .list ds) → (∀ ds, d ≠ .tup ds) → (D.py d).canLay0 = true ∧ (D.py d).depth ≤ n := by
    intro n d h h1 h2
    cases d with
    | raw v => cases v <;> simp [D.py, PyData.canLay0, PyData.depth]
    | int i => simp [D.py, PyData.canLay0, PyData.depth]
    | str s => simp only [D.py, PyData.canLay0, PyData.depth]; refine ⟨strOk_of ?_, Nat.zero_le _⟩; cases n <;> simpa [D.ok] using h
    | list ds => exact absurd rfl (h1 ds)
    | tup ds => exact absurd rfl (h2 ds)
    | rng => simp [D.py, PyData.canLay0, PyData.depth]
  intro n
  induction n with
  | zero =>
    intro d h
    refine base 0 d h (fun ds e => ?_) fun ds e => ?_ <;> (subst e; simp [D.ok] at h)
  | succ n ih =>
    intro d h
    cases d with
    | tup ds =>
      have q := all n ih ds (by simpa [D.ok] using h)
      have q2 := q.2
      simp only [D.py, PyData.canLay0, PyData.depth, q.1, true_and]
      omega
    | list ds =>
      have q := all n ih ds (by simpa [D.ok] using h)
      have q2 := q.2
      simp only [D.py, PyData.canLay0, PyData.depth, q.1, true_and]
      omega
    | _ => exact base (n + 1) _ h nofun nofun
theorem py_eqv {m : Bool} : ∀ (n : Nat) (d e : D) (k : Nat), D.ok m n d = true → D.ok m k e = true → (PyData.eqv (D.py d) (D.py e) = true ↔ d = e) := by
  have all : ∀ (n : Nat), (∀ d e k, D.ok m n d = true → D.ok m k e = true → (PyData.eqv (D.py d) (D.py e) = true ↔ d = e)) → ∀ (k : Nat) (ds es : List D), (∀ d ∈ ds, D.ok m n d = true) → (∀ d ∈ es, D.ok m k d = true) →
      (PyData.eqvAll (D.pys ds) (D.pys es) = true ↔ ds = es) := by
    intro n ih k ds
    induction ds with
    | nil => intro es _ _; cases es <;> simp [D.pys, PyData.eqvAll]
    | cons d ds hi =>
      intro es h1 h2
      cases es with
      | nil => simp [D.pys, PyData.eqvAll]
      | cons e es =>
        have q1 := ih d e k (h1 d (.head _)) (h2 e (.head _))
        have q2 := hi es (fun x hx => h1 x (.tail _ hx)) fun x hx => h2 x (.tail _ hx)
        simp only [D.pys, PyData.eqvAll, Bool.and_eq_true, q1, q2, List.cons.injEq]
  have rawCase : ∀ (n k : Nat) (v : Value) (e : D), D.ok m n (.raw v) = true → D.ok m k e = true → (PyData.eqv (D.py (.raw v)) (D.py e) = true ↔ D.raw v = e) := by
    intro n k v e h1 h2
    have hv : v = .none ∨ ∃ b, v = .bool b ∧ m = true := by
      cases v <;> first | exact .inl rfl | (exact .inr ⟨_, rfl, by cases n <;> simpa [D.ok] using h1⟩) | (exfalso; cases n <;> simp [D.ok] at h1)
    rcases hv with rfl | ⟨b, rfl, rfl⟩
    · cases e with
      | raw w => cases w <;> first | (simp [D.py, PyData.eqv]; done) | (exfalso; cases k <;> simp [D.ok] at h2)
      | rng => exfalso; cases k <;> simp [D.ok] at h2
      | _ => simp [D.py, PyData.eqv]
    · cases e with
      | raw w => cases w <;> first | (simp [D.py, PyData.eqv]; done) | (exfalso; cases k <;> simp [D.ok] at h2)
      | rng => exfalso; cases k <;> simp [D.ok] at h2
      | int i => exfalso; cases k <;> simp [D.ok] at h2
      | _ => simp [D.py, PyData.eqv]
  have flat : ∀ (n k : Nat) (d e : D), D.ok m n d = true → D.ok m k e = true → (∀ ds, d ≠ .list ds) → (∀ ds, d ≠ .tup ds) → (PyData.eqv (D.py d) (D.py e) = true ↔ d = e) := by
    intro n k d e h1 h2 n1 n2
    cases d with
    | raw v => exact rawCase n k v e h1 h2
    | int i =>
      cases e with
      | raw w =>
        cases w <;> first | (simp [D.py, PyData.eqv]; done) | (exfalso; cases k <;> cases n <;> simp_all [D.ok])
      | rng => exfalso; cases k <;> simp [D.ok] at h2
      | _ => simp [D.py, PyData.eqv]
    | str s =>
      cases e with
      | raw w => cases w <;> simp [D.py, PyData.eqv]
      | rng => exfalso; cases k <;> simp [D.ok] at h2
      | str t => simp [D.py, PyData.eqv]
      | _ => simp [D.py, PyData.eqv]
    | list ds => exact absurd rfl (n1 ds)
    | tup ds => exact absurd rfl (n2 ds)
    | rng => exfalso; cases n <;> simp [D.ok] at h1
  intro n
  induction n with
  | zero =>
    intro d e k h1 h2
    refine flat 0 k d e h1 h2 (fun ds e => ?_) fun ds e => ?_ <;> (subst e; simp [D.ok] at h1)
  | succ n ih =>
    intro d e k h1 h2
    cases d with
    | tup ds =>
      cases e with
      | tup es =>
        cases k with
        | zero => simp [D.ok] at h2
        | succ k =>
          simp only [D.py, PyData.eqv, D.tup.injEq]
          exact all n ih k ds es (by simpa [D.ok] using h1) (by simpa [D.ok] using h2)
      | raw w => cases w <;> simp [D.py, PyData.eqv]
      | rng => exfalso; cases k <;> simp [D.ok] at h2
      | _ => simp [D.py, PyData.eqv]
    | list ds =>
      cases e with
      | list es =>
        cases k with
        | zero => simp [D.ok] at h2
        | succ k =>
          simp only [D.py, PyData.eqv, D.list.injEq]
          exact all n ih k ds es (by simpa [D.ok] using h1) (by simpa [D.ok] using h2)
      | raw w => cases w <;> simp [D.py, PyData.eqv]
      | rng => exfalso; cases k <;> simp [D.ok] at h2
      | _ => simp [D.py, PyData.eqv]
    | _ => exact flat (n + 1) k _ e h1 h2 nofun nofun

theorem Room.u64 {k : Nat} {A : Around} (h : Room k A) : A.units + 65 < cLine := by
  have := h.units
  omega
section
variable {S : Sig} {k : Nat} {f : Fi} {Γ Γ' : Ctxt} {e l r : Expr} {es : List Expr} {d d₁ d₂ : D} {ds : List D} {pos : Pos}
open Classical in
theorem py_dec {m : Bool} {n : Nat} {d e : D} (h1 : D.ok m n d = true) (h2 : D.ok m n e = true) : PyData.eqv (D.py d) (D.py e) = decide (d = e) := by
  have q := py_eqv n d e n h1 h2
  by_cases hq : d = e
  · rw [decide_eq_true hq]; exact q.mpr hq
  · rw [decide_eq_false hq]; exact Bool.eq_false_iff.mpr fun x => hq (q.mp x)
theorem py_shaped {m : Bool} {d : D} (h : D.ok m 8 d = true) : SeqAt.shaped (D.py d) = true := by
  have l := py_lay 8 d h
  unfold SeqAt.shaped; rw [l.1, Bool.true_and]; exact decide_eq_true (Nat.le_trans l.2 (by decide))
open Classical in
theorem Op2.eqD (m : Bool) (h1 : D.ok m 8 d₁ = true) (h2 : D.ok m 8 d₂ = true) : Op2 S k (compareOp .Eq) d₁ d₂ (.bool (decide (d₁ = d₂))) := by
  intro A g s v₁ v₂ Q E at' r1 r2 h
  obtain ⟨as, a⟩ := py_reads at'.keep 8 r1 h1
  obtain ⟨bs, b⟩ := py_reads at'.keep 8 r2 h2
  refine eq_dataH a b (py_shaped h1) (py_shaped h2) (by have := at'.room.u64; omega) ?_
  rw [py_dec h1 h2]
  exact h _ g _ (at'.refl _) (.raw _)
open Classical in
theorem Op2.neD (m : Bool) (h1 : D.ok m 8 d₁ = true) (h2 : D.ok m 8 d₂ = true) : Op2 S k (compareOp .NotEq) d₁ d₂ (.bool (!decide (d₁ = d₂))) := by
  intro A g s v₁ v₂ Q E at' r1 r2 h
  obtain ⟨as, a⟩ := py_reads at'.keep 8 r1 h1
  obtain ⟨bs, b⟩ := py_reads at'.keep 8 r2 h2
  refine ne_dataH a b (py_shaped h1) (py_shaped h2) (by have := at'.room.u64; omega) ?_
  rw [py_dec h1 h2]
  exact h _ g _ (at'.refl _) (.raw _)
theorem py_any {m : Bool} {d : D} (hd : D.ok m 8 d = true) : ∀ (ds : List D), (∀ e ∈ ds, D.ok m 8 e = true) → ((D.pys ds).any (fun y => PyData.eqv y (D.py d)) = true ↔ d ∈ ds)
  | [], _ => by simp [D.pys]
  | e :: ds, h => by
    have q := py_any hd ds (fun x hx => h x (.tail _ hx))
    have q1 := py_eqv 8 e d 8 (h e (.head _)) hd
    simp only [D.pys, List.any_cons, Bool.or_eq_true, q, q1, List.mem_cons]
    exact ⟨fun x => x.imp Eq.symm id, fun x => x.imp Eq.symm id⟩
open Classical in
theorem py_mem {m : Bool} {d : D} (hd : D.ok m 8 d = true) {ds : List D} (h : ∀ e ∈ ds, D.ok m 8 e = true) : ((D.pys ds).any fun y => PyData.eqv y (D.py d)) = decide (d ∈ ds) := by
  by_cases hq : d ∈ ds
  · rw [decide_eq_true hq]; exact (py_any hd ds h).mpr hq
  · rw [decide_eq_false hq]; exact Bool.eq_false_iff.mpr fun z => hq ((py_any hd ds h).mp z)
theorem py_layL {m : Bool} {ds : List D} (h : ∀ d ∈ ds, D.ok m 8 d = true) : PyData.canLayAll0 (D.pys ds) = true ∧ PyData.depthAll (D.pys ds) ≤ 9 := by
  have l := py_lay (m := m) 9 (.list ds) (by simpa [D.ok] using h)
  rw [D.py] at l
  simp only [PyData.canLay0, PyData.depth] at l
  have l2 := l.2
  exact ⟨l.1, by omega⟩
open Classical in
theorem Op2.inL (m : Bool) (h1 : D.ok m 8 d = true) (h2 : ∀ e ∈ ds, D.ok m 8 e = true) : Op2 S k (compareOp .In) d (.list ds) (.bool (decide (d ∈ ds))) := by
  intro A g s v₁ v₂ Q E at' r1 r2 h
  obtain ⟨as, a⟩ := py_reads at'.keep 8 r1 h1
  obtain ⟨bs, b⟩ := py_reads at'.keep (m := m) 9 r2 (by simpa [D.ok] using h2)
  have l := py_layL h2
  have ld := py_lay 8 d h1
  have u := at'.room.u64
  refine SeqAt.in_list_reads (xs := D.pys ds) b a l.1 ld.1 ?_ (by rw [py_mem h1 h2]; exact h _ g _ (at'.refl _) (.raw _))
  have := Nat.min_le_right (PyData.depthAll (D.pys ds)) (D.py d).depth
  have := ld.2
  omega
open Classical in
theorem Op2.inT (m : Bool) (h1 : D.ok m 8 d = true) (h2 : ∀ e ∈ ds, D.ok m 8 e = true) : Op2 S k (compareOp .In) d (.tup ds) (.bool (decide (d ∈ ds))) := by
  intro A g s v₁ v₂ Q E at' r1 r2 h
  obtain ⟨as, a⟩ := py_reads at'.keep 8 r1 h1
  obtain ⟨bs, b⟩ := py_reads at'.keep (m := m) 9 r2 (by simpa [D.ok] using h2)
  have l := py_layL h2
  have ld := py_lay 8 d h1
  have u := at'.room.u64
  refine SeqAt.in_tuple_reads (xs := D.pys ds) b a l.1 ld.1 ?_ (by rw [py_mem h1 h2]; exact h _ g _ (at'.refl _) (.raw _))
  have := Nat.min_le_right (PyData.depthAll (D.pys ds)) (D.py d).depth
  have := ld.2
  omega
end
end Mine
set_option maxRecDepth 100000
set_option linter.unusedVariables false
namespace Mine
open PySem PySem.W PySem.Calls PyProof.Rows Builtin Builtin.Str StrLaws

/-- a text, cut at each c -/
noncomputable def splitC (c : Nat) : List Nat → List (List Nat)
  | [] => [[]]
  | x :: xs => if x = c then [] :: splitC c xs else match splitC c xs with
    | [] => [[x]]
    | p :: ps => (x :: p) :: ps
theorem splitC_ne (c : Nat) : ∀ xs, splitC c xs ≠ []
  | [] => by simp [splitC]
  | x :: xs => by
    unfold splitC
    split
    · simp
    · split <;> simp
/-- the places of c, counted from o on -/
noncomputable def cutsC (c : Nat) : Nat → List Nat → List Nat
  | _, [] => []
  | o, x :: xs => if x = c then o :: cutsC c (o + 1) xs else cutsC c (o + 1) xs

theorem occ_run (xs : List Nat) (c hi limit : Nat) (hh : hi ≤ xs.length) : ∀ (l : List Nat) (found : Array Nat) (free : Nat), (∀ i ∈ l, free ≤ i) → l.Pairwise (· < ·) →
    (forIn l (found, free) (occBody ⟨xs.toArray⟩ ⟨#[c]⟩ hi limit)).run.fst.toList = found.toList ++ ((l.filter fun i => decide (i < hi ∧ xs[i]? = some c)).take (limit - found.size))
  | [], found, free, _, _ => by simp
  | a :: l, found, free, hf, hp => by
    rw [List.forIn_cons]
    have hl : ∀ i ∈ l, a < i := fun i hi => (List.pairwise_cons.mp hp).1 i hi
    have sub : subAt ⟨xs.toArray⟩ ⟨#[c]⟩ a = true ↔ xs[a]? = some c := by
      have := subAt_one ⟨xs.toArray⟩ c a
      simp [Str.length] at this ⊢
      constructor
      · intro h
        by_cases hb : a + 1 ≤ xs.length
        · exact (this.mp ⟨by omega, h⟩)
        · exfalso
          unfold subAt at h
          simp [Str.length] at h
          have := congrArg List.length h
          simp at this; omega
      · intro h; exact (this.mpr h).2
    by_cases hc : (((found, free).fst.size < limit ∧ (found, free).snd ≤ a) ∧ a + (⟨#[c]⟩ : Str).length ≤ hi) ∧ subAt ⟨xs.toArray⟩ ⟨#[c]⟩ a = true
    · have e : occBody ⟨xs.toArray⟩ ⟨#[c]⟩ hi limit a (found, free) = pure (.yield (found.push a, a + 1)) := by unfold occBody; rw [if_pos hc]; rfl
      rw [e]
      show (forIn (m := Id) l (found.push a, a + 1) (occBody ⟨xs.toArray⟩ ⟨#[c]⟩ hi limit)).run.fst.toList = _
      rw [occ_run xs c hi limit hh l _ _ (fun i hi => hl i hi) (List.pairwise_cons.mp hp).2]
      have h1 : a < hi ∧ xs[a]? = some c := ⟨by have := hc.1.2; simp [Str.length] at this; omega, sub.mp hc.2⟩
      have h2 : limit - found.size = (limit - (found.push a).size) + 1 := by have := hc.1.1.1; simp at this ⊢; omega
      rw [List.filter_cons_of_pos (by simpa using h1), h2, List.take_succ_cons]
      simp
    · have e : occBody ⟨xs.toArray⟩ ⟨#[c]⟩ hi limit a (found, free) = pure (.yield (found, free)) := by unfold occBody; rw [if_neg hc]
      rw [e]
      show (forIn (m := Id) l (found, free) (occBody ⟨xs.toArray⟩ ⟨#[c]⟩ hi limit)).run.fst.toList = _
      rw [occ_run xs c hi limit hh l _ _ (fun i hi => hf i (.tail _ hi)) (List.pairwise_cons.mp hp).2]
      by_cases h1 : a < hi ∧ xs[a]? = some c
      · have : limit - found.size = 0 := by
          have h3 : ¬ found.size < limit := fun h4 => hc ⟨⟨⟨h4, hf a (.head _)⟩, by simp [Str.length]; omega⟩, sub.mpr h1.2⟩
          omega
        rw [this]; simp
      · rw [List.filter_cons_of_neg (by simpa using h1)]
theorem occ1 (xs : List Nat) (c lo hi limit : Nat) (hh : hi ≤ xs.length) : occurrences ⟨xs.toArray⟩ ⟨#[c]⟩ lo hi limit = ((List.range' lo (hi + 1 - lo)).filter fun i => decide (i < hi ∧ xs[i]? = some c)).take limit := by
  rw [occ_eq, occ_run xs c hi limit hh _ _ _ (fun i hi => by simp [List.mem_range'] at hi; omega) List.pairwise_lt_range']
  simp
theorem cuts_eq (c : Nat) : ∀ (xs : List Nat) (pre : List Nat), ((List.range' pre.length (xs.length + 1)).filter fun i => decide (i < pre.length + xs.length ∧ (pre ++ xs)[i]? = some c)) = cutsC c pre.length xs
  | [], pre => by simp [cutsC, List.range'_succ]
  | x :: xs, pre => by
    have ih := cuts_eq c xs (pre ++ [x])
    simp only [List.length_append, List.length_cons, List.length_nil, List.append_assoc, List.singleton_append] at ih
    rw [List.length_cons, List.range'_succ]
    have e : pre.length + (xs.length + 1) = pre.length + (0 + 1) + xs.length := by omega
    rw [show pre.length + (0 + 1) = pre.length + 1 by omega] at ih e
    by_cases h : x = c
    · rw [List.filter_cons_of_pos (by simp [h]), e, ih]
      simp only [cutsC, h, if_true]
    · rw [List.filter_cons_of_neg (by simp [h]), e, ih]
      simp only [cutsC, h, if_false]
theorem occ_all (xs : List Nat) (c limit : Nat) (hl : xs.length ≤ limit) : occurrences ⟨xs.toArray⟩ ⟨#[c]⟩ 0 xs.length limit = cutsC c 0 xs := by
  rw [occ1 xs c 0 xs.length limit (Nat.le_refl _)]
  have := cuts_eq c xs []
  simp only [List.length_nil, Nat.zero_add, List.nil_append] at this
  rw [show xs.length + 1 - 0 = xs.length + 1 by omega, this]
  apply List.take_of_length_le
  have : ∀ (xs : List Nat) o, (cutsC c o xs).length ≤ xs.length := by
    intro xs
    induction xs with
    | nil => intro o; simp [cutsC]
    | cons x xs ih => intro o; unfold cutsC; have := ih (o + 1); split <;> simp <;> omega
  exact Nat.le_trans (this _ _) hl
theorem parts_eq (c : Nat) : ∀ (xs pre mid : List Nat), (((pre.length :: (cutsC c (pre.length + mid.length) xs).map (· + 1)).zip (cutsC c (pre.length + mid.length) xs ++ [(pre ++ mid ++ xs).length])).map fun (p : Nat × Nat) => ((pre ++ mid ++ xs).take p.2).drop p.1) =
    match splitC c xs with
    | [] => [mid]
    | p :: ps => (mid ++ p) :: ps
  | [], pre, mid => by
    simp only [cutsC, splitC, List.map_nil, List.nil_append, List.zip_cons_cons, List.zip_nil_right, List.map_cons, List.append_nil]
    rw [List.take_of_length_le (Nat.le_refl _)]; simp
  | x :: xs, pre, mid => by
    by_cases h : x = c
    · subst h
      have ih := parts_eq x xs (pre ++ mid ++ [x]) []
      simp only [List.length_append, List.length_cons, List.length_nil, List.append_nil, Nat.add_zero, Nat.zero_add, List.append_assoc, List.singleton_append] at ih
      simp only [cutsC, splitC, if_true, List.map_cons, List.cons_append, List.zip_cons_cons]
      simp only [List.length_append, List.length_cons, List.append_assoc]
      rw [show pre.length + mid.length + 1 = pre.length + (mid.length + 1) by omega]
      rw [ih]
      cases hs : splitC x xs with
      | nil => exact absurd hs (splitC_ne x xs)
      | cons p ps =>
        simp only [List.append_nil, List.nil_append, List.cons.injEq, and_true]
        rw [← List.append_assoc, List.take_append_of_le_length (by simp), List.take_of_length_le (by simp)]
        simp
    · have ih := parts_eq c xs pre (mid ++ [x])
      simp only [List.length_append, List.length_cons, List.length_nil, List.append_assoc, List.singleton_append, Nat.zero_add] at ih
      simp only [cutsC, splitC, h, if_false, List.append_assoc, List.length_append, List.length_cons]
      rw [show pre.length + mid.length + 1 = pre.length + (mid.length + 1) by omega, ih]
      cases hs : splitC c xs with
      | nil => exact absurd hs (splitC_ne c xs)
      | cons p ps => simp
theorem parts_split (c : Nat) (xs : List Nat) (limit : Nat) (hl : xs.length ≤ limit) : partsBetween ⟨xs.toArray⟩ (occurrences ⟨xs.toArray⟩ ⟨#[c]⟩ 0 xs.length limit) 1 = (splitC c xs).map fun p => ⟨p.toArray⟩ := by
  rw [occ_all xs c limit hl]
  have := parts_eq c xs [] []
  simp only [List.length_nil, List.nil_append, Nat.zero_add] at this
  unfold partsBetween
  have e : (match splitC c xs with | [] => [[]] | p :: ps => p :: ps) = splitC c xs := by
    cases hs : splitC c xs with
    | nil => exact absurd hs (splitC_ne c xs)
    | cons p ps => rfl
  rw [e] at this
  rw [← this, List.map_map]
  apply List.map_congr_left
  intro p _
  simp [strSub, List.drop_take]
/-- texts with a glue between them -/
noncomputable def joinL (sep : List Nat) : List (List Nat) → List Nat
  | [] => []
  | [p] => p
  | p :: q :: r => p ++ sep ++ joinL sep (q :: r)
theorem glued_fold (sep : List Nat) : ∀ (ps : List (List Nat)) (acc : List Nat), (ps.map fun p => (⟨p.toArray⟩ : Str)).foldl (fun (a : Array Nat) (p : Str) => a ++ (⟨sep.toArray⟩ : Str).cps ++ p.cps) acc.toArray = (acc ++ (ps.map fun p => sep ++ p).flatten).toArray
  | [], acc => by simp
  | p :: ps, acc => by
    have := glued_fold sep ps (acc ++ sep ++ p)
    simp only [List.map_cons, List.foldl_cons]
    simp at this ⊢
    exact this
theorem joinL_cons (sep p : List Nat) (ps : List (List Nat)) : joinL sep (p :: ps) = p ++ (ps.map fun p => sep ++ p).flatten := by
  induction ps generalizing p with
  | nil => simp [joinL]
  | cons q r ih => simp [joinL, ih q]
theorem glued_eq (sep : List Nat) (ps : List (List Nat)) : glued ⟨sep.toArray⟩ (ps.map fun p => ⟨p.toArray⟩) = ⟨(joinL sep ps).toArray⟩ := by
  cases ps with
  | nil => rfl
  | cons p ps =>
    unfold glued
    have := glued_fold sep ps p
    simp only [List.map_cons, List.drop_succ_cons, List.drop_zero, List.headD_cons]
    rw [joinL_cons]
    exact congrArg Str.mk this
/-- each c turned into y -/
noncomputable def replC (c : Nat) (y : List Nat) (xs : List Nat) : List Nat := xs.flatMap fun x => if x = c then y else [x]
theorem join_split (c : Nat) (y : List Nat) : ∀ xs, joinL y (splitC c xs) = replC c y xs
  | [] => by simp [splitC, joinL, replC]
  | x :: xs => by
    have ih := join_split c y xs
    cases hs : splitC c xs with
    | nil => exact absurd hs (splitC_ne c xs)
    | cons p ps =>
      rw [hs] at ih
      by_cases h : x = c
      · simp only [splitC, h, if_true, hs]
        rw [joinL_cons]
        rw [joinL_cons] at ih
        simp only [replC, List.flatMap_cons, if_true] at ih ⊢
        simp [← ih]
      · simp only [splitC, h, if_false, hs]
        rw [joinL_cons]
        rw [joinL_cons] at ih
        simp only [replC, List.flatMap_cons, h, if_false] at ih ⊢
        simp [← ih]
end Mine
set_option maxRecDepth 100000
set_option linter.unusedVariables false
namespace Mine
open PySem PySem.W PySem.Calls PyProof.Rows

section
variable {S : Sig} {k : Nat} {f : Fi} {Γ Γ' : Ctxt} {e l r : Expr} {es : List Expr} {d d₁ d₂ : D} {ds : List D} {pos : Pos}

theorem Rds.strs {g : Heap} : ∀ (t : Nat) (ps : List (List Nat)), (∀ p ∈ ps, p.length ≤ sizeLine) → Rds g (strsFrom t (ps.map fun p => ⟨p.toArray⟩)) (ps.map .str)
  | _, [], _ => .nil
  | t, p :: ps, h => .cons (.str p t (h p (.head _))) (Rds.strs (t + 1) ps fun q hq => h q (.tail _ hq))
theorem splitC_length (c : Nat) : ∀ xs, (splitC c xs).length ≤ xs.length + 1
  | [] => by simp [splitC]
  | x :: xs => by
    have := splitC_length c xs
    unfold splitC
    split
    · simp; omega
    · split
      · simp
      · rename_i h; rw [h] at this; simp at this ⊢; omega
theorem splitC_mem (c : Nat) : ∀ xs, ∀ p ∈ splitC c xs, p.length ≤ xs.length
  | [], p, hp => by simp [splitC] at hp; simp [hp]
  | x :: xs, p, hp => by
    have ih := splitC_mem c xs
    unfold splitC at hp
    split at hp
    · rcases List.mem_cons.mp hp with rfl | hp
      · simp
      · have := ih p hp; simp; omega
    · split at hp
      · simp at hp; simp [hp]
      · rename_i q qs h
        rw [h] at ih
        rcases List.mem_cons.mp hp with rfl | hp
        · have := ih q (.head _); simp; omega
        · have := ih p (.tail _ hp); simp; omega
theorem cutsC_nil (c : Nat) : ∀ (xs : List Nat) (o : Nat), cutsC c o xs = [] → splitC c xs = [xs]
  | [], _, _ => rfl
  | x :: xs, o, h => by
    by_cases hx : x = c
    · simp [cutsC, hx] at h
    · simp only [cutsC, hx, if_false] at h
      have := cutsC_nil c xs _ h
      simp [splitC, hx, this]
theorem At.pushT {k : Nat} {A : Around} {g : Heap} {s : Shared} (a : At S k A g s) (o : Obj) (t : Nat) (ht : s.toks ≤ t) (hf : o.isFreed = false := by rfl) :
    ∃ g', Tr S (Nw s) g s g' { s with heap := s.heap.push o, toks := t } ∧ g'.get? s.heap.objs.size = some o := a.push o hf ht

theorem Ops.splitS {xs : List Nat} {c : Nat} (hc : c < 256) (hz : xs.length + 2 ≤ sizeLine) : Ops S k (fun vs => call (.builtin "str.split") vs) [.str xs, .str [c]] (.list ((splitC c xs).map .str)) := by
  intro A g s vs Q E at' rs h
  cases rs with
  | cons r1 r2 =>
    cases r2 with
    | cons r2 r3 =>
      cases r3; cases r1; cases r2
      rename_i t _ u _
      have hk : Builtin.Str.strKind (⟨[c].toArray⟩ : Str) = 1 := by simp [Builtin.Str.strKind, hc]
      have hk2 : ∀ x : Str, ¬ Builtin.Str.strKind x < 1 := fun x => by unfold Builtin.Str.strKind; split <;> (try split) <;> omega
      have one : splitC c xs = [xs] → ∀ {g' : Heap} {n : Nat}, g'.get? s.heap.objs.size = some (listO [.str ⟨xs.toArray⟩ t] n) → Rd g' (.ref s.heap.objs.size) (.list ((splitC c xs).map .str)) := fun e g' n e' => by
        rw [e]
        exact .list e' (by show 1 ≤ sizeLine; decide) (.cons (.str xs t (by omega)) .nil)
      cases h1 : (decide ((⟨xs.toArray⟩ : Str).length < (⟨[c].toArray⟩ : Str).length) || decide (Builtin.Str.strKind ⟨xs.toArray⟩ < Builtin.Str.strKind ⟨[c].toArray⟩))
      · have h2 : ((⟨[c].toArray⟩ : Str).length == 0) = false := by simp [Str.length]
        have hocc : Builtin.Str.occurrences ⟨xs.toArray⟩ ⟨[c].toArray⟩ 0 (⟨xs.toArray⟩ : Str).length ((⟨xs.toArray⟩ : Str).length + 1) = cutsC c 0 xs := by
          have := occ_all xs c (xs.length + 1) (by omega)
          simpa [Str.length] using this
        cases hf : (Builtin.Str.occurrences ⟨xs.toArray⟩ ⟨[c].toArray⟩ 0 (⟨xs.toArray⟩ : Str).length ((⟨xs.toArray⟩ : Str).length + 1)).isEmpty
        · have hp : Builtin.Str.partsBetween ⟨xs.toArray⟩ (Builtin.Str.occurrences ⟨xs.toArray⟩ ⟨[c].toArray⟩ 0 (⟨xs.toArray⟩ : Str).length ((⟨xs.toArray⟩ : Str).length + 1)) (⟨[c].toArray⟩ : Str).length = (splitC c xs).map fun p => ⟨p.toArray⟩ := by
            have := parts_split c xs (xs.length + 1) (by omega)
            simpa [Str.length] using this
          have hlen := splitC_length c xs
          refine call_meets PySem.F.slot_str_split (typeIs_str _ _ _) PySem.F.entry_str_split (PySem.F.args_str_split_2 _ _) (meets_str_split_sep _ _ t u h1 h2 hf (by simp [Str.length]; omega) (by rw [hp]; simp; omega)) ?_
          rw [hp]
          obtain ⟨g', t', e'⟩ := at'.pushT (listO (strsFrom s.toks ((splitC c xs).map fun p => ⟨p.toArray⟩)) 0) (s.toks + ((splitC c xs).map fun p => (⟨p.toArray⟩ : Str)).length) (by omega)
          refine h _ g' _ t' (.list e' ?_ (Rds.strs _ _ fun p hp => ?_))
          · rw [strsFrom_length]; simp; omega
          · have := splitC_mem c xs p hp; omega
        · have hn : splitC c xs = [xs] := cutsC_nil c xs 0 (by rw [hocc] at hf; simpa using hf)
          refine call_meets PySem.F.slot_str_split (typeIs_str _ _ _) PySem.F.entry_str_split (PySem.F.args_str_split_2 _ _) (meets_str_split_not_found _ _ t u h1 h2 hf) ?_
          obtain ⟨g', t', e'⟩ := at'.pushT (listO [.str ⟨xs.toArray⟩ t] 0) s.toks (Nat.le_refl _)
          exact h _ g' _ t' (one hn e')
      · have hn : splitC c xs = [xs] := by
          rw [hk] at h1
          simp [Str.length, hk2] at h1
          subst h1; rfl
        refine call_meets PySem.F.slot_str_split (typeIs_str _ _ _) PySem.F.entry_str_split (PySem.F.args_str_split_2 _ _) (meets_str_split_cannot_occur _ _ t u h1) ?_
        obtain ⟨g', t', e'⟩ := at'.pushT (listO [.str ⟨xs.toArray⟩ t] 0) s.toks (Nat.le_refl _)
        exact h _ g' _ t' (one hn e')

/-- what a list of texts reads as, with the tokens -/
theorem Rds.toStrs {g : Heap} : ∀ {vs : List Value} {ps : List (List Nat)}, Rds g vs (ps.map .str) → ∃ l : List (Str × Tok), vs = strValues l ∧ l.map (·.1) = ps.map fun p => ⟨p.toArray⟩
  | [], [], _ => ⟨[], rfl, rfl⟩
  | _, p :: ps, .cons (.str _ t _) b => by
    obtain ⟨l, rfl, e⟩ := b.toStrs
    exact ⟨(⟨p.toArray⟩, t) :: l, rfl, by simp [e]⟩
theorem joinL_len (sep : List Nat) : ∀ ps : List (List Nat), (joinL sep ps).length ≤ (ps.map fun p => p.length + sep.length).sum
  | [] => by simp [joinL]
  | [p] => by simp [joinL]
  | p :: q :: r => by
    have := joinL_len sep (q :: r)
    simp [joinL] at this ⊢; omega
theorem foldl_len (n : Nat) : ∀ (l : List Str) (a : Nat), l.foldl (fun (x : Nat) (p : Str) => x + p.length + n) a = a + (l.map fun p => p.length + n).sum
  | [], a => by simp
  | p :: l, a => by rw [List.foldl_cons, foldl_len n l]; simp; omega
theorem Ops.joinS {sep : List Nat} {ps : List (List Nat)} (hz : (ps.map fun p => p.length + sep.length).sum ≤ sizeLine) : Ops S k (fun vs => call (.builtin "str.join") vs) [.str sep, .list (ps.map .str)] (.str (joinL sep ps)) := by
  intro A g s vs Q E at' rs h
  cases rs with
  | cons r1 r2 =>
    cases r2 with
    | cons r2 r3 =>
      cases r3
      cases r1 with
      | str _ t hs0 =>
      cases r2 with
      | list e hl rs =>
        rename_i a ws n
        obtain ⟨l, rfl, el⟩ := rs.toStrs
        have hlong : Builtin.Str.tooLong ((l.map (·.1)).toArray.foldl (· + ·.length + (⟨sep.toArray⟩ : Str).length) 0) = false := by
          rw [el]
          simp only [List.foldl_toArray]
          rw [foldl_len]
          simp [Builtin.Str.tooLong, Str.length]
          simpa [Function.comp_def] using hz
        have hj := joinL_len sep ps
        refine call_meets PySem.F.slot_str_join (typeIs_str _ _ _) PySem.F.entry_str_join (PySem.F.args_str_join_2 _ _) (meets_str_join_list _ t a l hlong) ⟨⟨_, at'.keep _ _ e, rfl, n, rfl⟩, ?_⟩
        have gen : l.length ≠ 1 → (joinMade ⟨sep.toArray⟩ l).post (fun v s' => wants Q E (.ok (.ret v)) s') s := fun hne => by
          have em : joinMade ⟨sep.toArray⟩ l = .str (Builtin.Str.glued ⟨sep.toArray⟩ (l.map (·.1))) := by
            match l, hne with
            | [], _ => rfl
            | _ :: _ :: _, _ => rfl
          rw [em, el, glued_eq]
          refine ⟨by show (joinL sep ps).toArray.size ≤ _; simp; omega, ?_⟩
          exact h _ g _ (at'.tick _ (Nat.le_succ _)) (.str _ _ (by omega))
        rcases l with _ | ⟨p, _ | ⟨q, r⟩⟩
        · exact gen (by simp)
        · rcases ps with _ | ⟨q, _ | ⟨q', r⟩⟩
          · simp at el
          · simp at el
            obtain ⟨x, u⟩ := p
            simp at el
            subst el
            have hq : q.length ≤ sizeLine := by simp at hz; omega
            exact h _ g _ (at'.refl _) (.str q u hq)
          · simp at el
        · exact gen (by simp)
end
end Mine
set_option maxRecDepth 100000
set_option linter.unusedVariables false
namespace Mine
open PySem PySem.W PySem.Calls PyProof.Rows

/- names and constants, known beforehand -/
structure Nm (f : Fi) (x : Str) (i : Nat) (kd : NameKind) : Prop where
  hx : f.vars[i]? = some x
  hk : f.kinds[i]? = some kd
  d1 : (x == ("__debug__" : Str)) = false
  d2 : (x == ("__classdict__" : Str)) = false
noncomputable def Raw (S : Sig) (f : Fi) (x : Str) (v : Value) : Prop := ∀ k Γ pos, EV S k f Γ (.Name x pos) (.raw v)
noncomputable def Cs (x : Str) (cs : List Nat) : Prop := x.cps.toList = cs
section
variable {S : Sig} {k : Nat} {f : Fi} {Γ Γ' Γ₁ Γ₂ : Ctxt} {e l r : Expr} {es : List Expr} {d d₁ d₂ : D} {ds : List D} {pos p' : Pos} {sts body orelse : List Stmt} {res : Res} {b c : Bool} {x : Str} {kd : NameKind} {i : Nat} {v : Value}

theorem EV.nm (n : Nm f x i kd) (hl : Γ[i]? = some (some (.val d))) : EV S k f Γ (.Name x pos) d := .name i n.hx hl n.d1 n.d2
theorem EV.nmC (n : Nm f x i kd) (hl : Γ[i]? = some (some (.cell (some d)))) : EV S k f Γ (.Name x pos) d := .nameC i n.hx hl n.d1
theorem Raw.ev (n : Raw S f x v) : EV S k f Γ (.Name x pos) (.raw v) := n k Γ pos
theorem EV.cS {cs : List Nat} {kk : Nat} (h : Cs x cs) (hl : cs.length ≤ sizeLine := by decide) : EV S k f Γ (.Constant (.str x) kk pos) (.str cs) := .cStr h hl
theorem AS.nm (n : Nm f x i .local) : AS S k f Γ (.Name x pos) d (Γ.set i (some (.val d))) := .name i n.hx n.hk
theorem AS.nmC {od : Option D} (n : Nm f x i .cell) (hl : Γ[i]? = some (some (.cell od))) : AS S k f Γ (.Name x pos) d (Γ.set i (some (.cell (some d)))) := .cell i n.hx hl

/- tests whose outcome is known -/
theorem TV.is (h : TV S k f Γ e b) (hb : b = c) : TV S k f Γ e c := hb ▸ h
theorem ATV.andT (h1 : TV S k f Γ e true) (h2 : ATV S k f Γ .And es c) : ATV S k f Γ .And (e :: es) c := by
  have := ATV.and h1 fun _ => h2
  simpa using this
theorem ATV.andF (h1 : TV S k f Γ e false) : ATV S k f Γ .And (e :: es) false := by
  have := ATV.and (c := false) (es := es) h1 (by nofun)
  simpa using this
theorem ATV.orT (h1 : TV S k f Γ e true) : ATV S k f Γ .Or (e :: es) true := by
  have := ATV.or (c := true) (es := es) h1 (by nofun)
  simpa using this
theorem ATV.orF (h1 : TV S k f Γ e false) (h2 : ATV S k f Γ .Or es c) : ATV S k f Γ .Or (e :: es) c := by
  have := ATV.or h1 fun _ => h2
  simpa using this
theorem EX.ifT {cnd : Expr} (h1 : TV S k f Γ cnd true) (h2 : EXs S k f Γ body res) : EX S k f Γ (.If cnd body orelse pos) res := .if h1 (fun _ => h2) (by nofun)
theorem EX.ifF {cnd : Expr} (h1 : TV S k f Γ cnd false) (h2 : EXs S k f Γ orelse res) : EX S k f Γ (.If cnd body orelse pos) res := .if h1 (by nofun) (fun _ => h2)
theorem EV.ifT {cnd : Expr} (h1 : TV S k f Γ cnd true) (h2 : EV S k f Γ l d) : EV S k f Γ (.IfExp cnd l r pos) d := .ifExp h1 (fun _ => h2) (by nofun)
theorem EV.ifF {cnd : Expr} (h1 : TV S k f Γ cnd false) (h2 : EV S k f Γ r d) : EV S k f Γ (.IfExp cnd l r pos) d := .ifExp h1 (by nofun) (fun _ => h2)
theorem BV.orStop {e' : Expr} (h1 : EV S k f Γ e d) (h2 : OpT S k d true) : BV S k f Γ .Or (e :: e' :: es) d := .cons h1 h2 (fun _ => rfl) (by nofun)
theorem BV.orGo {e' : Expr} (h1 : EV S k f Γ e d₁) (h2 : OpT S k d₁ false) (h3 : BV S k f Γ .Or (e' :: es) d) : BV S k f Γ .Or (e :: e' :: es) d := .cons h1 h2 (by nofun) (fun _ => h3)
/-- a test that is some expression's value -/
noncomputable def Tested (e : Expr) : Prop := ∀ env w, isTrue e env w = (do let v ← w; standAt e.pos; holding [v] (truthy v))
theorem tested_Name {x : Str} : Tested (.Name x pos) := fun _ _ => rfl
theorem tested_Call {fn : Expr} {kw : List Keyword} : Tested (.Call fn es kw pos) := fun _ _ => rfl
/- lists -/
theorem Ops.lenL {xs : List D} : Ops S k (fun vs => call (.builtin "len") vs) [.list xs] (.int xs.length) := by
  intro A g s vs Q E at' rs h
  cases rs with
  | cons r1 r2 =>
    cases r2
    cases r1 with
    | list e hl rs =>
      rename_i a ws n
      have hlen := rs.length
      have hz := sizeLine_eq
      refine PySem.Calls.call_len_list (items := ws.toArray) ⟨_, at'.keep _ _ e, rfl, n, rfl⟩ (by simp only [List.size_toArray]; omega) ?_
      refine h _ g _ (at'.tick _ (by omega)) ?_
      have := Rd.int (g := g) (xs.length : Int) (s.toks + 1)
      simpa [hlen] using this
theorem Op2.itemL {xs : List D} {i : Int} (hd : xs[idx xs.length i]? = some d) (h0 : -(xs.length : Int) ≤ i) : Op2 S k getItem (.list xs) (.int i) d := by
  intro A g s v₁ v₂ Q E at' r1 r2 h
  cases r2
  cases r1 with
  | list e hl rs =>
    rename_i u a ws n
    have hlen := rs.length
    obtain ⟨v, hv, hr⟩ := rs.get _ hd
    have hi : idx xs.length i < xs.length := (List.getElem?_eq_some_iff.mp hd).1
    refine wp_getAt a (at'.keep _ _ e) hl (by rw [hlen]; exact h0) ?_ (by rw [hlen]; exact hv) (h v g s (at'.refl _) hr)
    rw [hlen]; unfold idx at hi; split at hi <;> omega
theorem Op2.itemT {xs : List D} {i : Int} (hd : xs[idx xs.length i]? = some d) (h0 : -(xs.length : Int) ≤ i) : Op2 S k getItem (.tup xs) (.int i) d := by
  intro A g s v₁ v₂ Q E at' r1 r2 h
  cases r2
  cases r1 with
  | tup e hl rs =>
    rename_i u a ws n
    have hlen := rs.length
    have hz := sizeLine_eq
    obtain ⟨v, hv, hr⟩ := rs.get _ hd
    have hi : idx xs.length i < xs.length := (List.getElem?_eq_some_iff.mp hd).1
    have hs : seqIndex? i ws.length = some (idx xs.length i) := by
      unfold idx at hi ⊢
      by_cases h1 : i < 0
      · rw [PySem.seqIndex_neg h1 (by omega), if_pos h1, hlen]
      · rw [if_neg h1] at hi ⊢
        obtain ⟨j, rfl⟩ := Int.eq_ofNat_of_zero_le (show 0 ≤ i by omega)
        unfold seqIndex?; simp at hi ⊢; omega
    refine P.getItem_tuple (n := n) (k := idx xs.length i) (y := v) (at'.keep _ _ e) (by omega) ?_ (by simpa using hs) (by simpa using hv) (h v g s (at'.refl _) hr)
    unfold idx at hi; split at hi <;> omega
theorem Op2.addL {xs ys : List D} (hz : xs.length + ys.length ≤ sizeLine) : Op2 S k (binaryOp .Add) (.list xs) (.list ys) (.list (xs ++ ys)) := by
  intro A g s v₁ v₂ Q E at' r1 r2 h
  cases r1 with
  | list e hl rs =>
  cases r2 with
  | list e' hl' rs' =>
    rename_i a ws n b us m
    have l1 := rs.length
    have l2 := rs'.length
    refine P.add_list (n := n) (n2 := m) (at'.keep _ _ e) (at'.keep _ _ e') ?_ (by simp; omega)
    obtain ⟨g', t', e''⟩ := at'.pushT (listO (ws ++ us) 0) s.toks (Nat.le_refl _)
    have key := h _ g' _ t' (.list e'' (by simp; omega) ((rs.append rs').mono t'.mono))
    simpa using key
theorem EV.sliceL {xs : List D} {lo hi : Option Expr} {i j : Option Int} {p : Pos} (h1 : EV S k f Γ e (.list xs)) (h2 : PV S k f Γ lo i) (h3 : PV S k f Γ hi j) (ht : ∀ o r, letTemporaryGo e o r = pure () := by intro _ _; rfl) :
    EV S k f Γ (.Subscript e (.Slice lo hi none p) pos) (.list (pick i j xs)) := by
  intro A g W env s Q E R st hQ
  refine wpAny_Subscript_list_slice (h1 A g W env s _ E R st fun v g1 s1 t1 r1 => h2.run A g1 W env s1 _ E R (st.move t1) fun p2 g2 s2 t2 e2 => h3.run A g2 W env s2 _ E R ((st.move t1).move t2) fun p3 g3 s3 t3 e3 => ?_) ht
  have a3 := (((st.move t1).move t2).move t3).at R
  have T := (t1.then t2).then t3
  have r3 := r1.mono (t2.mono.trans t3.mono)
  have part : ∀ {p : Option (Int × Tok)} {i : Option Int}, p.map Prod.fst = i → IsPart (partValue p) i := fun {p i} e => by
    cases p with
    | none => simp at e; subst e; exact .none
    | some q => simp at e; subst e; exact .int _ _
  cases r3 with
  | list e hl rs =>
    rename_i a ws n
    refine ⟨a, ws.toArray, i, j, rfl, ⟨_, t3.keep _ _ e, rfl, n, rfl⟩, by simpa using hl, part e2, part e3, ?_⟩
    rw [kms_pick_eq]
    obtain ⟨g4, t4, _⟩ := a3.push { cls := .type "slice", data := .fields #[partValue p2, partValue p3, .none] } (t := s3.toks)
    obtain ⟨g5, t5, e5⟩ := (t4.at R).push (listO (pick i j ws) 0) (t := s3.toks) (ht := Nat.le_refl _)
    rw [Heap.size_push] at e5
    exact hQ _ g5 _ ((T.then t4).then t5) (.list e5 (Nat.le_trans (pick_length_le _ _ _) hl) ((rs.mono (t4.mono.trans t5.mono)).pick i j))

/- ranges -/
theorem At.pushR {A : Around} {g : Heap} {s : Shared} (a : At S k A g s) (b c d : Int) (t u v : Tok) (tk : Nat) (ht : s.toks ≤ tk) :
    ∃ g', Tr S (Nw s) g s g' { s with heap := s.heap.push { cls := .type "range", data := .fields #[.int b t, .int c u, .int d v] }, toks := tk } ∧ Rd g' (.ref s.heap.objs.size) (.rng b c d) := by
  obtain ⟨g', t', e'⟩ := a.push { cls := .type "range", data := .fields #[.int b t, .int c u, .int d v] } (t := tk) (ht := ht)
  exact ⟨g', t', .rng e'⟩
theorem Ops.range1 {n : Int} : Ops S k (fun vs => call (.type "range") vs) [.int n] (.rng 0 n 1) := by
  intro A g s vs Q E at' rs h
  cases rs with
  | cons r1 r2 =>
    cases r2; cases r1
    rename_i t
    refine call_range_1 ?_
    obtain ⟨g', t', r'⟩ := at'.pushR 0 n 1 s.toks t (s.toks + 1) (s.toks + 1 + 1) (by omega)
    exact h _ g' _ t' r'
theorem Ops.range2 {m n : Int} : Ops S k (fun vs => call (.type "range") vs) [.int m, .int n] (.rng m n 1) := by
  intro A g s vs Q E at' rs h
  cases rs with
  | cons r1 r2 =>
    cases r2 with
    | cons r2 r3 =>
      cases r3; cases r1; cases r2
      rename_i t u
      refine call_range_2 ?_
      obtain ⟨g', t', r'⟩ := at'.pushR m n 1 t u s.toks (s.toks + 1) (by omega)
      exact h _ g' _ t' r'
theorem Rds.ints {g : Heap} {a c : Int} : ∀ (n i : Nat) (vs : List Value), vs.length = n → (∀ j v, vs[j]? = some v → ∃ t, v = Value.int (a + ((i + j : Nat) : Int) * c) t) → Rds g vs ((List.range n).map fun j => D.int (a + ((i + j : Nat) : Int) * c))
  | 0, _, [], _, _ => .nil
  | n + 1, i, v :: vs, hl, h => by
    obtain ⟨t, rfl⟩ := h 0 v rfl
    have ih := Rds.ints (g := g) n (i + 1) vs (by simpa using hl) fun j v hj => by
      have := h (j + 1) v (by simpa using hj)
      rwa [show i + (j + 1) = i + 1 + j by omega] at this
    rw [List.range_succ_eq_map]
    simp only [List.map_cons, List.map_map]
    refine .cons (.int _ t) ?_
    have e : ((fun j => D.int (a + ((i + j : Nat) : Int) * c)) ∘ Nat.succ) = fun j => D.int (a + ((i + 1 + j : Nat) : Int) * c) := by
      funext j; simp only [Function.comp]; congr 4; omega
    rw [e]; exact ih
theorem Ops.listRange {a b c : Int} {n : Nat} (hsm : Builtin.Range.small a b c = true) (hn : Builtin.Range.rangeSize a b c = (n : Int)) (hlen : n ≤ 2 ^ 24) : Ops S k (fun vs => call (.type "list") vs) [.rng a b c] (.list (intD a c n)) := by
  intro A g s vs Q E at' rs h
  cases rs with
  | cons r1 r2 =>
    cases r2
    cases r1 with
    | rng e =>
      rename_i r t u v
      refine wpAny_grown (call_list_range at'.room.handled (at'.keep _ _ e) hsm hn hlen fun h' tk acc' c' hk he hit G => ?_)
      obtain ⟨g', t', hnew, _⟩ := Tr.grow (s' := { s with heap := h', toks := tk }) (fun _ => True) at'.keep at'.base at'.tabs hk G.heap rfl rfl G.toks
      have hz := sizeLine_eq
      have hsz : acc'.size = n := hit.1
      refine h _ g' _ t' (.list (vs := acc'.toList) (n := c') (hnew _ _ (by simpa using he) (Nat.le_refl _) trivial) (by simp only [Array.length_toList]; omega) ?_)
      have := Rds.ints (g := g') (a := a) (c := c) n 0 acc'.toList (by simpa using hsz) fun j v hj => by
        have := hit.2 j v (by simpa using hj)
        simpa using this
      simpa [intD] using this

theorem Ops.typeS {a : List Nat} : Ops S k (fun vs => call (.type "type") vs) [.str a] (.raw (.type "str")) := Ops.typeOf rfl

/- one walk, the outcome found on the way -/
inductive Rest (S : Sig) (k : Nat) (f : Fi) (sts : List Stmt) (res : Res) : Res → Prop where
  | next {Γ : Ctxt} : EXs S k f Γ sts res → Rest S k f sts res (.next Γ)
  | stop {r : Res} : r = res → res.leaves = true → Rest S k f sts res r
theorem EXs.seq {st : Stmt} {r : Res} (h1 : EX S k f Γ st r) (h2 : Rest S k f sts res r) : EXs S k f Γ (st :: sts) res := by
  cases h2 with
  | next h => exact .cons h1 h
  | stop e h => subst e; exact .stop h1 h
theorem EXs.to {r : Res} (h : EXs S k f Γ sts r) (e : r = res) : EXs S k f Γ sts res := e ▸ h
theorem EX.ifB {cnd : Expr} {r : Res} (h1 : TV S k f Γ cnd b) (h2 : (b = true ∧ EXs S k f Γ body r) ∨ (b = false ∧ EXs S k f Γ orelse r)) : EX S k f Γ (.If cnd body orelse pos) r := by
  rcases h2 with ⟨rfl, h⟩ | ⟨rfl, h⟩
  · exact .ifT h1 h
  · exact .ifF h1 h
theorem EV.ifB {cnd : Expr} (h1 : TV S k f Γ cnd b) (h2 : (b = true ∧ EV S k f Γ l d) ∨ (b = false ∧ EV S k f Γ r d)) : EV S k f Γ (.IfExp cnd l r pos) d := by
  rcases h2 with ⟨rfl, h⟩ | ⟨rfl, h⟩
  · exact .ifT h1 h
  · exact .ifF h1 h
theorem ATV.andB (h1 : TV S k f Γ e b) (h2 : (b = true ∧ ATV S k f Γ .And es c) ∨ (b = false ∧ c = false)) : ATV S k f Γ .And (e :: es) c := by
  rcases h2 with ⟨rfl, h⟩ | ⟨rfl, rfl⟩
  · exact .andT h1 h
  · exact .andF h1
theorem ATV.orB (h1 : TV S k f Γ e b) (h2 : (b = true ∧ c = true) ∨ (b = false ∧ ATV S k f Γ .Or es c)) : ATV S k f Γ .Or (e :: es) c := by
  rcases h2 with ⟨rfl, rfl⟩ | ⟨rfl, h⟩
  · exact .orT h1
  · exact .orF h1 h
theorem BV.orB {e' : Expr} (h1 : EV S k f Γ e d₁) (h2 : OpT S k d₁ b) (h3 : (b = true ∧ d = d₁) ∨ (b = false ∧ BV S k f Γ .Or (e' :: es) d)) : BV S k f Γ .Or (e :: e' :: es) d := by
  rcases h3 with ⟨rfl, rfl⟩ | ⟨rfl, h⟩
  · exact .orStop h1 h2
  · exact .orGo h1 h2 h
end
end Mine
set_option maxRecDepth 100000
set_option linter.unusedVariables false
namespace Mine
open PySem PySem.W PySem.Calls PyProof.Rows

/-- the name at i is to hold a list of the frame's own -/
inductive OwnV (f : Fi) (i : Nat) : Prop where
  | intro : OwnV f i

section
variable {S : Sig} {k : Nat} {f : Fi} {Γ Γ' Γ₁ Γ₂ : Ctxt} {e l r : Expr} {es : List Expr} {d d₁ d₂ : D} {ds xs : List D} {pos p' npos apos : Pos} {sts body orelse : List Stmt} {res : Res} {b c : Bool} {x y : Str} {kd : NameKind} {i j : Nat} {v : Value} {op : Operator}

theorem Nm.lt (n : Nm f x i kd) : i < f.vars.length := (List.getElem?_eq_some_iff.mp n.hx).1
theorem EXs.freezeN (n : Nm f x j kd) (hj : Γ[j]? = some (some (.own xs))) (h : EXs S k f (Γ.set j (some (.val (.list xs)))) sts res) : EXs S k f Γ sts res := .freeze j hj h n.lt
theorem TV.borrowN (n : Nm f x j kd) (o : OwnV f j) (hj : Γ[j]? = some (some (.own xs))) (h : TV S k f (Γ.set j (some (.val (.list xs)))) e b) : TV S k f Γ e b := .borrow j hj h n.lt
theorem EX.ownN (n : Nm f x i .local) (o : OwnV f i) (h : EVs S k f Γ es ds)
    (hna : (Γ.all fun b => match b with | some (.app q) => q != i | _ => true) = true) (hl : ds.length ≤ sizeLine) (hΓ : Γ.length ≤ f.vars.length)
    (hs : ∀ env, swapsWithSole [.Name x npos] (.List es pos) p'.line env = pure false) (hw : ∀ env, swappedStores [.Name x npos] (.List es pos) env = pure none) :
    EX S k f Γ (.Assign [.Name x npos] (.List es pos) p') (.next (Γ.set i (some (.own ds)))) := .ownNew i n.hx n.hk h hna hl hs hw (fun _ _ => rfl) hΓ
theorem EX.appendN (n : Nm f x j .local) (hj : Γ[j]? = some (some (.own xs))) (h : EV S k f Γ e d) (hz : xs.length < sizeLine)
    (hse : ∀ env, starEach [e] env = (false, eval e env) :: starEach [] env) (hline : (apos.endLine == pos.line) = true)
    (hs : ∀ env, swapsWith (.Call (.Attribute (.Name x npos) "append" apos) [e] [] pos) none p'.line env = pure false) :
    EX S k f Γ (.Expr (.Call (.Attribute (.Name x npos) "append" apos) [e] [] pos) p') (.next (Γ.set j (some (.own (xs ++ [d]))))) :=
  .ownMeth j PySem.F.slot_list_append PySem.F.type_list_append n.hx hj (EVs.cons h .nil hse) (OwnOp.append hz) n.d1 hline (fun env => by rw [hse]; rfl) hs
theorem EX.popN {ys : List D} (n : Nm f x j .local) (hj : Γ[j]? = some (some (.own ys))) (hy : ys = xs ++ [d]) (hline : (apos.endLine == pos.line) = true)
    (hs : ∀ env, swapsWith (.Call (.Attribute (.Name x npos) "pop" apos) [] [] pos) none p'.line env = pure false) :
    EX S k f Γ (.Expr (.Call (.Attribute (.Name x npos) "pop" apos) [] [] pos) p') (.next (Γ.set j (some (.own xs)))) :=
  .ownMeth j PySem.F.slot_list_pop PySem.F.type_list_pop n.hx (hy ▸ hj) .nil OwnOp.pop n.d1 hline (fun env => rfl) hs
theorem EX.appBindN (n : Nm f x j .local) (m : Nm f y i .local) (hj : Γ[j]? = some (some (.own xs))) (hij : i ≠ j)
    (hna : (Γ.all fun b => match b with | some (.app q) => q != i | _ => true) = true)
    (hs : ∀ env, swapsWithSole [.Name y npos] (.Attribute (.Name x apos) "append" pos) p'.line env = pure false) (hw : ∀ env, swappedStores [.Name y npos] (.Attribute (.Name x apos) "append" pos) env = pure none) :
    EX S k f Γ (.Assign [.Name y npos] (.Attribute (.Name x apos) "append" pos) p') (.next (Γ.set i (some (.app j)))) := .appBind i j n.hx hj m.hx m.hk hij n.d1 hna hs hw (fun _ _ => rfl)
theorem EX.appCallN (n : Nm f y i .local) (hi : Γ[i]? = some (some (.app j))) (hj : Γ[j]? = some (some (.own xs))) (h2 : EV S k f Γ e d) (hz : xs.length < sizeLine) (hjl : Nm f x j kd)
    (hse : ∀ env, starEach [e] env = [(false, eval e env)])
    (hs : ∀ env, swapsWith (.Call (.Name y npos) [e] [] pos) none p'.line env = pure false) :
    EX S k f Γ (.Expr (.Call (.Name y npos) [e] [] pos) p') (.next (Γ.set j (some (.own (xs ++ [d]))))) := .appCall i j n.hx hi hj h2 hz hjl.lt n.d1 (fun _ => rfl) hse hs
theorem FL.fold {σ τ α : Type} {tg : Expr} (G : σ → τ → Ctxt) (it : α → D) (step : σ → α → σ) (I : Nat → σ → Prop) (all : List α)
    (hb : ∀ n s t a, a ∈ all → I (n + 1) s → I n (step s a) ∧ ∃ Γ₁ t', AS S k f (G s t) tg (it a) Γ₁ ∧ (EXs S k f Γ₁ body (.next (G (step s a) t')) ∨ EXs S k f Γ₁ body (.cont (G (step s a) t')))) :
    ∀ (as : List α) (s : σ) (t : τ), (∀ a ∈ as, a ∈ all) → I as.length s → I 0 (as.foldl step s) ∧ ∃ t', FL S k f tg body (G s t) (as.map it) (.next (G (as.foldl step s) t'))
  | [], s, t, _, h => ⟨h, t, .nil⟩
  | a :: as, s, t, hm, h => by
    obtain ⟨h1, Γ₁, t', h2, h3⟩ := hb as.length s t a (hm a (.head _)) h
    obtain ⟨h4, t'', h5⟩ := FL.fold G it step I all hb as (step s a) t' (fun b hb' => hm b (.tail _ hb')) h1
    refine ⟨h4, t'', ?_⟩
    rcases h3 with h3 | h3
    · exact .next h2 h3 h5
    · exact .cont h2 h3 h5
theorem EXs.forFold {σ τ α : Type} {iter tg : Expr} (G : σ → τ → Ctxt) (it : α → D) (step : σ → α → σ) (I : Nat → σ → Prop) (as : List α) (s : σ) (t : τ) (hΓ : Γ = G s t)
    (h1 : EV S k f Γ iter d) (h2 : It S k d tg (as.map it)) (hI : I as.length s)
    (hb : ∀ n s t a, a ∈ as → I (n + 1) s → I n (step s a) ∧ ∃ Γ₁ t', AS S k f (G s t) tg (it a) Γ₁ ∧ (EXs S k f Γ₁ body (.next (G (step s a) t')) ∨ EXs S k f Γ₁ body (.cont (G (step s a) t'))))
    (hr : ∀ t', I 0 (as.foldl step s) → EXs S k f (G (as.foldl step s) t') sts res) (hs : ∀ env x, foldedSetIterable iter env x = pure x := by intro _ _; rfl) :
    EXs S k f Γ (.For tg iter body [] pos :: sts) res := by
  subst hΓ
  obtain ⟨h3, t', h4⟩ := FL.fold (S := S) (k := k) (f := f) (tg := tg) (body := body) G it step I as hb as s t (fun _ h => h) hI
  exact .cons (EX.for h1 h2 h4 hs) (hr t' h3)
end

theorem last_item (xs : List D) (d : D) : (xs ++ [d])[idx (xs ++ [d]).length (-1)]? = some d := by
  have : idx (xs ++ [d]).length (-1) = xs.length := by simp [idx]; omega
  rw [this]; simp

theorem nil_or_snoc {α : Type} (xs : List α) : xs = [] ∨ ∃ ini last, xs = ini ++ [last] := by
  rcases List.eq_nil_or_concat xs with h | ⟨i, l, h⟩
  · exact .inl h
  · exact .inr ⟨i, l, by rw [h, List.concat_eq_append]⟩
theorem dec_nil (xs : List D) (h : xs = []) : decide (xs ≠ []) = false := by simp [h]
theorem dec_nil' (xs : List D) (h : xs = []) : (!decide (xs ≠ [])) = true := by simp [h]
theorem dec_snoc (xs : List D) (h : xs ≠ []) : decide (xs ≠ []) = true := by simp [h]
theorem dec_snoc' (xs : List D) (h : xs ≠ []) : (!decide (xs ≠ [])) = false := by simp [h]
theorem pick_to {α : Type} (l : List α) (n : Nat) : pick none (some (n : Int)) l = l.take n := by
  unfold pick kms_lo kms_hi
  simp only [List.drop_zero, Nat.sub_zero]
  rw [if_neg (by omega), Int.toNat_natCast, kmk_take_min]
theorem pick_from {α : Type} (l : List α) (n : Nat) : pick (some (n : Int)) none l = l.drop n := by
  unfold pick kms_lo kms_hi
  simp
  rw [if_neg (by omega)]
  rw [kmk_drop_min, List.take_of_length_le]
  simp; omega
theorem pick_mid {α : Type} (l : List α) (m n : Nat) : pick (some (m : Int)) (some (n : Int)) l = (l.take n).drop m := by
  unfold pick kms_lo kms_hi
  simp only []
  rw [if_neg (by omega), if_neg (by omega)]
  simp only [Int.toNat_natCast]
  rw [kmk_drop_min, List.drop_take]
  by_cases h : n ≤ l.length
  · by_cases h2 : m ≤ l.length
    · rw [Nat.min_eq_left h, Nat.min_eq_left h2]
    · rw [List.drop_of_length_le (by omega)]; simp
  · by_cases h2 : m ≤ l.length
    · rw [Nat.min_eq_right (by omega), Nat.min_eq_left h2, List.take_of_length_le (by simp), List.take_of_length_le (by simp; omega)]
    · rw [List.drop_of_length_le (by omega)]; simp
theorem splitC_sum (c : Nat) : ∀ xs, ((splitC c xs).map fun p => p.length + 1).sum = xs.length + 1
  | [] => rfl
  | x :: xs => by
    have ih := splitC_sum c xs
    unfold splitC
    split
    · simp [ih]; omega
    · split
      · rename_i h; exact absurd h (splitC_ne c xs)
      · rename_i h; rw [h] at ih; simp at ih ⊢; omega
noncomputable def lens (ps : List (List Nat)) : Nat := (ps.map fun p => p.length + 1).sum
theorem lens_append (a b : List (List Nat)) : lens (a ++ b) = lens a + lens b := by simp [lens]
theorem lens_dropLast (a : List (List Nat)) : lens a.dropLast ≤ lens a := by
  rcases nil_or_snoc a with rfl | ⟨i, l, rfl⟩
  · simp
  · rw [List.dropLast_concat, lens_append]; omega
theorem lens_length (a : List (List Nat)) : a.length ≤ lens a := by
  induction a with
  | nil => simp
  | cons x xs ih => simp [lens] at ih ⊢; omega
end Mine
set_option maxRecDepth 100000
set_option linter.unusedVariables false
namespace Mine
open PySem PySem.W PySem.Calls PyProof.Rows

section
variable {S : Sig} {k : Nat} {f fc : Fi} {Γ Γ' Γ₁ Γ₂ Γc : Ctxt} {e elt iter tg : Expr} {ifs : List Expr} {d d₁ d₂ : D} {ds outs : List D} {pos p' : Pos} {scope : Scope} {b : Bool}

/-- the tests of a comprehension -/
noncomputable def Ts (S : Sig) (k : Nat) (f : Fi) (Γ : Ctxt) (ifs : List Expr) (b : Bool) : Prop :=
  ∀ (A : Around) (g : Heap) (W : Addr → Prop) (env : Env) (s : Shared) (Q : Bool → Shared → Prop) (E : Value → Shared → Prop), Room k A → St S f Γ g W env s →
    (∀ g' s', Tr S (Nw s) g s g' s' → Q b s') → wpAny S.M A (forIn ifs true fun c r => if r = true then do let ok ← isTrue c env (eval c env); pure (ForInStep.yield ok) else pure (ForInStep.yield r)) Q E s
theorem Ts.nil : Ts S k f Γ [] true := fun A g W env s Q E R st h => wpAny_tests_nil (h g s ((st.at R).refl _))
theorem Ts.one (h1 : TV S k f Γ e b) : Ts S k f Γ [e] b := fun A g W env s Q E R st h => wpAny_tests_one (h1 A g W env s Q E R st h)

/-- the loop of a comprehension -/
inductive CL (S : Sig) (k : Nat) (f : Fi) (tg elt : Expr) (ifs : List Expr) : Ctxt → List D → List D → Prop where
  | nil {Γ : Ctxt} : CL S k f tg elt ifs Γ [] []
  | take {Γ Γ₁ : Ctxt} {d d' : D} {ds outs : List D} : AS S k f Γ tg d Γ₁ → Ts S k f Γ₁ ifs true → EV S k f Γ₁ elt d' → CL S k f tg elt ifs Γ₁ ds outs → CL S k f tg elt ifs Γ (d :: ds) (d' :: outs)
  | skip {Γ Γ₁ : Ctxt} {d : D} {ds outs : List D} : AS S k f Γ tg d Γ₁ → Ts S k f Γ₁ ifs false → CL S k f tg elt ifs Γ₁ ds outs → CL S k f tg elt ifs Γ (d :: ds) outs

theorem under_comp (A : Around) (elt : Expr) (gs : List Comprehension) (sc : Scope) (p : Pos) (it acc : Value) (env : Env) : A.under (.compLoop (.ListComp elt gs sc p) 0 it acc env) = A := Around.under_of_weight rfl

theorem compTurn_ok {A : Around} {c : Expr} {it acc : Value} {env : Env} {Q : PySem.Fin → Shared → Prop} {s : Shared}
    (h : wpAny S.M A (compTurn c 0 it acc env) Q (fun _ _ => False) s) {E : Value → Shared → Prop} : wpAny S.M A ((compTurn c 0 it acc env).onRaise (fun x => do noteFrame x env; theTreesLotGoes x)) Q E s :=
  wpAny_onRaise (wpAny_mono h (fun _ _ x => x) fun _ _ x => x.elim)

/-- the list that is being made, apart from all else -/
structure AccAt (F W : Addr → Prop) (g : Heap) (env : Env) (s : Shared) (ax : Addr) (xs : List D) : Prop where
  ex : ∃ ws n, s.heap.get? ax = some (listO ws n) ∧ Rds g ws xs
  out : g.get? ax = Option.none
  nF : ¬ F ax
  nW : ¬ W ax
  nc : ∀ x c, env.cells.lookup x = some c → c ≠ ax

theorem AccAt.move {F W V : Addr → Prop} {g g' : Heap} {env : Env} {s s' : Shared} {a : Addr} {xs : List D} (x : AccAt F W g env s a xs) (t : Tr S V g s g' s') (T : Tabs S g s) (hV : ¬ V a) : AccAt F W g' env s' a xs := by
  obtain ⟨⟨ws, n, e, rs⟩, h2, h3, h4, h5⟩ := x
  obtain ⟨o', e', l⟩ := t.same a _ hV (T.notT e nofun) e
  obtain rfl := l.eq (show Value.type "list" ≠ Value.type "frame" by decide)
  exact ⟨⟨ws, n, e', rs.mono t.mono⟩, t.none h2 hV, h3, h4, h5⟩

theorem CL.code {I : Addr} {F : Addr → Prop} {scope : Scope} {ax : Addr} (cl : CL S k f tg elt ifs Γ ds outs) : ∀ (A : Around) (g : Heap) (W : Addr → Prop) (env : Env) (s : Shared) (R : Result → Shared → Prop) (xs : List D), Room k A → St S f Γ g W env s → (∀ a, F a → ¬ W a) → (∀ x c, env.cells.lookup x = some c → ¬ F c) → (∀ a, F a → g.get? a = none) → (∀ a, F a → ¬ S.T a) →
    AccAt F W g env s ax xs → xs.length + ds.length ≤ sizeLine → Yl S k F I tg ds g s →
    (∀ g' s', Tr S (fun a => (W a ∨ F a) ∨ a = ax) g s g' s' → (∃ Γ', St S f Γ' g' W env s') → AccAt F W g' env s' ax (xs ++ outs) → R (.ok .next) s') → codeAny S.M A (.compLoop (.ListComp elt [⟨tg, iter, ifs, 0⟩] scope pos) 0 (.ref I) (.ref ax) env) R s := by
  induction cl with
  | nil =>
    intro A g W env s R xs Rm st hW hc hg hT ac hz y hR
    refine codeAny_of_tree ?_
    rw [under_comp]
    refine compTurn_ok ?_
    rw [compTurn_list]
    refine wpAny_bind (wpAny_standAt (wpAny_bind ?_))
    refine y A g s _ _ (st.at Rm) (.refl g) (.refl F s) hg fun g₁ s₁ t₁ => ?_
    have nV : ¬ (Nw s ax ∨ F ax) := fun q => q.elim (fun q => by obtain ⟨⟨ws, n, e, _⟩, _⟩ := ac; exact absurd (Heap.lt_size e) (Nat.not_lt.mpr q)) ac.nF
    refine wpAny_pure (hR g₁ s₁ (t₁.weak fun a q => .inl (q.imp (st.new a) id)) ⟨_, st.moveF t₁ hW hc⟩ ?_)
    rw [List.append_nil]
    exact ac.move t₁ st.tabs nV
  | take has hts hel _ ih =>
    intro A g W env s R xs Rm st hW hc hg hT ac hz y hR
    refine codeAny_of_tree ?_
    rw [under_comp]
    refine compTurn_ok ?_
    rw [compTurn_list]
    refine wpAny_bind (wpAny_standAt (wpAny_bind ?_))
    refine y A g s _ _ (st.at Rm) (.refl g) (.refl F s) hg fun v g₁ s₁ t₁ hg₁ hass => ?_
    have lt : ∀ {s : Shared} {g : Heap}, AccAt F W g env s ax xs → ¬ Nw s ax := fun ac q => by obtain ⟨⟨ws, n, e, _⟩, _⟩ := ac; exact absurd (Heap.lt_size e) (Nat.not_lt.mpr q)
    have ac₁ := ac.move t₁ st.tabs fun q => q.elim (lt ac) ac.nF
    have st₁ := st.moveF t₁ hW hc
    dsimp only
    refine bind_assoc' (hass f _ _ W env _ _ has st₁ hW hc fun g₂ s₂ t₂ hg₂ hfr st₂ y₂ => ?_)
    have ac₂ := ac₁.move t₂ st₁.tabs fun q => q.elim ac.nW ac.nF
    refine wpAny_bind (hts A g₂ W env s₂ _ _ Rm st₂ fun g₃ s₃ t₃ => ?_)
    have st₃ := st₂.move t₃
    have ac₃ := ac₂.move t₃ st₂.tabs (lt ac₂)
    rw [if_pos rfl]
    refine wpAny_bind (wpAny_bind (hel A g₃ W env s₃ _ _ Rm st₃ fun x g₄ s₄ t₄ r₄ => ?_))
    have st₄ := st₃.move t₄
    have ac₄ := ac₃.move t₄ st₃.tabs (lt ac₃)
    obtain ⟨⟨ws, n, e, rs⟩, h2, h3, h4, h5⟩ := ac₄
    have hlen := rs.length
    simp only [List.length_cons] at hz
    refine wpAny_bind (wpAny_list_append_plain ⟨n, e⟩ (fun h' hp hs => ?_) (by simp only [List.size_toArray]; omega))
    obtain ⟨n', e'⟩ := hp
    have t₅ : Tr S (fun a => a = ax) g₄ s₄ g₄ { s₄ with heap := h', toks := s₄.toks } := Tr.set st₄.keep st₄.base st₄.tabs hs rfl h2 (st₄.tabs.notT e nofun) (Nat.le_refl _)
    have st₅ : St S f _ g₄ W env { s₄ with heap := h' } := st₄.moveF (F := fun a => a = ax) (t₅.weak fun _ => .inr) (fun a q w => h4 (q ▸ w)) (fun x c q => h5 x c q)
    have ac₅ : AccAt F W g₄ env { s₄ with heap := h' } ax (xs ++ [_]) := ⟨⟨ws ++ [x], n', by simpa using e', rs.append (.cons r₄ .nil)⟩, h2, h3, h4, h5⟩
    have sm : Same F s₂ { s₄ with heap := h' } := by
      have a := (t₃.then t₄).keepF st₂.tabs (F := F) fun a o h e => ⟨fun q => hW a h (st₂.new a q), fun _ _ => hT a h, hfr a o h e⟩
      exact a.trans fun a o h e => (hs.2 a fun q => h3 (q ▸ h)).trans e
    refine wpAny_pure (wpAny_pure ⟨rfl, ih A g₄ W env _ R (xs ++ [_]) Rm st₅ hW hc (fun a h => t₄.none (t₃.none (hg₂ a h) fun q => hW a h (st₂.new a q)) fun q => hW a h (st₃.new a q)) hT ac₅ (by simp; omega) (y₂.mono (t₃.mono.trans t₄.mono) sm) fun g₆ s₆ t₆ st₆ ac₆ => ?_⟩)
    refine hR g₆ s₆ ((((((t₁.weak fun a q => .inl (q.imp (st.new a) id)).trans t₂ fun a q => .inl q).trans t₃ fun a q => .inl (.inl (st₂.new a q))).trans t₄ fun a q => .inl (.inl (st₃.new a q))).trans t₅ fun a q => .inr q).trans t₆ fun a q => q) st₆ (by simpa using ac₆)
  | skip has hts _ ih =>
    intro A g W env s R xs Rm st hW hc hg hT ac hz y hR
    refine codeAny_of_tree ?_
    rw [under_comp]
    refine compTurn_ok ?_
    rw [compTurn_list]
    refine wpAny_bind (wpAny_standAt (wpAny_bind ?_))
    refine y A g s _ _ (st.at Rm) (.refl g) (.refl F s) hg fun v g₁ s₁ t₁ hg₁ hass => ?_
    have lt : ∀ {s : Shared} {g : Heap}, AccAt F W g env s ax xs → ¬ Nw s ax := fun ac q => by obtain ⟨⟨ws, n, e, _⟩, _⟩ := ac; exact absurd (Heap.lt_size e) (Nat.not_lt.mpr q)
    have ac₁ := ac.move t₁ st.tabs fun q => q.elim (lt ac) ac.nF
    have st₁ := st.moveF t₁ hW hc
    dsimp only
    refine bind_assoc' (hass f _ _ W env _ _ has st₁ hW hc fun g₂ s₂ t₂ hg₂ hfr st₂ y₂ => ?_)
    have ac₂ := ac₁.move t₂ st₁.tabs fun q => q.elim ac.nW ac.nF
    refine wpAny_bind (hts A g₂ W env s₂ _ _ Rm st₂ fun g₃ s₃ t₃ => ?_)
    have st₃ := st₂.move t₃
    have ac₃ := ac₂.move t₃ st₂.tabs (lt ac₂)
    rw [if_neg Bool.false_ne_true]
    have sm : Same F s₂ s₃ := t₃.keepF st₂.tabs fun a o h e => ⟨fun q => hW a h (st₂.new a q), fun _ _ => hT a h, hfr a o h e⟩
    simp only [List.length_cons] at hz
    refine wpAny_pure ⟨rfl, ih A g₃ W env _ R xs Rm st₃ hW hc (fun a h => t₃.none (hg₂ a h) fun q => hW a h (st₂.new a q)) hT ac₃ (by omega) (y₂.mono t₃.mono sm) fun g₆ s₆ t₆ st₆ ac₆ => ?_⟩
    exact hR g₆ s₆ ((((t₁.weak fun a q => .inl (q.imp (st.new a) id)).trans t₂ fun a q => .inl q).trans t₃ fun a q => .inl (.inl (st₂.new a q))).trans t₆ fun a q => q) st₆ ac₆

/- what a comprehension takes from around it -/
noncomputable def relabelS (scope outer : Scope) : Scope :=
  { scope with names := scope.names.map fun (n, k) => if (k == .free && outer.kind == .function && outer.names.lookup n == some .cell) then (n, .cell) else (n, k) }
noncomputable def clOf (cells : List (Str × Addr)) : List (Str × NameKind) → List (Str × Addr) → List (Str × Addr)
  | [], acc => acc
  | (n, k) :: r, acc => clOf cells r (if k == .free then (n, (cells.lookup n).getD 0) :: acc else acc)
theorem closureFor_eq {scope : Scope} {env : Env} (h : ∀ x ∈ scope.names, x.2 = .free → ∃ c, env.cells.lookup x.1 = some c) : closureFor scope env = pure (clOf env.cells scope.names []) := by
  have key : ∀ (names : List (Str × NameKind)) (acc : List (Str × Addr)), (∀ x ∈ names, x.2 = .free → ∃ c, env.cells.lookup x.1 = some c) →
      (forIn names acc fun (p : Str × NameKind) (cs : List (Str × Addr)) => (if p.2 == NameKind.free then (do let c ← cellOf env p.1; pure (ForInStep.yield ((p.1, c) :: cs))) else pure (ForInStep.yield cs) : Sem (ForInStep (List (Str × Addr))))) = pure (clOf env.cells names acc) := by
    intro names
    induction names with
    | nil => intro acc _; rfl
    | cons x r ih =>
      intro acc hx
      obtain ⟨n, kk⟩ := x
      rw [List.forIn_cons]
      by_cases hk : kk = .free
      · subst hk
        obtain ⟨c, hc⟩ := hx (n, .free) (.head _) rfl
        have e : cellOf env n = pure c := by unfold cellOf; rw [hc]
        simp only [beq_self_eq_true, if_true, e, clOf, hc, Option.getD_some]
        exact ih _ fun y hy => hx y (.tail _ hy)
      · have hb : (kk == NameKind.free) = false := by simpa using hk
        simp only [hb, Bool.false_eq_true, if_false, clOf]
        exact ih _ fun y hy => hx y (.tail _ hy)
  unfold closureFor
  have := key scope.names [] h
  exact (congrArg (fun m : Sem (List (Str × Addr)) => m >>= fun s => pure s) this).trans rfl
theorem clOf_mem (cells : List (Str × Addr)) : ∀ (names : List (Str × NameKind)) (acc : List (Str × Addr)) (p : Str × Addr), p ∈ clOf cells names acc → p ∈ acc ∨ ((p.1, NameKind.free) ∈ names ∧ p.2 = (cells.lookup p.1).getD 0)
  | [], acc, p, h => .inl h
  | (n, k) :: r, acc, p, h => by
    rcases clOf_mem cells r _ p h with h' | h'
    · split at h'
      · rename_i hk
        have hk : k = .free := by simpa using hk
        subst hk
        rcases List.mem_cons.mp h' with rfl | h'
        · exact .inr ⟨.head _, rfl⟩
        · exact .inl h'
      · exact .inl h'
    · exact .inr ⟨.tail _ h'.1, h'.2⟩
theorem clOf_keeps (cells : List (Str × Addr)) : ∀ (names : List (Str × NameKind)) (acc : List (Str × Addr)) (p : Str × Addr), p ∈ acc → p ∈ clOf cells names acc
  | [], acc, p, h => h
  | (n, k) :: r, acc, p, h => clOf_keeps cells r _ p (by split; exact .tail _ h; exact h)
theorem clOf_has (cells : List (Str × Addr)) {y : Str} : ∀ (names : List (Str × NameKind)) (acc : List (Str × Addr)), (y, NameKind.free) ∈ names → ∃ c, (y, c) ∈ clOf cells names acc
  | (n, k) :: r, acc, h => by
    rcases List.mem_cons.mp h with e | h
    · cases e
      exact ⟨(cells.lookup y).getD 0, clOf_keeps cells r _ _ (by simp)⟩
    · exact clOf_has cells r _ h
theorem lookup_of_mem {y : Str} {c : Addr} : ∀ {l : List (Str × Addr)}, (y, c) ∈ l → ∃ c', l.lookup y = some c'
  | (n, a) :: r, h => by
    rw [List.lookup_cons]
    cases hb : y == n with
    | true => exact ⟨a, rfl⟩
    | false =>
      rcases List.mem_cons.mp h with e | h
      · cases e; simp at hb
      · exact lookup_of_mem h
theorem clOf_lookup {cells : List (Str × Addr)} {names : List (Str × NameKind)} {y : Str} {c : Addr} (h : (y, NameKind.free) ∈ names) (hc : cells.lookup y = some c) : (clOf cells names []).lookup y = some c := by
  obtain ⟨c', h'⟩ := clOf_has cells names [] h
  obtain ⟨c₂, h₂⟩ := lookup_of_mem h'
  rcases clOf_mem cells names [] _ (mem_of_lookup h₂) with q | q
  · cases q
  · have q := q.2
    simp only [hc, Option.getD_some] at q
    rw [h₂, q]

inductive Cap (f : Fi) (Γ : Ctxt) (y : Str) (d : D) : Prop where
  | cell (o : Nat) : f.vars[o]? = some y → Γ[o]? = some (some (.cell (some d))) → Cap f Γ y d
  | val (o : Nat) (kd : NameKind) : f.vars[o]? = some y → Γ[o]? = some (some (.val d)) → f.kinds[o]? = some kd → (kd = .cell ∨ kd = .free) → Cap f Γ y d
theorem St.cap {g : Heap} {W : Addr → Prop} {env : Env} {s : Shared} {y : Str} (st : St S f Γ g W env s) (c : Cap f Γ y d) : ∃ c v, env.cells.lookup y = some c ∧ s.heap.IsCell c (some v) ∧ Rd g v d := by
  obtain ⟨m, ad, hns, hb, hg, hH, hI⟩ := st.vars
  cases c with
  | cell o h1 h2 =>
    obtain ⟨_, c, ov, a1, a2, _, _, _, a3⟩ := hH o y _ h1 h2
    obtain ⟨v, rfl, r⟩ := a3 d rfl
    exact ⟨c, v, a1, a2, r⟩
  | val o kd h1 h2 h3 h4 =>
    obtain ⟨v, hv, r⟩ := hH o y _ h1 h2
    have hk : env.kindOf y = some kd := (kindOf_eq st.envIs y).trans (f.kind h1 h3)
    unfold Var at hv
    rw [hk] at hv
    rcases h4 with rfl | rfl
    · obtain ⟨c, a1, a2⟩ := hv; exact ⟨c, v, a1, a2, r⟩
    · obtain ⟨c, a1, a2⟩ := hv; exact ⟨c, v, a1, a2, r⟩
/-- the free names of a comprehension, all of them cells around it -/
inductive AllCap (f : Fi) (Γ : Ctxt) : List (Str × NameKind) → Prop where
  | nil : AllCap f Γ []
  | free {y : Str} {d : D} {r : List (Str × NameKind)} : Cap f Γ y d → AllCap f Γ r → AllCap f Γ ((y, .free) :: r)
  | other {y : Str} {kd : NameKind} {r : List (Str × NameKind)} : (kd == .free) = false → (kd == .cell) = false → AllCap f Γ r → AllCap f Γ ((y, kd) :: r)
theorem AllCap.free' {r : List (Str × NameKind)} (h : AllCap f Γ r) : ∀ x ∈ r, x.2 = .free → ∃ d, Cap f Γ x.1 d := by
  induction h with
  | nil => intro x hx; cases hx
  | free c _ ih =>
    intro x hx e
    rcases List.mem_cons.mp hx with rfl | hx
    · exact ⟨_, c⟩
    · exact ih x hx e
  | other a _ _ ih =>
    intro x hx e
    rcases List.mem_cons.mp hx with rfl | hx
    · simp at e; subst e; simp at a
    · exact ih x hx e
theorem AllCap.noCell {r : List (Str × NameKind)} (h : AllCap f Γ r) : ∀ x ∈ r, x.2 ≠ .cell := by
  induction h with
  | nil => intro x hx; cases hx
  | free c _ ih =>
    intro x hx
    rcases List.mem_cons.mp hx with rfl | hx
    · simp
    · exact ih x hx
  | other _ a _ ih =>
    intro x hx
    rcases List.mem_cons.mp hx with rfl | hx
    · intro e; simp at e; subst e; simp at a
    · exact ih x hx
/-- the names as the comprehension finds them -/
inductive CapL (f : Fi) (Γ : Ctxt) (sc : Scope) (names : List (Str × NameKind)) : List Str → Ctxt → Prop where
  | nil : CapL f Γ sc names [] []
  | skip {y : Str} {vs : List Str} {Γc : Ctxt} : CapL f Γ sc names vs Γc → CapL f Γ sc names (y :: vs) (none :: Γc)
  | cap {y : Str} {d : D} {vs : List Str} {Γc : Ctxt} : (names.any fun x => x.1 == y && x.2 == .free) = true → (sc.names.lookup y == some .cell || sc.names.lookup y == some .free) = true → Cap f Γ y d → CapL f Γ sc names vs Γc → CapL f Γ sc names (y :: vs) (some (.val d) :: Γc)
theorem CapL.get {sc : Scope} {names : List (Str × NameKind)} : ∀ {vs : List Str} {Γc : Ctxt}, CapL f Γ sc names vs Γc → ∀ (i : Nat) (y : Str) (b : B), vs[i]? = some y → Γc[i]? = some (some b) →
    (y, NameKind.free) ∈ names ∧ (sc.names.lookup y = some .cell ∨ sc.names.lookup y = some .free) ∧ ∃ d, b = .val d ∧ Cap f Γ y d
  | _, _, .nil, i, y, b, h, _ => by simp at h
  | _, _, .skip h, 0, y, b, _, e => by simp at e
  | _, _, .skip h, i + 1, y, b, e1, e2 => h.get i y b (by simpa using e1) (by simpa using e2)
  | _, _, .cap a1 a2 c h, 0, y, b, e1, e2 => by
    simp at e1 e2
    subst e1 e2
    refine ⟨?_, ?_, _, rfl, c⟩
    · obtain ⟨x, hx, hy⟩ := List.any_eq_true.mp a1
      simp at hy
      obtain ⟨n, kk⟩ := x
      obtain ⟨rfl, rfl⟩ := hy
      exact hx
    · simpa using a2
  | _, _, .cap a1 a2 c h, i + 1, y, b, e1, e2 => h.get i y b (by simpa using e1) (by simpa using e2)

theorem CapL.len {sc : Scope} {names : List (Str × NameKind)} {vs : List Str} {Γc : Ctxt} (h : CapL f Γ sc names vs Γc) : Γc.length = vs.length := by
  induction h with
  | nil => rfl
  | skip _ ih => simp [ih]
  | cap _ _ _ _ ih => simp [ih]
theorem CL.le (h : CL S k f tg elt ifs Γ ds outs) : outs.length ≤ ds.length := by
  induction h with
  | nil => simp
  | take _ _ _ _ ih => simp; exact ih
  | skip _ _ _ ih => simp; omega
theorem comp_core {vars : List Str} {kinds : List NameKind} {use : Option (Value → Sem Unit)} (hnd : vars.Nodup) (hok : ((vars.zip kinds).all fun p => (relabelS scope f.scope).names.lookup p.1 == some p.2) = true)
    (hkind : scope.kind = .function) (hloc : ∀ x ∈ scope.names, x.2 = .local → scope.names.lookup x.1 = some .local) (hfr : AllCap f Γ scope.names) (hcap : CapL f Γ (relabelS scope f.scope) scope.names vars Γc)
    (h1 : EV S k f Γ iter d) (h2 : It S k d tg ds) (hz : ds.length ≤ sizeLine)
    (h3 : ∀ fc : Fi, fc.scope = relabelS scope f.scope → fc.vars = vars → fc.kinds = kinds → CL S k fc tg elt ifs Γc ds outs) (hs : ∀ env x, foldedSetIterable iter env x = pure x)
    {A : Around} {g : Heap} {W : Addr → Prop} {env : Env} {s : Shared} {Q : Value → Shared → Prop} {E : Value → Shared → Prop} (R : Room k A) (st : St S f Γ g W env s)
    (hpost : ∀ (ax C : Addr) g' s', Tr S (Nw s) g s g' s' → Rd g' (.ref ax) (.list outs) → (∃ m, s'.heap.Ns C m) → g'.get? C = none → s.heap.objs.size ≤ C → compPost S.M A E use Q (.ref ax) C (.ok .next) s') :
    wpAny S.M A (comprehension (.ListComp elt [⟨tg, iter, ifs, 0⟩] scope pos) scope env p' (newList []) false (eval iter env) use) Q E s := by
  have hfree : ∀ x ∈ scope.names, x.2 = .free → ∃ c, env.cells.lookup x.1 = some c := fun x hx e => by
    obtain ⟨d, c⟩ := hfr.free' x hx e
    obtain ⟨c, _, h, _⟩ := st.cap c
    exact ⟨c, h⟩
  refine wpAny_comprehension_free (g := ⟨tg, iter, ifs, 0⟩) (gs := []) rfl (hs env) (closureFor_eq hfree) hkind hloc ?_
  refine h1 A g W env s _ E R st fun v g₁ s₁ t₁ r₁ => h2 A g₁ s₁ v _ E (t₁.at R) r₁ fun I F g₂ s₂ t₂ hF slf y => ?_
  have st₂ := (st.move t₁).move t₂
  refine wpAny_newObj_type (hd := by size_fits) ?_
  have a₂ := t₂.at R
  obtain ⟨g₃, t₃, _, hno₃⟩ := Tr.grow (s' := { s₂ with heap := s₂.heap.push (listO [] 0) }) (fun _ => False) a₂.keep a₂.base a₂.tabs (fun b x e => Heap.get?_push_of_some _ e) (by simp) rfl rfl (Nat.le_refl _)
  have st₃ := st₂.move t₃
  refine wpAny_grown (wpAny_newFunctionEnv hfr.noCell (by intro y hy; simp at hy) (fun h₁ hns hsb G => ?_) hkind)
  have hsz₃ : ({ s₂ with heap := s₂.heap.push (listO [] 0) } : Shared).heap.objs.size = s₂.heap.objs.size + 1 := by simp
  have old : Keep ({ s₂ with heap := s₂.heap.push (listO [] 0) } : Shared).heap h₁ := fun b o e => hsb.extBut b o (Nat.ne_of_lt (Heap.lt_size e)) (Heap.get?_push_of_some _ e)
  have a₃ := t₃.at R
  obtain ⟨g₄, t₄, _, hno₄⟩ := Tr.grow (s' := { s₂ with heap := h₁, toks := s₂.toks + ([] : List (Str × Value)).length }) (fun _ => False) a₃.keep a₃.base a₃.tabs old G.heap rfl rfl G.toks
  have st₄ := st₃.move t₄
  have sc : relabel scope env = relabelS scope f.scope := by
    show relabelS scope env.scope = _
    rw [st.envIs.scope]
  generalize hC : ({ s₂ with heap := s₂.heap.push (listO [] 0) } : Shared).heap.objs.size = C at *
  have hC' : C = s₂.heap.objs.size + 1 := by rw [← hC]; simp
  have lt₂ : s₂.heap.objs.size < C := by omega
  have eI : EnvIs (⟨relabelS scope f.scope, f.qual, f.code, vars, kinds, hnd, hok⟩ : Fi) { newEnv scope C env.globals (clOf env.cells scope.names []) env.qual none .none (some env) builtinsNs with scope := relabel scope env } :=
    ⟨sc, st.envIs.qual, st.envIs.code, st.envIs.globals, st.envIs.builtins, by show (relabel scope env).kind = _; exact hkind⟩
  have cells : ∀ x c, (clOf env.cells scope.names []).lookup x = some c → env.cells.lookup x = some c := fun x c e => by
    rcases clOf_mem env.cells scope.names [] _ (mem_of_lookup e) with q | q
    · cases q
    · obtain ⟨c', hc'⟩ := hfree _ q.1 rfl
      have q := q.2
      simp only at q hc'
      rw [hc'] at q
      rw [hc', q]; rfl
  have cellLt : ∀ x c, env.cells.lookup x = some c → c < s₁.heap.objs.size := fun x c e => (st.move t₁).clt x c e
  have s₁₂ : s₁.heap.objs.size ≤ s₂.heap.objs.size := t₂.size
  have szC : C ≤ h₁.objs.size := by have := t₄.size; rw [hC] at this; exact this
  have stc : St S (⟨relabelS scope f.scope, f.qual, f.code, vars, kinds, hnd, hok⟩ : Fi) Γc g₄ (Ab C) { newEnv scope C env.globals (clOf env.cells scope.names []) env.qual none .none (some env) builtinsNs with scope := relabel scope env } { s₂ with heap := h₁, toks := s₂.toks + ([] : List (Str × Value)).length } := by
    refine ⟨t₄.keep, t₄.base, t₄.now, eI, fun a l => Nat.le_trans szC l, fun x c e => Nat.lt_of_lt_of_le (cellLt x c (cells x c e)) (Nat.le_trans s₁₂ (Nat.le_trans t₃.size t₄.size)), _, fun _ => 0, hns, Nat.le_refl _, hno₄ C (Nat.le_refl _) id, fun i y b hy hb => ?_, fun i j xs ys e1 e2 _ => ?_⟩
    · obtain ⟨q1, q2, d', rfl, cp⟩ := hcap.get i y b hy hb
      obtain ⟨c, v, a1, a2, a3⟩ := st₄.cap cp
      have hl := clOf_lookup q1 a1
      refine ⟨v, ?_, a3⟩
      unfold Var
      rw [kindOf_eq eI]
      show match (relabelS scope f.scope).names.lookup y with | some .local => _ | some .cell => _ | some .free => _ | _ => False
      rcases q2 with q2 | q2
      · rw [q2]; exact ⟨c, hl, a2⟩
      · rw [q2]; exact ⟨c, hl, a2⟩
    · exfalso
      have hi : i < vars.length := by rw [← hcap.len]; exact (List.getElem?_eq_some_iff.mp e1).1
      obtain ⟨_, _, d', q, _⟩ := hcap.get i _ _ (List.getElem?_eq_getElem hi) e1
      cases q
  have sm : Same F s₂ { s₂ with heap := h₁, toks := s₂.toks + ([] : List (Str × Value)).length } := fun a o _ e => old a o (Heap.get?_push_of_some _ e)
  have hFT : ∀ a, F a → ¬ S.T a := fun a h q => by
    obtain ⟨p, hp, rfl⟩ := List.mem_map.mp q
    obtain ⟨ps, e', _⟩ := (st.move t₁).tabs.all p hp
    exact absurd (Heap.lt_size e') (Nat.not_lt.mpr (hF _ h).1)
  have hFs : ∀ a, F a → a < C := fun a h => Nat.lt_trans (hF a h).2.2 lt₂
  have noax : g₃.get? s₂.heap.objs.size = Option.none := hno₃ _ (Nat.le_refl _) id
  have getax : h₁.get? s₂.heap.objs.size = some (listO [] 0) := old _ _ (Heap.get?_push_size _ rfl)
  have nC₃ : ∀ a, a < C → ¬ Nw ({ s₂ with heap := s₂.heap.push (listO [] 0) } : Shared) a := fun a h q => by
    have q' : C ≤ a := by rw [← hC]; exact q
    exact absurd h (Nat.not_lt.mpr q')
  have loop : codeAny S.M A (.compLoop (.ListComp elt [⟨tg, iter, ifs, 0⟩] scope pos) 0 (.ref I) (.ref s₂.heap.objs.size) { newEnv scope C env.globals (clOf env.cells scope.names []) env.qual none .none (some env) builtinsNs with scope := relabel scope env }) (compPost S.M A E use Q (.ref s₂.heap.objs.size) C) { s₂ with heap := h₁, toks := s₂.toks + ([] : List (Str × Value)).length } := by
    refine (h3 ⟨relabelS scope f.scope, f.qual, f.code, vars, kinds, hnd, hok⟩ rfl rfl rfl).code (F := F) A g₄ (Ab C) _ _ _ [] R stc (fun a h q => absurd (hFs a h) (Nat.not_lt.mpr q)) (fun x c e h => absurd (cellLt x c (cells x c e)) (Nat.not_lt.mpr (hF c h).1))
      (fun a h => t₄.none (t₃.none (hF a h).2.1 (Nat.not_le.mpr (hF a h).2.2)) (nC₃ a (hFs a h))) hFT ⟨⟨[], 0, getax, .nil⟩, t₄.none noax (nC₃ _ lt₂), fun h => absurd (hF _ h).2.2 (Nat.lt_irrefl _), fun q => absurd lt₂ (Nat.not_lt.mpr q), fun x c e => Nat.ne_of_lt (Nat.lt_of_lt_of_le (cellLt x c (cells x c e)) s₁₂)⟩ (by simpa using hz) (y.mono (t₃.mono.trans t₄.mono) sm) fun g₅ s₅ t₅ st₅ ac₅ => ?_
    obtain ⟨Γ', st₅⟩ := st₅
    obtain ⟨⟨ws, n, e5, rs⟩, out5, _, _, _⟩ := ac₅
    rw [List.nil_append] at rs
    obtain ⟨g₆, t₆, in6, off6⟩ := Tr.take (W := fun a => a = s₂.heap.objs.size) st₅.keep st₅.base st₅.tabs e5 (st₅.tabs.notT e5 nofun) rfl
    obtain ⟨m5, _, ns5, _, no5, _⟩ := st₅.vars
    have big : s.heap.objs.size ≤ s₂.heap.objs.size := Nat.le_trans t₁.size t₂.size
    have T : Tr S (Nw s) g s g₆ s₅ := by
      refine ((((t₁.then t₂).then t₃).then t₄).trans t₅ fun a q => ?_).trans t₆ fun a q => ?_
      · rcases q with (q | q) | q
        · exact Nat.le_trans big (Nat.le_trans (Nat.le_of_lt lt₂) q)
        · exact Nat.le_trans t₁.size (hF a q).1
        · rw [q]; exact big
      · rw [q]; exact big
    refine hpost _ C g₆ s₅ T (.list in6 ?_ (rs.mono t₆.mono)) ⟨m5, ns5⟩ ?_ (Nat.le_trans big (Nat.le_of_lt lt₂))
    · rw [rs.length]; exact Nat.le_trans (CL.le (h3 ⟨relabelS scope f.scope, f.qual, f.code, vars, kinds, hnd, hok⟩ rfl rfl rfl)) hz
    · rw [off6 _ (Nat.ne_of_gt lt₂)]; exact no5
  exact codeAny_compStart_list loop (slf A g₄ _ _ _ (t₄.at R) (t₃.mono.trans t₄.mono) sm loop)

theorem EV.comp (vars : List Str) (kinds : List NameKind) (hnd : vars.Nodup) (hok : ((vars.zip kinds).all fun p => (relabelS scope f.scope).names.lookup p.1 == some p.2) = true)
    (hkind : scope.kind = .function) (hloc : ∀ x ∈ scope.names, x.2 = .local → scope.names.lookup x.1 = some .local) (hfr : AllCap f Γ scope.names) (hcap : CapL f Γ (relabelS scope f.scope) scope.names vars Γc)
    (h1 : EV S k f Γ iter d) (h2 : It S k d tg ds) (hz : ds.length ≤ sizeLine)
    (h3 : ∀ fc : Fi, fc.scope = relabelS scope f.scope → fc.vars = vars → fc.kinds = kinds → CL S k fc tg elt ifs Γc ds outs) (hs : ∀ env x, foldedSetIterable iter env x = pure x) :
    EV S k f Γ (.ListComp elt [⟨tg, iter, ifs, 0⟩] scope pos) (.list outs) := by
  intro A g W env s Q E R st hQ
  rw [eval_ListComp]
  show wpAny S.M A (comprehension _ scope env _ (newList []) false (eval iter env)) Q E s
  refine comp_core hnd hok hkind hloc hfr hcap h1 h2 hz h3 hs R st fun ax C g' s' t r hns hC hge => ?_
  obtain ⟨m, hns⟩ := hns
  refine ⟨m, hns, fun h' hsb => ?_⟩
  have nT : ¬ S.T C := by obtain ⟨o, es, ep, e, hd, _⟩ := hns; exact t.now.notT e (by rw [hd]; nofun)
  have t₂ : Tr S (fun a => a = C) g' s' g' { s' with heap := h', toks := s'.toks } := Tr.set t.keep t.base t.now hsb rfl hC nT (Nat.le_refl _)
  exact hQ _ g' _ (t.trans t₂ fun a q => by rw [q]; exact hge) r
theorem EX.assignComp {x : Str} {np : Pos} (vars : List Str) (kinds : List NameKind) (hnd : vars.Nodup) (hok : ((vars.zip kinds).all fun p => (relabelS scope f.scope).names.lookup p.1 == some p.2) = true)
    (hkind : scope.kind = .function) (hloc : ∀ x ∈ scope.names, x.2 = .local → scope.names.lookup x.1 = some .local) (hfr : AllCap f Γ scope.names) (hcap : CapL f Γ (relabelS scope f.scope) scope.names vars Γc)
    (h1 : EV S k f Γ iter d) (h2 : It S k d tg ds) (hz : ds.length ≤ sizeLine)
    (h3 : ∀ fc : Fi, fc.scope = relabelS scope f.scope → fc.vars = vars → fc.kinds = kinds → CL S k fc tg elt ifs Γc ds outs) (hs : ∀ env x, foldedSetIterable iter env x = pure x)
    (h4 : AS S k f Γ (.Name x np) (.list outs) Γ₁) (hsw : ∀ env, ∃ b, swapsWithSole [.Name x np] (.ListComp elt [⟨tg, iter, ifs, 0⟩] scope pos) p'.line env = pure b) (hw : ∀ env, swappedStores [.Name x np] (.ListComp elt [⟨tg, iter, ifs, 0⟩] scope pos) env = pure none) :
    EX S k f Γ (.Assign [.Name x np] (.ListComp elt [⟨tg, iter, ifs, 0⟩] scope pos) p') (.next Γ₁) := by
  intro A g W env s Q E R st hQ
  obtain ⟨b, hb⟩ := hsw env
  have ha : ∀ v, assignAll v ((assignEach [.Name x np] env).map (·.2)) = PySem.assign (.Name x np) env v := fun _ => rfl
  cases b with
  | false =>
    refine wpAny_Assign_stores (EV.comp vars kinds hnd hok hkind hloc hfr hcap h1 h2 hz h3 hs A g W env s _ E R st fun v g1 s1 t1 r1 => ?_) hb (hw env)
    rw [ha]
    exact h4 A g1 W env s1 v _ E R (st.move t1) r1 fun g2 s2 t2 st2 => hQ _ g2 s2 ((t1.weak st.new).trans t2 (fun _ q => q)) ⟨rfl, st2⟩
  | true =>
    rw [exec_Assign_arm]
    refine wpAny_bind (wpAny_standAt ?_)
    rw [hb]
    refine wpAny_bind (wpAny_pure ?_)
    rw [if_pos rfl]
    refine wpAny_bind ?_
    show wpAny S.M A (do let _ ← comprehension _ scope env _ (newList []) false (eval iter env) (some fun v => assignAll v ((assignEach [.Name x np] env).map (·.2)))) _ _ _
    refine wpAny_bind (comp_core hnd hok hkind hloc hfr hcap h1 h2 hz h3 hs R st fun ax C g' s' t r hns hC hge => ?_)
    obtain ⟨m, hns⟩ := hns
    show wpAny S.M A (assignAll (.ref ax) _) _ E s'
    rw [ha]
    have st' := st.without (F := fun a => a = C) t fun a q => by rw [q]; exact ⟨hge, hns.lt⟩
    refine h4 A g' _ env s' (.ref ax) _ E R st' r fun g2 s2 t2 st2 => ?_
    have hns2 := t2.ns t.now hns fun q => q.2 rfl
    refine ⟨m, hns2, fun h' hsb => wpAny_pure (wpAny_pure ?_)⟩
    have nT : ¬ S.T C := by obtain ⟨o, es, ep, e, hd, _⟩ := hns2; exact t2.now.notT e (by rw [hd]; nofun)
    have hC2 := t2.none hC fun q => q.2 rfl
    have t3 : Tr S (fun a => a = C) g2 s2 g2 { s2 with heap := h', toks := s2.toks } := Tr.set t2.keep t2.base t2.now hsb rfl hC2 nT (Nat.le_refl _)
    have st3 : St S f Γ₁ g2 _ env { s2 with heap := h' } := st2.moveF (F := fun a => a = C) (t3.weak fun _ => .inr) (fun a q w => w.2 q) (fun x c e q => by
      have := st.clt x c e
      rw [q] at this
      exact absurd this (Nat.not_lt.mpr hge))
    exact hQ _ g2 _ (((t.weak st.new).trans t2 fun _ q => q.1).trans t3 fun a q => by rw [q]; exact st.wide _ hge) ⟨rfl, st3.widen fun _ => And.left⟩
end
end Mine
set_option maxRecDepth 100000
set_option linter.unusedVariables false
namespace Mine
open PySem PySem.W PySem.Calls PyProof.Rows

section
variable {S : Sig} {k : Nat} {f : Fi} {Γ Γ' Γ₁ Γ₂ : Ctxt} {e e₁ e₂ : Expr} {es : List Expr} {d d₁ d₂ : D} {ds : List D} {pos p' p'' : Pos} {x y : Str} {i j : Nat} {v : Value}

theorem swapped2 {env : Env} {px py tp vp : Pos} {kt kv : Nat} (hx : env.kindOf x = some .local) (hy : env.kindOf y = some .local) (hb : env.blockKind = .function) (hl : (py.line == px.line) = true) (hne : (y == x) = false)
    (hs : ([e₁, e₂].any fun | .Starred .. => true | _ => false) = false) (h1 : [e₁, e₂].all (foldedForSure 8) = false) (h2 : [e₁, e₂].all (constantsAlone 8) = false) :
    swappedStores [.Tuple [.Name x px, .Name y py] kt tp] (.Tuple [e₁, e₂] kv vp) env = pure (some [x, y]) := by
  unfold swappedStores
  have hl' : py.line = px.line := by simpa using hl
  have hne' : ¬ y = x := by simpa using hne
  simp only [List.any_cons, List.any_nil, Bool.or_false, Bool.or_eq_false_iff] at hs
  simp [hx, hy, hb, h1, h2, Expr.pos, hl', List.eraseDups, List.eraseDupsBy, List.eraseDupsBy.loop]
  rw [if_neg, hne]
  · rfl
  · obtain ⟨a, b⟩ := hs
    rintro (h | h)
    · clear h1 h2 b; cases e₁ <;> first | (cases h; done) | (cases a; done)
    · clear h1 h2 a; cases e₂ <;> first | (cases h; done) | (cases b; done)
/-- x, y = (e1, e2): the stores go from behind -/
theorem EX.assign2 {px py tp vp : Pos} {kt kv : Nat} {kx ky : Nat} (nx : f.vars[i]? = some x) (kx : f.kinds[i]? = some .local) (ny : f.vars[j]? = some y) (ky : f.kinds[j]? = some .local) (hv : EV S k f Γ (.Tuple [e₁, e₂] kv vp) (.tup [d₁, d₂]))
    (hl : (py.line == px.line) = true) (hne : (y == x) = false) (hs : ([e₁, e₂].any fun | .Starred .. => true | _ => false) = false) (h1 : [e₁, e₂].all (foldedForSure 8) = false) (h2 : [e₁, e₂].all (constantsAlone 8) = false)
    (hsw : ∀ env, swapsWithSole [.Tuple [.Name x px, .Name y py] kt tp] (.Tuple [e₁, e₂] kv vp) p'.line env = pure false) :
    EX S k f Γ (.Assign [.Tuple [.Name x px, .Name y py] kt tp] (.Tuple [e₁, e₂] kv vp) p') (.next ((Γ.set j (some (.val d₂))).set i (some (.val d₁)))) := by
  intro A g W env s Q E R st hQ
  have hkx : env.kindOf x = some .local := (kindOf_eq st.envIs x).trans (f.kind nx kx)
  have hky : env.kindOf y = some .local := (kindOf_eq st.envIs y).trans (f.kind ny ky)
  have hb : env.blockKind = .function := by unfold Env.blockKind; rw [st.envIs.kind]; rfl
  rw [exec_Assign_arm]
  refine wpAny_bind (wpAny_standAt ?_)
  rw [hsw]
  refine wpAny_bind (wpAny_pure ?_)
  rw [if_neg (by decide)]
  refine wpAny_bind (hv A g W env s _ E R st fun v g1 s1 t1 r1 => ?_)
  rw [swapped2 hkx hky hb hl hne hs h1 h2]
  refine wpAny_bind (wpAny_pure ?_)
  have st1 := st.move t1
  cases r1 with
  | tup e hz rs =>
    rename_i a vs n
    have ht : s1.heap.IsTuple a vs.toArray := ⟨_, st1.keep _ _ e, rfl, n, rfl⟩
    have hlen := rs.length
    simp at hlen
    show wpAny S.M A (do rule "assign.swapped-stores"; let items ← unpackItems (.ref a) 2 none; assignInOrder [bindName env y, bindName env x] items.reverse; pure .next) Q E s1
    refine wpAny_bind (wpAny_rule (wpAny_bind (wpAny_grown ?_)))
    rw [show (2 : Nat) = vs.toArray.size by simp [hlen]]
    refine wpAny_unpackItems_tuple R.handled ht fun h' hx G => ?_
    have old : Keep s1.heap h' := fun b o e => hx b o (Nat.ne_of_lt (Heap.lt_size e)) e
    obtain ⟨g2, t2, _⟩ := Tr.grow (s' := { s1 with heap := h' }) (fun _ => False) st1.keep st1.base st1.tabs old G.heap rfl rfl (Nat.le_refl _)
    have st2 := st1.move t2
    cases rs with
    | cons r1 rs =>
      cases rs with
      | cons r2 rs =>
        cases rs
        rename_i v1 v2
        show wpAny S.M A (do (do holding [v1] (bindName env y v2); holding [] (bindName env x v1); pure ()); pure .next) Q E _
        refine wpAny_bind (wpAny_bind (wpAny_holding (wpAny_bindName (wp_storeVal ny ky st2 (r2.mono t2.mono) fun g3 s3 t3 st3 => wpAny_bind (wpAny_holding (wpAny_bindName (wp_storeVal nx kx st3 (r1.mono (t2.mono.trans t3.mono)) fun g4 s4 t4 st4 => wpAny_pure (wpAny_pure ?_))))))))
        exact hQ _ g4 s4 ((((t1.then t2).weak st.new).trans t3 fun _ q => q).trans t4 fun _ q => q) ⟨rfl, st4⟩

theorem Op2.notInS {c : Nat} {xs : List Nat} : Op2 S k (compareOp .NotIn) (.str [c]) (.str xs) (.bool (!decide (c ∈ xs))) := by
  intro A g s v₁ v₂ Q E at' r1 r2 h
  cases r1; cases r2
  refine P.notIn_str ?_
  have e := StrLaws.found_one ⟨xs.toArray⟩ c
  have e' : (!(Builtin.Str.occurrences ⟨xs.toArray⟩ ⟨[c].toArray⟩ 0 (⟨xs.toArray⟩ : Str).length 1).isEmpty) = decide (c ∈ xs) := by simpa using e
  rw [e']
  exact h _ g _ (at'.refl _) (.raw _)
/-- values whose identity is their own -/
noncomputable def solid : Value → Bool
  | .none => true
  | .bool _ => true
  | .ref _ => true
  | _ => false
theorem Op2.isSelf {v : Value} (hv : solid v = true) : Op2 S k (compareOp .Is) (.raw v) (.raw v) (.bool true) := by
  intro A g s v₁ v₂ Q E at' r1 r2 h
  cases r1; cases r2
  have fin := h _ g _ (at'.refl _) (.raw _)
  cases v <;> first | (cases hv; done) | exact wpAny_is_self rfl fin | exact wpAny_is_ref_self fin
theorem Op2.isNotSelf {v : Value} (hv : solid v = true) : Op2 S k (compareOp .IsNot) (.raw v) (.raw v) (.bool false) := by
  intro A g s v₁ v₂ Q E at' r1 r2 h
  cases r1; cases r2
  have fin := h _ g _ (at'.refl _) (.raw _)
  cases v <;> first | (cases hv; done) | exact wpAny_isNot_self rfl fin | exact wpAny_isNot_ref_self fin
theorem Op2.isOtherS {v : Value} {xs : List Nat} (hv : solid v = true) : Op2 S k (compareOp .Is) (.str xs) (.raw v) (.bool false) := by
  intro A g s v₁ v₂ Q E at' r1 r2 h
  cases r1; cases r2
  have fin := h _ g _ (at'.refl _) (.raw _)
  cases v <;> first | (cases hv; done) | exact wpAny_is_other rfl (by simp) fin
theorem Op2.isNotOtherS {v : Value} {xs : List Nat} (hv : solid v = true) : Op2 S k (compareOp .IsNot) (.str xs) (.raw v) (.bool true) := by
  intro A g s v₁ v₂ Q E at' r1 r2 h
  cases r1; cases r2
  have fin := h _ g _ (at'.refl _) (.raw _)
  cases v <;> first | (cases hv; done) | exact wpAny_isNot_other rfl (by simp) fin
/- replace of one sign, both texts spelt -/
theorem replC_none (c : Nat) (y : List Nat) : ∀ (xs : List Nat) (o : Nat), cutsC c o xs = [] → replC c y xs = xs
  | [], _, _ => rfl
  | x :: xs, o, h => by
    by_cases hx : x = c
    · simp [cutsC, hx] at h
    · simp only [cutsC, hx, if_false] at h
      have := replC_none c y xs _ h
      simp only [replC, List.flatMap_cons, hx, if_false] at this ⊢
      simp [this]
theorem cutsC_len (c : Nat) : ∀ (xs : List Nat) (o : Nat), (cutsC c o xs).length ≤ xs.length
  | [], _ => by simp [cutsC]
  | x :: xs, o => by
    have := cutsC_len c xs (o + 1)
    unfold cutsC; split <;> simp <;> omega
theorem replC_len (c : Nat) (y : List Nat) : ∀ xs : List Nat, (replC c y xs).length ≤ xs.length * (y.length + 1)
  | [] => by simp [replC]
  | x :: xs => by
    have := replC_len c y xs
    have e : replC c y (x :: xs) = (if x = c then y else [x]) ++ replC c y xs := rfl
    rw [e, List.length_append, List.length_cons, Nat.add_mul]
    split <;> (try simp only [List.length_cons, List.length_nil]) <;> omega
theorem wp_replace {A : Around} {E : Value → Shared → Prop} {s : Shared} {Q : Value → Shared → Prop} {xs y : List Nat} {c : Nat} {c1 y1 : Str} {t u w : Tok} (hc1 : Cs c1 [c]) (hy1 : Cs y1 y) (hne : (c1 == y1) = false) (hz : xs.length * (y.length + 1) ≤ sizeLine) (hu : u ≠ 0) (hw : w ≠ 0) (huw : u ≠ w)
    (h : ∀ t' tk, Q (.str ⟨(replC c y xs).toArray⟩ t') { s with toks := tk }) : wpAny S.M A (call (.builtin "str.replace") [.str ⟨xs.toArray⟩ t, .str c1 u, .str y1 w]) Q E s := by
  have ec : c1 = ⟨#[c]⟩ := by
    obtain ⟨a⟩ := c1; unfold Cs at hc1
    have : a = #[c] := Array.toList_inj.mp (by simpa using hc1)
    rw [this]
  have ey : y1 = ⟨y.toArray⟩ := by
    obtain ⟨a⟩ := y1; unfold Cs at hy1
    have : a = y.toArray := Array.toList_inj.mp (by simpa using hy1)
    rw [this]
  subst ec ey
  have hl : (⟨xs.toArray⟩ : Str).length = xs.length := by simp [Str.length]
  have hocc : Builtin.Str.occurrences ⟨xs.toArray⟩ ⟨#[c]⟩ 0 (⟨xs.toArray⟩ : Str).length ((⟨xs.toArray⟩ : Str).length + 1) = cutsC c 0 xs := by rw [hl]; exact occ_all xs c (xs.length + 1) (by omega)
  have hcl := cutsC_len c xs 0
  have h1 : ((⟨#[c]⟩ : Str).length == 0) = false := by simp [Str.length]
  have hmul : xs.length + xs.length * y.length = xs.length * (y.length + 1) := by rw [Nat.mul_add, Nat.mul_one]; omega
  refine call_gives PySem.F.slot_str_replace (typeIs_str _ _ _) PySem.F.entry_str_replace (PySem.F.args_str_replace_3 _ _ _) (gives_str_replace _ _ _ t u w fun _ => ⟨by simp [hu, hw], by simp [huw], by simpa using hne, ?_⟩) ?_
  · rw [hocc, hl]
    have : (cutsC c 0 xs).length * y.length ≤ xs.length * y.length := Nat.mul_le_mul_right _ hcl
    simp [Builtin.Str.tooLong, Str.length]
    omega
  · rw [hocc, h1, Bool.false_and, Bool.or_false]
    cases hn : (cutsC c 0 xs).isEmpty
    · rw [if_neg (by simp)]
      have hp : Builtin.Str.partsBetween ⟨xs.toArray⟩ (cutsC c 0 xs) (⟨#[c]⟩ : Str).length = (splitC c xs).map fun p => ⟨p.toArray⟩ := by
        have := parts_split c xs (xs.length + 1) (by omega)
        rw [occ_all xs c (xs.length + 1) (by omega)] at this
        exact this
      rw [hp, glued_eq, join_split]
      have := replC_len c y xs
      exact ⟨by show (replC c y xs).toArray.size ≤ _; simp; omega, h _ _⟩
    · rw [if_pos rfl]
      have := h t s.toks
      rw [replC_none c y xs 0 (by simpa using hn)] at this
      exact this

theorem EV.replaceC {o : Expr} {apos p1 p2 : Pos} {k1 k2 : Nat} {c1 y1 : Str} {xs y : List Nat} {c : Nat} (h1 : EV S k f Γ o (.str xs)) (hc1 : Cs c1 [c]) (hy1 : Cs y1 y) (hne : (c1 == y1) = false) (hz : xs.length * (y.length + 1) ≤ sizeLine)
    (hbase : ∀ env, attributeBase o "replace" env (eval o env) = eval o env) (hline : (apos.endLine == pos.line) = true) :
    EV S k f Γ (.Call (.Attribute o "replace" apos) [.Constant (.str c1) k1 p1, .Constant (.str y1) k2 p2] [] pos) (.str (replC c y xs)) := by
  intro A g W env s Q E R st hQ
  refine wpAny_Call_method (T := "str") (id := "str.replace") (hbase env) (by rfl) hline PySem.F.plainAttrs_str PySem.F.slot_str_replace PySem.F.type_str_replace ?_
  refine h1 A g W env s _ E R st fun ov g1 s1 t1 r1 => ?_
  cases r1
  rename_i t hs0
  refine ⟨typeIs_str _ _ _, nofun, ?_⟩
  refine callWith_of (P := fun h => S.K.In h) (by rfl) (Callee.builtin (S := S)) ?_
  refine evalArgs_any (by rfl) ?_
  show wpAny S.M A (spliced [(false, eval (.Constant (.str c1) k1 p1) env), (false, eval (.Constant (.str y1) k2 p2) env)]) _ _ _
  refine spliced_cons (Constant_str (spliced_cons (Constant_str (spliced_nil ?_))))
  have hpos := t1.now.pos
  refine ⟨t1.base.kin.keeps t1.keep, ?_⟩
  refine wpAny_grown (wp_replace hc1 hy1 hne hz (Nat.ne_of_gt hpos) (Nat.succ_ne_zero _) (Nat.ne_of_lt (Nat.lt_succ_self _)) fun t' tk G => ?_)
  have a1 := t1.at R
  refine hQ _ g1 _ (t1.then (a1.tick _ (t := tk) ?_)) (.str _ t' (Nat.le_trans (replC_len c y xs) hz))
  have := G.toks
  simp only at this
  omega
/-- f'a{e}b' -/
theorem EV.fstr3 {a b : Str} {as bs xs : List Nat} {k1 k2 : Nat} {p1 p2 p3 : Pos} (ha : Cs a as) (hb : Cs b bs) (h1 : EV S k f Γ e (.str xs)) (hz : as.length + xs.length + bs.length ≤ sizeLine) :
    EV S k f Γ (.JoinedStr [.Constant (.str a) k1 p1, .FormattedValue e (-1) none p2, .Constant (.str b) k2 p3] pos) (.str (as ++ xs ++ bs)) := by
  intro A g W env s Q E R st hQ
  have ea : a = ⟨as.toArray⟩ := by
    obtain ⟨z⟩ := a; unfold Cs at ha
    have : z = as.toArray := Array.toList_inj.mp (by simpa using ha)
    rw [this]
  have eb : b = ⟨bs.toArray⟩ := by
    obtain ⟨z⟩ := b; unfold Cs at hb
    have : z = bs.toArray := Array.toList_inj.mp (by simpa using hb)
    rw [this]
  subst ea eb
  refine JoinedStr_many (joinParts_cons (Constant_str ?_))
  have e1 : (Str.empty : Str) ++ ⟨as.toArray⟩ = ⟨as.toArray⟩ := strApp [] as
  show (Str.empty ++ ⟨as.toArray⟩ : Str).length ≤ sizeLine ∧ wpAny S.M A (joinParts (Str.empty ++ ⟨as.toArray⟩) _) Q E _
  rw [e1]
  refine ⟨by simp [Str.length]; omega, joinParts_cons ?_⟩
  have st1 : St S f Γ g W env { s with toks := s.toks + 1 } := st.move ((st.at R).tick _ (Nat.le_succ _))
  refine FormattedValue_plain (h1 A g W env _ _ E R st1 fun v g1 s1 t1 r1 => ?_)
  cases r1
  rename_i t hs0
  refine wpAny_grown (formatField_str (fun t' tk G => ?_) (by simp [Str.length]; omega))
  show ((⟨as.toArray⟩ : Str) ++ ⟨xs.toArray⟩ : Str).length ≤ sizeLine ∧ wpAny S.M A (joinParts (⟨as.toArray⟩ ++ ⟨xs.toArray⟩) _) Q E _
  rw [strApp]
  refine ⟨by simp [Str.length]; omega, joinParts_cons (Constant_str ?_)⟩
  show ((⟨(as ++ xs).toArray⟩ : Str) ++ ⟨bs.toArray⟩ : Str).length ≤ sizeLine ∧ wpAny S.M A (joinParts (⟨(as ++ xs).toArray⟩ ++ ⟨bs.toArray⟩) _) Q E _
  rw [strApp]
  refine ⟨by simp [Str.length]; omega, joinParts_nil ?_ (by simp [Str.length]; omega)⟩
  have a1 := t1.at R
  have T : Tr S (Nw s) g s g1 s1 := ((st.at R).tick _ (t := s.toks + 1) (Nat.le_succ _)).then t1
  refine hQ _ g1 _ (T.then (a1.tick _ (t := tk + 1 + 1) ?_)) (.str _ _ (by simp; omega))
  have := G.toks
  simp only at this
  omega
end
end Mine
set_option maxRecDepth 100000
set_option linter.unusedVariables false
namespace Mine
open PySem PySem.W PySem.Calls PyProof.Rows

section
variable {prog : Program} {w : World} {A : Around} {E : Value → Shared → Prop} {s : Shared} {d : Addr} {f : Int → Option Value}
theorem tl_hit {c : Nat} {y : Str} {u : Tok} {Q : Builtin.Str.Mapped → Shared → Prop} (hm : s.heap.MapOf (intKind prog w) d f) (hf : f c = some (.str y u)) (h : Q (.text y) { s with toks := s.toks + 1 + 1 }) : wpAny (model prog w) A (Builtin.Str.tableLookup (.ref d) c) Q E s := by
  unfold Builtin.Str.tableLookup
  refine wpAny_bind (wpAny_attempt (wpAny_bind (wpAny_mkInt ?_)))
  refine wpAny_getItem_of (knd := intKind prog w) (f := f) (k := (c : Int)) (by simp [intKind, Value.isInt]) hm hf ?_
  dsimp only
  refine wpAny_bind (wpAny_of_eq (a := none) rfl ?_)
  refine wpAny_bind (wpAny_of_eq (a := some y) rfl ?_)
  exact wpAny_pure h
theorem tl_miss {c : Nat} {Q : Builtin.Str.Mapped → Shared → Prop} (hh : A.handled = none) (hd : (d == sysModules) = false) (hm : s.heap.MapOf (intKind prog w) d f) (hf : f c = none) (h : ∀ h' tk, (∀ b o, s.heap.get? b = some o → h'.get? b = some o) → Q .keep { s with heap := h', toks := tk }) : wpAny (model prog w) A (Builtin.Str.tableLookup (.ref d) c) Q E s := by
  unfold Builtin.Str.tableLookup
  refine wpAny_bind (wpAny_attempt (wpAny_bind (wpAny_mkInt ?_)))
  refine wpAny_getItem_missing_of (knd := intKind prog w) (f := f) (k := (c : Int)) (by simp [intKind, Value.isInt]) hd hh hm hf fun h' e x => ?_
  dsimp only
  obtain ⟨ob, t, e1, e2, _⟩ := x.there
  refine wpAny_bind (wpAny_isInstance (T := "KeyError") (b := true) ⟨ob, e1, e2⟩ (by rw [isSubtype_type]; kernel_rfl) ?_)
  rw [if_pos rfl]
  exact wpAny_bind (wpAny_rule (wpAny_pure (h h' _ x.keeps)))
theorem translate1_hit {c : Nat} {y : List Nat} {t u : Tok} {Q : Value → Shared → Prop} (hm : s.heap.MapOf (intKind prog w) d f) (hf : f c = some (.str ⟨y.toArray⟩ u)) (hl : y.length = 2) (h : ∀ t' tk, Q (.str ⟨y.toArray⟩ t') { s with toks := tk }) :
    wpAny (model prog w) A (call (.builtin "str.translate") [.str ⟨#[c]⟩ t, .ref d]) Q E s := by
  refine wpAny_call_entry PySem.F.slot_str_translate (typeIs_str _ _ _) PySem.F.entry_str_translate ?_ (PySem.F.args_str_translate_2 _ _)
  unfold Builtin.«str.translate»
  refine wpAny_bind (wpAny_of_eq (a := (.str ⟨#[c]⟩ t, ⟨#[c]⟩, .ref d)) (by first | rfl | kernel_rfl) ?_)
  dsimp only
  rw [if_neg (by simp [Str.length])]
  rw [← Array.forIn_toList]
  show wpAny _ _ (forIn [c] _ _ >>= _) _ _ _
  rw [List.forIn_cons]
  refine wpAny_bind (wpAny_bind ?_)
  dsimp only
  rw [if_neg (by decide)]
  have e1 : (#[c].all fun x => decide (x < 128)) = decide (c < 128) := by simp
  have hl2 : (⟨y.toArray⟩ : Str).length = 2 := by simp [Str.length, hl]
  rw [e1]
  have tail : ∀ (known : List (Nat × Option Nat)) (tk : Nat) (b : List Str × Nat × Bool × List (Nat × Option Nat) × Bool), b = ([(⟨y.toArray⟩ : Str)], 0 + (⟨y.toArray⟩ : Str).length, false, known, false) →
      wpAny (model prog w) A.in1 (if Builtin.Str.tooLong b.2.1 = true then (do unsupported "str.translate:memory"; let r ← mkStr ⟨b.1.reverse.foldl (fun acc p => acc ++ p.cps) #[]⟩; ret r) else (do let r ← mkStr ⟨b.1.reverse.foldl (fun acc p => acc ++ p.cps) #[]⟩; ret r)) (fun fin s' => ∃ v, fin = PySem.Fin.done (.ret v) ∧ Q v s') E { s with toks := tk } := by
    intro known tk b hb
    subst hb
    dsimp only
    rw [if_neg (by rw [hl2]; decide)]
    refine wpAny_bind (wpAny_mkStr (wpAny_pure ⟨_, rfl, ?_⟩) (by simp [Str.length, hl]; decide))
    have := h tk (tk + 1)
    simpa using this
  cases hc : decide (c < 128)
  · rw [if_neg Bool.false_ne_true]
    rw [if_neg Bool.false_ne_true]
    refine wpAny_bind (tl_hit hm hf ?_)
    refine wpAny_pure ?_
    show wpAny _ _ (forIn [] _ _) _ _ _
    rw [List.forIn_nil]
    exact wpAny_pure (tail _ _ _ rfl)
  · rw [if_pos rfl]
    dsimp only [List.lookup_nil]
    refine wpAny_bind (tl_hit hm hf ?_)
    dsimp only
    rw [hl2]
    simp only [show ((2 : Nat) == 1) = false from rfl, Bool.false_and, Bool.false_eq_true, if_false]
    refine wpAny_bind (wpAny_pure (wpAny_bind (wpAny_rule (wpAny_bind (tl_hit hm hf ?_)))))
    refine wpAny_pure ?_
    show wpAny _ _ (forIn [] _ _) _ _ _
    rw [List.forIn_nil]
    exact wpAny_pure (tail _ _ _ rfl)

theorem translate1_miss {c : Nat} {t : Tok} {Q : Value → Shared → Prop} (hh : A.handled = none) (hd : (d == sysModules) = false) (hm : s.heap.MapOf (intKind prog w) d f) (hf : f c = none) (h : ∀ h' t' tk, (∀ b o, s.heap.get? b = some o → h'.get? b = some o) → Q (.str ⟨#[c]⟩ t') { s with heap := h', toks := tk }) :
    wpAny (model prog w) A (call (.builtin "str.translate") [.str ⟨#[c]⟩ t, .ref d]) Q E s := by
  refine wpAny_call_entry PySem.F.slot_str_translate (typeIs_str _ _ _) PySem.F.entry_str_translate ?_ (PySem.F.args_str_translate_2 _ _)
  unfold Builtin.«str.translate»
  refine wpAny_bind (wpAny_of_eq (a := (.str ⟨#[c]⟩ t, ⟨#[c]⟩, .ref d)) (by first | rfl | kernel_rfl) ?_)
  dsimp only
  rw [if_neg (by simp [Str.length])]
  rw [← Array.forIn_toList]
  show wpAny _ _ (forIn [c] _ _ >>= _) _ _ _
  rw [List.forIn_cons]
  refine wpAny_bind (wpAny_bind ?_)
  dsimp only
  rw [if_neg (by decide)]
  have e1 : (#[c].all fun x => decide (x < 128)) = decide (c < 128) := by simp
  rw [e1]
  have tail : ∀ (fast : Bool) (known : List (Nat × Option Nat)) (h' : Heap) (tk : Nat) (b : List Str × Nat × Bool × List (Nat × Option Nat) × Bool), (∀ b o, s.heap.get? b = some o → h'.get? b = some o) → b = ([(⟨#[c]⟩ : Str)], 0 + 1, fast, known, false) →
      wpAny (model prog w) A.in1 (if Builtin.Str.tooLong b.2.1 = true then (do unsupported "str.translate:memory"; let r ← mkStr ⟨b.1.reverse.foldl (fun acc p => acc ++ p.cps) #[]⟩; ret r) else (do let r ← mkStr ⟨b.1.reverse.foldl (fun acc p => acc ++ p.cps) #[]⟩; ret r)) (fun fin s' => ∃ v, fin = PySem.Fin.done (.ret v) ∧ Q v s') E { s with heap := h', toks := tk } := by
    intro fast known h' tk b hk hb
    subst hb
    dsimp only
    rw [if_neg (by decide)]
    refine wpAny_bind (wpAny_mkStr (wpAny_pure ⟨_, rfl, ?_⟩) (by simp [Str.length]; decide))
    have := h h' tk (tk + 1) hk
    simpa using this
  cases hc : decide (c < 128)
  · rw [if_neg Bool.false_ne_true]
    rw [if_neg Bool.false_ne_true]
    refine wpAny_bind (tl_miss hh hd hm hf fun h' tk hk => ?_)
    refine wpAny_pure ?_
    show wpAny _ _ (forIn [] _ _) _ _ _
    rw [List.forIn_nil]
    exact wpAny_pure (tail _ _ _ _ _ hk rfl)
  · rw [if_pos rfl]
    dsimp only [List.lookup_nil]
    refine wpAny_bind (tl_miss hh hd hm hf fun h' tk hk => ?_)
    dsimp only
    refine wpAny_bind (wpAny_pure ?_)
    refine wpAny_pure ?_
    show wpAny _ _ (forIn [] _ _) _ _ _
    rw [List.forIn_nil]
    exact wpAny_pure (tail _ _ _ _ _ hk rfl)
end

/- escape's table -/
inductive EscAll : List DictEntry → List Nat → Prop where
  | nil : EscAll [] []
  | cons {h : Int} {c : Nat} {t u : Tok} {x : Str} {l : List DictEntry} {cs : List Nat} : x = ⟨#[92, c]⟩ → h = hashInt c → EscAll l cs → EscAll (⟨h, .int c t, .str x u⟩ :: l) (c :: cs)
theorem EscAll.find {l : List DictEntry} {cs : List Nat} (h : EscAll l cs) (c : Nat) : (c ∈ cs ∧ ∃ u, (l.find? fun e => Value.isInt c e.key).map (·.val) = some (.str ⟨([92, c] : List Nat).toArray⟩ u)) ∨ (c ∉ cs ∧ (l.find? fun e => Value.isInt c e.key).map (·.val) = none) := by
  induction h with
  | nil => exact .inr ⟨by simp, rfl⟩
  | @cons hh c' t u x l cs e _ _ ih =>
    by_cases hc : c = c'
    · subst hc
      subst e
      exact .inl ⟨by simp, u, by simp [Value.isInt]⟩
    · have hb : Value.isInt (c : Int) (.int (c' : Int) t) = false := by simp [Value.isInt]; omega
      rw [List.find?_cons]
      simp only [hb]
      rcases ih with ⟨a, b⟩ | ⟨a, b⟩
      · exact .inl ⟨.tail _ a, b⟩
      · exact .inr ⟨by simp [hc, a], b⟩
theorem EscAll.keys {prog : Program} {w : World} {l : List DictEntry} {cs : List Nat} (h : EscAll l cs) : ∀ e ∈ l, ∃ k, (intKind prog w).is k e.key = true ∧ e.hash = (intKind prog w).hash k := by
  induction h with
  | nil => intro e he; cases he
  | @cons _ c' _ _ _ _ _ _ hh _ ih =>
    intro e he
    rcases List.mem_cons.mp he with rfl | he
    · exact ⟨(c' : Int), by simp [intKind, Value.isInt], hh⟩
    · exact ih e he
noncomputable def escC (cs : List Nat) (c : Nat) : List Nat := if c ∈ cs then [92, c] else [c]
theorem Ops.translate {S : Sig} {k : Nat} {d : Addr} {es : List DictEntry} {n : Nat} {cs : List Nat} (hK : S.K.lookup d = some { cls := .type "dict", data := .dict es.toArray n }) (he : EscAll es cs) (hd : (d == sysModules) = false) {c : Nat} :
    Ops S k (fun vs => call (.builtin "str.translate") vs) [.str [c], .raw (.ref d)] (.str (escC cs c)) := by
  intro A g s vs Q E at' rs h
  cases rs with
  | cons r1 r2 =>
    cases r2 with
    | cons r2 r3 =>
      cases r3; cases r2
      cases r1 with
      | str _ t hs0 =>
      have hz := sizeLine_eq
      have hg : s.heap.get? d = some { cls := .type "dict", data := .dict es.toArray n } := at'.keep _ _ (at'.base.kin _ _ hK)
      have hm : s.heap.MapOf (intKind S.prog S.w) d (findBy (intKind S.prog S.w).is es.toArray) := ⟨_, _, n, hg, ⟨rfl, rfl, rfl⟩, rfl, fun e h => he.keys e (by simpa using h), fun _ => rfl⟩
      have hf : findBy (intKind S.prog S.w).is es.toArray (c : Int) = (es.find? fun e => Value.isInt c e.key).map (·.val) := by simp [findBy, intKind]
      rcases he.find c with ⟨hin, u, hu⟩ | ⟨hin, hu⟩
      · refine wpAny_grown (translate1_hit (y := [92, c]) hm (hf.trans hu) rfl fun t' tk G => ?_)
        refine h _ g _ (at'.tick _ G.toks) ?_
        unfold escC; rw [if_pos hin]
        exact .str _ t' (by show 2 ≤ sizeLine; omega)
      · refine wpAny_grown (translate1_miss at'.room.handled hd hm (hf.trans hu) fun h' t' tk hk G => ?_)
        obtain ⟨g', t, _⟩ := Tr.grow (s' := { s with heap := h', toks := tk }) (fun _ => False) at'.keep at'.base at'.tabs hk G.heap rfl rfl G.toks
        refine h _ g' _ t ?_
        unfold escC; rw [if_neg hin]
        exact .str [c] t' (by show 1 ≤ sizeLine; omega)

theorem EX.assign2N {S : Sig} {k : Nat} {f : Fi} {Γ : Ctxt} {e₁ e₂ : Expr} {d₁ d₂ : D} {x y : Str} {i j : Nat} {px py tp vp p' : Pos} {kt kv : Nat} (nx : Nm f x i .local) (ny : Nm f y j .local) (hv : EV S k f Γ (.Tuple [e₁, e₂] kv vp) (.tup [d₁, d₂]))
    (hl : (py.line == px.line) = true) (hne : (y == x) = false) (hs : ([e₁, e₂].any fun | .Starred .. => true | _ => false) = false) (h1 : [e₁, e₂].all (foldedForSure 8) = false) (h2 : [e₁, e₂].all (constantsAlone 8) = false)
    (hsw : ∀ env, swapsWithSole [.Tuple [.Name x px, .Name y py] kt tp] (.Tuple [e₁, e₂] kv vp) p'.line env = pure false) :
    EX S k f Γ (.Assign [.Tuple [.Name x px, .Name y py] kt tp] (.Tuple [e₁, e₂] kv vp) p') (.next ((Γ.set j (some (.val d₂))).set i (some (.val d₁)))) := EX.assign2 (kx := 0) (ky := 0) nx.hx nx.hk ny.hx ny.hk hv hl hne hs h1 h2 hsw
end Mine
set_option linter.unusedVariables false
namespace Mine
open PySem PySem.W PySem.Calls PyProof.Rows
variable {S : Sig} {k : Nat} {f : Fi} {Γ : Ctxt} {res : Res} {sts : List Stmt} {pos : Pos}
noncomputable def looped {σ : Type} (c : σ → Bool) (step : σ → σ) : Nat → σ → σ
  | 0, s => s
  | n + 1, s => if c s then looped c step n (step s) else s
theorem looped_stop {σ : Type} {c : σ → Bool} {step : σ → σ} {s : σ} (h : c s = false) : ∀ n, looped c step n s = s
  | 0 => rfl
  | n + 1 => by simp [looped, h]
theorem WL.run {σ τ : Type} {test : Expr} {body : List Stmt} (G : σ → τ → Ctxt) (c : σ → Bool) (step : σ → σ) (I : σ → Prop) (μ : σ → Nat)
    (ht : ∀ s t, I s → TV S k f (G s t) test (c s))
    (hb : ∀ s t, I s → c s = true → I (step s) ∧ μ (step s) < μ s ∧ ∃ t', EXs S k f (G s t) body (.next (G (step s) t')) ∨ EXs S k f (G s t) body (.cont (G (step s) t'))) :
    ∀ (n : Nat) (s : σ) (t : τ), μ s ≤ n → I s → c (looped c step n s) = false ∧ I (looped c step n s) ∧ ∃ t', WL S k f test body (G s t) (.next (G (looped c step n s) t')) := by
  intro n
  induction n with
  | zero =>
    intro s t hn hI
    have h0 : c s = false := by
      cases hc : c s
      · rfl
      · have := (hb s t hI hc).2.1; omega
    exact ⟨h0, hI, t, .stop (h0 ▸ ht s t hI)⟩
  | succ n ih =>
    intro s t hn hI
    cases hc : c s
    · rw [looped_stop hc]
      exact ⟨hc, hI, t, .stop (hc ▸ ht s t hI)⟩
    · obtain ⟨h1, h2, t', h3⟩ := hb s t hI hc
      obtain ⟨h4, h5, t'', h6⟩ := ih (step s) t' (by omega) h1
      have h7 : looped c step (n + 1) s = looped c step n (step s) := by simp [looped, hc]
      rw [h7]
      refine ⟨h4, h5, t'', ?_⟩
      rcases h3 with h3 | h3
      · exact .next (hc ▸ ht s t hI) h3 h6
      · exact .cont (hc ▸ ht s t hI) h3 h6
theorem EXs.whileRun {σ τ : Type} {test : Expr} {body : List Stmt} (G : σ → τ → Ctxt) (c : σ → Bool) (step : σ → σ) (I : σ → Prop) (μ : σ → Nat) (n : Nat) (s : σ) (t : τ) (hΓ : Γ = G s t) (hn : μ s ≤ n) (hI : I s)
    (ht : ∀ s t, I s → TV S k f (G s t) test (c s))
    (hb : ∀ s t, I s → c s = true → I (step s) ∧ μ (step s) < μ s ∧ ∃ t', EXs S k f (G s t) body (.next (G (step s) t')) ∨ EXs S k f (G s t) body (.cont (G (step s) t')))
    (hr : ∀ t', c (looped c step n s) = false → I (looped c step n s) → EXs S k f (G (looped c step n s) t') sts res) :
    EXs S k f Γ (.While test body [] pos :: sts) res := by
  subst hΓ
  obtain ⟨h1, h2, t', h3⟩ := WL.run G c step I μ ht hb n s t hn hI
  exact .cons (EX.while h3) (hr t' h1 h2)
end Mine
set_option linter.unusedVariables false
namespace Mine
open PySem PySem.W PySem.Calls PyProof.Rows
variable {S : Sig} {k : Nat} {f : Fi} {Γ : Ctxt} {res : Res} {sts : List Stmt} {pos : Pos} {tg : Expr}
theorem It.range0 {n : Nat} (hsm : Builtin.Range.small 0 (n : Int) 1 = true) : It S k (.rng 0 (n : Int) 1) tg ((List.range n).map fun i : Nat => D.int (i : Int)) := by
  have h : intD 0 1 n = (List.range n).map fun i : Nat => D.int (i : Int) := by
    unfold intD
    refine List.map_congr_left fun i _ => ?_
    show D.int (0 + (i : Int) * 1) = D.int (i : Int)
    rw [Int.mul_one, Int.zero_add]
  rw [← h]
  refine It.range hsm ?_
  unfold Builtin.Range.rangeSize
  simp only [show (1 : Int) > 0 from by omega, if_true]
  by_cases hn : (0 : Int) < n
  · rw [if_pos hn]; omega
  · rw [if_neg hn]; omega
theorem ok_strs {m : Bool} {xs : List (List Nat)} (h : ∀ x ∈ xs, okC x = true) : D.ok m 8 (.list (xs.map .str)) = true := by
  simp only [D.ok, List.all_map, List.all_eq_true]
  intro x hx; exact h x hx
theorem bool_any {P : Bool → Prop} {p q : Prop} {i : Decidable p} {j : Decidable q} (e : p ↔ q) (h : P (@decide p i)) : P (@decide q j) := (decide_eq_decide.mpr e) ▸ h
theorem Op2.eqLS {xs ys : List (List Nat)} (h1 : ∀ x ∈ xs, okC x = true) (h2 : ∀ x ∈ ys, okC x = true) : Op2 S k (compareOp .Eq) (.list (xs.map .str)) (.list (ys.map .str)) (.bool (decide (xs = ys))) := by
  have h := Op2.eqD (S := S) (k := k) true (ok_strs h1) (ok_strs h2)
  have e : (D.list (xs.map .str) = D.list (ys.map .str)) ↔ xs = ys := by
    constructor
    · intro q; injection q with q
      exact (List.map_inj_right fun a b hab => by injection hab).mp q
    · rintro rfl; rfl
  exact bool_any (P := fun b => Op2 S k (compareOp .Eq) (.list (xs.map .str)) (.list (ys.map .str)) (.bool b)) e h
theorem pick_map {α β : Type} (g : α → β) (lo hi : Option Int) (l : List α) : pick lo hi (l.map g) = (pick lo hi l).map g := by
  unfold pick; simp
theorem pick_mem {α : Type} {lo hi : Option Int} {l : List α} {x : α} (h : x ∈ pick lo hi l) : x ∈ l := by
  unfold pick at h; exact List.mem_of_mem_drop (List.mem_of_mem_take h)
theorem small0 {n : Nat} (h : n ≤ 1000000000) : Builtin.Range.small 0 (n : Int) 1 = true := by
  have hr : Builtin.Range.rangeSize 0 (n : Int) 1 = (n : Int) := by
    unfold Builtin.Range.rangeSize
    simp only [show (1 : Int) > 0 from by omega, if_true]
    by_cases hn : (0 : Int) < n
    · rw [if_pos hn]; omega
    · rw [if_neg hn]; omega
  unfold Builtin.Range.small
  rw [hr]
  simp [Builtin.Range.rangeFitsLong]
  omega
end Mine
set_option linter.unusedVariables false
namespace Mine
open PySem PySem.W PySem.Calls PyProof.Rows
variable {S : Sig} {k : Nat} {f : Fi} {Γ : Ctxt} {res : Res} {sts : List Stmt} {pos : Pos} {tg : Expr}
theorem Op2.leS {a b : List Nat} : Op2 S k (compareOp .LtE) (.str a) (.str b) (.bool (!decide (b < a))) := by
  intro A g s v₁ v₂ Q E at' r1 r2 h
  cases r1; cases r2
  exact P.le_str (h _ g _ (at'.refl _) (.raw _))
theorem le1 (a b : Nat) : (!decide ([b] < [a])) = decide (a ≤ b) := by
  by_cases h : a ≤ b
  · have : ¬ [b] < [a] := by
      intro q
      cases q with
      | rel h' => omega
      | cons h' => cases h'
    simp [h, this]
  · have : [b] < [a] := List.Lex.rel (by omega)
    simp [h, this]
theorem Op2.leC {a b : Nat} : Op2 S k (compareOp .LtE) (.str [a]) (.str [b]) (.bool (decide (a ≤ b))) := by
  rw [← le1]; exact Op2.leS
theorem Op2.neB {a b : Bool} : Op2 S k (compareOp .NotEq) (D.bool a) (D.bool b) (.bool (a != b)) := by
  have h := Op2.neD (S := S) (k := k) (d₁ := D.bool a) (d₂ := D.bool b) true rfl rfl
  have e : (D.bool a = D.bool b) ↔ a = b := by
    constructor
    · intro q; injection q with q; injection q
    · rintro rfl; rfl
  have := bool_any (P := fun c => Op2 S k (compareOp .NotEq) (D.bool a) (D.bool b) (.bool (!c))) (j := instDecidableEqBool a b) e h
  have q : (!decide (a = b)) = (a != b) := by cases a <;> cases b <;> rfl
  rw [← q]; exact this
end Mine
set_option linter.unusedVariables false
namespace Mine
open PySem PySem.W PySem.Calls PyProof.Rows
variable {S : Sig} {k : Nat} {f fc : Fi} {Γ : Ctxt} {res : Res} {sts : List Stmt} {pos : Pos} {tg elt : Expr} {ifs : List Expr}
theorem CL.filter {α τ : Type} (it out : α → D) (keep : α → Bool) (G : τ → Ctxt) :
    ∀ (as : List α) (t : τ), (∀ a ∈ as, ∀ t, ∃ t', AS S k fc (G t) tg (it a) (G t') ∧ Ts S k fc (G t') ifs (keep a) ∧ (keep a = true → EV S k fc (G t') elt (out a))) →
      CL S k fc tg elt ifs (G t) (as.map it) ((as.filter keep).map out)
  | [], t, _ => .nil
  | a :: as, t, h => by
    obtain ⟨t', h1, h2, h3⟩ := h a (List.mem_cons_self ..) t
    have ih := CL.filter it out keep G as t' fun b hb => h b (List.mem_cons_of_mem _ hb)
    cases hk : keep a
    · rw [List.filter_cons_of_neg (by simp [hk])]
      exact .skip h1 (hk ▸ h2) ih
    · rw [List.filter_cons_of_pos hk]
      exact .take h1 (hk ▸ h2) (h3 hk) ih
theorem Nm.of {vars : List Str} {kinds : List NameKind} {x : Str} {i : Nat} {kd : NameKind} (h1 : fc.vars = vars) (h2 : fc.kinds = kinds) (a : vars[i]? = some x) (b : kinds[i]? = some kd)
    (d1 : (x == ("__debug__" : Str)) = false := by decide) (d2 : (x == ("__classdict__" : Str)) = false := by decide) : Nm fc x i kd := ⟨by rw [h1]; exact a, by rw [h2]; exact b, d1, d2⟩
theorem Raw.g {sc : Scope} {x : Str} {v : Value} (h : fc.scope = sc) (hk : sc.names.lookup x = some .globalImplicit) (hn : nsIn S.K mainGlobals x = some (some v)) (hd : (x == ("__debug__" : Str)) = false := by decide) : Raw S fc x v :=
  fun k Γ pos => EV.global (by rw [h]; exact hk) hn hd
theorem Raw.b {sc : Scope} {x : Str} {v : Value} (h : fc.scope = sc) (hk : sc.names.lookup x = some .globalImplicit) (hn : nsIn S.K mainGlobals x = some none) (hv : bootBuiltins x = some v) (hx : x ≠ "__name__" := by decide) (hd : (x == ("__debug__" : Str)) = false := by decide) : Raw S fc x v :=
  fun k Γ pos => EV.boot (by rw [h]; exact hk) hn hv hx hd
theorem rangeSz {a : Nat} {b : Nat} : Builtin.Range.rangeSize (a : Int) (b : Int) 1 = ((b - a : Nat) : Int) := by
  unfold Builtin.Range.rangeSize
  simp only [show (1 : Int) > 0 from by omega, if_true]
  by_cases hn : (a : Int) < b
  · rw [if_pos hn]; omega
  · rw [if_neg hn]; omega
theorem small2 {a b : Nat} (h : b ≤ 1000000000) (h' : a ≤ 1000000000) : Builtin.Range.small (a : Int) (b : Int) 1 = true := by
  unfold Builtin.Range.small
  rw [rangeSz]
  simp [Builtin.Range.rangeFitsLong]
  omega
theorem intD_eq (a n : Nat) : intD (a : Int) 1 n = (List.range' a n).map fun i : Nat => D.int (i : Int) := by
  unfold intD
  rw [List.range'_eq_map_range, List.map_map]
  refine List.map_congr_left fun i _ => ?_
  show D.int ((a : Int) + (i : Int) * 1) = D.int ((a + i : Nat) : Int)
  rw [Int.mul_one]; rfl
theorem Ops.listFrom {a b : Nat} (h : b ≤ 1000000) (h' : a ≤ 1000000) : Ops S k (fun vs => call (.type "list") vs) [.rng (a : Int) (b : Int) 1] (.list ((List.range' a (b - a)).map fun i : Nat => D.int (i : Int))) := by
  rw [← intD_eq]
  exact Ops.listRange (small2 (by omega) (by omega)) rangeSz (by omega)
end Mine
set_option maxRecDepth 100000
set_option linter.unusedVariables false
namespace Mine
open PySem PySem.W PySem.Calls PyProof.Rows
/-- the words of the pattern ([&~|]) -/
noncomputable def rcode : Array Nat := #[14, 14, 4, 1, 1, 9, 0, 64, 0, 1342177280, 0, 0, 0, 0, 0, 17, 0, 13, 11, 9, 0, 64, 0, 1342177280, 0, 0, 0, 0, 0, 17, 1, 1]
noncomputable def sig (c : Nat) : Bool := c == 38 || c == 124 || c == 126
theorem sig_bit : ∀ c : Fin 256, (rcode.getD (5 + (1 + c.val / 32)) 0).testBit (c.val % 32) = sig c.val := by decide
theorem inSet_r (c : Nat) (seen : Sre.Seen) : Sre.inSet rcode c 32 5 true seen = .ok (sig c, if sig c then seen.add 9 else (seen.add 9).add 0) := by
  by_cases h : c < 256
  · have hb := sig_bit ⟨c, h⟩
    simp only at hb
    show (if (decide (c < 256) && (rcode.getD (5 + (1 + c / 32)) 0).testBit (c % 32)) = true then Except.ok (true, seen.add 9) else .ok (!true, (seen.add 9).add 0)) = _
    rw [hb, decide_eq_true h, Bool.true_and]
    cases sig c <;> rfl
  · have hs : sig c = false := by unfold sig; simp; omega
    show (if (decide (c < 256) && (rcode.getD (5 + (1 + c / 32)) 0).testBit (c % 32)) = true then Except.ok (true, seen.add 9) else .ok (!true, (seen.add 9).add 0)) = _
    rw [hs, decide_eq_false h, Bool.false_and]; rfl
theorem admitted_none {m : Sre.M} (hm : m.code = rcode) : ∀ (fuel s : Nat) (seen : Sre.Seen), (∀ i, s ≤ i → i < m.lim → sig (m.text.getD i 0) = false) → ∃ seen', Sre.M.admitted m fuel s seen = .ok (none, seen')
  | 0, s, seen, _ => ⟨seen, rfl⟩
  | fuel + 1, s, seen, h => by
    unfold Sre.M.admitted
    by_cases hs : s ≥ m.lim
    · rw [if_pos hs]; exact ⟨seen, rfl⟩
    · rw [if_neg hs, hm]
      have e := inSet_r (m.text.getD s 0) seen
      have e2 : rcode.size = 32 := rfl
      rw [e2, e, h s (Nat.le_refl _) (by omega)]
      exact admitted_none hm fuel (s + 1) _ fun i h1 h2 => h i (by omega) h2
noncomputable def Dead (m : Sre.M) : Prop := m.outcome = none ∧ m.answer = some false ∧ m.frames = []
theorem attempt_none {m : Sre.M} {s : Nat} {first : Bool} (hm : m.code = rcode) (ho : m.outcome = none) (hf : m.frames = []) (h : ∀ i, s ≤ i → i < m.lim → sig (m.text.getD i 0) = false) : Dead (m.attemptFrom s first) := by
  have hq : m.hasFirstSet = true := by unfold Sre.M.hasFirstSet; rw [hm]; rfl
  obtain ⟨seen', h2⟩ := admitted_none hm (m.lim + 1 - s) s m.seen h
  unfold Sre.M.attemptFrom
  rw [hq, h2]
  exact ⟨ho, rfl, hf⟩
theorem search_none {text : Array Nat} {pos lim : Nat} {must : Bool} (h : ∀ i, pos ≤ i → i < lim → sig (text.getD i 0) = false) : Dead (Sre.forSearch rcode text 1 pos lim must) := by
  unfold Sre.forSearch
  by_cases c : (decide (pos > lim) || decide (lim - pos < (Sre.header rcode).1)) = true
  · simp only [c, if_true]; exact ⟨rfl, rfl, rfl⟩
  · show Dead (if _ then _ else _)
    rw [if_neg c]
    exact attempt_none rfl rfl rfl h
theorem run_failed {m : Sre.M} (h1 : m.outcome = none) (h2 : m.answer = some false) (h3 : m.frames = []) : ∃ m', m.runFor 4 = m' ∧ m'.outcome = some .failed := by
  refine ⟨_, rfl, ?_⟩
  have hs : m.step = { m with outcome := some .failed } := by
    unfold Sre.M.step
    rw [h1, h2, h3]; rfl
  unfold Sre.M.runFor
  rw [h1]
  simp only [Option.isSome_none, Bool.false_eq_true, if_false]
  rw [hs]
  unfold Sre.M.runFor
  rfl
end Mine
set_option maxRecDepth 100000
set_option linter.unusedVariables false
namespace Mine
open PySem PySem.W PySem.Calls PyProof.Rows
variable {S : Sig} {k : Nat} {f : Fi} {Γ : Ctxt} {A : Around} {E : Value → Shared → Prop} {s : Shared}
theorem wp_drive {m : Sre.M} {Q : Sre.M → Shared → Prop} (h : Dead m) (hQ : ∀ m' : Sre.M, m'.outcome = some .failed → Q m' s) : wpAny S.M A (Builtin.Re.reDrive (2 ^ 64) m) Q E s := by
  obtain ⟨m', h1, h2⟩ := run_failed h.1 h.2.1 h.2.2
  have e : (2 : Nat) ^ 64 = (2 ^ 64 - 1) + 1 := by decide
  rw [e]
  show wpAny S.M A (if (m.runFor 4).outcome.isSome then pure (m.runFor 4) else _) Q E s
  rw [h1, h2]
  exact wpAny_pure (hQ m' h2)
theorem wp_rerun {m : Sre.M} {Q : Option Sre.M → Shared → Prop} (h : Dead m) (hQ : Q none s) : wpAny S.M A (Builtin.Re.reRunToEnd m) Q E s := by
  unfold Builtin.Re.reRunToEnd
  refine wpAny_bind (wp_drive h fun m' h' => ?_)
  refine wpAny_bind (wpAny_forIn_list _ (fun _ _ s' => s' = s) _ ?_ ?_ _ _ rfl)
  · rintro x rest b s' rfl
    by_cases c : m'.seen.has x = true
    · simp only [c, if_true]
      exact wpAny_bind (wpAny_rule (wpAny_pure rfl))
    · simp only [c, if_false]
      exact wpAny_pure rfl
  · rintro b s' rfl
    rw [h']
    exact wpAny_pure hQ
end Mine
set_option maxRecDepth 100000
set_option linter.unusedVariables false
namespace Mine
open PySem PySem.W PySem.Calls PyProof.Rows
variable {S : Sig} {k : Nat} {f : Fi} {Γ : Ctxt} {A : Around} {E : Value → Shared → Prop} {s : Shared}
noncomputable def rvals : Array Value := #[.int 14 0, .int 14 0, .int 4 0, .int 1 0, .int 1 0, .int 9 0, .int 0 0, .int 64 0, .int 0 0, .int 1342177280 0, .int 0 0, .int 0 0, .int 0 0, .int 0 0, .int 0 0, .int 17 0, .int 0 0, .int 13 0, .int 11 0, .int 9 0, .int 0 0, .int 64 0, .int 0 0, .int 1342177280 0, .int 0 0, .int 0 0, .int 0 0, .int 0 0, .int 0 0, .int 17 0, .int 1 0, .int 1 0]
structure RePat (h : Heap) (a b : Addr) : Prop where
  pat : ∃ o p0 t, h.get? a = some o ∧ o.data = .fields #[p0, .int 32 t, .int 1 0, .none, .none, .ref b, .int 0 0]
  code : ∃ o n, h.get? b = some o ∧ o.data = .seq rvals n
theorem wp_whole {a b : Addr} {cs : List Nat} {t : Tok} {Q : Builtin.Re.ReTarget → Shared → Prop} (hp : RePat s.heap a b)
    (hQ : Q { pattern := .ref a, string := .str ⟨cs.toArray⟩ t, code := rcode, text := cs.toArray, kind := 0, groups := 1, pos := 0, lim := cs.toArray.size } s) :
    wpAny S.M A (Builtin.Re.reWholeTarget (.ref a) (.str ⟨cs.toArray⟩ t)) Q E s := by
  obtain ⟨o, p0, t0, h1, h2⟩ := hp.pat
  obtain ⟨o', n, h3, h4⟩ := hp.code
  unfold Builtin.Re.reWholeTarget
  refine wpAny_bind (wpAny_fieldsOf h1 h2 ?_)
  have e : Builtin.Re.reTextOf (.str ⟨cs.toArray⟩ t) = pure (cs.toArray, 0) := rfl
  rw [e]
  refine wpAny_bind (wpAny_pure ?_)
  show wpAny S.M A (do let x ← Builtin.Re.reRawItems (.ref b); pure (Builtin.Re.ReTarget.mk (.ref a) (.str ⟨cs.toArray⟩ t) (x.map (·.toNat)) cs.toArray 0 1 0 cs.toArray.size)) Q E s
  refine wpAny_bind ?_
  unfold Builtin.Re.reRawItems
  refine wpAny_bind (wpAny_seqItems h3 h4 (wpAny_pure (wpAny_pure ?_)))
  have ec : Array.map (fun x : Int => x.toNat) (Array.map Builtin.Re.reRawOf ((some rvals).getD #[])) = rcode := by
    apply Array.ext'
    simp only [Array.toList_map, Option.getD_some]
    rfl
  rw [ec]
  exact hQ
end Mine
set_option maxRecDepth 100000
set_option linter.unusedVariables false
namespace Mine
open PySem PySem.W PySem.Calls PyProof.Rows
variable {S : Sig} {k : Nat} {f : Fi} {Γ : Ctxt} {A : Around} {E : Value → Shared → Prop} {s : Shared}
theorem wp_subloop {a b l : Addr} {cs : List Nat} {t : Tok} {repl : Value} {o : Obj} {n : Nat} {Q : PySem.Fin → Shared → Prop} (hp : RePat s.heap a b) (hl : s.heap.get? l = some o) (hcl : o.cls = .type "list") (hd : o.data = .seq #[] n) (hno : ∀ c ∈ cs, sig c = false) (hz : cs.length ≤ sizeLine)
    (hQ : ∀ h' t' u, Heap.SameBut l s.heap h' → s.toks ≤ t' → u < t' → Q (.done (.ret (.str ⟨cs.toArray⟩ u))) { s with heap := h', toks := t' }) :
    wpAny S.M A (Builtin.«re.Pattern.sub.loop» ⟨[.ref a, .str ⟨cs.toArray⟩ t, repl, rawInt 1, rawInt 0, rawInt 0, rawInt 0, rawInt 0, .bool false, .ref l, .bool false], []⟩) Q E s := by
  obtain ⟨oc, od, oda, osl⟩ := o
  simp only at hcl hd
  subst hcl hd
  have hd : (⟨.type "list", od, .seq #[] n, osl⟩ : Obj).data = .seq #[] n := rfl
  unfold Builtin.«re.Pattern.sub.loop»
  simp only [rawInt]
  refine wpAny_bind (wp_whole hp ?_)
  have hs : Dead (Sre.forSearch rcode cs.toArray 1 0 cs.toArray.size false) := search_none fun i _ hi => by
    have hi' : i < cs.length := by simpa using hi
    have : cs.toArray.getD i 0 = cs[i] := by simp [Array.getD, hi']
    rw [this]; exact hno _ (List.getElem_mem hi')
  simp only [show ((1 : Int) == 0) = false from rfl, show ((0 : Int) != 0) = false from rfl, Bool.false_and, Bool.false_eq_true, if_false]
  refine wpAny_bind (wp_rerun hs ?_)
  simp only [Int.toNat_zero]
  by_cases h0 : cs = []
  · subst h0
    simp only [List.size_toArray, List.length_nil, Nat.lt_irrefl, if_false]
    refine wpAny_bind (show wpAny S.M A (mkStr ⟨(#[] : Array Nat).extract 0 0⟩) _ _ _ from wpAny_mkStr ?_ (by simp [Str.length]))
    refine wpAny_bind (wpAny_seqItems hl hd ?_)
    rw [if_pos (by rfl)]
    refine wpAny_bind (wpAny_pure (wpAny_pure ?_))
    exact hQ s.heap (s.toks + 1) s.toks (Heap.SameBut.refl _ _) (by omega) (by omega)
  · have hlen : 0 < cs.length := by cases cs with | nil => exact absurd rfl h0 | cons _ _ => simp
    simp only [List.size_toArray, hlen, if_true]
    have hx : (cs.toArray.extract 0 cs.length) = cs.toArray := by simp
    refine wpAny_bind (show wpAny S.M A (mkStr ⟨cs.toArray.extract 0 cs.length⟩) _ _ _ from ?_)
    rw [hx]
    refine wpAny_mkStr ?_ (by simpa [Str.length] using hz)
    refine wpAny_bind (wpAny_updateSeq hl hd ?_ (by simp) (by simp))
    have hl2 := Heap.get?_update_self (Obj.mapSeq fun x => x.push (.str ⟨cs.toArray⟩ s.toks)) hl rfl
    refine wpAny_bind (show wpAny S.M A (mkStr ⟨cs.toArray.extract 0 0⟩) _ _ _ from wpAny_mkStr ?_ (by simp [Str.length]))
    refine wpAny_bind (wpAny_seqItems hl2 rfl ?_)
    rw [if_neg (by intro h; cases h)]
    refine wpAny_bind (show wpAny S.M A (call (.builtin "str.join") [.str ⟨cs.toArray.extract 0 0⟩ _, .ref l]) _ _ _ from ?_)
    refine call_meets PySem.F.slot_str_join (typeIs_str _ _ _) PySem.F.entry_str_join (PySem.F.args_str_join_2 _ _) (meets_str_join_list _ _ l [(⟨cs.toArray⟩, s.toks)] ?_) ⟨⟨_, hl2, rfl, _, rfl⟩, ?_⟩
    · simp [Builtin.Str.tooLong, Str.length]; omega
    · refine wpAny_pure ?_
      exact hQ _ (s.toks + 2) s.toks (Heap.SameBut.update ..) (by omega) (by omega)
end Mine
set_option maxRecDepth 100000
set_option linter.unusedVariables false
namespace Mine
open PySem PySem.W PySem.Calls PyProof.Rows

/- what the manifest says of re.Pattern.sub -/
theorem plainAttrs_pat : PlainAttrs "re.Pattern" :=
  ⟨⟨"object.__getattribute__", by rw [typeLookup_type, builtinLookup_eq_fast]; kernel_rfl, by decide +kernel⟩, by rw [typeLookup_type, builtinLookup_eq_fast]; kernel_rfl⟩
theorem slot_pat_sub : Slot "re.Pattern" "sub" "re.Pattern.sub" :=
  .of (owner := "re.Pattern") (n := "sub") (by rw [typeLookup_type, builtinLookup_eq_fast]; kernel_rfl) (by decide +kernel) (by decide +kernel) (by decide +kernel)
    (by first | exact .inl (by decide +kernel) | exact .inr (by decide +kernel)) (by rw [isSubtype_type]; kernel_rfl)
theorem type_pat_sub : typeOf (.builtin "re.Pattern.sub") = pure (.type "method_descriptor") := by show builtinType _ = _; rw [builtinType_eq_fast]; kernel_rfl
theorem entry_pat_sub : entryFor table "re.Pattern.sub" = some Builtin.«re.Pattern.sub» := entryFor_of_tree (by kernel_rfl)
theorem entry_pat_loop : entryFor table "re.Pattern.sub.loop" = some Builtin.«re.Pattern.sub.loop» := entryFor_of_tree (by kernel_rfl)
theorem owner_pat : Manifest.owners.lookup (String.ofList ['n', 'r', 'e', 't', 't', 'a', 'P', '.', 'e', 'r'].reverse) = some Manifest.sig_re_Pattern := by kernel_rfl
theorem args_pat_sub (a b c : Value) : argsOk "re.Pattern.sub" ⟨[a, b, c], []⟩ := by
  unfold argsOk; rw [signature?_of (id := "re.Pattern.sub") (n := ['b', 'u', 's']) (o := ['n', 'r', 'e', 't', 't', 'a', 'P', '.', 'e', 'r']) (by kernel_rfl) owner_pat]; kernel_rfl
theorem look_fn_call : ∃ v, typeLookup (.type "function") "__call__" = pure (some v) := ⟨.builtin "function.__call__", by rw [typeLookup_type, builtinLookup_eq_fast]; kernel_rfl⟩
theorem pat_loop_plain : plainId "re.Pattern.sub.loop" = true := by decide +kernel

theorem codeAmong_app {pos pos' : Pos} {c : Value} : ∀ (l : List Value) (_ : TriplesOk l), ∀ cv, codeAmong pos' (l ++ [rawInt pos.line, rawInt pos.col, c]) = some cv → codeAmong pos' l = some cv ∨ (pos'.line = pos.line ∧ pos'.col = pos.col ∧ cv = c) := by
  intro l h
  fun_induction TriplesOk l with
  | case1 =>
    intro cv e
    simp only [List.nil_append, codeAmong, rawInt] at e
    split at e
    · rename_i q
      cases e
      simp at q
      exact .inr ⟨by omega, by omega, rfl⟩
    · cases e
  | case2 a t b u x rest ih =>
    intro cv e
    simp only [List.cons_append, codeAmong] at e ⊢
    split at e
    · rename_i hc; rw [if_pos hc]; exact .inl e
    · rename_i hc; rw [if_neg hc]; exact ih h cv e
  | case3 l h1 h2 => exact h.elim

/-- a table grew: all else was kept -/
theorem Tr.growT {S : Sig} {g : Heap} {s s' : Shared} {c P : Addr} {ps : Array Value} {line col : Int} {cv : Value} (k : Keep g s.heap) (B : Base S g) (T : Tabs S g s) (hq : (c, P) ∈ S.tabs) (hP : s.heap.get? P = some (tabObj ps)) {lpos : Pos}
    (old : ∀ b o, b ≠ P → s.heap.get? b = some o → s'.heap.get? b = some o) (hP' : s'.heap.get? P = some (tabObj (ps ++ #[rawInt lpos.line, rawInt lpos.col, cv])))
    (hrec : ∀ p' : Pos, p'.line = lpos.line → p'.col = lpos.col → s'.heap.CodeRec cv (S.qualAt p')) (hnew : ∀ a, cv = .ref a → s.heap.objs.size ≤ a)
    (hz : s.heap.objs.size ≤ s'.heap.objs.size) (hos : s'.os = s.os) (hg : s'.gens = s.gens) (ht : s.toks ≤ s'.toks) :
    ∃ g', Tr S (Nw s) g s g' s' ∧ (∀ b o, s'.heap.get? b = some o → s.heap.objs.size ≤ b → g'.get? b = some o) := by
  have nP : ∀ {b o}, g.get? b = some o → b ≠ P := fun {b o} e q => by rw [q, (B.heads _ hq).2] at e; cases e
  have mono : Keep g (cut s'.heap fun b => (g.get? b).isSome || decide (s.heap.objs.size ≤ b)) := fun b o e => cut_some.mpr ⟨by simp [e], old b o (nP e) (k b o e)⟩
  have fr : ∀ a o, (cut s'.heap fun b => (g.get? b).isSome || decide (s.heap.objs.size ≤ b)).get? a = some o → g.get? a = some o ∨ s.heap.objs.size ≤ a := fun a o e => by
    obtain ⟨e1, e2⟩ := cut_some.mp e
    cases q : g.get? a with
    | none => simp [q] at e1; exact .inr e1
    | some x => exact .inl ((old a x (nP q) (k a x q)).symm.trans e2)
  have hT : ∀ q ∈ S.tabs, (cut s'.heap fun b => (g.get? b).isSome || decide (s.heap.objs.size ≤ b)).get? q.2 = Option.none := fun q hq => by
    cases e : (cut s'.heap fun b => (g.get? b).isSome || decide (s.heap.objs.size ≤ b)).get? q.2 with
    | none => rfl
    | some o =>
      obtain ⟨ps, e', _⟩ := T.all q hq
      rcases fr _ _ e with h | h
      · rw [(B.heads q hq).2] at h; cases h
      · exact absurd (Heap.lt_size e') (Nat.not_lt.mpr h)
  have recN : ∀ q, s'.heap.CodeRec cv q → (cut s'.heap fun b => (g.get? b).isSome || decide (s.heap.objs.size ≤ b)).CodeRec cv q := fun q h => by
    obtain ⟨c', oc, vs, t, e1, e2, r⟩ := h
    exact ⟨c', oc, vs, t, e1, cut_some.mpr ⟨by simp [hnew c' e1], e2⟩, r⟩
  refine ⟨cut s'.heap fun b => (g.get? b).isSome || decide (s.heap.objs.size ≤ b), ?_, fun b o e l => cut_some.mpr ⟨by simp [l], e⟩⟩
  exact {
    mono := mono
    keep := fun b o e => (cut_some.mp e).2
    same := fun a o h nT e => ⟨o, old a o (fun q => nT (q ▸ List.mem_map_of_mem (f := (·.2)) hq)) e, .refl o⟩
    fresh := fun a o e => fr a o e
    size := hz
    tabs := fun q hq' ps' e => by
      by_cases hb : q.2 = P
      · rw [hb, hP] at e; cases e
        exact ⟨_, by rw [hb]; exact hP'⟩
      · exact ⟨#[], by rw [old _ _ hb e, Array.append_empty]⟩
    base := B.mono mono hT
    now := ⟨Nat.lt_of_lt_of_le T.pos ht, fun q hq' => by
      obtain ⟨ps', e1, e2, e3⟩ := T.all q hq'
      by_cases hb : q.2 = P
      · rw [hb, hP] at e1; cases e1
        have hl : (ps ++ #[rawInt lpos.line, rawInt lpos.col, cv]).toList = ps.toList ++ [rawInt lpos.line, rawInt lpos.col, cv] := by simp
        refine ⟨_, by rw [hb]; exact hP', by rw [hl]; exact TriplesOk_snoc _ _ _ _ e2, fun p' cv' e => ?_⟩
        rw [hl] at e
        rcases codeAmong_app _ e2 _ e with h | ⟨h1, h2, rfl⟩
        · exact (e3 p' cv' h).keeps mono
        · exact recN _ (hrec p' h1 h2)
      · exact ⟨ps', old _ _ hb e1, e2, fun p' cv' e => (e3 p' cv' e).keeps mono⟩⟩
    os := hos
    bare := fun h => by rw [hg]; exact h
    gens := by rw [hg]; exact Nat.le_refl _
    toks := ht }

/-- the function that a lambda makes: no cells -/
noncomputable abbrev lamO (name qual : Str) (params : Arguments) (body : Expr) (scope : Scope) (pm cv ctv : Value) : Obj := { cls := .type "function", data := .func (kla_fn name qual params body scope [] pm cv ctv) }
section
variable {S : Sig} {k : Nat} {f : Fi} {Γ : Ctxt} {pos lpos : Pos}
/-- a lambda's value: a new function of the world's -/
theorem wp_lambda {params : Arguments} {body : Expr} {scope : Scope} {c P : Addr} (hc : f.code = .ref c) (hq : (c, P) ∈ S.tabs) (hqual : ∀ p' : Pos, p'.line = lpos.line → p'.col = lpos.col → S.qualAt p' = f.qual ++ "<lambda>")
    (hdef : ∀ env, defaultsOf params env = ([], []) := by intro _; rfl) (hcl : ∀ env, closureFor scope env = pure [] := by intro _; rfl)
    {A : Around} {g : Heap} {W : Addr → Prop} {env : Env} {s : Shared} {Q : Value → Shared → Prop} {E : Value → Shared → Prop} (R : Room k A) (st : St S f Γ g W env s)
    (h : ∀ fa cv ctv pm g' s', Tr S (Nw s) g s g' s' → g'.get? fa = some (lamO "<lambda>" (f.qual ++ "<lambda>") params body scope pm cv ctv) → g'.CodeRec cv (f.qual ++ "<lambda>") → Q (.ref fa) s') :
    wpAny S.M A (eval (.Lambda params body scope lpos) env) Q E s := by
  have T := st.tabs
  have K := st.keep
  have B := st.base
  obtain ⟨bm, ob, hbm1, hbm2, hbm3, hbm4, hbm5, hbm6⟩ := B.bmain
  obtain ⟨CH, gP⟩ := B.heads _ hq
  obtain ⟨ps, hP, hok, hrec⟩ := T.all _ hq
  simp only at hP gP CH
  have hqu : env.qual = f.qual := st.envIs.qual
  have hbG : bm ≠ mainGlobals := fun q => by
    obtain ⟨o, es, ep, e, hd, _⟩ := B.glob
    rw [q, e] at hbm3; cases hbm3; rw [hd] at hbm6; cases hbm6
  have hbP : bm ≠ P := fun q => by rw [q, gP] at hbm3; cases hbm3
  have hgP : mainGlobals ≠ P := fun q => by
    obtain ⟨o, es, ep, e, hd, _⟩ := B.glob
    rw [q, gP] at e; cases e
  have BA : s.heap.BuiltinsAt S.mg P := ⟨bm, ob, hbm1, hbm2, hbG, hbP, K _ _ hbm3, hbm4, hbm5, hbm6⟩
  refine kla_eval (hdef env) ?_
  rw [hqu]
  refine wpAny_grown ?_
  cases hf : codeAmong lpos ps.toList with
  | some cv =>
    refine kla_makeFunctionHit (mg := S.mg) (hcl env) st.envIs.globals (B.glob.keeps K) (st.envIs.code.trans hc) (CH.keeps K) hP hok hf BA fun ctv h' tk hk hsz G => ?_
    obtain ⟨g', t, hn, _⟩ := Tr.grow (s' := { s with heap := h'.push (lamO "<lambda>" (f.qual ++ "<lambda>") params body scope ((S.mg "__name__").getD .none) cv ctv), toks := tk }) (fun _ => True) K B T (fun b o e => Heap.get?_push_of_some _ (hk b o e)) (by simp; omega) rfl rfl G.toks
    have hr := hrec lpos cv hf
    rw [hqual lpos rfl rfl] at hr
    exact h _ cv ctv _ g' _ t (hn _ _ (Heap.get?_push_size _ rfl) hsz trivial) (hr.keeps t.mono)
  | none =>
    refine kla_makeFunction (mg := S.mg) (hcl env) st.envIs.globals (B.glob.keeps K) (st.envIs.code.trans hc) (CH.keeps K) hP hok hf hgP BA fun c' ctv h' tk hx hge hlt hr htb G => ?_
    obtain ⟨g', t, hn⟩ := Tr.growT (s' := { s with heap := h'.push (lamO "<lambda>" (f.qual ++ "<lambda>") params body scope ((S.mg "__name__").getD .none) (.ref c') ctv), toks := tk }) (lpos := lpos) (cv := .ref c') (line := 0) (col := 0) K B T hq hP
      (fun b o hb e => Heap.get?_push_of_some _ (hx b o hb e)) (Heap.get?_push_of_some _ htb) (fun p' h1 h2 => by rw [hqual p' h1 h2]; exact hr.keeps fun b o e => Heap.get?_push_of_some _ e) (fun a e => by cases e; exact hge) (by simp; omega) rfl rfl G.toks
    obtain ⟨c2, oc, vs, tt, e1, e2, e3, e4⟩ := hr
    cases e1
    exact h _ (.ref c') ctv _ g' _ t (hn _ _ (Heap.get?_push_size _ rfl) (by omega)) ⟨c', oc, vs, tt, rfl, hn _ _ (Heap.get?_push_of_some _ e2) hge, e3, e4⟩
end
end Mine
set_option maxRecDepth 100000
set_option linter.unusedVariables false
namespace Mine
open PySem PySem.W PySem.Calls PyProof.Rows
theorem reNamed2 (r s : Value) : Builtin.Re.reNamed "re.Pattern.sub" "sub" ["repl", "string", "count"] 2 [r, s] [] = pure [some r, some s, none] := rfl
section
variable {S : Sig} {k : Nat} {f : Fi} {Γ : Ctxt} {A : Around} {E : Value → Shared → Prop} {s : Shared}
theorem wp_notHeld {x : Str} {t : Tok} {id : String} {Q : Unit → Shared → Prop} (h : Q () s) : wpAny S.M A (Builtin.Re.reNotHeld id (.str x t)) Q E s := by
  unfold Builtin.Re.reNotHeld
  refine wpAny_bind (wpAny_isInstance (U := "bytearray") (b := false) (typeIs_str _ _ _) (by rw [isSubtype_type]; kernel_rfl) ?_)
  exact wpAny_pure h
theorem wp_patsub {a b fa : Addr} {cs : List Nat} {t : Tok} {fd : FuncData} {op : Obj} {Q : Value → Shared → Prop} (hp : RePat s.heap a b) (ha : s.heap.get? a = some op) (hcls : op.cls = .type "re.Pattern") (hf : s.heap.get? fa = some { cls := .type "function", data := .func fd }) (hno : ∀ c ∈ cs, sig c = false) (hz : cs.length ≤ sizeLine)
    (hQ : ∀ h' t' u, (∀ b o, s.heap.get? b = some o → h'.get? b = some o) → s.heap.objs.size ≤ h'.objs.size → s.toks ≤ t' → u < t' → Q (.str ⟨cs.toArray⟩ u) { s with heap := h', toks := t' }) :
    wpAny S.M A (call (.builtin "re.Pattern.sub") [.ref a, .ref fa, .str ⟨cs.toArray⟩ t]) Q E s := by
  refine wpAny_call (codeAny_call_builtin slot_pat_sub.plain entry_pat_sub (slot_pat_sub.check _ _ _ _ _ _ _ _ ⟨op, ha, hcls⟩ (args_pat_sub _ _ _) ?_))
  unfold Builtin.«re.Pattern.sub» Builtin.Re.reSubstitute
  show wpAny S.M A.in1 (do
    let x ← Builtin.Re.reNamed "re.Pattern.sub" "sub" ["repl", "string", "count"] 2 [.ref fa, .str ⟨cs.toArray⟩ t] []
    _) _ _ s
  rw [reNamed2]
  refine wpAny_bind (wpAny_pure ?_)
  refine wpAny_bind (wpAny_pure ?_)
  obtain ⟨cv, hcv⟩ := look_fn_call
  have hT : s.TypeIs (.ref fa) "function" := ⟨_, hf, rfl⟩
  refine wpAny_bind (show wpAny S.M A.in1 (do typeLookup (← typeOf (.ref fa)) "__call__") _ _ s from wpAny_bind (wpAny_typeOf hT (wpAny_of_eq hcv ?_)))
  simp only [Option.isSome_some, if_true]
  refine wpAny_bind (wpAny_pure ?_)
  refine wpAny_bind (wpAny_pure ?_)
  refine wpAny_bind (wpAny_holding (wp_whole hp ?_))
  simp only [show ((1 : Int) == 1) = true from rfl, if_true]
  refine wpAny_bind (wp_notHeld ?_)
  refine wpAny_bind (wpAny_newList (items := []) ?_)
  refine wpAny_pure ⟨plainId_quiet pat_loop_plain _, codeAny_builtin entry_pat_loop ?_⟩
  rw [Around.under_plainId pat_loop_plain]
  have hp' : RePat (s.heap.push { cls := .type "list", data := .seq [].toArray }) a b := by
    obtain ⟨⟨o, p0, t0, h1, h2⟩, ⟨o', n, h3, h4⟩⟩ := hp
    exact ⟨⟨o, p0, t0, Heap.get?_push_of_some _ h1, h2⟩, ⟨o', n, Heap.get?_push_of_some _ h3, h4⟩⟩
  refine wp_subloop (s := { s with heap := s.heap.push { cls := .type "list", data := .seq [].toArray } }) hp' (Heap.get?_push_size _ rfl) rfl rfl hno hz fun h' t' u hs ht hu => ?_
  refine hQ h' t' u (fun b' o e => (hs.2 b' (Nat.ne_of_lt (Heap.lt_size e))).trans (Heap.get?_push_of_some _ e)) ?_ ht hu
  have := hs.1
  simp only [Heap.size_push] at this
  omega

/-- the pattern object of the written heap -/
structure PatAt (S : Sig) (a b : Addr) : Prop where
  pat : ∃ o p0 t, S.K.lookup a = some o ∧ o.cls = .type "re.Pattern" ∧ o.dict = none ∧ o.data = .fields #[p0, .int 32 t, .int 1 0, .none, .none, .ref b, .int 0 0]
  code : ∃ o n, S.K.lookup b = some o ∧ o.data = .seq rvals n

/-- pattern.sub(lambda .., text): nothing to be found -/
theorem EV.subLam {x : Str} {a b c P : Addr} {cs : List Nat} {params : Arguments} {body : Expr} {scope : Scope} {arg : Expr} {p0 apos lpos pos : Pos} (hx : Raw S f x (.ref a)) (hp : PatAt S a b) (hc : f.code = .ref c) (hq : (c, P) ∈ S.tabs)
    (hqual : ∀ p' : Pos, p'.line = lpos.line → p'.col = lpos.col → S.qualAt p' = f.qual ++ "<lambda>") (h1 : EV S k f Γ arg (.str cs)) (hno : ∀ c ∈ cs, sig c = false) (hz : cs.length ≤ sizeLine)
    (hdef : ∀ env, defaultsOf params env = ([], []) := by intro _; rfl) (hcl : ∀ env, closureFor scope env = pure [] := by intro _; rfl)
    (hbase : ∀ env, attributeBase (.Name x p0) "sub" env (eval (.Name x p0) env) = eval (.Name x p0) env := by intro _; rfl)
    (hline : (apos.endLine == pos.line) = true := by rfl)
    (htr : ∀ env, backTo pos (starEach [.Lambda params body scope lpos, arg] env) = [(false, eval (.Lambda params body scope lpos) env), (false, eval arg env)] := by intro _; rfl) :
    EV S k f Γ (.Call (.Attribute (.Name x p0) "sub" apos) [.Lambda params body scope lpos, arg] [] pos) (.str cs) := by
  intro A g W env s Q E R st hQ
  refine wpAny_Call_method (T := "re.Pattern") (id := "re.Pattern.sub") (hbase env) (by rw [htr]; rfl) hline plainAttrs_pat slot_pat_sub type_pat_sub ?_
  refine hx k Γ p0 A g W env s _ E R st fun ov g1 s1 t1 r1 => ?_
  cases r1
  obtain ⟨⟨o, q0, t0, hl, hcls, hdict, hdata⟩, ⟨o', n', hl', hd'⟩⟩ := hp
  have K1 := t1.base.kin.keeps t1.keep
  refine ⟨⟨o, K1 _ _ hl, hcls⟩, fun a' q => by cases q; exact ⟨o, K1 _ _ hl, hdict⟩, ?_⟩
  rw [htr]
  refine callWith_of (P := fun h => S.K.In h) (by rfl) (Callee.builtin (S := S)) ?_
  refine evalArgs_any (by rfl) ?_
  refine spliced_cons (wp_lambda hc hq hqual hdef hcl R (st.move t1) fun fa cv ctv pm g2 s2 t2 hfa _ => ?_)
  refine spliced_cons (h1 A g2 W env s2 _ E R ((st.move t1).move t2) fun v3 g3 s3 t3 r3 => spliced_nil ?_)
  have K3 := t3.base.kin.keeps t3.keep
  refine ⟨K3, ?_⟩
  cases r3 with
  | str _ tk hs =>
    refine wpAny_grown (wp_patsub (op := o) ⟨⟨o, q0, t0, K3 _ _ hl, hdata⟩, ⟨o', n', K3 _ _ hl', hd'⟩⟩ (K3 _ _ hl) hcls (t3.keep _ _ (t3.mono _ _ hfa)) hno hz fun h' t' u hk hsz ht hu G => ?_)
    obtain ⟨g4, t4, _⟩ := Tr.grow (s' := { s3 with heap := h', toks := t' }) (fun _ => False) t3.keep t3.base t3.now hk hsz rfl rfl ht
    exact hQ _ g4 _ (((t1.then t2).then t3).then t4) (.str _ u hz)
end
end Mine
set_option maxRecDepth 100000
set_option linter.unusedVariables false
namespace Mine
open PySem PySem.W PySem.Calls PyProof.Rows
section
variable {S : Sig} {k : Nat} {f : Fi} {Γ : Ctxt} {res : Res} {sts : List Stmt} {pos p' npos : Pos} {x : Str} {i : Nat} {es : List Expr} {ds : List D} {e : Expr}
/-- a new list, named by its address alone -/
theorem EXs.listRaw {Γ₁ : Addr → Ctxt} (h : EVs S k f Γ es ds) (hA : ∀ a : Addr, AS S k f Γ (.Name x npos) (.raw (.ref a)) (Γ₁ a)) (hl : ds.length ≤ sizeLine)
    (hr : ∀ a : Addr, EXs S k f (Γ₁ a) sts res)
    (hs : ∀ env, swapsWithSole [.Name x npos] (.List es pos) p'.line env = pure false := by intro _; rfl) (hw : ∀ env, swappedStores [.Name x npos] (.List es pos) env = pure none := by intro _; rfl)
    (ha : ∀ env v, assignAll v ((assignEach [.Name x npos] env).map (·.2)) = PySem.assign (.Name x npos) env v := by intro _ _; rfl) :
    EXs S k f Γ (.Assign [.Name x npos] (.List es pos) p' :: sts) res := by
  intro A g W env s Q E R st hQ
  refine wpAny_execs_cons (wpAny_Assign_stores ?_ (hs env) (hw env))
  refine wpAny_List_spliced (h.run pos A g W env s _ E R st fun vs g1 s1 t1 r1 => ?_)
  have hlen := r1.length
  obtain ⟨g2, t2, e2⟩ := (t1.at R).push { cls := .type "list", data := .seq vs.toArray } (t := s1.toks)
  refine ⟨by omega, ?_⟩
  rw [ha env]
  refine hA s1.heap.objs.size A g2 W env _ _ _ E R ((st.move t1).move t2) (.raw (.ref s1.heap.objs.size)) fun g3 s3 t3 st3 => ?_
  exact hr s1.heap.objs.size A g3 W env s3 Q E R st3 fun fl g4 s4 t4 p4 => hQ fl g4 s4 ((((t1.then t2).weak st.new).trans t3 fun _ q => q).trans t4 fun _ q => q) p4

/-- the places that a slice with a step picks -/
noncomputable def places (lo hi : Option Int) (st : Int) (n : Nat) : List Nat := sliceRange (sliceBounds lo hi (some st) n).1 (sliceBounds lo hi (some st) n).2.1 (sliceBounds lo hi (some st) n).2.2
noncomputable def pickBy {α : Type} (idxs : List Nat) (xs : List α) : List α := idxs.filterMap (xs[·]?)
theorem Rds.pickBy {g : Heap} {vs : List Value} {ds : List D} (h : Rds g vs ds) : ∀ idxs : List Nat, Rds g (Mine.pickBy idxs vs) (Mine.pickBy idxs ds)
  | [] => .nil
  | j :: js => by
    have ih := h.pickBy js
    unfold Mine.pickBy at ih ⊢
    rw [List.filterMap_cons, List.filterMap_cons]
    cases hd : ds[j]? with
    | none =>
      have : vs[j]? = none := by
        rw [List.getElem?_eq_none_iff] at hd ⊢
        rw [h.length]; exact hd
      rw [this]; exact ih
    | some d =>
      obtain ⟨v, hv, hr⟩ := h.get j hd
      rw [hv]; exact .cons hr ih
theorem pickBy_map {α β : Type} (f : α → β) (idxs : List Nat) (xs : List α) : pickBy idxs (xs.map f) = (pickBy idxs xs).map f := by
  unfold pickBy
  rw [List.map_filterMap]
  refine congrArg (fun g => idxs.filterMap g) (funext fun j => ?_)
  simp
theorem EV.sliceStep {xs : List D} {lo hi : Option Expr} {st : Expr} {i j : Option Int} {c : Int} {p : Pos} (h1 : EV S k f Γ e (.list xs)) (h2 : PV S k f Γ lo i) (h3 : PV S k f Γ hi j) (h4 : PV S k f Γ (some st) (some c)) (hc : c ≠ 0) (ht : ∀ o r, letTemporaryGo e o r = pure () := by intro _ _; rfl) :
    EV S k f Γ (.Subscript e (.Slice lo hi (some st) p) pos) (.list (pickBy (places i j c xs.length) xs)) := by
  intro A g W env s Q E R stt hQ
  have part : ∀ {p : Option (Int × Tok)} {i : Option Int}, p.map Prod.fst = i → IsPart (partValue p) i := fun {p i} e => by
    cases p with
    | none => simp at e; subst e; exact .none
    | some q => simp at e; subst e; exact .int _ _
  refine wpAny_Subscript_Slice_step (T := "list") list_getitem_lookup (h1 A g W env s _ E R stt fun v g1 s1 t1 r1 => wpAny_Slice (h2.run A g1 W env s1 _ E R (stt.move t1) fun p2 g2 s2 t2 e2 => h3.run A g2 W env s2 _ E R ((stt.move t1).move t2) fun p3 g3 s3 t3 e3 =>
    h4.run A g3 W env s3 _ E R (((stt.move t1).move t2).move t3) fun p4 g4 s4 t4 e4 => ?_)) ht
  have a4 := ((((stt.move t1).move t2).move t3).move t4).at R
  have T := ((t1.then t2).then t3).then t4
  have r4 := r1.mono (t2.mono.trans (t3.mono.trans t4.mono))
  cases r4 with
  | list e hl rs =>
    rename_i a ws n
    have hL : s4.heap.IsList a ws.toArray := ⟨_, t4.keep _ _ e, rfl, n, rfl⟩
    refine ⟨(hL.push _).typeIs, wpAny_getItem_list_slice (hL.push _) (Heap.IsSliceOf.new ..) (part e2) (part e3) (part e4) (by simpa using hc) ?_ (by simpa using hl)⟩
    obtain ⟨g5, t5, _⟩ := a4.push { cls := .type "slice", data := .fields #[partValue p2, partValue p3, partValue p4] } (t := s4.toks)
    have hw : slicePick ws.toArray i j (some c) = (pickBy (places i j c xs.length) ws).toArray := by
      unfold slicePick pickBy places
      simp only [List.size_toArray, rs.length, List.getElem?_toArray]
    rw [hw]
    obtain ⟨g6, t6, e6⟩ := (t5.at R).push (listO (pickBy (places i j c xs.length) ws) 0) (t := s4.toks) (ht := Nat.le_refl _)
    refine hQ _ g6 _ ((T.then t5).then t6) (.list e6 ?_ ((rs.mono (t5.mono.trans t6.mono)).pickBy _))
    have hsz := slicePick_size_le ws.toArray i j (some c)
    rw [hw] at hsz
    simp only [List.size_toArray] at hsz
    omega

/-- the sum of a list of ints -/
theorem Ops.sumI {ns : List Int} : ∃ n : Int, Ops S k (fun vs => call (.builtin "sum") vs) [.list (ns.map .int)] (.int n) := by
  refine ⟨preSum (fun i => ns.getD i 0) ns.length, ?_⟩
  intro A g s vs Q E at' rs h
  cases rs with
  | cons r1 r2 =>
    cases r2
    cases r1 with
    | list e hl rs =>
      rename_i a ws n
      have hlen : ws.length = ns.length := by rw [rs.length]; simp
      have hL : s.heap.IsList a ws.toArray := ⟨_, at'.keep _ _ e, rfl, n, rfl⟩
      have hlt : a < s.heap.objs.size := Heap.lt_size (at'.keep _ _ e)
      have hne : a ≠ s.heap.objs.size := Nat.ne_of_lt hlt
      refine wpAny_grown (call_sum_walkG ?_)
      refine wpAny_pyIter_list hL ⟨s.heap.objs.size, _, _, _, _, _, (fun i => ns.getD i 0), rfl, Walks.list (A := A.in1) at'.room.handled _ a hne ws.toArray, ⟨⟨_, Heap.get?_push_size _ rfl, rfl, rfl⟩, hL.push _⟩, ?_, ?_, ?_⟩
      · intro b hb
        show b < (s.heap.push _).objs.size
        rw [Heap.size_push]
        simp at hb
        rcases hb with rfl | rfl
        · exact Nat.lt_succ_self _
        · exact Nat.lt_succ_of_lt hlt
      · intro i v hv
        have hv' : ws[i]? = some v := by simpa using hv
        have hi : i < ns.length := by rw [← hlen]; exact (List.getElem?_eq_some_iff.mp hv').1
        obtain ⟨v', e', r'⟩ := rs.get i (d := .int ns[i]) (by simp [hi])
        rw [hv'] at e'; cases e'
        cases r' with
        | int _ t => exact ⟨t, by simp [hi]⟩
      · intro h' tk t' hk G
        have : ws.toArray.size = ns.length := by simp [hlen]
        rw [this]
        obtain ⟨g1, t1, _⟩ := Tr.grow (s' := { s with heap := h', toks := tk }) (fun _ => False) at'.keep at'.base at'.tabs (fun b o e => hk b o (by simp; exact Nat.ne_of_lt (Heap.lt_size e)) (Heap.get?_push_of_some _ e)) G.heap rfl rfl G.toks
        exact h _ g1 _ t1 (.int _ _)
end
end Mine
set_option maxRecDepth 100000
set_option linter.unusedVariables false
namespace Mine
open PySem PySem.W PySem.Calls PyProof.Rows
section
variable {S : Sig} {k : Nat} {f : Fi} {Γ : Ctxt} {res : Res} {sts body : List Stmt} {pos : Pos} {d : D} {tg iter : Expr}
/-- a for that a break ends: something falls at each turn, the turns suffice -/
theorem FL.until {σ τ α : Type} (G : σ → τ → Ctxt) (it : α → D) (I done : σ → Prop) (μ : σ → Nat)
    (hb : ∀ s t a, I s → ∃ Γ₁ r, AS S k f (G s t) tg (it a) Γ₁ ∧ EXs S k f Γ₁ body r ∧ ((done s ∧ ∃ t', r = .brk (G s t')) ∨ (∃ s' t', I s' ∧ μ s' < μ s ∧ r = .next (G s' t')))) :
    ∀ (as : List α) (s : σ) (t : τ), μ s < as.length → I s → ∃ s' t', I s' ∧ done s' ∧ FL S k f tg body (G s t) (as.map it) (.next (G s' t'))
  | [], s, t, h, _ => absurd h (Nat.not_lt_zero _)
  | a :: as, s, t, h, hI => by
    obtain ⟨Γ₁, r, h2, h3, h4⟩ := hb s t a hI
    rcases h4 with ⟨h1, t', rfl⟩ | ⟨s', t', h1, h5, rfl⟩
    · exact ⟨s, t', hI, h1, .brk h2 h3⟩
    · obtain ⟨s'', t'', h6, h7, h8⟩ := FL.until G it I done μ hb as s' t' (by simp at h; omega) h1
      exact ⟨s'', t'', h6, h7, .next h2 h3 h8⟩
theorem EXs.forUntil {σ τ α : Type} (G : σ → τ → Ctxt) (it : α → D) (I done : σ → Prop) (μ : σ → Nat) (as : List α) (s : σ) (t : τ) (hΓ : Γ = G s t)
    (h1 : EV S k f Γ iter d) (h2 : It S k d tg (as.map it)) (hn : μ s < as.length) (hI : I s)
    (hb : ∀ s t a, I s → ∃ Γ₁ r, AS S k f (G s t) tg (it a) Γ₁ ∧ EXs S k f Γ₁ body r ∧ ((done s ∧ ∃ t', r = .brk (G s t')) ∨ (∃ s' t', I s' ∧ μ s' < μ s ∧ r = .next (G s' t'))))
    (hr : ∀ s t, I s → done s → EXs S k f (G s t) sts res) (hs : ∀ env x, foldedSetIterable iter env x = pure x := by intro _ _; rfl) :
    EXs S k f Γ (.For tg iter body [] pos :: sts) res := by
  subst hΓ
  obtain ⟨s', t', h3, h4, h5⟩ := FL.until (S := S) (k := k) (f := f) (tg := tg) (body := body) G it I done μ hb as s t hn hI
  exact .cons (EX.for h1 h2 h5 hs) (hr s' t' h3 h4)
end
end Mine
set_option maxRecDepth 100000
set_option linter.unusedVariables false
namespace Mine
open PySem PySem.W PySem.Calls PyProof.Rows
section
variable {S : Sig} {k : Nat} {f : Fi} {Γ Γ₁ Γ₂ : Ctxt} {res : Res} {sts : List Stmt}
/-- the left context says no more than the right one -/
inductive Le : Ctxt → Ctxt → Prop where
  | nil {Γ : Ctxt} : Le [] Γ
  | none {o : Option B} {Γ Δ : Ctxt} : Le Γ Δ → Le (.none :: Γ) (o :: Δ)
  | same {o : Option B} {Γ Δ : Ctxt} : Le Γ Δ → Le (o :: Γ) (o :: Δ)
  | cell {od : Option D} {Γ Δ : Ctxt} : Le Γ Δ → Le (some (.cell .none) :: Γ) (some (.cell od) :: Δ)
theorem Le.get {Γ Δ : Ctxt} (h : Le Γ Δ) : ∀ (i : Nat) (b : B), Γ[i]? = some (some b) → Δ[i]? = some (some b) ∨ (b = .cell .none ∧ ∃ od, Δ[i]? = some (some (.cell od))) := by
  induction h with
  | nil => intro i b e; simp at e
  | none h ih =>
    intro i b e
    cases i with
    | zero => simp at e
    | succ i => exact ih i b (by simpa using e)
  | same h ih =>
    intro i b e
    cases i with
    | zero => exact .inl e
    | succ i => exact ih i b (by simpa using e)
  | cell h ih =>
    intro i b e
    cases i with
    | zero => simp at e; subst e; exact .inr ⟨rfl, _, rfl⟩
    | succ i => exact ih i b (by simpa using e)
theorem St.le {g : Heap} {W : Addr → Prop} {env : Env} {s : Shared} (h : Le Γ₂ Γ₁) (st : St S f Γ₁ g W env s) : St S f Γ₂ g W env s := by
  refine ⟨st.keep, st.base, st.tabs, st.envIs, st.wide, st.clt, ?_⟩
  obtain ⟨m, ad, h1, h2, h3, h4, h5⟩ := st.vars
  refine ⟨m, ad, h1, h2, h3, fun i x b e e' => ?_, fun i j xs ys e1 e2 => ?_⟩
  · rcases h.get i b e' with q | ⟨rfl, od, q⟩
    · exact h4 i x b e q
    · obtain ⟨h1, c, ov, h2, h3, h4, h5, h6, h7⟩ := h4 i x _ e q
      exact ⟨h1, c, ov, h2, h3, h4, h5, h6, nofun⟩
  · rcases h.get i _ e1 with q1 | ⟨q, _⟩
    · rcases h.get j _ e2 with q2 | ⟨q, _⟩
      · exact h5 i j xs ys q1 q2
      · cases q
    · cases q
theorem EXs.wk (h : EXs S k f Γ sts (.next Γ₁)) (le : Le Γ₂ Γ₁) : EXs S k f Γ sts (.next Γ₂) := by
  intro A g W env s Q E R st hQ
  refine h A g W env s Q E R st fun fl g1 s1 t1 p1 => ?_
  obtain ⟨rfl, st1⟩ := p1
  exact hQ _ g1 s1 t1 ⟨rfl, st1.le le⟩
end
end Mine
set_option maxRecDepth 100000
set_option linter.unusedVariables false
namespace Mine
open PySem PySem.W PySem.Calls PyProof.Rows
/-- the tables of a call from without: no token need have been drawn -/
noncomputable def Tabs0 (S : Sig) (g : Heap) (s : Shared) : Prop := ∀ q ∈ S.tabs, ∃ ps, s.heap.get? q.2 = some (tabObj ps) ∧ TriplesOk ps.toList ∧ ∀ pos cv, codeAmong pos ps.toList = some cv → g.CodeRec cv (S.qualAt pos)
noncomputable abbrev tick (s : Shared) : Shared := { s with toks := s.toks + 1 }
noncomputable def Ops0 (S : Sig) (k : Nat) (t : Value → Sem Value) (d₁ d : D) : Prop :=
  ∀ (A : Around) (g : Heap) (s : Shared) (v : Value) (Q : Value → Shared → Prop) (E : Value → Shared → Prop), Room k A → Keep g s.heap → Base S g → Tabs0 S g s → Rd g v d₁ →
    (∀ v g' s', Tr S (Nw s) g (tick s) g' s' → Rd g' v d → Q v s') → wpAny S.M A (t v) Q E s
theorem newEnv1 {M : Model} {A : Around} {E : Value → Shared → Prop} {s : Shared} {scope : Scope} {globals : Addr} {x : Str} {v : Value} {qual : Str} {func : Option Addr} {code : Value} {builtins : Addr} {Q : Env → Shared → Prop}
    (hk : scope.kind = .function) (hl : scope.names.lookup x = some .local)
    (hQ : ∀ env, env = newEnv scope s.heap.objs.size globals (cellsFrom (s.heap.objs.size + 1) scope.names []) qual func code none builtins →
      ∀ s', InCallC s env.locals (bindL env.kindOf [(x, v)] fun _ => none) env.cells (bindC env.kindOf [(x, v)] fun _ => none) s' → s.toks + 1 ≤ s'.toks → Q env s') :
    wpAny M A (newFunctionEnv scope globals [] [(x, v)] qual func code none builtins) Q E s := by
  simp only [newFunctionEnv, Option.isSome_none, Bool.false_eq_true, if_false]
  refine wpAny_bind (wpAny_alloc ?_)
  refine wpAny_bind (wpAny_layCells _ (fun name kind cells => by cases hkc : kind == NameKind.cell <;> simp [hkc]) _ _ _ _ ?_)
  have ok := cellsFrom_ok scope.names (s.heap.push { cls := .type "frame", data := .dict #[] }) (s.heap.objs.size + 1) [] ⟨fun _ _ hm => (nomatch hm), List.Pairwise.nil⟩ (by rw [Heap.size_push]; exact Nat.le_refl _)
  rw [Heap.size_push] at ok
  rw [show ({ s with heap := s.heap.push { cls := .type "frame", data := .dict #[] } } : Shared).heap.objs.size = s.heap.objs.size + 1 from Heap.size_push ..]
  have X : InCallC s (newEnv scope s.heap.objs.size globals (cellsFrom (s.heap.objs.size + 1) scope.names []) qual func code none builtins).locals (fun _ => none) (newEnv scope s.heap.objs.size globals (cellsFrom (s.heap.objs.size + 1) scope.names []) qual func code none builtins).cells (fun _ => none) { s with heap := pushCells (s.heap.push { cls := .type "frame", data := .dict #[] }) scope.names } :=
    ⟨⟨⟨_, _, rfl⟩, (Heap.Ns.new s.heap (.type "frame")).keeps (pushCells_keeps _ _), fun b o e => pushCells_keeps _ _ b o (Heap.get?_push_of_some _ e), Nat.le_refl _⟩,
      fun n c hc => (ok.empty n c (mem_of_lookup hc)).1, ok.apart, fun n c hm => (ok.empty n c hm).2⟩
  rw [List.forIn_cons]
  have hl' : (newEnv scope s.heap.objs.size globals (cellsFrom (s.heap.objs.size + 1) scope.names []) qual func code none builtins).kindOf x = some .local := hl
  refine wpAny_bind (wpAny_bind (wpAny_bind (wpAny_storeName_local hl' X.toInCall.ns (fun h' hn' hs' => ?_) (by show (scope.kind == _ || _) = false; rw [hk]; rfl))))
  refine wpAny_pure ?_
  refine wpAny_pure (wpAny_pure (hQ _ rfl _ ?_ (Nat.le_refl _)))
  refine ⟨⟨⟨h', _, rfl⟩, ?_, fun b o e => ?_, X.toInCall.fresh⟩, fun k c hc => ?_, X.apart, X.above⟩
  · unfold bindL bindL; rw [if_pos hl']; exact hn'
  · exact hs'.extBut b o (Nat.ne_of_lt (Nat.lt_of_lt_of_le (Heap.lt_size e) X.toInCall.fresh)) (X.toInCall.keep b o e)
  · unfold bindC bindC; rw [if_pos hl']; exact (X.cell k c hc).sameBut hs' (Nat.ne_of_gt (X.above k c (mem_of_lookup hc)))

theorem Fn.intro0 {S : Sig} {k : Nat} {a : Addr} {f : Fi} {x : Str} {body : List Stmt} {d₁ d : D} (F : FnAt S a f [x] body) (hk0 : f.kinds[0]? = some .local) (hb : EXs S k f (ctx0 f.kinds [d₁]) body (.ret d)) : Ops0 S (k + 1) (fun v => call (.ref a) [v]) d₁ d := by
  intro A g s v Q E Rm Kp Bs T0 rv hQ
  have at' : At S (k + 1) A g (tick s) := ⟨Rm, Kp, Bs, ⟨Nat.succ_pos _, T0⟩⟩
  have rs : Rds g [v] [d₁] := .cons rv .nil
  obtain ⟨⟨oc, od, osl, name, qual, params, dV, kV, doc, pm, an, ct, hlook, hcode, hqual, hbind⟩, hkind, hco, hgen, hpre, hlen, hlc⟩ := F
  have KI := Bs.kin.keeps Kp
  have hx0 : f.vars[0]? = some x := by
    have h : (f.vars.take 1)[0]? = some x := by rw [show f.vars.take 1 = [x] from hpre]; rfl
    rwa [List.getElem?_take, if_pos (by omega)] at h
  have hkx : f.scope.names.lookup x = some .local := f.kind hx0 hk0
  have hkd : ∀ i x, f.vars[i]? = some x → ∃ kd, f.kinds[i]? = some kd ∧ (kd = .local ∨ kd = .cell) ∧ f.scope.names.lookup x = some kd := fun i x e => by
    have hi : i < f.kinds.length := by rw [hlen]; exact (List.getElem?_eq_some_iff.mp e).1
    refine ⟨f.kinds[i], List.getElem?_eq_getElem hi, ?_, f.kind e (List.getElem?_eq_getElem hi)⟩
    have := List.all_eq_true.mp hlc _ (List.getElem_mem hi)
    simpa using this
  refine wpAny_call (codeAny_call_function (fd := fnOf name qual params body f.scope dV kV doc pm an f.code ct) (by have := Rm.depth; omega) (KI _ _ hlook) rfl hco hgen rfl (codeRec_of KI hcode) ?_)
  rw [hbind [v] rfl]
  refine wpAny_pure (wpAny_grown (newEnv1 hkind hkx fun env he s' x' ht G => ⟨(Bs.nolimit.keeps Kp).keeps x'.toInCall.keep, codeAny_func ?_⟩))
  have hloc : env.locals = s.heap.objs.size := by rw [he]; rfl
  have hscope : env.scope = f.scope := by rw [he]; rfl
  have hcells : env.cells = cellsFrom (s.heap.objs.size + 1) f.scope.names [] := by rw [he]; rfl
  have hqual' : env.qual = f.qual := by rw [he, hqual]; rfl
  have hcode' : env.code = f.code := by rw [he]; rfl
  have hgl : env.globals = mainGlobals := by rw [he]; rfl
  have hbl : env.builtins = builtinsNs := by rw [he]; rfl
  have hkE : ∀ x, env.kindOf x = f.scope.names.lookup x := fun x => by show env.scope.names.lookup x = _; rw [hscope]
  obtain ⟨h₁, tk, rfl⟩ := x'.toInCall.same
  obtain ⟨g', t, _, hno⟩ := Tr.grow (s := tick s) (s' := { s with heap := h₁, toks := tk }) (fun _ => False) at'.keep at'.base at'.tabs x'.toInCall.keep G.heap rfl rfl ht
  have st : St S f (ctx0 f.kinds [d₁]) g' (Nw s) env { s with heap := h₁, toks := tk } := by
    refine ⟨t.keep, t.base, t.now, ⟨hscope, hqual', hcode', hgl, hbl, by rw [hscope]; exact hkind⟩, fun a l => Nat.le_trans t.size l, fun y c e => ?_, _, fun _ => 0, x'.toInCall.ns, by show s.heap.objs.size ≤ env.locals; rw [hloc]; exact Nat.le_refl _, hno _ (by rw [hloc]; exact Nat.le_refl _) id, fun i y b hy hb' => ?_, fun i j xs ys h1 h2 _ => ?_⟩
    · exact (x'.cell y c e).lt
    · obtain ⟨kd, hki, hlk, hlook'⟩ := hkd i y hy
      rcases ctx0_get _ _ _ _ _ hki hb' with ⟨d', hd', rfl⟩ | ⟨hd', rfl, rfl⟩
      · have hi : i = 0 := by
          have := (List.getElem?_eq_some_iff.mp hd').1
          simp at this; exact this
        subst hi
        rw [hk0] at hki; cases hki
        rw [hx0] at hy; cases hy
        simp at hd'; subst hd'
        refine ⟨v, ?_, rv.mono t.mono⟩
        unfold Var
        rw [hkE, hkx]
        show bindL env.kindOf [(x, v)] _ x = some v
        unfold bindL bindL
        rw [if_pos (by rw [hkE, hkx])]; simp
      · obtain ⟨c, hc⟩ := Option.isSome_iff_exists.mp (cellsFrom_some f.scope.names (s.heap.objs.size + 1) [] (.inl hlook'))
        rw [← hcells] at hc
        refine ⟨by rw [hkE, hlook'], c, _, hc, x'.cell y c hc, ?_, ?_, fun z hz => name_of_addr x'.apart (mem_of_lookup hz) (mem_of_lookup hc), nofun⟩
        · have := x'.above y c (mem_of_lookup hc); rw [hloc] at this; exact hno _ (Nat.le_of_lt this) id
        · have := x'.above y c (mem_of_lookup hc); rw [hloc] at this; exact Nat.le_of_lt this
    · exfalso
      have hi : i < f.kinds.length := by
        have := (List.getElem?_eq_some_iff.mp h1).1
        rwa [ctx0_len] at this
      rcases ctx0_get _ _ _ _ _ (List.getElem?_eq_getElem hi) h1 with ⟨d', _, q⟩ | ⟨_, _, q⟩
      · split at q <;> cases q
      · cases q
  refine wpAny_mono (hb (A.deeper env) g' (Nw s) env _ _ _ Rm.under st fun fl g₂ s₂ t₂ p₂ => ?_) (fun _ _ h => h) fun _ _ h => h
  obtain ⟨v, rfl, r⟩ := p₂
  exact hQ v g₂ s₂ (t.trans t₂ fun _ l => l) r

/-- the join with the head -/
theorem law_done {S : Sig} {c : ClaimW} {cl : Str → Option Addr} {mean : ExcName → Option Value} {mean' : ExcName → Option Value} {args : List WData} {s₁ : Shared} {a fa l : Addr} {ns : List Int} {vs : List Value} {p : Program} {loose : List Str} {P : Params} {dd : WData} {x : Str} {E : Value → Shared → Prop} {k : Nat}
    (C : Ops0 S k (fun v => call (.ref a) [v]) (.list (ns.map .int)) (.bool true)) (hk : 304 + k < recursionLimit ∧ 104 + 40 * k < cLine) (hT : TabsAt S.tabs s₁.heap) (K : S.K.In s₁.heap) (hKn : noTabs S.K = true)
    (T : Top p loose mean' S.mg S.mb s₁.heap) (hz : S.z = s₁.heap.objs.size) (hg : s₁.gens = #[]) (hmg : S.mg x = some (.ref fa)) (hx : nsIn S.K mainGlobals x = some (some (.ref a)))
    (hL : s₁.heap.IsList l vs.toArray) (hw : Well P s₁.heap (.ref l) dd) (hdd : ∃ ys, dd = .list ys) (hI : IntsAre vs ns) (hn : vs.length ≤ sizeLine)
    (hr : ∀ cls, c.raises args cls = false) (hpost : c.post args (.bool true) args = true) :
    wpAny S.M callerA (call (.ref fa) [.ref l]) (fun v s' => GoodWG c cl mean args s₁ (.ok (.ret v)) s') E s₁ := by
  have ho : ∃ n, s₁.heap.get? l = some (listO vs n) := by
    have key : ∀ d, Well P s₁.heap (.ref l) d → (∃ ys, d = .list ys) → ∃ ws : List Value, s₁.heap.get? l = some { cls := .type "list", data := .seq ws.toArray } := by
      rintro d w ⟨ys, rfl⟩
      cases w with
      | list e _ => exact ⟨_, e⟩
    obtain ⟨ws, e⟩ := key dd hw hdd
    obtain ⟨o, e2, _, n, e3⟩ := hL
    rw [e] at e2; cases e2
    simp at e3
    obtain ⟨e3, e4⟩ := e3
    exact ⟨_, by rw [e, e3]⟩
  obtain ⟨n, ho⟩ := ho
  have gl := fun {b o} => ghost_get (b := b) (o := o) hT
  have TT := ghost_top hT T
  have B : Base S (ghostOf s₁.heap S.tabs) := ⟨ghost_K hT K hKn, TT.g, TT.b, TT.nolimit, TT.builtins, TT.bmain, fun q hq => ⟨by
    obtain ⟨o, vs, file, tf, flags, tg, inF, text, tt, e1, r1, r2, r3, r4, r5, r6, r7, r8, hne⟩ := (hT q hq).1
    exact ⟨o, vs, file, tf, flags, tg, inF, text, tt, ghost_get hT e1 (fun q => by rw [q] at r1; cases r1), r1, r2, r3, r4, r5, r6, r7, r8, hne⟩, hideAll_none _ (List.mem_map_of_mem hq)⟩⟩
  have hfa : fa = a := by
    have := mg_of B.kin B.glob hx
    rw [hmg] at this; cases this; rfl
  subst hfa
  have hrd : Rds (ghostOf s₁.heap S.tabs) vs (ns.map .int) := by
    clear hL ho hn C
    induction hI with
    | nil => exact .nil
    | cons _ _ _ ih => exact .cons (.int _ _) ih
  refine C callerA (ghostOf s₁.heap S.tabs) s₁ (.ref l) _ E ⟨rfl, ?_, ?_⟩ (fun b o e => of_hideAll _ e) B (fun q hq => ⟨#[], (hT q hq).2, trivial, nofun⟩) (.list (gl ho (by intro h; cases h)) hn hrd) fun v g' s' t r => ?_
  · show 1 + claimMargin + k < _; have := hk.1; unfold claimMargin; omega
  · show 4 + 40 * k + 100 < _; have := hk.2; omega
  cases r
  refine ⟨.inl ⟨_, .bool true, [], rfl, hr, .bool true, hpost, fun _ => ⟨.nil, nofun⟩⟩, ⟨fun b o e => ?_, fun b o e => ?_⟩, t.os, t.bare (.of_eq hg)⟩
  · by_cases hb : b ∈ S.tabs.map (·.2)
    · obtain ⟨q, hq, rfl⟩ := List.mem_map.mp hb
      have e2 := (hT q hq).2
      rw [e] at e2; cases e2
      obtain ⟨more, hm⟩ := t.tabs q hq #[] (hT q hq).2
      exact .inr (.inl ⟨((hT q hq).1.tab (hT q hq).2).isCodeTable, rfl, #[], more, rfl, hm⟩)
    · obtain ⟨o', e', k⟩ := t.same b o (fun h => absurd (Heap.lt_size e) (Nat.not_lt.mpr h)) hb e
      rcases k with rfl | ⟨h, _⟩
      · exact .inl e'
      · rw [hz] at h; exact absurd (Heap.lt_size e) (Nat.not_lt.mpr h)
  · by_cases hb : b ∈ S.tabs.map (·.2)
    · obtain ⟨q, hq, rfl⟩ := List.mem_map.mp hb
      obtain ⟨more, hm⟩ := t.tabs q hq #[] (hT q hq).2
      exact ⟨_, hm⟩
    · obtain ⟨o', e', k⟩ := t.same b o (fun h => absurd (Heap.lt_size e) (Nat.not_lt.mpr h)) hb e
      exact ⟨o', e'⟩
end Mine
set_option maxRecDepth 100000
set_option linter.unusedVariables false
namespace Mine
open PySem PySem.W PySem.Calls PyProof.Rows
noncomputable def bodyAt (i : Nat) : List Stmt := match PySem.Challenge.pw_dn0049_02.main.body[i]? with | some (.FunctionDef _ _ b _ _ _ _ _ _ _) => b | _ => []
noncomputable def scopeAt (i : Nat) : Scope := match PySem.Challenge.pw_dn0049_02.main.body[i]? with | some (.FunctionDef _ _ _ _ _ _ sc _ _ _) => sc | _ => default
theorem bt_type : bootBuiltins "type" = some (.type "type") := by kernel_rfl
theorem bt_issubclass : bootBuiltins "issubclass" = some (.builtin "issubclass") := by kernel_rfl
theorem bt_str : bootBuiltins "str" = some (.type "str") := by kernel_rfl
theorem bt_bytes : bootBuiltins "bytes" = some (.type "bytes") := by kernel_rfl
theorem bt_len : bootBuiltins "len" = some (.builtin "len") := by kernel_rfl
theorem bt_isinstance : bootBuiltins "isinstance" = some (.builtin "isinstance") := by kernel_rfl
theorem bt_range : bootBuiltins "range" = some (.type "range") := by kernel_rfl
theorem bt_list : bootBuiltins "list" = some (.type "list") := by kernel_rfl
theorem bt_abs : bootBuiltins "abs" = some (.builtin "abs") := by kernel_rfl
theorem bt_sum : bootBuiltins "sum" = some (.builtin "sum") := by kernel_rfl
noncomputable def fi_fspath : Fi where
  scope := scopeAt 10
  qual := "fspath.<locals>."
  code := .ref 110
  vars := ["path", "kind", "hook", "given"]
  kinds := [.local, .local, .local, .local]
  nodup := by decide
  ok := by rfl
theorem n_fspath_0 : Nm fi_fspath "path" 0 .local := ⟨rfl, rfl, by decide, by decide⟩
theorem n_fspath_1 : Nm fi_fspath "kind" 1 .local := ⟨rfl, rfl, by decide, by decide⟩
theorem n_fspath_2 : Nm fi_fspath "hook" 2 .local := ⟨rfl, rfl, by decide, by decide⟩
theorem n_fspath_3 : Nm fi_fspath "given" 3 .local := ⟨rfl, rfl, by decide, by decide⟩
noncomputable def fi_splitroot : Fi where
  scope := scopeAt 12
  qual := "splitroot.<locals>."
  code := .ref 117
  vars := ["p", "sep", "empty"]
  kinds := [.local, .local, .local]
  nodup := by decide
  ok := by rfl
theorem n_splitroot_0 : Nm fi_splitroot "p" 0 .local := ⟨rfl, rfl, by decide, by decide⟩
theorem n_splitroot_1 : Nm fi_splitroot "sep" 1 .local := ⟨rfl, rfl, by decide, by decide⟩
theorem n_splitroot_2 : Nm fi_splitroot "empty" 2 .local := ⟨rfl, rfl, by decide, by decide⟩
noncomputable def fi_normpath : Fi where
  scope := scopeAt 13
  qual := "normpath.<locals>."
  code := .ref 124
  vars := ["path", "sep", "dot", "dotdot", "_", "initial_slashes", "comps", "new_comps", "comp"]
  kinds := [.local, .local, .local, .local, .local, .local, .local, .local, .local]
  nodup := by decide
  ok := by rfl
theorem n_normpath_0 : Nm fi_normpath "path" 0 .local := ⟨rfl, rfl, by decide, by decide⟩
theorem n_normpath_1 : Nm fi_normpath "sep" 1 .local := ⟨rfl, rfl, by decide, by decide⟩
theorem n_normpath_2 : Nm fi_normpath "dot" 2 .local := ⟨rfl, rfl, by decide, by decide⟩
theorem n_normpath_3 : Nm fi_normpath "dotdot" 3 .local := ⟨rfl, rfl, by decide, by decide⟩
theorem n_normpath_4 : Nm fi_normpath "_" 4 .local := ⟨rfl, rfl, by decide, by decide⟩
theorem n_normpath_5 : Nm fi_normpath "initial_slashes" 5 .local := ⟨rfl, rfl, by decide, by decide⟩
theorem n_normpath_6 : Nm fi_normpath "comps" 6 .local := ⟨rfl, rfl, by decide, by decide⟩
theorem n_normpath_7 : Nm fi_normpath "new_comps" 7 .local := ⟨rfl, rfl, by decide, by decide⟩
theorem n_normpath_8 : Nm fi_normpath "comp" 8 .local := ⟨rfl, rfl, by decide, by decide⟩
noncomputable def fi_escape : Fi where
  scope := scopeAt 17
  qual := "escape.<locals>."
  code := .ref 141
  vars := ["pattern"]
  kinds := [.local]
  nodup := by decide
  ok := by rfl
theorem n_escape_0 : Nm fi_escape "pattern" 0 .local := ⟨rfl, rfl, by decide, by decide⟩
noncomputable def fi_translate : Fi where
  scope := scopeAt 19
  qual := "_translate.<locals>."
  code := .ref 148
  vars := ["pat", "STAR", "QUESTION_MARK", "res", "add", "i", "n", "c", "j", "stuff", "chunks", "k", "chunk"]
  kinds := [.local, .local, .local, .local, .local, .local, .local, .local, .local, .local, .local, .local, .local]
  nodup := by decide
  ok := by rfl
theorem n_translate_0 : Nm fi_translate "pat" 0 .local := ⟨rfl, rfl, by decide, by decide⟩
theorem n_translate_1 : Nm fi_translate "STAR" 1 .local := ⟨rfl, rfl, by decide, by decide⟩
theorem n_translate_2 : Nm fi_translate "QUESTION_MARK" 2 .local := ⟨rfl, rfl, by decide, by decide⟩
theorem n_translate_3 : Nm fi_translate "res" 3 .local := ⟨rfl, rfl, by decide, by decide⟩
theorem n_translate_4 : Nm fi_translate "add" 4 .local := ⟨rfl, rfl, by decide, by decide⟩
theorem n_translate_5 : Nm fi_translate "i" 5 .local := ⟨rfl, rfl, by decide, by decide⟩
theorem n_translate_6 : Nm fi_translate "n" 6 .local := ⟨rfl, rfl, by decide, by decide⟩
theorem n_translate_7 : Nm fi_translate "c" 7 .local := ⟨rfl, rfl, by decide, by decide⟩
theorem n_translate_8 : Nm fi_translate "j" 8 .local := ⟨rfl, rfl, by decide, by decide⟩
theorem n_translate_9 : Nm fi_translate "stuff" 9 .local := ⟨rfl, rfl, by decide, by decide⟩
theorem n_translate_10 : Nm fi_translate "chunks" 10 .local := ⟨rfl, rfl, by decide, by decide⟩
theorem n_translate_11 : Nm fi_translate "k" 11 .local := ⟨rfl, rfl, by decide, by decide⟩
theorem n_translate_12 : Nm fi_translate "chunk" 12 .local := ⟨rfl, rfl, by decide, by decide⟩
noncomputable def fi_law_one : Fi where
  scope := scopeAt 21
  qual := "_law_one.<locals>."
  code := .ref 155
  vars := ["part", "sign", "body", "barred", "k", "found", "low", "high"]
  kinds := [.local, .local, .local, .local, .local, .local, .local, .local]
  nodup := by decide
  ok := by rfl
theorem n_law_one_0 : Nm fi_law_one "part" 0 .local := ⟨rfl, rfl, by decide, by decide⟩
theorem n_law_one_1 : Nm fi_law_one "sign" 1 .local := ⟨rfl, rfl, by decide, by decide⟩
theorem n_law_one_2 : Nm fi_law_one "body" 2 .local := ⟨rfl, rfl, by decide, by decide⟩
theorem n_law_one_3 : Nm fi_law_one "barred" 3 .local := ⟨rfl, rfl, by decide, by decide⟩
theorem n_law_one_4 : Nm fi_law_one "k" 4 .local := ⟨rfl, rfl, by decide, by decide⟩
theorem n_law_one_5 : Nm fi_law_one "found" 5 .local := ⟨rfl, rfl, by decide, by decide⟩
theorem n_law_one_6 : Nm fi_law_one "low" 6 .local := ⟨rfl, rfl, by decide, by decide⟩
theorem n_law_one_7 : Nm fi_law_one "high" 7 .local := ⟨rfl, rfl, by decide, by decide⟩
noncomputable def fi_law_takes : Fi where
  scope := scopeAt 22
  qual := "_law_takes.<locals>."
  code := .ref 160
  vars := ["parts", "star", "name", "at", "part"]
  kinds := [.local, .local, .cell, .local, .cell]
  nodup := by decide
  ok := by rfl
theorem n_law_takes_0 : Nm fi_law_takes "parts" 0 .local := ⟨rfl, rfl, by decide, by decide⟩
theorem n_law_takes_1 : Nm fi_law_takes "star" 1 .local := ⟨rfl, rfl, by decide, by decide⟩
theorem n_law_takes_2 : Nm fi_law_takes "name" 2 .cell := ⟨rfl, rfl, by decide, by decide⟩
theorem n_law_takes_3 : Nm fi_law_takes "at" 3 .local := ⟨rfl, rfl, by decide, by decide⟩
theorem n_law_takes_4 : Nm fi_law_takes "part" 4 .cell := ⟨rfl, rfl, by decide, by decide⟩
noncomputable def fi_law_drawn : Fi where
  scope := scopeAt 23
  qual := "_law_drawn.<locals>."
  code := .ref 167
  vars := ["number", "out", "count", "left"]
  kinds := [.local, .local, .local, .local]
  nodup := by decide
  ok := by rfl
theorem n_law_drawn_0 : Nm fi_law_drawn "number" 0 .local := ⟨rfl, rfl, by decide, by decide⟩
theorem n_law_drawn_1 : Nm fi_law_drawn "out" 1 .local := ⟨rfl, rfl, by decide, by decide⟩
theorem n_law_drawn_2 : Nm fi_law_drawn "count" 2 .local := ⟨rfl, rfl, by decide, by decide⟩
theorem n_law_drawn_3 : Nm fi_law_drawn "left" 3 .local := ⟨rfl, rfl, by decide, by decide⟩
noncomputable def fi_law_faults : Fi where
  scope := scopeAt 24
  qual := "_law_faults.<locals>."
  code := .ref 174
  vars := ["pieces", "root", "out", "k"]
  kinds := [.local, .local, .local, .local]
  nodup := by decide
  ok := by rfl
theorem n_law_faults_0 : Nm fi_law_faults "pieces" 0 .local := ⟨rfl, rfl, by decide, by decide⟩
theorem n_law_faults_1 : Nm fi_law_faults "root" 1 .local := ⟨rfl, rfl, by decide, by decide⟩
theorem n_law_faults_2 : Nm fi_law_faults "out" 2 .local := ⟨rfl, rfl, by decide, by decide⟩
theorem n_law_faults_3 : Nm fi_law_faults "k" 3 .local := ⟨rfl, rfl, by decide, by decide⟩
noncomputable def fi_law : Fi where
  scope := scopeAt 25
  qual := "law.<locals>."
  code := .ref 179
  vars := ["script", "star", "texts", "faulty", "ahead", "turn", "number", "path", "straight", "root", "pieces", "picks", "faults", "step", "tail", "between", "hit", "k", "count"]
  kinds := [.local, .cell, .local, .local, .local, .local, .local, .local, .local, .local, .local, .local, .local, .local, .local, .cell, .local, .local, .local]
  nodup := by decide
  ok := by rfl
theorem n_law_0 : Nm fi_law "script" 0 .local := ⟨rfl, rfl, by decide, by decide⟩
theorem n_law_1 : Nm fi_law "star" 1 .cell := ⟨rfl, rfl, by decide, by decide⟩
theorem n_law_2 : Nm fi_law "texts" 2 .local := ⟨rfl, rfl, by decide, by decide⟩
theorem n_law_3 : Nm fi_law "faulty" 3 .local := ⟨rfl, rfl, by decide, by decide⟩
theorem n_law_4 : Nm fi_law "ahead" 4 .local := ⟨rfl, rfl, by decide, by decide⟩
theorem n_law_5 : Nm fi_law "turn" 5 .local := ⟨rfl, rfl, by decide, by decide⟩
theorem n_law_6 : Nm fi_law "number" 6 .local := ⟨rfl, rfl, by decide, by decide⟩
theorem n_law_7 : Nm fi_law "path" 7 .local := ⟨rfl, rfl, by decide, by decide⟩
theorem n_law_8 : Nm fi_law "straight" 8 .local := ⟨rfl, rfl, by decide, by decide⟩
theorem n_law_9 : Nm fi_law "root" 9 .local := ⟨rfl, rfl, by decide, by decide⟩
theorem n_law_10 : Nm fi_law "pieces" 10 .local := ⟨rfl, rfl, by decide, by decide⟩
theorem n_law_11 : Nm fi_law "picks" 11 .local := ⟨rfl, rfl, by decide, by decide⟩
theorem n_law_12 : Nm fi_law "faults" 12 .local := ⟨rfl, rfl, by decide, by decide⟩
theorem n_law_13 : Nm fi_law "step" 13 .local := ⟨rfl, rfl, by decide, by decide⟩
theorem n_law_14 : Nm fi_law "tail" 14 .local := ⟨rfl, rfl, by decide, by decide⟩
theorem n_law_15 : Nm fi_law "between" 15 .cell := ⟨rfl, rfl, by decide, by decide⟩
theorem n_law_16 : Nm fi_law "hit" 16 .local := ⟨rfl, rfl, by decide, by decide⟩
theorem n_law_17 : Nm fi_law "k" 17 .local := ⟨rfl, rfl, by decide, by decide⟩
theorem n_law_18 : Nm fi_law "count" 18 .local := ⟨rfl, rfl, by decide, by decide⟩
/-- what the heap behind the top holds, as far as the law asks -/
structure KF (S : Sig) : Prop where
  ns_type : nsIn S.K mainGlobals "type" = some none
  ns_issubclass : nsIn S.K mainGlobals "issubclass" = some none
  ns_str : nsIn S.K mainGlobals "str" = some none
  ns_bytes : nsIn S.K mainGlobals "bytes" = some none
  ns_len : nsIn S.K mainGlobals "len" = some none
  ns_fspath : nsIn S.K mainGlobals "fspath" = some (some (.ref 111))
  ns_isinstance : nsIn S.K mainGlobals "isinstance" = some none
  ns_splitroot : nsIn S.K mainGlobals "splitroot" = some (some (.ref 118))
  ns_special_chars_map : nsIn S.K mainGlobals "_special_chars_map" = some (some (.ref 132))
  ns_range : nsIn S.K mainGlobals "range" = some none
  ns_twin_re_1 : nsIn S.K mainGlobals "_twin_re_1" = some (some (.ref 130))
  ns_escape : nsIn S.K mainGlobals "escape" = some (some (.ref 142))
  ns_list : nsIn S.K mainGlobals "list" = some none
  ns_abs : nsIn S.K mainGlobals "abs" = some none
  ns_translate : nsIn S.K mainGlobals "_translate" = some (some (.ref 149))
  ns_sum : nsIn S.K mainGlobals "sum" = some none
  ns_law_drawn : nsIn S.K mainGlobals "_law_drawn" = some (some (.ref 168))
  ns_normpath : nsIn S.K mainGlobals "normpath" = some (some (.ref 125))
  ns_law_faults : nsIn S.K mainGlobals "_law_faults" = some (some (.ref 175))
  ns_law_takes : nsIn S.K mainGlobals "_law_takes" = some (some (.ref 161))
  ns_law_one : nsIn S.K mainGlobals "_law_one" = some (some (.ref 156))
  ns_law : nsIn S.K mainGlobals "law" = some (some (.ref 180))
  fn_fspath : FnAt S 111 fi_fspath ["path"] (bodyAt 10)
  cal_fspath : Callee S (.ref 111)
  fn_splitroot : FnAt S 118 fi_splitroot ["p"] (bodyAt 12)
  cal_splitroot : Callee S (.ref 118)
  fn_normpath : FnAt S 125 fi_normpath ["path"] (bodyAt 13)
  cal_normpath : Callee S (.ref 125)
  fn_escape : FnAt S 142 fi_escape ["pattern"] (bodyAt 17)
  cal_escape : Callee S (.ref 142)
  fn_translate : FnAt S 149 fi_translate ["pat", "STAR", "QUESTION_MARK"] (bodyAt 19)
  cal_translate : Callee S (.ref 149)
  fn_law_one : FnAt S 156 fi_law_one ["part", "sign"] (bodyAt 21)
  cal_law_one : Callee S (.ref 156)
  fn_law_takes : FnAt S 161 fi_law_takes ["parts", "star", "name"] (bodyAt 22)
  cal_law_takes : Callee S (.ref 161)
  fn_law_drawn : FnAt S 168 fi_law_drawn ["number"] (bodyAt 23)
  cal_law_drawn : Callee S (.ref 168)
  fn_law_faults : FnAt S 175 fi_law_faults ["pieces", "root"] (bodyAt 24)
  cal_law_faults : Callee S (.ref 175)
  fn_law : FnAt S 180 fi_law ["script"] (bodyAt 25)
  cal_law : Callee S (.ref 180)
  pat_twin_re_1 : PatAt S 130 129
  dic : ∃ (es : List DictEntry) (n : Nat), S.K.lookup 132 = some { cls := .type "dict", data := .dict es.toArray n } ∧ EscAll es [40, 41, 91, 93, 123, 125, 63, 42, 43, 45, 124, 94, 36, 92, 46, 38, 126, 35, 32, 9, 10, 13, 11, 12]
theorem g_fspath_type {S : Sig} (hK : KF S) : Raw S fi_fspath "type" (.type "type") := fun k Γ pos => EV.boot (by rfl) hK.ns_type bt_type
theorem g_fspath_issubclass {S : Sig} (hK : KF S) : Raw S fi_fspath "issubclass" (.builtin "issubclass") := fun k Γ pos => EV.boot (by rfl) hK.ns_issubclass bt_issubclass
theorem g_fspath_str {S : Sig} (hK : KF S) : Raw S fi_fspath "str" (.type "str") := fun k Γ pos => EV.boot (by rfl) hK.ns_str bt_str
theorem g_fspath_bytes {S : Sig} (hK : KF S) : Raw S fi_fspath "bytes" (.type "bytes") := fun k Γ pos => EV.boot (by rfl) hK.ns_bytes bt_bytes
theorem g_fspath_len {S : Sig} (hK : KF S) : Raw S fi_fspath "len" (.builtin "len") := fun k Γ pos => EV.boot (by rfl) hK.ns_len bt_len
theorem g_splitroot_fspath {S : Sig} (hK : KF S) : Raw S fi_splitroot "fspath" (.ref 111) := fun k Γ pos => EV.global (by rfl) hK.ns_fspath
theorem g_splitroot_isinstance {S : Sig} (hK : KF S) : Raw S fi_splitroot "isinstance" (.builtin "isinstance") := fun k Γ pos => EV.boot (by rfl) hK.ns_isinstance bt_isinstance
theorem g_splitroot_bytes {S : Sig} (hK : KF S) : Raw S fi_splitroot "bytes" (.type "bytes") := fun k Γ pos => EV.boot (by rfl) hK.ns_bytes bt_bytes
theorem g_normpath_fspath {S : Sig} (hK : KF S) : Raw S fi_normpath "fspath" (.ref 111) := fun k Γ pos => EV.global (by rfl) hK.ns_fspath
theorem g_normpath_isinstance {S : Sig} (hK : KF S) : Raw S fi_normpath "isinstance" (.builtin "isinstance") := fun k Γ pos => EV.boot (by rfl) hK.ns_isinstance bt_isinstance
theorem g_normpath_bytes {S : Sig} (hK : KF S) : Raw S fi_normpath "bytes" (.type "bytes") := fun k Γ pos => EV.boot (by rfl) hK.ns_bytes bt_bytes
theorem g_normpath_splitroot {S : Sig} (hK : KF S) : Raw S fi_normpath "splitroot" (.ref 118) := fun k Γ pos => EV.global (by rfl) hK.ns_splitroot
theorem g_escape_isinstance {S : Sig} (hK : KF S) : Raw S fi_escape "isinstance" (.builtin "isinstance") := fun k Γ pos => EV.boot (by rfl) hK.ns_isinstance bt_isinstance
theorem g_escape_str {S : Sig} (hK : KF S) : Raw S fi_escape "str" (.type "str") := fun k Γ pos => EV.boot (by rfl) hK.ns_str bt_str
theorem g_escape_special_chars_map {S : Sig} (hK : KF S) : Raw S fi_escape "_special_chars_map" (.ref 132) := fun k Γ pos => EV.global (by rfl) hK.ns_special_chars_map
theorem g_translate_len {S : Sig} (hK : KF S) : Raw S fi_translate "len" (.builtin "len") := fun k Γ pos => EV.boot (by rfl) hK.ns_len bt_len
theorem g_translate_range {S : Sig} (hK : KF S) : Raw S fi_translate "range" (.type "range") := fun k Γ pos => EV.boot (by rfl) hK.ns_range bt_range
theorem g_translate_twin_re_1 {S : Sig} (hK : KF S) : Raw S fi_translate "_twin_re_1" (.ref 130) := fun k Γ pos => EV.global (by rfl) hK.ns_twin_re_1
theorem g_translate_escape {S : Sig} (hK : KF S) : Raw S fi_translate "escape" (.ref 142) := fun k Γ pos => EV.global (by rfl) hK.ns_escape
theorem g_law_one_len {S : Sig} (hK : KF S) : Raw S fi_law_one "len" (.builtin "len") := fun k Γ pos => EV.boot (by rfl) hK.ns_len bt_len
theorem g_law_takes_list {S : Sig} (hK : KF S) : Raw S fi_law_takes "list" (.type "list") := fun k Γ pos => EV.boot (by rfl) hK.ns_list bt_list
theorem g_law_takes_range {S : Sig} (hK : KF S) : Raw S fi_law_takes "range" (.type "range") := fun k Γ pos => EV.boot (by rfl) hK.ns_range bt_range
theorem g_law_takes_len {S : Sig} (hK : KF S) : Raw S fi_law_takes "len" (.builtin "len") := fun k Γ pos => EV.boot (by rfl) hK.ns_len bt_len
theorem g_law_drawn_abs {S : Sig} (hK : KF S) : Raw S fi_law_drawn "abs" (.builtin "abs") := fun k Γ pos => EV.boot (by rfl) hK.ns_abs bt_abs
theorem g_law_faults_range {S : Sig} (hK : KF S) : Raw S fi_law_faults "range" (.type "range") := fun k Γ pos => EV.boot (by rfl) hK.ns_range bt_range
theorem g_law_faults_len {S : Sig} (hK : KF S) : Raw S fi_law_faults "len" (.builtin "len") := fun k Γ pos => EV.boot (by rfl) hK.ns_len bt_len
theorem g_law_translate {S : Sig} (hK : KF S) : Raw S fi_law "_translate" (.ref 149) := fun k Γ pos => EV.global (by rfl) hK.ns_translate
theorem g_law_range {S : Sig} (hK : KF S) : Raw S fi_law "range" (.type "range") := fun k Γ pos => EV.boot (by rfl) hK.ns_range bt_range
theorem g_law_abs {S : Sig} (hK : KF S) : Raw S fi_law "abs" (.builtin "abs") := fun k Γ pos => EV.boot (by rfl) hK.ns_abs bt_abs
theorem g_law_sum {S : Sig} (hK : KF S) : Raw S fi_law "sum" (.builtin "sum") := fun k Γ pos => EV.boot (by rfl) hK.ns_sum bt_sum
theorem g_law_law_drawn {S : Sig} (hK : KF S) : Raw S fi_law "_law_drawn" (.ref 168) := fun k Γ pos => EV.global (by rfl) hK.ns_law_drawn
theorem g_law_normpath {S : Sig} (hK : KF S) : Raw S fi_law "normpath" (.ref 125) := fun k Γ pos => EV.global (by rfl) hK.ns_normpath
theorem g_law_splitroot {S : Sig} (hK : KF S) : Raw S fi_law "splitroot" (.ref 118) := fun k Γ pos => EV.global (by rfl) hK.ns_splitroot
theorem g_law_len {S : Sig} (hK : KF S) : Raw S fi_law "len" (.builtin "len") := fun k Γ pos => EV.boot (by rfl) hK.ns_len bt_len
theorem g_law_law_faults {S : Sig} (hK : KF S) : Raw S fi_law "_law_faults" (.ref 175) := fun k Γ pos => EV.global (by rfl) hK.ns_law_faults
theorem g_law_law_takes {S : Sig} (hK : KF S) : Raw S fi_law "_law_takes" (.ref 161) := fun k Γ pos => EV.global (by rfl) hK.ns_law_takes
end Mine
set_option maxRecDepth 100000
set_option linter.unusedVariables false
set_option linter.unusedSimpArgs false
namespace Mine
open PySem PySem.W PySem.Calls PyProof.Rows
local macro_rules | `(tactic| walk_at "m:len") => `(tactic| first | ((simp only [List.length_cons, List.length_nil]); decide) | decide | walk_at "m:side")
local macro_rules | `(tactic| walk_at "m:side") => `(tactic| first | (with_reducible assumption) | rfl | decide | omega | (simp only [List.length_append, List.length_cons, List.length_nil, List.length_map] at *; omega) | (simp_all; done) | (simp_all; omega))
local macro_rules | `(tactic| walk_at "m:fast") => `(tactic| first | (with_reducible assumption) | (with_reducible rfl))
local macro_rules | `(tactic| walk_at "m:slow") => `(tactic| first | rfl | (simp only [decide_eq_true_eq, decide_eq_false_iff_not]; omega) | (simp [*]; done) | decide)
local macro_rules | `(tactic| walk_at "m:any") => `(tactic| first
  | ((with_reducible show EXs _ _ _ _ _ _); walk_at "m:exs")
  | ((with_reducible show ATV _ _ _ _ _ _ _); walk_at "m:atv")
  | ((with_reducible show BV _ _ _ _ _ _ _); walk_at "m:bv")
  | ((with_reducible show EV _ _ _ _ _ _); walk_at "m:ev")
  | rfl)
local macro_rules | `(tactic| walk_at "m:or") => `(tactic| ((first
  | (refine' Or.inl (And.intro ?mb ?mo); (case mb => walk_at "m:fast"))
  | (refine' Or.inr (And.intro ?mb ?mo); (case mb => walk_at "m:fast"))
  | (refine' Or.inl (And.intro ?mb ?mo); (case mb => walk_at "m:slow"))
  | (refine' Or.inr (And.intro ?mb ?mo); (case mb => walk_at "m:slow"))); (case mo => walk_at "m:any")))
local macro_rules | `(tactic| walk_at "m:op2") => `(tactic| first
  | with_reducible exact Op2.addI | with_reducible exact Op2.subI | with_reducible exact Op2.iaddI | with_reducible exact Op2.isubI
  | with_reducible exact Op2.eqI | with_reducible exact Op2.neI | with_reducible exact Op2.ltI | with_reducible exact Op2.leI | with_reducible exact Op2.gtI | with_reducible exact Op2.geI
  | with_reducible exact Op2.inS | with_reducible exact Op2.notInS
  | ((with_reducible apply Op2.isSelf); walk_at "m:side") | ((with_reducible apply Op2.isNotSelf); walk_at "m:side") | ((with_reducible apply Op2.isOtherS); walk_at "m:side") | ((with_reducible apply Op2.isNotOtherS); walk_at "m:side") | ((with_reducible apply Op2.isNotOtherI); walk_at "m:side")
  | with_reducible exact Op2.eqS | with_reducible exact Op2.neS | with_reducible exact Op2.ltS | with_reducible exact Op2.leC | with_reducible exact Op2.neB
  | ((with_reducible apply Op2.addS); walk_at "m:side") | ((with_reducible apply Op2.iaddS); walk_at "m:side") | ((with_reducible apply Op2.addL); walk_at "m:side")
  | ((with_reducible apply Op2.modI); all_goals walk_at "m:side") | ((with_reducible apply Op2.idivI); all_goals walk_at "m:side")
  | ((with_reducible apply Op2.itemS); all_goals walk_at "m:side") | ((with_reducible apply Op2.itemL); all_goals walk_at "m:side") | ((with_reducible apply Op2.itemT); all_goals walk_at "m:side")
  | (with_reducible assumption) | apply_assumption)
local macro_rules | `(tactic| walk_at "m:opT") => `(tactic| first | with_reducible exact OpT.bool | with_reducible exact OpT.none | with_reducible exact OpT.int | with_reducible exact OpT.str | with_reducible exact OpT.list)
local macro_rules | `(tactic| walk_at "m:ops") => `(tactic| first
  | with_reducible exact Ops.lenS | with_reducible exact Ops.lenL | with_reducible exact Ops.range1 | with_reducible exact Ops.range2 | with_reducible exact Ops.absI
  | with_reducible exact Ops.isinstSB | with_reducible exact Ops.isinstSS | with_reducible exact Ops.issubStr
  | with_reducible exact Ops.typeS
  | ((with_reducible apply Ops.range3); all_goals walk_at "m:side")
  | ((with_reducible apply Ops.splitS); all_goals walk_at "m:side") | ((with_reducible apply Ops.joinS); all_goals walk_at "m:side")
  | (with_reducible assumption) | apply_assumption)
local macro_rules | `(tactic| walk_at "m:evs") => `(tactic| first
  | with_reducible exact EVs.nil
  | (refine' EVs.cons ?mh ?mt ?ms; (case mh => walk_at "m:ev"); (case mt => walk_at "m:evs"); (case ms => intro _; rfl)))
local macro_rules | `(tactic| walk_at "m:pv") => `(tactic| first | with_reducible exact PV.none | (refine' PV.some ?mh; (case mh => walk_at "m:ev")))
local macro_rules | `(tactic| walk_at "m:ev") => `(tactic| first
  | ((with_reducible show EV _ _ _ _ (Expr.Name _ _) _); first
    | (refine' EV.nm ?mn ?ml; (case mn => with_reducible assumption); (case ml => rfl))
    | (refine' EV.nmC ?mn ?ml; (case mn => with_reducible assumption); (case ml => rfl))
    | (refine' Raw.ev ?mn; (case mn => with_reducible assumption)))
  | with_reducible exact EV.cInt
  | ((with_reducible refine' EV.cS ?mc ?ml); (case mc => with_reducible assumption); (case ml => decide))
  | with_reducible exact EV.cBool
  | with_reducible exact EV.cNone
  | ((with_reducible show EV _ _ _ _ (Expr.BinOp _ _ _ _) _); refine' EV.bin ?ma ?mb ?mo; (case ma => walk_at "m:ev"); (case mb => walk_at "m:ev"); (case mo => walk_at "m:op2"))
  | ((with_reducible show EV _ _ _ _ (Expr.Compare _ [_] [_] _) _); refine' EV.cmp ?ma ?mb ?mo ?mm; (case ma => walk_at "m:ev"); (case mb => walk_at "m:ev"); (case mo => walk_at "m:op2"); (case mm => rfl))
  | ((with_reducible show EV _ _ _ _ (Expr.Tuple _ _ _) _); refine' EV.tup ?ma ?ml; (case ma => walk_at "m:evs"); (case ml => walk_at "m:len"))
  | ((with_reducible show EV _ _ _ _ (Expr.List _ _) _); refine' EV.list ?ma ?ml; (case ma => walk_at "m:evs"); (case ml => walk_at "m:len"))
  | ((with_reducible show EV _ _ _ _ (Expr.UnaryOp UnaryOp.USub _ _) _); refine' EV.un ?ma Op1.negI; (case ma => walk_at "m:ev"))
  | ((with_reducible show EV _ _ _ _ (Expr.Subscript _ (Expr.Slice _ _ (some _) _) _) _); refine' EV.sliceStep ?ma ?mb ?mc ?md ?mz ?mt; (case ma => walk_at "m:ev"); (case mb => walk_at "m:pv"); (case mc => walk_at "m:pv"); (case md => walk_at "m:pv"); (case mz => decide); (case mt => intro _ _; rfl))
  | ((with_reducible show EV _ _ _ _ (Expr.Subscript _ (Expr.Slice _ _ none _) _) _); first
    | (refine' EV.sliceS ?ma ?mb ?mc ?mt; (case ma => walk_at "m:ev"); (case mb => walk_at "m:pv"); (case mc => walk_at "m:pv"); (case mt => intro _ _; rfl))
    | (refine' EV.sliceL ?ma ?mb ?mc ?mt; (case ma => walk_at "m:ev"); (case mb => walk_at "m:pv"); (case mc => walk_at "m:pv"); (case mt => intro _ _; rfl)))
  | ((with_reducible show EV _ _ _ _ (Expr.Subscript _ _ _) _); first
    | (refine' EV.item (T := "str") ?ma ?mb ?mt PySem.F.slot_str_getitem.lookup ?mo ?ms; (case ma => walk_at "m:ev"); (case mt => exact rfl); (case mb => walk_at "m:ev"); (case mo => walk_at "m:op2"); (case ms => intro _ _; with_unfolding_all rfl))
    | (refine' EV.item (T := "list") ?ma ?mb ?mt list_getitem_lookup ?mo ?ms; (case ma => walk_at "m:ev"); (case mt => exact rfl); (case mb => walk_at "m:ev"); (case mo => walk_at "m:op2"); (case ms => intro _ _; with_unfolding_all rfl))
    | (refine' EV.item (T := "tuple") ?ma ?mb ?mt PySem.F.slot_tuple_getitem.lookup ?mo ?ms; (case ma => walk_at "m:ev"); (case mt => exact rfl); (case mb => walk_at "m:ev"); (case mo => walk_at "m:op2"); (case ms => intro _ _; with_unfolding_all rfl)))
  | ((with_reducible show EV _ _ _ _ (Expr.Call (Expr.Attribute (Expr.Name _ _) (Str.ofString "sub") _) [Expr.Lambda _ _ _ _, _] [] _) _); refine' EV.subLam ?mx ?mp ?mc ?mq ?mu ?ma ?mn ?mz ?m1 ?m2 ?m3 ?m4 ?m5; (case mx => with_reducible assumption); (case mp => with_reducible assumption); (case mc => with_reducible assumption); (case mq => with_reducible assumption); (case mu => intro _ _ _; apply_assumption); (case ma => walk_at "m:ev"); (case mn => with_reducible assumption); (case mz => walk_at "m:side"); (case m1 => intro _; rfl); (case m2 => intro _; rfl); (case m3 => intro _; rfl); (case m4 => rfl); (case m5 => intro _; rfl))
  | ((with_reducible show EV _ _ _ _ (Expr.Call (Expr.Attribute _ (Str.ofString "split") _) _ [] _) _); refine' EV.meth PySem.F.plainAttrs_str PySem.F.slot_str_split PySem.F.type_str_split ?mo ?mt ?ma ?mp; (case mo => walk_at "m:ev"); (case mt => exact rfl); (case ma => walk_at "m:evs"); (case mp => walk_at "m:ops"))
  | ((with_reducible show EV _ _ _ _ (Expr.Call (Expr.Attribute _ (Str.ofString "join") _) _ [] _) _); refine' EV.meth PySem.F.plainAttrs_str PySem.F.slot_str_join PySem.F.type_str_join ?mo ?mt ?ma ?mp; (case mo => walk_at "m:ev"); (case mt => exact rfl); (case ma => walk_at "m:evs"); (case mp => walk_at "m:ops"))
  | ((with_reducible show EV _ _ _ _ (Expr.Call (Expr.Attribute _ (Str.ofString "translate") _) _ [] _) _); refine' EV.meth PySem.F.plainAttrs_str PySem.F.slot_str_translate PySem.F.type_str_translate ?mo ?mt ?ma ?mp ?m1 ?m2 ?m3; (case mo => walk_at "m:ev"); (case mt => exact rfl); (case ma => walk_at "m:evs"); (case mp => walk_at "m:ops"); (case m1 => intro _; rfl); (case m2 => rfl); (case m3 => intro _; rfl))
  | ((with_reducible show EV _ _ _ _ (Expr.Call (Expr.Attribute _ (Str.ofString "replace") _) [Expr.Constant _ _ _, Expr.Constant _ _ _] [] _) _); refine' EV.replaceC ?mo ?m1 ?m2 ?m3 ?m4 ?m5 ?m6; (case mo => walk_at "m:ev"); (case m1 => with_reducible assumption); (case m2 => with_reducible assumption); (case m3 => decide); (case m4 => walk_at "m:side"); (case m5 => intro _; rfl); (case m6 => rfl))
  | ((with_reducible show EV _ _ _ _ (Expr.JoinedStr [_, _, _] _) _); refine' EV.fstr3 ?m1 ?m2 ?mo ?m4; (case m1 => with_reducible assumption); (case m2 => with_reducible assumption); (case mo => walk_at "m:ev"); (case m4 => walk_at "m:side"))
  | ((with_reducible show EV _ _ _ _ (Expr.Call (Expr.Name _ _) _ [] _) _); refine' EV.call ?mn ?mf ?mc ?ma ?mp; (case mn => intro _; rfl); (case mf => walk_at "m:ev"); (case mc => first | exact Callee.builtin | exact Callee.type | with_reducible assumption); (case ma => walk_at "m:evs"); (case mp => walk_at "m:ops"))
  | ((with_reducible show EV _ _ _ _ (Expr.IfExp _ _ _ _) _); refine' EV.ifB ?mc ?ma; (case mc => walk_at "m:tv"); (case ma => walk_at "m:or"))
  | ((with_reducible show EV _ _ _ _ (Expr.BoolOp _ _ _) _); refine' EV.boolOp ?mb; (case mb => walk_at "m:bv")))
local macro_rules | `(tactic| walk_at "m:bv") => `(tactic| first
  | ((with_reducible apply BV.last); walk_at "m:ev")
  | (refine' BV.orB ?ma ?mo ?mr; (case ma => walk_at "m:ev"); (case mo => walk_at "m:opT"); (case mr => walk_at "m:or"))
  | (refine' BV.andB ?ma ?mo ?mr; (case ma => walk_at "m:ev"); (case mo => walk_at "m:opT"); (case mr => walk_at "m:or")))
local macro_rules | `(tactic| walk_at "m:tv") => `(tactic| first
  | ((with_reducible show TV _ _ _ _ (Expr.UnaryOp UnaryOp.Not _ _) _); refine' TV.not ?mh; (case mh => walk_at "m:tv"))
  | ((with_reducible show TV _ _ _ _ (Expr.Compare _ [_] [_] _) _); refine' TV.cmp ?ma ?mb ?mo ?mm; (case ma => walk_at "m:ev"); (case mb => walk_at "m:ev"); (case mo => walk_at "m:op2"); (case mm => rfl))
  | ((with_reducible show TV _ _ _ _ (Expr.BoolOp _ _ _) _); refine' TV.boolOp ?mh; (case mh => walk_at "m:atv"))
  | (refine' TV.val (by first | exact tested_Name | exact tested_Call | exact tested_Sub | exact tested_Const) ?mh ?mo; (case mh => walk_at "m:ev"); (case mo => walk_at "m:opT")))
local macro_rules | `(tactic| walk_at "m:atv") => `(tactic| first
  | with_reducible exact ATV.andNil | with_reducible exact ATV.orNil
  | (refine' ATV.andB ?ma ?mr; (case ma => walk_at "m:tv"); (case mr => walk_at "m:or"))
  | (refine' ATV.orB ?ma ?mr; (case ma => walk_at "m:tv"); (case mr => walk_at "m:or")))
local macro_rules | `(tactic| walk_at "m:tvb") => `(tactic| first
  | ((refine' TV.borrowN ?mn ?mo ?ml ?mh; (case mo => with_reducible assumption); (case mn => with_reducible assumption); (case ml => rfl)); (case mh => (try simp only [List.set_cons_zero, List.set_cons_succ]); walk_at "m:tv"))
  | walk_at "m:tv")
local macro_rules | `(tactic| walk_at "m:ass") => `(tactic| first
  | (refine' ASs.cons ?ma ?mr ?ms; (case ma => walk_at "m:as"); (case mr => walk_at "m:ass"); (case ms => intro _; rfl))
  | exact ASs.nil)
local macro_rules | `(tactic| walk_at "m:as") => `(tactic| first
  | (refine' AS.nm ?mn; (case mn => with_reducible assumption))
  | (refine' AS.nmC ?mn ?ml; (case mn => with_reducible assumption); (case ml => rfl))
  | (refine' AS.tup ?mh; (case mh => walk_at "m:ass")))
local macro_rules | `(tactic| walk_at "m:ex") => `(tactic| first
  | with_reducible exact EX.pass | with_reducible exact EX.cont | with_reducible exact EX.brk
  | ((with_reducible show EX _ _ _ _ (Stmt.Return _ _) _); refine' EX.ret ?me; (case me => walk_at "m:ev"))
  | ((with_reducible show EX _ _ _ _ (Stmt.Assign [Expr.Name _ _] (Expr.List _ _) _) _); refine' EX.ownN ?mn ?mo ?me ?m1 ?m2 ?m3 ?m4 ?m5; (case mn => with_reducible assumption); (case mo => with_reducible assumption); (case me => walk_at "m:evs"); (case m1 => rfl); (case m2 => walk_at "m:len"); (case m3 => exact Nat.le_of_ble_eq_true rfl); (case m4 => intro _; rfl); (case m5 => intro _; rfl))
  | ((with_reducible show EX _ _ _ _ (Stmt.Expr (Expr.Call (Expr.Attribute (Expr.Name _ _) (Str.ofString "append") _) [_] [] _) _) _); refine' EX.appendN ?mn ?ml ?me ?mz ?m1 ?m2 ?m3; (case mn => with_reducible assumption); (case ml => rfl); (case me => walk_at "m:ev"); (case mz => walk_at "m:side"); (case m1 => intro _; rfl); (case m2 => rfl); (case m3 => intro _; rfl))
  | ((with_reducible show EX _ _ _ _ (Stmt.Expr (Expr.Call (Expr.Attribute (Expr.Name _ _) (Str.ofString "pop") _) [] [] _) _) _); refine' EX.popN ?mn ?ml ?my ?m2 ?m3; (case mn => with_reducible assumption); (case ml => rfl); (case my => first | with_reducible assumption | rfl); (case m2 => rfl); (case m3 => intro _; rfl))
  | ((with_reducible show EX _ _ _ _ (Stmt.Assign [Expr.Name _ _] (Expr.Attribute (Expr.Name _ _) (Str.ofString "append") _) _) _); refine' EX.appBindN ?mn ?mm ?ml ?mi ?ma ?m1 ?m2; (case mn => with_reducible assumption); (case mm => with_reducible assumption); (case ml => rfl); (case mi => decide); (case ma => rfl); (case m1 => intro _; rfl); (case m2 => intro _; rfl))
  | ((with_reducible show EX _ _ _ _ (Stmt.Expr (Expr.Call (Expr.Name _ _) [_] [] _) _) _); refine' EX.appCallN ?mn ?mi ?mj ?me ?mz ?ml ?m1 ?m2; (case mn => with_reducible assumption); (case mi => rfl); (case mj => rfl); (case me => walk_at "m:ev"); (case mz => walk_at "m:side"); (case ml => with_reducible assumption); (case m1 => intro _; rfl); (case m2 => intro _; rfl))
  | ((with_reducible show EX _ _ _ _ (Stmt.Assign [Expr.Tuple [Expr.Name _ _, Expr.Name _ _] _ _] (Expr.Tuple [_, _] _ _) _) _); refine' EX.assign2N ?mn ?mm ?me ?m1 ?m2 ?m3 ?m4 ?m5 ?m6; (case mn => with_reducible assumption); (case mm => with_reducible assumption); (case me => walk_at "m:ev"); (case m1 => rfl); (case m2 => decide); (case m3 => rfl); (case m4 => rfl); (case m5 => rfl); (case m6 => intro _; rfl))
  | ((with_reducible show EX _ _ _ _ (Stmt.Assign [_] _ _) _); refine' EX.assign ?me ?ma ?m1 ?m2 ?m3; (case me => walk_at "m:ev"); (case ma => walk_at "m:as"); (case m1 => intro _; rfl); (case m2 => intro _; rfl); (case m3 => intro _ _; rfl))
  | ((with_reducible show EX _ _ _ _ (Stmt.AugAssign (Expr.Name _ _) _ _ _) _); refine' EX.augN ?mn ?ml ?me ?mo; (case mn => with_reducible assumption); (case ml => rfl); (case me => walk_at "m:ev"); (case mo => walk_at "m:op2"))
  | ((with_reducible show EX _ _ _ _ (Stmt.If _ _ _ _) _); refine' EX.ifB ?mc ?mb; (case mc => walk_at "m:tvb"); (case mb => walk_at "m:or")))
local macro_rules | `(tactic| walk_at "m:rest") => `(tactic| first
  | (refine' Rest.stop ?ma ?mb; (case ma => with_reducible rfl); (case mb => rfl))
  | (refine' Rest.next ?ma; (case ma => (try simp only [List.set_cons_zero, List.set_cons_succ]); walk_at "m:exs")))
local macro_rules | `(tactic| walk_at "m:exs") => `(tactic| first
  | with_reducible exact EXs.nil
  | exact EXs.nil
  | (refine' EXs.seq ?ma ?mr; (case ma => walk_at "m:ex"); (case mr => walk_at "m:rest")))
local macro_rules | `(tactic| walk_at "m:step") => `(tactic| (refine' EXs.seq ?ma ?mr; (case ma => walk_at "m:ex"); apply Rest.next; (try simp only [List.set_cons_zero, List.set_cons_succ])))

variable {S : Sig} (hK : KF S)
include hK

theorem fspath_ok {k : Nat} {x : List Nat} : Ops S (k + 1) (fun vs => call (.ref 111) vs) [.str x] (.str x) := by
  have n0 := @n_fspath_0
  have n1 := @n_fspath_1
  have n2 := @n_fspath_2
  have n3 := @n_fspath_3
  have g_type := g_fspath_type hK
  have g_issubclass := g_fspath_issubclass hK
  have g_str := g_fspath_str hK
  have g_bytes := g_fspath_bytes hK
  have g_len := g_fspath_len hK
  have c0 : Cs "__fspath__" [95, 95, 102, 115, 112, 97, 116, 104, 95, 95] := rfl
  have c1 : Cs "expected str, bytes or os.PathLike object, not " [101, 120, 112, 101, 99, 116, 101, 100, 32, 115, 116, 114, 44, 32, 98, 121, 116, 101, 115, 32, 111, 114, 32, 111, 115, 46, 80, 97, 116, 104, 76, 105, 107, 101, 32, 111, 98, 106, 101, 99, 116, 44, 32, 110, 111, 116, 32] := rfl
  have c2 : Cs "utf-8" [117, 116, 102, 45, 56] := rfl
  have c3 : Cs "expected {}.{}() to return str or bytes, not {}" [101, 120, 112, 101, 99, 116, 101, 100, 32, 123, 125, 46, 123, 125, 40, 41, 32, 116, 111, 32, 114, 101, 116, 117, 114, 110, 32, 115, 116, 114, 32, 111, 114, 32, 98, 121, 116, 101, 115, 44, 32, 110, 111, 116, 32, 123, 125] := rfl
  have c4 : Cs "the words of fspath, of what an __fspath__ gave" [116, 104, 101, 32, 119, 111, 114, 100, 115, 32, 111, 102, 32, 102, 115, 112, 97, 116, 104, 44, 32, 111, 102, 32, 119, 104, 97, 116, 32, 97, 110, 32, 95, 95, 102, 115, 112, 97, 116, 104, 95, 95, 32, 103, 97, 118, 101] := rfl
  refine Fn.intro (f := fi_fspath) hK.fn_fspath rfl ?_
  show EXs S _ fi_fspath [some (B.val _), none, none, none] _ _
  conv => arg 5; whnf
  walk_at "m:exs"
noncomputable def pSplitroot (x : List Nat) : List Nat × List Nat × List Nat :=
  if pick none (some 1) x != [47] then ([], [], x)
  else if pick (some 1) (some 2) x != [47] || pick (some 2) (some 3) x == [47] then ([], [47], pick (some 1) none x)
  else ([], pick none (some 2) x, pick (some 2) none x)
set_option maxHeartbeats 4000000 in
theorem splitroot_ok {k : Nat} {x : List Nat} : Ops S (k + 2) (fun vs => call (.ref 118) vs) [.str x] (.tup [.str (pSplitroot x).1, .str (pSplitroot x).2.1, .str (pSplitroot x).2.2]) := by
  have n0 := @n_splitroot_0
  have n1 := @n_splitroot_1
  have n2 := @n_splitroot_2
  have g_fspath := g_splitroot_fspath hK
  have k_fspath := hK.cal_fspath
  have g_isinstance := g_splitroot_isinstance hK
  have g_bytes := g_splitroot_bytes hK
  have c0 : Cs "/" [47] := rfl
  have c1 : Cs "" [] := rfl
  refine Fn.intro (f := fi_splitroot) hK.fn_splitroot rfl ?_
  show EXs S _ fi_splitroot [some (B.val _), none, none] _ _
  conv => arg 5; whnf
  have hf : ∀ {k x}, Ops S (k + 1) (fun vs => call (.ref 111) vs) [.str x] (.str x) := fspath_ok hK
  unfold pSplitroot
  cases h1 : (pick none (some 1) x != [47]) <;> cases h2 : (pick (some 1) (some 2) x != [47]) <;> cases h3 : (pick (some 2) (some 3) x == [47])
  all_goals
    simp only [Bool.false_or, Bool.true_or, Bool.or_true, Bool.or_false, Bool.false_eq_true, if_true, if_false]
    refine' EXs.to ?mm rfl
    case mm => walk_at "m:exs"
noncomputable def normStep (root : List Nat) (acc : List (List Nat)) (c : List Nat) : List (List Nat) :=
  if c = [] ∨ c = [46] then acc
  else if c ≠ [46, 46] ∨ (root = [] ∧ acc = []) ∨ acc.getLast? = some [46, 46] then acc ++ [c]
  else acc.dropLast
noncomputable def pNormpath (x : List Nat) : List Nat :=
  if x = [] then [46] else
  let out := (pSplitroot x).2.1 ++ joinL [47] ((splitC 47 (pSplitroot x).2.2).foldl (normStep (pSplitroot x).2.1) [])
  if out = [] then [46] else out
omit hK in
theorem normStep_lens (r : List Nat) (acc : List (List Nat)) (c : List Nat) : lens (normStep r acc c) ≤ lens acc + (c.length + 1) := by
  unfold normStep
  split
  · omega
  · split
    · rw [lens_append]; simp [lens]
    · have := lens_dropLast acc; omega
omit hK in
theorem normFold_lens (r : List Nat) : ∀ (cs acc : List (List Nat)), lens (cs.foldl (normStep r) acc) ≤ lens acc + lens cs
  | [], acc => by simp [lens]
  | c :: cs, acc => by
    have h1 := normFold_lens r cs (normStep r acc c)
    have h2 := normStep_lens r acc c
    have h3 : lens (c :: cs) = (c.length + 1) + lens cs := by simp [lens]
    rw [List.foldl_cons]; omega
omit hK in
theorem splitroot_len (x : List Nat) : (pSplitroot x).2.1.length + (pSplitroot x).2.2.length ≤ x.length + 1 ∧ (pSplitroot x).2.1.length ≤ 2 := by
  unfold pSplitroot
  have h1 : pick none (some 2) x = x.take 2 := pick_to x 2
  have h2 : pick (some 2) none x = x.drop 2 := pick_from x 2
  have h3 : pick (some 1) none x = x.drop 1 := pick_from x 1
  split
  · simp
  · split
    · simp [h3]; omega
    · simp [h1, h2]; omega
set_option maxHeartbeats 4000000 in
theorem normpath_ok {k : Nat} {x : List Nat} (hx : x.length ≤ 100000) : Ops S (k + 3) (fun vs => call (.ref 125) vs) [.str x] (.str (pNormpath x)) := by
  have n0 := @n_normpath_0
  have n1 := @n_normpath_1
  have n2 := @n_normpath_2
  have n3 := @n_normpath_3
  have n4 := @n_normpath_4
  have n5 := @n_normpath_5
  have n6 := @n_normpath_6
  have n7 := @n_normpath_7
  have n8 := @n_normpath_8
  have g_fspath := g_normpath_fspath hK
  have k_fspath := hK.cal_fspath
  have g_isinstance := g_normpath_isinstance hK
  have g_bytes := g_normpath_bytes hK
  have g_splitroot := g_normpath_splitroot hK
  have k_splitroot := hK.cal_splitroot
  have c0 : Cs "/" [47] := rfl
  have c1 : Cs "." [46] := rfl
  have c2 : Cs ".." [46, 46] := rfl
  refine Fn.intro (f := fi_normpath) hK.fn_normpath rfl ?_
  show EXs S _ fi_normpath [some (B.val _), none, none, none, none, none, none, none, none] _ _
  conv => arg 5; whnf
  have hf : ∀ {k x}, Ops S (k + 1) (fun vs => call (.ref 111) vs) [.str x] (.str x) := fspath_ok hK
  have hs : ∀ {k x}, Ops S (k + 2) (fun vs => call (.ref 118) vs) [.str x] (.tup [.str (pSplitroot x).1, .str (pSplitroot x).2.1, .str (pSplitroot x).2.2]) := splitroot_ok hK
  have own7 : OwnV fi_normpath 7 := .intro
  unfold pNormpath
  cases h1 : (decide (x ≠ []))
  · have hx0 : x = [] := by simpa using h1
    rw [if_pos hx0]
    refine' EXs.to ?mm rfl
    case mm => walk_at "m:exs"
  · have hx0 : x ≠ [] := by simpa using h1
    rw [if_neg hx0]
    have hsz := sizeLine_eq
    have hlen := splitroot_len x
    have hz : (pSplitroot x).2.2.length + 2 ≤ sizeLine := by omega
    have hsum := splitC_sum 47 (pSplitroot x).2.2
    have hcnt := splitC_length 47 (pSplitroot x).2.2
    have hfold := normFold_lens (pSplitroot x).2.1 (splitC 47 (pSplitroot x).2.2) []
    have hfl : lens ((splitC 47 (pSplitroot x).2.2).foldl (normStep (pSplitroot x).2.1) []) ≤ 100010 := by
      have : lens (splitC 47 (pSplitroot x).2.2) = (pSplitroot x).2.2.length + 1 := hsum
      have h0 : lens [] = 0 := rfl
      omega
    walk_at "m:step"
    walk_at "m:step"
    walk_at "m:step"
    walk_at "m:step"
    walk_at "m:step"
    walk_at "m:step"
    refine EXs.forFold (σ := List (List Nat)) (τ := Option B) (fun acc ob => [some (B.val (D.str (pSplitroot x).2.2)), some (B.val (D.str [47])), some (B.val (D.str [46])), some (B.val (D.str [46, 46])), some (B.val (D.str (pSplitroot x).1)), some (B.val (D.str (pSplitroot x).2.1)), some (B.val (D.list (List.map D.str (splitC 47 (pSplitroot x).2.2)))), some (B.own (acc.map D.str)), ob])
      D.str (normStep (pSplitroot x).2.1) (fun n acc => n + acc.length ≤ 100010) (splitC 47 (pSplitroot x).2.2) [] none rfl (EV.nm n6 rfl) It.list ?_ ?_ ?_
    · simp; omega
    · intro n acc t c hc hI
      refine ⟨?_, _, some (B.val (D.str c)), AS.nm n8, ?_⟩
      · unfold normStep; split
        · omega
        · split
          · simp; omega
          · simp; omega
      · simp only [List.set_cons_zero, List.set_cons_succ]
        unfold normStep
        have b0 : ([46, 46] != [46, 46]) = false := by decide
        have b0' : ([46, 46] == [46, 46]) = true := by decide
        by_cases hc0 : c = []
        · subst hc0
          rw [if_pos (.inl rfl)]
          refine Or.inr ?_
          refine' EXs.to ?mm rfl
          case mm => walk_at "m:exs"
        · have b1 : (!decide (c ≠ [])) = false := by simp [hc0]
          by_cases hc1 : c = [46]
          · subst hc1
            rw [if_pos (.inr rfl)]
            refine Or.inr ?_
            refine' EXs.to ?mm rfl
            case mm => walk_at "m:exs"
          · have b2 : (c == [46]) = false := by simp [hc1]
            rw [if_neg (by simp [hc0, hc1])]
            refine Or.inl ?_
            rcases nil_or_snoc acc with rfl | ⟨ini, last, rfl⟩
            · simp only [List.map_nil, List.nil_append, List.map_cons, List.dropLast_nil]
              have hne := dec_nil [] rfl
              have hne' := dec_nil' [] rfl
              by_cases hc2 : c = [46, 46]
              · subst hc2
                cases b3 : (!decide ((pSplitroot x).2.1 ≠ []))
                · rw [if_neg (by simp at b3; simp [b3])]
                  refine' EXs.to ?mm rfl
                  case mm => walk_at "m:exs"
                · rw [if_pos (by simp at b3; simp [b3])]
                  refine' EXs.to ?mm rfl
                  case mm => walk_at "m:exs"
              · have b3 : (c != [46, 46]) = true := by simp [hc2]
                rw [if_pos (.inl hc2)]
                refine' EXs.to ?mm rfl
                case mm => walk_at "m:exs"
            · have hl := last_item (ini.map D.str) (D.str last)
              have hz2 : (List.map D.str ini ++ [D.str last]).length < sizeLine := by
                have := sizeLine_eq
                simp at hI ⊢; omega
              have hne := dec_snoc (List.map D.str ini ++ [D.str last]) (by simp)
              have hne' := dec_snoc' (List.map D.str ini ++ [D.str last]) (by simp)
              by_cases hc2 : c = [46, 46]
              · subst hc2
                by_cases hl2 : last = [46, 46]
                · subst hl2
                  rw [if_pos (by simp)]
                  simp only [List.map_append, List.map_cons, List.map_nil]
                  cases b3 : (!decide ((pSplitroot x).2.1 ≠ []))
                  · refine' EXs.to ?mm rfl
                    case mm => walk_at "m:exs"
                  · refine' EXs.to ?mm rfl
                    case mm => walk_at "m:exs"
                · have b5 : (last == [46, 46]) = false := by simp [hl2]
                  rw [if_neg (by simp [hl2]), List.dropLast_concat]
                  simp only [List.map_append, List.map_cons, List.map_nil]
                  cases b3 : (!decide ((pSplitroot x).2.1 ≠ []))
                  · refine' EXs.to ?mm rfl
                    case mm => walk_at "m:exs"
                  · refine' EXs.to ?mm rfl
                    case mm => walk_at "m:exs"
              · have b3 : (c != [46, 46]) = true := by simp [hc2]
                rw [if_pos (.inl hc2)]
                simp only [List.map_append, List.map_cons, List.map_nil]
                refine' EXs.to ?mm rfl
                case mm => walk_at "m:exs"
    · intro t' hI
      have hj : (((splitC 47 (pSplitroot x).2.2).foldl (normStep (pSplitroot x).2.1) []).map fun p => p.length + [47].length).sum ≤ sizeLine := by
        have : lens ((splitC 47 (pSplitroot x).2.2).foldl (normStep (pSplitroot x).2.1) []) = (((splitC 47 (pSplitroot x).2.2).foldl (normStep (pSplitroot x).2.1) []).map fun p => p.length + [47].length).sum := rfl
        omega
      have hj2 := joinL_len [47] ((splitC 47 (pSplitroot x).2.2).foldl (normStep (pSplitroot x).2.1) [])
      have hj3 : (pSplitroot x).2.1.length + (joinL [47] ((splitC 47 (pSplitroot x).2.2).foldl (normStep (pSplitroot x).2.1) [])).length ≤ sizeLine := by
        have : lens ((splitC 47 (pSplitroot x).2.2).foldl (normStep (pSplitroot x).2.1) []) = (((splitC 47 (pSplitroot x).2.2).foldl (normStep (pSplitroot x).2.1) []).map fun p => p.length + [47].length).sum := rfl
        omega
      refine EXs.freezeN n7 rfl ?_
      simp only [List.set_cons_zero, List.set_cons_succ]
      cases ho : decide ((pSplitroot x).2.1 ++ joinL [47] ((splitC 47 (pSplitroot x).2.2).foldl (normStep (pSplitroot x).2.1) []) ≠ [])
      · rw [if_pos (by simpa using ho)]
        refine' EXs.to ?mm rfl
        case mm => walk_at "m:exs"
      · rw [if_neg (of_decide_eq_true ho)]
        refine' EXs.to ?mm rfl
        case mm => walk_at "m:exs"
noncomputable def specials : List Nat := [40, 41, 91, 93, 123, 125, 63, 42, 43, 45, 124, 94, 36, 92, 46, 38, 126, 35, 32, 9, 10, 13, 11, 12]
theorem escape_ok {k : Nat} {c : Nat} : Ops S (k + 1) (fun vs => call (.ref 142) vs) [.str [c]] (.str (escC specials c)) := by
  have n0 := @n_escape_0
  have g_isinstance := g_escape_isinstance hK
  have g_str := g_escape_str hK
  have g_special_chars_map := g_escape_special_chars_map hK
  have c0 : Cs "latin1" [108, 97, 116, 105, 110, 49] := rfl
  refine Fn.intro (f := fi_escape) hK.fn_escape rfl ?_
  show EXs S _ fi_escape [some (B.val _)] _ _
  conv => arg 5; whnf
  have ht : ∀ {k : Nat}, Ops S k (fun vs => call (.builtin "str.translate") vs) [.str [c], .raw (.ref 132)] (.str (escC specials c)) := by
    intro k
    obtain ⟨es, n, h1, h2⟩ := hK.dic
    exact Ops.translate h1 h2 (by decide)
  refine' EXs.to ?mm rfl
  case mm => walk_at "m:exs"
/-- a part of the list: the star's place (none) or a text -/
noncomputable abbrev It' := Option (List Nat)
noncomputable def itD (v : Value) : It' → D
  | none => .raw v
  | some s => .str s
noncomputable def setFrom (pat : List Nat) (i : Nat) : Nat :=
  if pat[if pat[i]? = some 33 then i + 1 else i]? = some 93 then (if pat[i]? = some 33 then i + 1 else i) + 1 else if pat[i]? = some 33 then i + 1 else i
noncomputable def openC (pat : List Nat) (j : Nat) : Bool := decide ((j : Int) < (pat.length : Int)) && !decide (pat[j]? = some 93)
noncomputable def setEnd (pat : List Nat) (i : Nat) : Nat := looped (openC pat) (· + 1) (pat.length - setFrom pat i) (setFrom pat i)
noncomputable def setVar (stuff : List Nat) : List Nat :=
  if stuff = [] ∨ stuff = [33] then stuff else if stuff.head? = some 33 then [94] ++ stuff.drop 1 else if stuff.head? = some 94 ∨ stuff.head? = some 91 then [92] ++ stuff else stuff
noncomputable def setShown (stuff : List Nat) : List Nat :=
  if stuff = [] then [40, 63, 33, 41] else if stuff = [33] then [46] else
  [91] ++ setVar stuff ++ [93]
noncomputable def setItem' (stuff : List Nat) : List Nat := setShown (replC 92 [92, 92] stuff)
noncomputable def trStep (q pat : List Nat) (s : List It' × Nat) : List It' × Nat :=
  match pat[s.2]? with
  | none => (s.1, s.2 + 1)
  | some c =>
    if c = 42 then (if s.1.getLast? = some none then s.1 else s.1 ++ [none], s.2 + 1)
    else if c = 63 then (s.1 ++ [some q], s.2 + 1)
    else if c = 91 then
      if pat.length ≤ setEnd pat (s.2 + 1) then (s.1 ++ [some [92, 91]], s.2 + 1)
      else (s.1 ++ [some (setItem' (pick (some ((s.2 + 1 : Nat) : Int)) (some (setEnd pat (s.2 + 1) : Int)) pat))], setEnd pat (s.2 + 1) + 1)
    else (s.1 ++ [some (escC specials c)], s.2 + 1)
noncomputable def trGo (pat : List Nat) (s : List It' × Nat) : Bool := decide ((s.2 : Int) < (pat.length : Int))
noncomputable def pTr (q pat : List Nat) : List It' := (looped (trGo pat) (trStep q pat) pat.length ([], 0)).1
omit hK in
theorem setFrom_le (pat : List Nat) (i : Nat) (h : i ≤ pat.length) : i ≤ setFrom pat i ∧ setFrom pat i ≤ pat.length := by
  have lt : ∀ {j c : Nat}, pat[j]? = some c → j < pat.length := fun e => (List.getElem?_eq_some_iff.mp e).1
  unfold setFrom
  by_cases h2 : pat[i]? = some 33
  · have h3 := lt h2
    simp only [h2, if_true]
    split
    · rename_i h1; have := lt h1; omega
    · omega
  · simp only [h2, if_false]
    split
    · rename_i h1; have := lt h1; omega
    · omega
omit hK in
theorem openRun_le (pat : List Nat) : ∀ (n j : Nat), j ≤ pat.length → j ≤ looped (openC pat) (· + 1) n j ∧ looped (openC pat) (· + 1) n j ≤ pat.length
  | 0, j, h => ⟨Nat.le_refl _, h⟩
  | n + 1, j, h => by
    unfold looped
    split
    · rename_i hc
      simp only [openC, Bool.and_eq_true, decide_eq_true_eq] at hc
      have := openRun_le pat n (j + 1) (by omega)
      omega
    · exact ⟨Nat.le_refl _, h⟩
omit hK in
theorem setEnd_le (pat : List Nat) (i : Nat) (h : i ≤ pat.length) : i ≤ setEnd pat i ∧ setEnd pat i ≤ pat.length := by
  have h1 := setFrom_le pat i h
  have h2 := openRun_le pat (pat.length - setFrom pat i) (setFrom pat i) h1.2
  unfold setEnd; omega
omit hK in
theorem trStep_grow (q pat : List Nat) (s : List It' × Nat) (h : s.2 < pat.length) : s.2 < (trStep q pat s).2 ∧ (trStep q pat s).2 ≤ pat.length ∧ (trStep q pat s).1.length ≤ s.1.length + 1 := by
  have h1 := setEnd_le pat (s.2 + 1) (by omega)
  unfold trStep
  rw [List.getElem?_eq_getElem h]
  simp only
  repeat' split
  all_goals simp
  all_goals omega
omit hK in
theorem replC_mem (c : Nat) (y : List Nat) (xs : List Nat) (x : Nat) (h : x ∈ replC c y xs) : x ∈ y ∨ x ∈ xs := by
  unfold replC at h
  obtain ⟨z, h1, h2⟩ := List.mem_flatMap.mp h
  split at h2
  · exact .inl h2
  · simp at h2; subst h2; exact .inr h1
set_option maxHeartbeats 8000000 in
theorem translate_ok {k : Nat} {pat q : List Nat} {v : Value} (hT : (148, 144) ∈ S.tabs) (hqa : ∀ p, S.qualAt p = fi_translate.qual ++ "<lambda>") (hv : solid v = true) (hp : pat.length ≤ 1000) (hd : ∀ c ∈ pat, c ≠ 45) (hs : ∀ c ∈ pat, sig c = false) (hu : ∀ c ∈ pat, c < 0x110000) :
    Ops S (k + 2) (fun vs => call (.ref 149) vs) [.str pat, .raw v, .str q] (.list ((pTr q pat).map (itD v))) := by
  have n0 := @n_translate_0
  have n1 := @n_translate_1
  have n2 := @n_translate_2
  have n3 := @n_translate_3
  have n4 := @n_translate_4
  have n5 := @n_translate_5
  have n6 := @n_translate_6
  have n7 := @n_translate_7
  have n8 := @n_translate_8
  have n9 := @n_translate_9
  have n10 := @n_translate_10
  have n11 := @n_translate_11
  have n12 := @n_translate_12
  have g_len := g_translate_len hK
  have g_range := g_translate_range hK
  have g_twin_re_1 := g_translate_twin_re_1 hK
  have g_escape := g_translate_escape hK
  have k_escape := hK.cal_escape
  have c0 : Cs "*" [42] := rfl
  have c1 : Cs "?" [63] := rfl
  have c2 : Cs "[" [91] := rfl
  have c3 : Cs "!" [33] := rfl
  have c4 : Cs "]" [93] := rfl
  have c5 : Cs "\\[" [92, 91] := rfl
  have c6 : Cs "-" [45] := rfl
  have c7 : Cs "\\" [92] := rfl
  have c8 : Cs "\\\\" [92, 92] := rfl
  have c9 : Cs "\\-" [92, 45] := rfl
  have c10 : Cs "" [] := rfl
  have c11 : Cs "(?!)" [40, 63, 33, 41] := rfl
  have c12 : Cs "." [46] := rfl
  have c13 : Cs "^" [94] := rfl
  refine Fn.intro (f := fi_translate) hK.fn_translate rfl ?_
  show EXs S _ fi_translate [some (B.val _), some (B.val _), some (B.val _), none, none, none, none, none, none, none, none, none, none] _ _
  conv => arg 5; whnf
  have hsz := sizeLine_eq
  have own3 : OwnV fi_translate 3 := .intro
  have hesc : ∀ {k : Nat} {c : Nat}, Ops S (k + 1) (fun vs => call (.ref 142) vs) [.str [c]] (.str (escC specials c)) := escape_ok hK
  have hpat := hK.pat_twin_re_1
  have hcode : fi_translate.code = .ref 148 := rfl
  walk_at "m:step"
  walk_at "m:step"
  walk_at "m:step"
  refine EXs.whileRun (σ := List It' × Nat) (τ := Option B × Option B × Option B) (fun s t => [some (B.val (D.str pat)), some (B.val (D.raw v)), some (B.val (D.str q)), some (B.own (s.1.map (itD v))), some (B.app 3), some (B.val (D.int (s.2 : Int))), some (B.val (D.int (pat.length : Int))), t.1, t.2.1, t.2.2, none, none, none])
    (trGo pat) (trStep q pat) (fun s => s.1.length ≤ s.2 ∧ s.2 ≤ pat.length) (fun s => pat.length - s.2) pat.length ([], 0) (none, none, none) rfl (Nat.sub_le _ _) ⟨Nat.le_refl _, Nat.zero_le _⟩ ?_ ?_ ?_
  · rintro ⟨res, i⟩ t ⟨h1, h2⟩
    simp only [trGo]
    walk_at "m:tv"
  · rintro ⟨res, i⟩ ⟨t1, t2, t3⟩ ⟨h1, h2⟩ hc
    simp only [trGo, decide_eq_true_eq] at hc h1 h2
    have hil : i < pat.length := by omega
    have hg := trStep_grow q pat (res, i) hil
    refine ⟨⟨by simp only at hg ⊢; omega, hg.2.1⟩, by simp only at hg ⊢; omega, ?_⟩
    clear hg
    obtain ⟨c, hci⟩ : ∃ c, pat[i]? = some c := ⟨_, List.getElem?_eq_getElem hil⟩
    have hix : ∀ (j : Nat) (x : Nat), pat[j]? = some x → pat[idx pat.length (j : Int)]? = some x := by
      intro j x e
      have : idx pat.length (j : Int) = j := by unfold idx; rw [if_neg (by omega)]; simp
      rw [this]; exact e
    have hi0 := hix i c hci
    have zi : -(pat.length : Int) ≤ (i : Int) := by omega
    have hcast : (i : Int) + 1 = ((i + 1 : Nat) : Int) := by omega
    have hrl : (res.map (itD v)).length < sizeLine := by simp; omega
    simp only [trStep, hci]
    by_cases c42 : c = 42
    · subst c42
      rw [if_pos rfl]
      rcases nil_or_snoc res with rfl | ⟨ini, last, rfl⟩
      · rw [if_neg (by simp)]
        refine ⟨(some (B.val (D.str [42])), t2, t3), Or.inl ?_⟩
        have hne := dec_nil [] rfl
        have hne' := dec_nil' [] rfl
        simp only [List.map_nil, List.nil_append, List.map_cons, ← hcast, itD]
        refine' EXs.to ?mm rfl
        case mm => walk_at "m:exs"
      · have hl := last_item (ini.map (itD v)) (itD v last)
        have hne := dec_snoc (List.map (itD v) ini ++ [itD v last]) (by simp)
        have hne' := dec_snoc' (List.map (itD v) ini ++ [itD v last]) (by simp)
        have zl : -((List.map (itD v) ini ++ [itD v last]).length : Int) ≤ -1 := by simp; omega
        refine ⟨(some (B.val (D.str [42])), t2, t3), Or.inl ?_⟩
        cases last with
        | none =>
          rw [if_pos (by simp)]
          simp only [List.map_append, List.map_cons, List.map_nil, ← hcast, itD] at *
          refine' EXs.to ?mm rfl
          case mm => walk_at "m:exs"
        | some sl =>
          rw [if_neg (by simp)]
          simp only [List.map_append, List.map_cons, List.map_nil, ← hcast, itD] at *
          refine' EXs.to ?mm rfl
          case mm => walk_at "m:exs"
    · rw [if_neg c42]
      have b42 : ([c] == [42]) = false := by simp [c42]
      by_cases c63 : c = 63
      · subst c63
        rw [if_pos rfl]
        refine ⟨(some (B.val (D.str [63])), t2, t3), Or.inl ?_⟩
        simp only [List.map_append, List.map_cons, List.map_nil, ← hcast, itD]
        refine' EXs.to ?mm rfl
        case mm => walk_at "m:exs"
      · rw [if_neg c63]
        have b63 : ([c] == [63]) = false := by simp [c63]
        by_cases c91 : c = 91
        · subst c91
          rw [if_pos rfl]
          have hel := setEnd_le pat (i + 1) (by omega)
          have hfl := setFrom_le pat (i + 1) (by omega)
          have lt : ∀ {j c : Nat}, pat[j]? = some c → j < pat.length := fun e => (List.getElem?_eq_some_iff.mp e).1
          have bT : ([91] == [91]) = true := by decide
          let Γj : List It' → Nat → Nat → Ctxt := fun rs m j => [some (B.val (D.str pat)), some (B.val (D.raw v)), some (B.val (D.str q)), some (B.own (rs.map (itD v))), some (B.app 3), some (B.val (D.int (m : Int))), some (B.val (D.int (pat.length : Int))), some (B.val (D.str [91])), some (B.val (D.int (j : Int))), t3, none, none, none]
          refine ⟨(some (B.val (D.str [91])), some (B.val (D.int (setEnd pat (i + 1) : Int))), if pat.length ≤ setEnd pat (i + 1) then t3 else some (B.val (D.str (setVar (replC 92 [92, 92] (pick (some ((i + 1 : Nat) : Int)) (some (setEnd pat (i + 1) : Int)) pat)))))), Or.inl ?_⟩
          walk_at "m:step"
          walk_at "m:step"
          simp only [hcast]
          refine EXs.cons (EX.ifF (TV.is (b := ([91] == [42])) (by walk_at "m:tv") b42) (EXs.cons (EX.ifF (TV.is (b := ([91] == [63])) (by walk_at "m:tv") b63) (EXs.cons (EX.ifT (TV.is (b := ([91] == [91])) (by walk_at "m:tv") bT) ?inner) EXs.nil)) EXs.nil)) EXs.nil
          walk_at "m:step"
          refine EXs.cons (Γ₁ := Γj res (i + 1) (if pat[i + 1]? = some 33 then i + 1 + 1 else i + 1)) ?if1 ?rest1
          case if1 =>
            by_cases hj : i + 1 < pat.length
            · have q1 : decide (((i + 1 : Nat) : Int) < (pat.length : Int)) = true := by simp; omega
              obtain ⟨x, hx⟩ : ∃ x, pat[i + 1]? = some x := ⟨_, List.getElem?_eq_getElem hj⟩
              have hx' := hix _ _ hx
              have zx : -(pat.length : Int) ≤ ((i + 1 : Nat) : Int) := by omega
              by_cases h33 : x = 33
              · subst h33
                simp only [hx, if_true]
                have q2 : ([33] == [33]) = true := by decide
                have hc2 : ((i + 1 + 1 : Nat) : Int) = ((i + 1 : Nat) : Int) + 1 := by omega
                show EX _ _ _ _ _ (.next [_, _, _, _, _, _, _, _, some (B.val (D.int ((i + 1 + 1 : Nat) : Int))), _, _, _, _])
                rw [hc2]
                walk_at "m:ex"
              · have q2 : ([x] == [33]) = false := by simp [h33]
                have : ¬ (pat[i + 1]? = some 33) := by rw [hx]; simp [h33]
                simp only [this, if_false]
                walk_at "m:ex"
            · have q1 : decide (((i + 1 : Nat) : Int) < (pat.length : Int)) = false := by simp; omega
              have : pat[i + 1]? = none := List.getElem?_eq_none_iff.mpr (by omega)
              simp only [this]
              walk_at "m:ex"
          have hs1 : (if pat[i + 1]? = some 33 then i + 1 + 1 else i + 1) ≤ pat.length := by
            split
            · rename_i h; have := lt h; omega
            · omega
          have hs2 : setFrom pat (i + 1) = if pat[if pat[i + 1]? = some 33 then i + 1 + 1 else i + 1]? = some 93 then (if pat[i + 1]? = some 33 then i + 1 + 1 else i + 1) + 1 else if pat[i + 1]? = some 33 then i + 1 + 1 else i + 1 := rfl
          generalize (if pat[i + 1]? = some 33 then i + 1 + 1 else i + 1) = j1 at hs1 hs2 ⊢
          refine EXs.cons (Γ₁ := Γj res (i + 1) (setFrom pat (i + 1))) ?if2 ?rest2
          case if2 =>
            rw [hs2]
            by_cases hj : j1 < pat.length
            · have q1 : decide (((j1 : Nat) : Int) < (pat.length : Int)) = true := by simp; omega
              obtain ⟨x, hx⟩ : ∃ x, pat[j1]? = some x := ⟨_, List.getElem?_eq_getElem hj⟩
              have hx' := hix _ _ hx
              have zx : -(pat.length : Int) ≤ ((j1 : Nat) : Int) := by omega
              by_cases h93 : x = 93
              · subst h93
                simp only [hx, if_true]
                have q2 : ([93] == [93]) = true := by decide
                have hc2 : ((j1 + 1 : Nat) : Int) = ((j1 : Nat) : Int) + 1 := by omega
                show EX _ _ _ _ _ (.next [_, _, _, _, _, _, _, _, some (B.val (D.int ((j1 + 1 : Nat) : Int))), _, _, _, _])
                rw [hc2]
                walk_at "m:ex"
              · have q2 : ([x] == [93]) = false := by simp [h93]
                have : ¬ (pat[j1]? = some 93) := by rw [hx]; simp [h93]
                simp only [this, if_false]
                walk_at "m:ex"
            · have q1 : decide (((j1 : Nat) : Int) < (pat.length : Int)) = false := by simp; omega
              have : pat[j1]? = none := List.getElem?_eq_none_iff.mpr (by omega)
              simp only [this]
              walk_at "m:ex"
          clear hs1 hs2
          refine EXs.whileRun (σ := Nat) (τ := Unit) (fun j _ => Γj res (i + 1) j) (openC pat) (· + 1) (fun j => j ≤ pat.length) (fun j => pat.length - j) (pat.length - setFrom pat (i + 1)) (setFrom pat (i + 1)) () rfl (Nat.le_refl _) hfl.2 ?_ ?_ ?_
          · intro j _ hj
            by_cases hj2 : j < pat.length
            · have q1 : decide (((j : Nat) : Int) < (pat.length : Int)) = true := by simp; omega
              obtain ⟨x, hx⟩ : ∃ x, pat[j]? = some x := ⟨_, List.getElem?_eq_getElem hj2⟩
              have hx' := hix _ _ hx
              have zx : -(pat.length : Int) ≤ ((j : Nat) : Int) := by omega
              by_cases h93 : x = 93
              · subst h93
                have q2 : ([93] != [93]) = false := by decide
                have q3 : openC pat j = false := by simp [openC, hx]
                rw [q3]
                walk_at "m:tv"
              · have q2 : ([x] != [93]) = true := by simp [h93]
                have q3 : openC pat j = true := by simp [openC, hx, h93]; omega
                rw [q3]
                walk_at "m:tv"
            · have q1 : decide (((j : Nat) : Int) < (pat.length : Int)) = false := by simp; omega
              have q3 : openC pat j = false := by simp [openC]; omega
              rw [q3]
              walk_at "m:tv"
          · intro j _ hj hc
            simp only [openC, Bool.and_eq_true, decide_eq_true_eq] at hc
            refine ⟨by omega, by omega, (), Or.inl ?_⟩
            have hc2 : ((j + 1 : Nat) : Int) = ((j : Nat) : Int) + 1 := by omega
            show EXs _ _ _ _ _ (.next [_, _, _, _, _, _, _, _, some (B.val (D.int ((j + 1 : Nat) : Int))), _, _, _, _])
            rw [hc2]
            refine' EXs.to ?mm rfl
            case mm => walk_at "m:exs"
          · intro _ _ _
            show EXs _ _ _ (Γj res (i + 1) (setEnd pat (i + 1))) _ _
            generalize hee : setEnd pat (i + 1) = e at hel ⊢
            by_cases hle : pat.length ≤ e
            · have q1 : decide ((e : Int) ≥ (pat.length : Int)) = true := by simp; omega
              rw [if_pos hle, if_pos hle]
              simp only [List.map_append, List.map_cons, List.map_nil, itD]
              refine' EXs.to ?mm rfl
              case mm => walk_at "m:exs"
            · have q1 : decide ((e : Int) ≥ (pat.length : Int)) = false := by simp; omega
              rw [if_neg hle, if_neg hle]
              simp only [List.map_append, List.map_cons, List.map_nil, itD]
              have hce : ((e + 1 : Nat) : Int) = (e : Int) + 1 := by omega
              rw [hce]
              refine EXs.cons (EX.ifF (TV.is (b := decide ((e : Int) ≥ (pat.length : Int))) (by walk_at "m:tv") q1) ?inner2) EXs.nil
              walk_at "m:step"
              have hst : ∀ x ∈ pick (some ((i + 1 : Nat) : Int)) (some (e : Int)) pat, x ∈ pat := fun x hx => pick_mem hx
              have hstl := pick_length_le (some ((i + 1 : Nat) : Int)) (some (e : Int)) pat
              generalize pick (some ((i + 1 : Nat) : Int)) (some (e : Int)) pat = st at hst hstl ⊢
              have d1 : (!decide (45 ∈ st)) = true := by
                simp
                exact fun h => hd 45 (hst 45 h) rfl
              have hrl2 := replC_len 92 [92, 92] st
              simp only [List.length_cons, List.length_nil] at hrl2
              have hstz : st.length * 4 ≤ sizeLine := by omega
              walk_at "m:step"
              have hno : ∀ c ∈ replC 92 [92, 92] st, sig c = false := by
                intro c hc
                rcases replC_mem _ _ _ _ hc with h | h
                · simp at h; subst h; decide
                · exact hs c (hst c h)
              have hru : ∀ c ∈ replC 92 [92, 92] st, c < 0x110000 := by
                intro c hc
                rcases replC_mem _ _ _ _ hc with h | h
                · simp at h; subst h; decide
                · exact hu c (hst c h)
              unfold setItem'
              have hrl3 : (replC 92 [92, 92] st).length ≤ 3000 := by omega
              generalize replC 92 [92, 92] st = r at hno hru hrl3 ⊢
              walk_at "m:step"
              walk_at "m:step"
              cases r with
              | nil =>
                have v1 : setVar [] = [] := rfl
                have v2 : setShown [] = [40, 63, 33, 41] := rfl
                rw [v1, v2]
                refine' EXs.to ?mm rfl
                case mm => walk_at "m:exs"
              | cons h tl =>
                have e1 : (!decide (h :: tl ≠ [])) = false := by simp
                have h0 : (h :: tl)[idx (h :: tl).length 0]? = some h := rfl
                have z0 : -((h :: tl).length : Int) ≤ 0 := by omega
                have zpk := pick_length_le (some 1) none (h :: tl)
                have hpk : pick (some 1) none (h :: tl) = (h :: tl).drop 1 := pick_from (h :: tl) 1
                have hlen : (h :: tl).length ≤ 3000 := hrl3
                by_cases e2 : h :: tl = [33]
                · have e3 : (h :: tl == [33]) = true := by simp only [beq_iff_eq]; exact e2
                  have v1 : setVar (h :: tl) = h :: tl := by unfold setVar; rw [if_pos (.inr e2)]
                  have v2 : setShown (h :: tl) = [46] := by unfold setShown; rw [if_neg (by simp), if_pos e2]
                  rw [v1, v2]
                  refine' EXs.to ?mm rfl
                  case mm => walk_at "m:exs"
                · have e3 : (h :: tl == [33]) = false := by simp only [beq_eq_false_iff_ne]; exact e2
                  have v2 : setShown (h :: tl) = [91] ++ setVar (h :: tl) ++ [93] := by unfold setShown; rw [if_neg (by simp), if_neg e2]
                  rw [v2]
                  have v3 : setVar (h :: tl) = if h = 33 then [94] ++ (h :: tl).drop 1 else if h = 94 ∨ h = 91 then [92] ++ (h :: tl) else h :: tl := by
                    unfold setVar
                    rw [if_neg (by simp only [not_or]; exact ⟨by simp, e2⟩)]
                    simp only [List.head?_cons, Option.some.injEq]
                  clear v2 hlen
                  have hlen : (h :: tl).length ≤ 3000 := hrl3
                  by_cases e4 : h = 33
                  · have e5 : ([h] == [33]) = true := by simp [e4]
                    rw [if_pos e4, ← hpk] at v3
                    have zz : [91].length + ([94] ++ pick (some 1) none (h :: tl)).length + [93].length ≤ sizeLine := by simp at zpk hlen ⊢; omega
                    rw [v3]
                    refine' EXs.to ?mm rfl
                    case mm => walk_at "m:exs"
                  · have e5 : ([h] == [33]) = false := by simp [e4]
                    rw [if_neg e4] at v3
                    have e7 : ∀ k : Nat, Op2 S k (compareOp .In) (.str [h]) (.tup [.str [94], .str [91]]) (.bool (decide (h = 94 ∨ h = 91))) := by
                      intro k
                      have ho : okC [h] = true := by
                        have := hru h (.head _)
                        simp [okC]; omega
                      exact bool_any (P := fun b => Op2 S k (compareOp .In) (.str [h]) (.tup [.str [94], .str [91]]) (.bool b)) (by simp) (Op2.inT (m := true) (by simpa [D.ok] using ho) (by intro e he; simp at he; rcases he with rfl | rfl <;> decide))
                    by_cases e6 : h = 94 ∨ h = 91
                    · rw [if_pos e6] at v3
                      rw [decide_eq_true e6] at e7
                      have zz : [91].length + ([92] ++ h :: tl).length + [93].length ≤ sizeLine := by simp at hlen ⊢; omega
                      rw [v3]
                      refine' EXs.to ?mm rfl
                      case mm => walk_at "m:exs"
                    · rw [if_neg e6] at v3
                      rw [decide_eq_false e6] at e7
                      have zz : [91].length + (h :: tl).length + [93].length ≤ sizeLine := by simp at hlen ⊢; omega
                      rw [v3]
                      refine' EXs.to ?mm rfl
                      case mm => walk_at "m:exs"
        · rw [if_neg c91]
          have b91 : ([c] == [91]) = false := by simp [c91]
          refine ⟨(some (B.val (D.str [c])), t2, t3), Or.inl ?_⟩
          simp only [List.map_append, List.map_cons, List.map_nil, ← hcast, itD]
          refine' EXs.to ?mm rfl
          case mm => walk_at "m:exs"
  · intro t' hc hI
    show EXs _ _ _ _ _ (.ret (.list ((looped (trGo pat) (trStep q pat) pat.length ([], 0)).1.map (itD v))))
    generalize looped (trGo pat) (trStep q pat) pat.length ([], 0) = fin at hc hI ⊢
    have e : ((fin.2 : Int) == (pat.length : Int)) = true := by
      simp only [trGo, decide_eq_false_iff_not] at hc
      simp; omega
    refine EXs.cons (EX.assert (TV.is (b := ((fin.2 : Int) == (pat.length : Int))) (by walk_at "m:tv") e)) ?_
    refine EXs.freezeN n3 rfl ?_
    simp only [List.set_cons_zero, List.set_cons_succ]
    refine' EXs.to ?mm rfl
    case mm => walk_at "m:exs"
noncomputable def tok (m : Int) : List Nat := if m = 0 then [47] else if m = 1 then [97] else if m = 2 then [46] else if m = 3 then [47, 46, 46] else [97, 98]
noncomputable abbrev DrSt := List Nat × Int × Int
noncomputable def drC (s : DrSt) : Bool := decide (s.2.2 > 0) && decide (s.2.1 < 5)
noncomputable def drStep (s : DrSt) : DrSt := (s.1 ++ tok (s.2.2.fmod 5), s.2.1 + 1, s.2.2.fdiv 5)
noncomputable def pDrawn (n : Int) : List Nat := (looped drC drStep 5 ([], 0, (if n < 0 then -n else n))).1
omit hK in
theorem tok_hit (m : Int) (h0 : 0 ≤ m) (h5 : m < 5) : [D.str [47], D.str [97], D.str [46], D.str [47, 46, 46], D.str [97, 98]][idx [D.str [47], D.str [97], D.str [46], D.str [47, 46, 46], D.str [97, 98]].length m]? = some (D.str (tok m)) := by
  have : m = 0 ∨ m = 1 ∨ m = 2 ∨ m = 3 ∨ m = 4 := by omega
  rcases this with rfl | rfl | rfl | rfl | rfl <;> rfl
omit hK in
theorem tok_len (m : Int) : (tok m).length ≤ 3 := by
  unfold tok; repeat' split
  all_goals simp
set_option maxHeartbeats 4000000 in
theorem law_drawn_ok {k : Nat} {n : Int} : Ops S (k + 1) (fun vs => call (.ref 168) vs) [.int n] (.str (pDrawn n)) := by
  have n0 := @n_law_drawn_0
  have n1 := @n_law_drawn_1
  have n2 := @n_law_drawn_2
  have n3 := @n_law_drawn_3
  have g_abs := g_law_drawn_abs hK
  have c0 : Cs "" [] := rfl
  have c1 : Cs "/" [47] := rfl
  have c2 : Cs "a" [97] := rfl
  have c3 : Cs "." [46] := rfl
  have c4 : Cs "/.." [47, 46, 46] := rfl
  have c5 : Cs "ab" [97, 98] := rfl
  refine Fn.intro (f := fi_law_drawn) hK.fn_law_drawn rfl ?_
  show EXs S _ fi_law_drawn [some (B.val _), none, none, none] _ _
  conv => arg 5; whnf
  have hsz := sizeLine_eq
  walk_at "m:step"
  walk_at "m:step"
  walk_at "m:step"
  refine EXs.whileRun (σ := DrSt) (τ := Unit) (fun s _ => [some (B.val (D.int n)), some (B.val (D.str s.1)), some (B.val (D.int s.2.1)), some (B.val (D.int s.2.2))])
    drC drStep (fun s => 0 ≤ s.2.1 ∧ s.2.1 ≤ 5 ∧ (s.1.length : Int) ≤ 3 * s.2.1) (fun s => (5 - s.2.1).toNat) 5 ([], 0, (if n < 0 then -n else n)) () rfl (Nat.le_refl 5) ⟨Int.le_refl 0, by simp, Int.le_refl 0⟩ ?_ ?_ ?_
  · rintro ⟨o, c, l⟩ _ ⟨h1, h2, h3⟩
    simp only [drC]
    cases hl : decide (l > 0) <;> cases hl2 : decide (c < 5) <;> simp only [Bool.false_and, Bool.true_and] <;> walk_at "m:tv"
  · rintro ⟨o, c, l⟩ _ ⟨h1, h2, h3⟩ hc
    simp only [drC, Bool.and_eq_true, decide_eq_true_eq] at hc h1 h2 h3
    have hm0 : 0 ≤ l.fmod 5 := Int.fmod_nonneg (by omega) (by omega)
    have hm5 : l.fmod 5 < 5 := Int.fmod_lt_of_pos l (by omega)
    have hmn : -(([D.str [47], D.str [97], D.str [46], D.str [47, 46, 46], D.str [97, 98]].length : Nat) : Int) ≤ l.fmod 5 := by simp; omega
    have hh := tok_hit (l.fmod 5) hm0 hm5
    have ht := tok_len (l.fmod 5)
    have hz : o.length + (tok (l.fmod 5)).length ≤ sizeLine := by omega
    refine ⟨⟨?_, ?_, ?_⟩, ?_, (), Or.inl ?_⟩
    · simp only [drStep]; omega
    · simp only [drStep]; omega
    · simp only [drStep, List.length_append]; omega
    · simp only [drStep]; omega
    · simp only [drStep]
      refine' EXs.to ?mm rfl
      case mm => walk_at "m:exs"
  · intro _ _ _
    unfold pDrawn
    refine' EXs.to ?mm rfl
    case mm => walk_at "m:exs"
noncomputable def fauStep (pcs : List (List Nat)) (root : List Nat) (acc : List (Nat × Nat)) (i : Nat) : List (Nat × Nat) :=
  if pcs[i]? = some [] ∨ pcs[i]? = some [46] then acc ++ [(i, 1)]
  else if pcs[i]? = some [46, 46] then (if i = 0 ∧ root ≠ [] then acc ++ [(i, 1)] else acc)
  else if pcs[i + 1]? = some [46, 46] then acc ++ [(i, 2)] else acc
noncomputable def pFaults (pcs : List (List Nat)) (root : List Nat) : List (Nat × Nat) := (List.range pcs.length).foldl (fauStep pcs root) []
noncomputable def pairD (p : Nat × Nat) : D := .tup [.int (p.1 : Int), .int (p.2 : Int)]
omit hK in
theorem fau_pick (pcs : List (List Nat)) (i : Nat) : (pick (some ((i : Int) + 1)) (some ((i : Int) + 2)) pcs = [[46, 46]]) ↔ pcs[i + 1]? = some [46, 46] := by
  have e : pick (some ((i : Int) + 1)) (some ((i : Int) + 2)) pcs = (pcs.take (i + 2)).drop (i + 1) := by
    have := pick_mid pcs (i + 1) (i + 2)
    push_cast at this
    exact this
  rw [e]
  cases h : pcs[i + 1]? with
  | none =>
    have : pcs.length ≤ i + 1 := List.getElem?_eq_none_iff.mp h
    rw [List.drop_eq_nil_of_le (by simp; omega)]
    simp
  | some x =>
    have hl : i + 1 < pcs.length := (List.getElem?_eq_some_iff.mp h).1
    have hx := (List.getElem?_eq_some_iff.mp h).2
    rw [List.take_succ_eq_append_getElem (i := i + 1) hl]
    rw [List.drop_append_of_le_length (by simp; omega)]
    rw [List.drop_eq_nil_of_le (by simp; omega)]
    simp [hx]
set_option maxHeartbeats 4000000 in
theorem law_faults_ok {k : Nat} {pcs : List (List Nat)} {root : List Nat} (hp : ∀ x ∈ pcs, okC x = true) (hn : pcs.length ≤ 1000) : Ops S (k + 1) (fun vs => call (.ref 175) vs) [.list (pcs.map .str), .str root] (.list ((pFaults pcs root).map pairD)) := by
  have n0 := @n_law_faults_0
  have n1 := @n_law_faults_1
  have n2 := @n_law_faults_2
  have n3 := @n_law_faults_3
  have g_range := g_law_faults_range hK
  have g_len := g_law_faults_len hK
  have c0 : Cs "" [] := rfl
  have c1 : Cs "." [46] := rfl
  have c2 : Cs ".." [46, 46] := rfl
  refine Fn.intro (f := fi_law_faults) hK.fn_law_faults rfl ?_
  show EXs S _ fi_law_faults [some (B.val _), some (B.val _), none, none] _ _
  conv => arg 5; whnf
  have hsz := sizeLine_eq
  have own2 : OwnV fi_law_faults 2 := .intro
  walk_at "m:step"
  have hlen : (pcs.map D.str).length = pcs.length := by simp
  have hsm := small0 (n := pcs.length) (by omega)
  refine EXs.forFold (σ := List (Nat × Nat)) (τ := Option B) (fun acc ob => [some (B.val (D.list (pcs.map D.str))), some (B.val (D.str root)), some (B.own (acc.map pairD)), ob])
    (fun i : Nat => D.int (i : Int)) (fauStep pcs root) (fun n acc => n + acc.length ≤ pcs.length) (List.range pcs.length) [] none rfl (d := .rng 0 (pcs.length : Int) 1) ?_ (It.range0 hsm) ?_ ?_ ?_
  · rw [← hlen]; walk_at "m:ev"
  · simp
  · intro n acc t i hi hI
    have hil : i < pcs.length := List.mem_range.mp hi
    obtain ⟨p, hpi⟩ : ∃ p, pcs[i]? = some p := ⟨_, List.getElem?_eq_getElem hil⟩
    have hit : (pcs.map D.str)[idx (pcs.map D.str).length (i : Int)]? = some (D.str p) := by
      have : idx (pcs.map D.str).length (i : Int) = i := by unfold idx; rw [if_neg (by omega)]; simp
      rw [this]; simp [hpi]
    have hi0 : -((pcs.map D.str).length : Int) ≤ (i : Int) := by omega
    refine ⟨?_, _, some (B.val (D.int (i : Int))), AS.nm n3, ?_⟩
    · unfold fauStep; (repeat' split) <;> (first | omega | (simp; omega))
    · refine Or.inl ?_
      simp only [List.set_cons_zero, List.set_cons_succ]
      have hz : (acc.map pairD).length < sizeLine := by simp; omega
      have hop : ∀ k : Nat, Op2 S k (compareOp .Eq) (.list (pick (some ((i : Int) + 1)) (some ((i : Int) + 2)) (pcs.map D.str))) (.list [.str [46, 46]]) (.bool (decide (pcs[i + 1]? = some [46, 46]))) := by
        intro k
        rw [pick_map]
        have := Op2.eqLS (S := S) (k := k) (xs := pick (some ((i : Int) + 1)) (some ((i : Int) + 2)) pcs) (ys := [[46, 46]]) (fun x hx => hp x (pick_mem hx)) (by simp [okC])
        exact bool_any (P := fun b => Op2 S k (compareOp .Eq) (.list (List.map D.str (pick (some ((i : Int) + 1)) (some ((i : Int) + 2)) pcs))) (.list [.str [46, 46]]) (.bool b)) (fau_pick pcs i) this
      unfold fauStep
      rw [hpi]
      by_cases p0 : p = []
      · subst p0
        rw [if_pos (.inl rfl)]
        simp only [List.map_append, List.map_cons, List.map_nil]
        refine' EXs.to ?mm rfl
        case mm => walk_at "m:exs"
      · have b0 : (p == []) = false := by simp [p0]
        by_cases p1 : p = [46]
        · subst p1
          rw [if_pos (.inr rfl)]
          simp only [List.map_append, List.map_cons, List.map_nil]
          refine' EXs.to ?mm rfl
          case mm => walk_at "m:exs"
        · have b1 : (p == [46]) = false := by simp [p1]
          rw [if_neg (by simp [p0, p1])]
          by_cases p2 : p = [46, 46]
          · subst p2
            rw [if_pos rfl]
            by_cases i0 : i = 0
            · have b2 : ((i : Int) == 0) = true := by simp [i0]
              by_cases r0 : root = []
              · have b3 : (root != []) = false := by simp [r0]
                rw [if_neg (by simp [r0])]
                refine' EXs.to ?mm rfl
                case mm => walk_at "m:exs"
              · have b3 : (root != []) = true := by simp [r0]
                rw [if_pos ⟨i0, r0⟩]
                simp only [List.map_append, List.map_cons, List.map_nil]
                refine' EXs.to ?mm rfl
                case mm => walk_at "m:exs"
            · have b2 : ((i : Int) == 0) = false := by simp; omega
              rw [if_neg (by simp [i0])]
              refine' EXs.to ?mm rfl
              case mm => walk_at "m:exs"
          · have b2 : (p == [46, 46]) = false := by simp [p2]
            rw [if_neg (by simp [p2])]
            by_cases q : pcs[i + 1]? = some [46, 46]
            · have hop' := hop
              rw [decide_eq_true q] at hop'
              clear hop
              rw [if_pos q]
              simp only [List.map_append, List.map_cons, List.map_nil]
              refine' EXs.to ?mm rfl
              case mm => walk_at "m:exs"
            · have hop' := hop
              rw [decide_eq_false q] at hop'
              clear hop
              rw [if_neg q]
              refine' EXs.to ?mm rfl
              case mm => walk_at "m:exs"
  · intro t' hI
    refine EXs.freezeN n2 rfl ?_
    simp only [List.set_cons_zero, List.set_cons_succ]
    unfold pFaults
    refine' EXs.to ?mm rfl
    case mm => walk_at "m:exs"
omit hK in
theorem pick_body (c : Nat) (r : List Nat) (e : Nat) : pick (some 1) (some (-1)) (c :: (r ++ [e])) = r := by
  unfold pick kms_lo kms_hi
  simp
set_option maxHeartbeats 4000000 in
theorem law_one_plain {k : Nat} {p : List Nat} {h l c : Nat} (h0 : p[idx p.length 0]? = some h) (h1 : p[idx p.length (-1)]? = some l) (h2 : (p == [46]) = false) (h3 : (p == [40, 63, 33, 41]) = false) (h4 : ([h] != [91]) = true) (h5 : p ≠ []) :
    Ops S (k + 1) (fun vs => call (.ref 156) vs) [.str p, .str [c]] (.bool ([l] == [c])) := by
  have n0 := @n_law_one_0
  have n1 := @n_law_one_1
  have n2 := @n_law_one_2
  have n3 := @n_law_one_3
  have n4 := @n_law_one_4
  have n5 := @n_law_one_5
  have n6 := @n_law_one_6
  have n7 := @n_law_one_7
  have g_len := g_law_one_len hK
  have c0 : Cs "." [46] := rfl
  have c1 : Cs "(?!)" [40, 63, 33, 41] := rfl
  have c2 : Cs "[" [91] := rfl
  have c3 : Cs "^" [94] := rfl
  have c4 : Cs "\\" [92] := rfl
  have c5 : Cs "-" [45] := rfl
  refine Fn.intro (f := fi_law_one) hK.fn_law_one rfl ?_
  show EXs S _ fi_law_one [some (B.val _), some (B.val _), none, none, none, none, none, none] _ _
  conv => arg 5; whnf
  have z0 : -(p.length : Int) ≤ 0 := by omega
  have z1 : -(p.length : Int) ≤ -1 := by have : p.length ≠ 0 := by simpa using h5
                                         omega
  refine' EXs.to ?mm rfl
  case mm => walk_at "m:exs"
noncomputable abbrev OneSt := Nat × Bool
noncomputable def oneC (b : List Nat) (s : OneSt) : Bool := decide ((s.1 : Int) < (b.length : Int))
noncomputable def oneStep (b : List Nat) (c : Nat) (s : OneSt) : OneSt := (s.1 + 1, s.2 || decide (b[s.1]? = some c))
omit hK in
theorem one_mem (b : List Nat) (c : Nat) : ∀ (n m : Nat) (fo : Bool), m ≤ b.length → b.length - m ≤ n → (looped (oneC b) (oneStep b c) n (m, fo)).2 = (fo || decide (c ∈ b.drop m))
  | 0, m, fo, h1, h2 => by
    have : b.drop m = [] := List.drop_eq_nil_of_le (by omega)
    simp [looped, this]
  | n + 1, m, fo, h1, h2 => by
    unfold looped
    by_cases hm : m < b.length
    · have hc : oneC b (m, fo) = true := by simp [oneC, hm]
      rw [hc, if_pos rfl]
      show (looped (oneC b) (oneStep b c) n (m + 1, fo || decide (b[m]? = some c))).2 = _
      rw [one_mem b c n (m + 1) _ (by omega) (by omega)]
      have hd : decide (c ∈ b.drop m) = (decide (c = b[m]) || decide (c ∈ b.drop (m + 1))) := by
        rw [List.drop_eq_getElem_cons hm]; simp only [List.mem_cons, Bool.decide_or]
      have hg : decide (b[m]? = some c) = decide (c = b[m]) := by
        rw [List.getElem?_eq_getElem hm]
        exact decide_eq_decide.mpr ⟨fun x => by injection x with x; exact x.symm, fun x => by rw [x]⟩
      rw [hd, hg, Bool.or_assoc]
    · have hc : oneC b (m, fo) = false := by simp [oneC]; omega
      have : b.drop m = [] := List.drop_eq_nil_of_le (by omega)
      rw [hc]; simp [this]
set_option maxHeartbeats 4000000 in
theorem law_one_set {k : Nat} {r : List Nat} {c : Nat} (hr : ∀ x ∈ r, x ≠ 92 ∧ x ≠ 45) (hl : r.length ≤ 1000) :
    Ops S (k + 1) (fun vs => call (.ref 156) vs) [.str ([91] ++ ([94] ++ r) ++ [93]), .str [c]] (.bool (!decide (c ∈ r))) := by
  have n0 := @n_law_one_0
  have n1 := @n_law_one_1
  have n2 := @n_law_one_2
  have n3 := @n_law_one_3
  have n4 := @n_law_one_4
  have n5 := @n_law_one_5
  have n6 := @n_law_one_6
  have n7 := @n_law_one_7
  have g_len := g_law_one_len hK
  have c0 : Cs "." [46] := rfl
  have c1 : Cs "(?!)" [40, 63, 33, 41] := rfl
  have c2 : Cs "[" [91] := rfl
  have c3 : Cs "^" [94] := rfl
  have c4 : Cs "\\" [92] := rfl
  have c5 : Cs "-" [45] := rfl
  refine Fn.intro (f := fi_law_one) hK.fn_law_one rfl ?_
  show EXs S _ fi_law_one [some (B.val _), some (B.val _), none, none, none, none, none, none] _ _
  conv => arg 5; whnf
  have hsz := sizeLine_eq
  have hb : pick (some 1) (some (-1)) ([91] ++ ([94] ++ r) ++ [93]) = 94 :: r := pick_body 91 (94 :: r) 93
  generalize hp : [91] ++ ([94] ++ r) ++ [93] = p at *
  have h0 : p[idx p.length 0]? = some 91 := by subst hp; rfl
  have z0 : -(p.length : Int) ≤ 0 := by omega
  have b1 : (p == [46]) = false := by subst hp; simp
  have b2 : (p == [40, 63, 33, 41]) = false := by subst hp; simp
  have b3 : ([91] != [91]) = false := by decide
  walk_at "m:step"
  walk_at "m:step"
  walk_at "m:step"
  rw [hb]
  have hb0 : (94 :: r)[idx (94 :: r).length 0]? = some 94 := rfl
  have z1 : -((94 :: r).length : Int) ≤ 0 := by omega
  walk_at "m:step"
  have b4 : ([94] == [94]) = true := by decide
  rw [b4]
  walk_at "m:step"
  walk_at "m:step"
  have hmem : ∀ n, (94 :: r).length - 1 ≤ n → (looped (oneC (94 :: r)) (oneStep (94 :: r) c) n (1, false)).2 = decide (c ∈ r) := by
    intro n hn
    rw [one_mem (94 :: r) c n 1 false (by simp) hn]
    simp
  generalize hB : 94 :: r = b at *
  have hbl : b.length = r.length + 1 := by subst hB; simp
  have hsimple : ∀ i : Nat, 1 ≤ i → i < b.length → ∃ x, b[i]? = some x ∧ x ≠ 92 ∧ x ≠ 45 := by
    intro i h1 h2
    refine ⟨b[i], List.getElem?_eq_getElem h2, ?_⟩
    subst hB
    obtain ⟨j, rfl⟩ : ∃ j, i = j + 1 := ⟨i - 1, by omega⟩
    exact hr _ (by simp)
  refine EXs.whileRun (σ := OneSt) (τ := Option B × Option B) (fun s t => [some (B.val (D.str p)), some (B.val (D.str [c])), some (B.val (D.str b)), some (B.val (D.bool true)), some (B.val (D.int (s.1 : Int))), some (B.val (D.bool s.2)), t.1, t.2])
    (oneC b) (oneStep b c) (fun s => 1 ≤ s.1 ∧ s.1 ≤ b.length) (fun s => b.length - s.1) (b.length - 1) (1, false) (none, none) rfl (Nat.le_refl _) ⟨Nat.le_refl 1, by show 1 ≤ b.length; omega⟩ ?_ ?_ ?_
  · rintro ⟨i, fo⟩ t ⟨h1, h2⟩
    simp only [oneC]
    walk_at "m:tv"
  · rintro ⟨i, fo⟩ ⟨t1, t2⟩ ⟨h1, h2⟩ hc
    simp only [oneC, decide_eq_true_eq] at hc h1 h2
    have hil : i < b.length := by omega
    obtain ⟨x, hx, x92, x45⟩ := hsimple i h1 hil
    have hix : b[idx b.length (i : Int)]? = some x := by
      have : idx b.length (i : Int) = i := by unfold idx; rw [if_neg (by omega)]; simp
      rw [this]; exact hx
    have zi : -(b.length : Int) ≤ (i : Int) := by omega
    have d0 : ([x] == [92]) = false := by simp [x92]
    have hstep : (((i + 1 : Nat) : Int)) = (i : Int) + 1 := by omega
    refine ⟨⟨by simp only [oneStep]; omega, by simp only [oneStep]; omega⟩, by simp only [oneStep]; omega, (some (B.val (D.str [x])), some (B.val (D.str [x]))), Or.inl ?_⟩
    simp only [oneStep, hx, hstep]
    have fin : ∀ {Γ' : Ctxt} (_ : Γ' = [some (B.val (D.str p)), some (B.val (D.str [c])), some (B.val (D.str b)), some (B.val (D.bool true)), some (B.val (D.int ((i : Int) + 1))), some (B.val (D.bool (fo || decide (some x = some c)))), some (B.val (D.str [x])), some (B.val (D.str [x]))]), Res.next Γ' = Res.next [some (B.val (D.str p)), some (B.val (D.str [c])), some (B.val (D.str b)), some (B.val (D.bool true)), some (B.val (D.int ((i : Int) + 1))), some (B.val (D.bool (fo || decide (some x = some c)))), some (B.val (D.str [x])), some (B.val (D.str [x]))] := by rintro _ rfl; rfl
    by_cases hxc : x = c
    · subst hxc
      have e1 : decide (x ≤ x) = true := by simp
      have e2 : (fo || decide (some x = some x)) = true := by simp
      rw [e2]
      by_cases hn : i + 2 < b.length
      · have q1 : decide ((i : Int) + 1 + 1 < (b.length : Int)) = true := by simp; omega
        obtain ⟨y, hy, y92, y45⟩ := hsimple (i + 1) (by omega) (by omega)
        have hiy : b[idx b.length ((i : Int) + 1)]? = some y := by
          have : idx b.length ((i : Int) + 1) = i + 1 := by unfold idx; rw [if_neg (by omega)]; omega
          rw [this]; exact hy
        have zy : -(b.length : Int) ≤ (i : Int) + 1 := by omega
        have d1 : ([y] == [45]) = false := by simp [y45]
        refine' EXs.to ?mm rfl
        case mm => walk_at "m:exs"
      · have q1 : decide ((i : Int) + 1 + 1 < (b.length : Int)) = false := by simp; omega
        refine' EXs.to ?mm rfl
        case mm => walk_at "m:exs"
    · have e2 : (fo || decide (some x = some c)) = fo := by simp [hxc]
      rw [e2]
      have e1 : decide (x ≤ c) = true ∧ decide (c ≤ x) = false ∨ decide (x ≤ c) = false := by
        by_cases q : x ≤ c
        · left; simp; omega
        · right; simp; omega
      by_cases hn : i + 2 < b.length
      · have q1 : decide ((i : Int) + 1 + 1 < (b.length : Int)) = true := by simp; omega
        obtain ⟨y, hy, y92, y45⟩ := hsimple (i + 1) (by omega) (by omega)
        have hiy : b[idx b.length ((i : Int) + 1)]? = some y := by
          have : idx b.length ((i : Int) + 1) = i + 1 := by unfold idx; rw [if_neg (by omega)]; omega
          rw [this]; exact hy
        have zy : -(b.length : Int) ≤ (i : Int) + 1 := by omega
        have d1 : ([y] == [45]) = false := by simp [y45]
        rcases e1 with ⟨e1, e3⟩ | e1
        · refine' EXs.to ?mm rfl
          case mm => walk_at "m:exs"
        · refine' EXs.to ?mm rfl
          case mm => walk_at "m:exs"
      · have q1 : decide ((i : Int) + 1 + 1 < (b.length : Int)) = false := by simp; omega
        rcases e1 with ⟨e1, e3⟩ | e1
        · refine' EXs.to ?mm rfl
          case mm => walk_at "m:exs"
        · refine' EXs.to ?mm rfl
          case mm => walk_at "m:exs"
  · intro t' _ _
    have hm := hmem (b.length - 1) (Nat.le_refl _)
    have e : (!decide (c ∈ r)) = ((looped (oneC b) (oneStep b c) (b.length - 1) (1, false)).2 != true) := by rw [hm]; cases decide (c ∈ r) <;> rfl
    rw [e]
    refine' EXs.to ?mm rfl
    case mm => walk_at "m:exs"
noncomputable def partD (star : Value) : Option (List Nat) → D
  | none => .raw star
  | some p => .str p
noncomputable def takeStep (one : List Nat → Nat → Bool) (name : List Nat) (at' : List Nat) : Option (List Nat) → List Nat
  | none => (match at' with | [] => [] | a :: _ => List.range' a (name.length + 1 - a))
  | some p => (at'.filter fun i => match name[i]? with | none => false | some c => one p c).map (· + 1)
noncomputable def pTakes (one : List Nat → Nat → Bool) (parts : List (Option (List Nat))) (name : List Nat) : Bool := decide (name.length ∈ parts.foldl (takeStep one name) [0])
noncomputable def takeInv (name at' : List Nat) : Prop := at'.length ≤ name.length + 1 ∧ ∀ i ∈ at', i ≤ name.length
omit hK in
theorem takeInv_step (one : List Nat → Nat → Bool) (name at' : List Nat) (p : Option (List Nat)) (h : takeInv name at') : takeInv name (takeStep one name at' p) := by
  cases p with
  | none =>
    cases at' with
    | nil => exact ⟨by simp [takeStep], by simp [takeStep]⟩
    | cons a r =>
      refine ⟨by simp [takeStep], ?_⟩
      intro i hi
      simp only [takeStep, List.mem_range'_1] at hi
      omega
  | some p =>
    refine ⟨?_, ?_⟩
    · simp only [takeStep, List.length_map]
      exact Nat.le_trans (List.length_filter_le ..) h.1
    · intro i hi
      simp only [takeStep, List.mem_map, List.mem_filter] at hi
      obtain ⟨j, ⟨h1, h2⟩, rfl⟩ := hi
      cases hj : name[j]? with
      | none => rw [hj] at h2; simp at h2
      | some c => have := (List.getElem?_eq_some_iff.mp hj).1; omega
set_option maxHeartbeats 4000000 in
theorem law_takes_ok {k : Nat} {star : Value} (hst : solid star = true) {one : List Nat → Nat → Bool} {parts : List (Option (List Nat))} {name : List Nat}
    (h1 : ∀ p, some p ∈ parts → ∀ (k c : Nat), Ops S (k + 1) (fun vs => call (.ref 156) vs) [.str p, .str [c]] (.bool (one p c))) (hn : name.length ≤ 1000) :
    Ops S (k + 2) (fun vs => call (.ref 161) vs) [.list (parts.map (partD star)), .raw star, .str name] (.bool (pTakes one parts name)) := by
  have n0 := @n_law_takes_0
  have n1 := @n_law_takes_1
  have n2 := @n_law_takes_2
  have n3 := @n_law_takes_3
  have n4 := @n_law_takes_4
  have g_list := g_law_takes_list hK
  have g_range := g_law_takes_range hK
  have g_len := g_law_takes_len hK
  have c0 : Cs "parts" [112, 97, 114, 116, 115] := rfl
  have c1 : Cs "star" [115, 116, 97, 114] := rfl
  have c2 : Cs "name" [110, 97, 109, 101] := rfl
  have c3 : Cs "at" [97, 116] := rfl
  have c4 : Cs "part" [112, 97, 114, 116] := rfl
  have c5 : Cs "p" [112] := rfl
  refine Fn.intro (f := fi_law_takes) hK.fn_law_takes rfl ?_
  show EXs S _ fi_law_takes [some (B.val _), some (B.val _), some (B.cell (some _)), none, some (B.cell none)] _ _
  conv => arg 5; whnf
  have hsz := sizeLine_eq
  walk_at "m:step"
  refine EXs.forFold (σ := List Nat) (τ := Option D) (fun at' od => [some (B.val (D.list (parts.map (partD star)))), some (B.val (.raw star)), some (B.cell (some (.str name))), some (B.val (D.list (at'.map fun i : Nat => D.int (i : Int)))), some (B.cell od)])
    (partD star) (takeStep one name) (fun n at' => takeInv name at') parts [0] none rfl (EV.nm n0 rfl) It.list ?_ ?_ ?_
  · exact ⟨by simp, by simp⟩
  · intro n at' t p hp hI
    refine ⟨takeInv_step one name at' p hI, _, some (partD star p), AS.nmC n4 rfl, Or.inl ?_⟩
    simp only [List.set_cons_zero, List.set_cons_succ]
    cases p with
    | none =>
      simp only [partD]
      cases at' with
      | nil =>
        simp only [takeStep, List.map_nil]
        have e0 := dec_nil [] rfl
        refine' EXs.to ?mm rfl
        case mm => walk_at "m:exs"
      | cons a r =>
        have e0 := dec_snoc ((a :: r).map fun i : Nat => D.int (i : Int)) (by simp)
        have ha : a ≤ name.length := hI.2 a (by simp)
        have hit : ((a :: r).map fun i : Nat => D.int (i : Int))[idx ((a :: r).map fun i : Nat => D.int (i : Int)).length 0]? = some (D.int (a : Int)) := rfl
        have z0 : -(((a :: r).map fun i : Nat => D.int (i : Int)).length : Int) ≤ 0 := by omega
        have hop : ∀ k : Nat, Ops S k (fun vs => call (.type "list") vs) [.rng (a : Int) ((name.length : Int) + 1) 1] (.list ((List.range' a (name.length + 1 - a)).map fun i : Nat => D.int (i : Int))) := by
          intro k
          exact Ops.listFrom (a := a) (b := name.length + 1) (by omega) (by omega)
        simp only [takeStep]
        refine' EXs.to ?mm rfl
        case mm => walk_at "m:exs"
    | some q =>
      have hq : ∀ (k c : Nat), Ops S (k + 1) (fun vs => call (.ref 156) vs) [.str q, .str [c]] (.bool (one q c)) := h1 q hp
      simp only [partD]
      have ho : List.map (fun i : Nat => D.int (i : Int)) (takeStep one name at' (some q)) = (at'.filter fun i => match name[i]? with | none => false | some c => one q c).map (fun i : Nat => D.int ((i : Int) + 1)) := by
        simp only [takeStep, List.map_map]
        exact List.map_congr_left fun i _ => rfl
      rw [ho]
      refine' EXs.to ?mm rfl
      case mm =>
        refine' EXs.seq ?ma ?mr
        case ma =>
          refine' EX.ifB ?mc ?mb
          case mc => walk_at "m:tvb"
          case mb =>
            refine' Or.inr (And.intro rfl ?mo)
            case mo =>
              refine' EXs.seq ?mx ?my
              case mx =>
                refine' EX.assignComp (outs := (at'.filter fun i => match name[i]? with | none => false | some c => one q c).map (fun i : Nat => D.int ((i : Int) + 1))) (Γc := [none, some (.val (.str name)), some (.val (.str q))]) ["p", "name", "part"] [.local, .cell, .cell] ?h1 ?h2 ?h3 ?h4 ?h5 ?h6 ?h7 ?h8 ?h9 ?h10 ?h11 ?h12 ?h13 ?h14
                case h1 => decide
                case h2 => rfl
                case h3 => rfl
                case h4 => decide
                case h5 =>
                  refine AllCap.other rfl rfl (AllCap.other rfl rfl (AllCap.other rfl rfl (AllCap.other rfl rfl (AllCap.free (.cell 2 rfl rfl) (AllCap.free (.cell 4 rfl rfl) .nil)))))
                case h6 => exact CapL.skip (CapL.cap rfl rfl (.cell 2 rfl rfl) (CapL.cap rfl rfl (.cell 4 rfl rfl) .nil))
                case h7 => walk_at "m:ev"
                case h8 => exact It.list
                case h9 => have := hI.1; simp; omega
                case h10 =>
                  intro fc e1 e2 e3
                  have m0 : Nm fc "p" 0 .local := Nm.of e2 e3 rfl rfl
                  have m1 : Nm fc "name" 1 .cell := Nm.of e2 e3 rfl rfl
                  have m2 : Nm fc "part" 2 .cell := Nm.of e2 e3 rfl rfl
                  have gl := Raw.b (S := S) e1 rfl hK.ns_len bt_len
                  have go := Raw.g (S := S) (x := "_law_one") e1 rfl hK.ns_law_one
                  have k_law_one := hK.cal_law_one
                  refine CL.filter (τ := Option B) (fun i : Nat => D.int (i : Int)) (fun i : Nat => D.int ((i : Int) + 1)) (fun i => match name[i]? with | none => false | some c => one q c) (fun t => [t, some (.val (.str name)), some (.val (.str q))]) at' none ?_
                  intro i hi t
                  refine ⟨some (.val (.int i)), AS.nm m0, Ts.one ?_, fun hk => ?_⟩
                  · cases hc : name[i]? with
                    | none =>
                      have hl : name.length ≤ i := List.getElem?_eq_none_iff.mp hc
                      have q1 : decide ((i : Int) < (name.length : Int)) = false := by simp; omega
                      walk_at "m:tv"
                    | some c =>
                      have hl : i < name.length := (List.getElem?_eq_some_iff.mp hc).1
                      have q1 : decide ((i : Int) < (name.length : Int)) = true := by simp; omega
                      have hix : name[idx name.length (i : Int)]? = some c := by
                        have : idx name.length (i : Int) = i := by unfold idx; rw [if_neg (by omega)]; simp
                        rw [this]; exact hc
                      have zi : -(name.length : Int) ≤ (i : Int) := by omega
                      have hqc := fun k => hq k c
                      clear hq h1
                      show TV _ _ _ _ _ (one q c)
                      cases hone : one q c
                      · rw [hone] at hqc
                        walk_at "m:tv"
                      · rw [hone] at hqc
                        walk_at "m:tv"
                  · walk_at "m:ev"
                case h11 => intro _ _; rfl
                case h12 => walk_at "m:as"
                case h13 => intro _; exact ⟨_, rfl⟩
                case h14 => intro _; rfl
              case my => walk_at "m:rest"
        case mr => walk_at "m:rest"
  · intro t' hI
    have hop : ∀ k : Nat, Op2 S k (compareOp .In) (.int (name.length : Int)) (.list ((parts.foldl (takeStep one name) [0]).map fun i : Nat => D.int (i : Int))) (.bool (pTakes one parts name)) := by
      intro k
      refine bool_any (P := fun b => Op2 S k (compareOp .In) _ _ (.bool b)) ?_ (Op2.inL false rfl ?_)
      · constructor
        · intro h
          obtain ⟨j, hj, e⟩ := List.mem_map.mp h
          injection e with e
          have : j = name.length := by omega
          exact this ▸ hj
        · intro h; exact List.mem_map.mpr ⟨_, h, rfl⟩
      · intro e he
        obtain ⟨j, hj, rfl⟩ := List.mem_map.mp he
        rfl
    refine' EXs.to ?mm rfl
    case mm => walk_at "m:exs"
omit hK
/-- what the law's parts take of one sign -/
noncomputable def pOne (p : List Nat) (c : Nat) : Bool := if p = [47] then [47] == [c] else if p = [92, 46] then [46] == [c] else if p = [91, 94, 47, 93] then !decide (c ∈ [47]) else !decide (c ∈ [46, 47])
noncomputable def pats : List (List Nat) := [[42, 47, 47, 42], [42, 47, 46, 47, 42], [42, 47, 91, 33, 47, 93, 47, 46, 46, 47, 42], [42, 47, 91, 33, 46, 47, 93, 91, 33, 47, 93, 47, 46, 46, 47, 42], [42, 47, 46, 91, 33, 46, 47, 93, 47, 46, 46, 47, 42], [42, 47, 91, 33, 47, 93, 91, 33, 47, 93, 91, 33, 47, 93, 42, 47, 46, 46, 47, 42]]
noncomputable def faultyP : List (List It') := pats.map (pTr [46])
noncomputable def aheadP : List It' := pTr [46] [47, 46, 46, 47, 42]
theorem faulty_eq : faultyP = [[none, some [47], some [47], none], [none, some [47], some [92, 46], some [47], none], [none, some [47], some [91, 94, 47, 93], some [47], some [92, 46], some [92, 46], some [47], none],
  [none, some [47], some [91, 94, 46, 47, 93], some [91, 94, 47, 93], some [47], some [92, 46], some [92, 46], some [47], none], [none, some [47], some [92, 46], some [91, 94, 46, 47, 93], some [47], some [92, 46], some [92, 46], some [47], none],
  [none, some [47], some [91, 94, 47, 93], some [91, 94, 47, 93], some [91, 94, 47, 93], none, some [47], some [92, 46], some [92, 46], some [47], none]] := by decide +kernel
theorem ahead_eq : aheadP = [some [47], some [92, 46], some [92, 46], some [47], none] := by decide +kernel
noncomputable def hitP (root between : List Nat) : Bool := decide (faultyP.filter (fun parts => pTakes pOne parts between) ≠ []) || (decide (root ≠ []) && pTakes pOne aheadP between)
noncomputable def fin (root : List Nat) (ps : List (List Nat)) : List Nat := if root ++ joinL [47] ps = [] then [46] else root ++ joinL [47] ps
structure Inv (root straight : List Nat) (pieces : List (List Nat)) : Prop where
  rt : root = [] ∨ root = [47] ∨ root = [47, 47]
  no : ∀ p ∈ pieces, ∀ c ∈ p, c ≠ 47
  ok : ∀ p ∈ pieces, okC p = true
  len : lens pieces ≤ 100
  str : straight = fin root (pieces.foldl (normStep root) [])
  sok : okC straight = true
  slen : straight.length ≤ 200
theorem drawn_run : ∀ (n : Nat) (s : DrSt), okC s.1 = true → okC (looped drC drStep n s).1 = true ∧ (looped drC drStep n s).1.length ≤ s.1.length + 3 * n
  | 0, s, h => ⟨h, by simp [looped]⟩
  | n + 1, s, h => by
    unfold looped
    split
    · have ht : okC (tok (s.2.2.fmod 5)) = true := by unfold tok; repeat' split
                                                      all_goals rfl
      have hl := tok_len (s.2.2.fmod 5)
      have h1 : okC (drStep s).1 = true := by
        show okC (s.1 ++ tok (s.2.2.fmod 5)) = true
        simp only [okC, List.all_append, Bool.and_eq_true] at h ht ⊢
        exact ⟨h, ht⟩
      have h2 := drawn_run n (drStep s) h1
      refine ⟨h2.1, ?_⟩
      have h3 : (drStep s).1.length = s.1.length + (tok (s.2.2.fmod 5)).length := by
        show (s.1 ++ tok (s.2.2.fmod 5)).length = _
        rw [List.length_append]
      have := h2.2
      omega
    · exact ⟨h, by omega⟩
theorem drawn_fit (n : Int) : okC (pDrawn n) = true ∧ (pDrawn n).length ≤ 15 := by
  have := drawn_run 5 ([], 0, (if n < 0 then -n else n)) rfl
  exact ⟨this.1, Nat.le_trans this.2 (Nat.le_refl 15)⟩
/- the cut into root and rest -/
theorem spl_eq (x : List Nat) : pSplitroot x = if x.head? ≠ some 47 then ([], [], x) else if (x.drop 1).head? ≠ some 47 ∨ (x.drop 2).head? = some 47 then ([], [47], x.drop 1) else ([], [47, 47], x.drop 2) := by
  unfold pSplitroot
  have e1 := pick_to x 1
  have e2 := pick_mid x 1 2
  have e3 := pick_mid x 2 3
  have e4 := pick_from x 1
  have e5 := pick_to x 2
  have e6 := pick_from x 2
  push_cast at e1 e2 e3 e4 e5 e6
  rw [e1, e2, e3, e4, e5, e6]
  rcases x with _ | ⟨a, _ | ⟨b, _ | ⟨c, r⟩⟩⟩
  · simp
  · by_cases ha : a = 47 <;> simp [ha]
  · by_cases ha : a = 47 <;> by_cases hb : b = 47 <;> simp [ha, hb]
  · by_cases ha : a = 47 <;> by_cases hb : b = 47 <;> by_cases hc : c = 47 <;> simp [ha, hb, hc]
theorem spl_root (x : List Nat) : ((pSplitroot x).2.1 = [] ∨ (pSplitroot x).2.1 = [47] ∨ (pSplitroot x).2.1 = [47, 47]) ∧ pSplitroot x = ([], (pSplitroot x).2.1, x.drop (pSplitroot x).2.1.length) := by
  rw [spl_eq]
  split
  · simp
  · split
    · simp
    · simp
theorem normpath_eq {x root tail : List Nat} (h : pSplitroot x = ([], root, tail)) : pNormpath x = fin root ((splitC 47 tail).foldl (normStep root) []) := by
  unfold pNormpath fin
  rw [h]
  by_cases hx : x = []
  · subst hx
    have : pSplitroot [] = ([], [], []) := by rw [spl_eq]; simp
    rw [this] at h
    cases h
    rfl
  · rw [if_neg hx]
/- splitting and joining -/
theorem split_no {c : Nat} : ∀ (p : List Nat), (∀ x ∈ p, x ≠ c) → splitC c p = [p]
  | [], _ => rfl
  | x :: p, h => by
    unfold splitC
    rw [if_neg (h x (.head _)), split_no p fun y hy => h y (.tail _ hy)]
theorem split_app {c : Nat} (xs : List Nat) : ∀ (p : List Nat), (∀ x ∈ p, x ≠ c) → splitC c (p ++ c :: xs) = p :: splitC c xs
  | [], _ => by simp [splitC]
  | x :: p, h => by
    have ih := split_app xs p fun y hy => h y (.tail _ hy)
    show splitC c (x :: (p ++ c :: xs)) = _
    rw [splitC, if_neg (h x (.head _)), ih]
theorem split_join {c : Nat} : ∀ (ps : List (List Nat)), ps ≠ [] → (∀ p ∈ ps, ∀ x ∈ p, x ≠ c) → splitC c (joinL [c] ps) = ps
  | [], h, _ => absurd rfl h
  | [p], _, h => split_no p (h p (.head _))
  | p :: q :: r, _, h => by
    show splitC c (p ++ [c] ++ joinL [c] (q :: r)) = _
    rw [List.append_assoc, List.singleton_append, split_app _ p (h p (.head _)), split_join (q :: r) (by simp) fun p' hp => h p' (.tail _ hp)]
theorem split_mem {c : Nat} : ∀ (xs : List Nat) (p : List Nat), p ∈ splitC c xs → ∀ x ∈ p, x ≠ c ∧ x ∈ xs
  | [], p, h, x, hx => by simp [splitC] at h; subst h; cases hx
  | y :: xs, p, h, x, hx => by
    unfold splitC at h
    split at h
    · rcases List.mem_cons.mp h with rfl | h
      · cases hx
      · have := split_mem xs p h x hx; exact ⟨this.1, .tail _ this.2⟩
    · rename_i hy
      split at h
      · rename_i h0; exact absurd h0 (splitC_ne c xs)
      · rename_i q qs h0
        rcases List.mem_cons.mp h with rfl | h
        · rcases List.mem_cons.mp hx with rfl | hx
          · exact ⟨hy, .head _⟩
          · have := split_mem xs q (by rw [h0]; exact .head _) x hx; exact ⟨this.1, .tail _ this.2⟩
        · have := split_mem xs p (by rw [h0]; exact .tail _ h) x hx; exact ⟨this.1, .tail _ this.2⟩
theorem join_mem {c : Nat} : ∀ (ps : List (List Nat)) (x : Nat), x ∈ joinL [c] ps → x = c ∨ ∃ p ∈ ps, x ∈ p
  | [], x, h => by simp [joinL] at h
  | [p], x, h => .inr ⟨p, .head _, h⟩
  | p :: q :: r, x, h => by
    have h : x ∈ p ++ [c] ++ joinL [c] (q :: r) := h
    rcases List.mem_append.mp h with h | h
    · rcases List.mem_append.mp h with h | h
      · exact .inr ⟨p, .head _, h⟩
      · exact .inl (by simpa using h)
    · rcases join_mem (q :: r) x h with e | ⟨p', h1, h2⟩
      · exact .inl e
      · exact .inr ⟨p', .tail _ h1, h2⟩
theorem okC_iff (x : List Nat) : okC x = true ↔ ∀ c ∈ x, c < 0x110000 := by simp [okC]
theorem join_ok {ps : List (List Nat)} (h : ∀ p ∈ ps, okC p = true) : okC (joinL [47] ps) = true := by
  rw [okC_iff]
  intro c hc
  rcases join_mem ps c hc with rfl | ⟨p, h1, h2⟩
  · decide
  · exact (okC_iff p).mp (h p h1) c h2
/- the faults -/
noncomputable def fauL (pcs : List (List Nat)) (root : List Nat) (i : Nat) : List (Nat × Nat) :=
  if pcs[i]? = some [] ∨ pcs[i]? = some [46] then [(i, 1)]
  else if pcs[i]? = some [46, 46] then (if i = 0 ∧ root ≠ [] then [(i, 1)] else [])
  else if pcs[i + 1]? = some [46, 46] then [(i, 2)] else []
theorem fauStep_eq (pcs : List (List Nat)) (root : List Nat) (acc : List (Nat × Nat)) (i : Nat) : fauStep pcs root acc i = acc ++ fauL pcs root i := by
  unfold fauStep fauL
  repeat' split
  all_goals simp
theorem fold_flat {α β : Type} (f : β → List α) : ∀ (l : List β) (acc : List α), l.foldl (fun a b => a ++ f b) acc = acc ++ l.flatMap f
  | [], acc => by simp
  | b :: l, acc => by rw [List.foldl_cons, fold_flat f l]; simp [List.flatMap_cons]
theorem pFaults_eq (pcs : List (List Nat)) (root : List Nat) : pFaults pcs root = (List.range pcs.length).flatMap (fauL pcs root) := by
  unfold pFaults
  have : fauStep pcs root = fun a b => a ++ fauL pcs root b := by funext a b; exact fauStep_eq ..
  rw [this, fold_flat]; simp
theorem fau_mem {pcs : List (List Nat)} {root : List Nat} {q : Nat × Nat} : q ∈ pFaults pcs root ↔ ∃ i, i < pcs.length ∧ q ∈ fauL pcs root i := by
  rw [pFaults_eq, List.mem_flatMap]
  simp
theorem fauL_len (pcs : List (List Nat)) (root : List Nat) (i : Nat) : (fauL pcs root i).length ≤ 1 := by
  unfold fauL; repeat' split
  all_goals simp
theorem flat_len {α β : Type} (f : β → List α) (h : ∀ b, (f b).length ≤ 1) : ∀ l : List β, (l.flatMap f).length ≤ l.length
  | [] => by simp
  | b :: l => by
    have := flat_len f h l
    have := h b
    simp only [List.flatMap_cons, List.length_append, List.length_cons]; omega
theorem faults_len (ps : List (List Nat)) (root : List Nat) : (pFaults ps root).length ≤ ps.length := by
  rw [pFaults_eq]
  have := flat_len (fauL ps root) (fauL_len ps root) (List.range ps.length)
  simpa using this
/-- what a fault is -/
theorem fau_cases {pcs : List (List Nat)} {root : List Nat} {q : Nat × Nat} (h : q ∈ pFaults pcs root) :
    (q.2 = 1 ∧ (pcs[q.1]? = some [] ∨ pcs[q.1]? = some [46])) ∨ (q = (0, 1) ∧ root ≠ [] ∧ pcs[0]? = some [46, 46]) ∨
    (q.2 = 2 ∧ ∃ w, pcs[q.1]? = some w ∧ w ≠ [] ∧ w ≠ [46] ∧ w ≠ [46, 46] ∧ pcs[q.1 + 1]? = some [46, 46]) := by
  obtain ⟨i, hi, hq⟩ := fau_mem.mp h
  have hw : pcs[i]? = some pcs[i] := List.getElem?_eq_getElem hi
  unfold fauL at hq
  split at hq
  · rename_i h1; simp at hq; subst hq; exact .inl ⟨rfl, h1⟩
  · rename_i h1
    split at hq
    · rename_i h2
      split at hq
      · rename_i h3; simp at hq; subst hq; obtain ⟨rfl, h3⟩ := h3; exact .inr (.inl ⟨rfl, h3, h2⟩)
      · simp at hq
    · rename_i h2
      split at hq
      · rename_i h3; simp at hq; subst hq
        simp only [not_or, hw, Option.some.injEq] at h1 h2
        exact .inr (.inr ⟨rfl, pcs[i], hw, h1.1, h1.2, h2, h3⟩)
      · simp at hq
/-- a piece that is no .. with .. behind it is at fault, and so is an empty one, a dot -/
theorem fau_at {pcs : List (List Nat)} {root : List Nat} {i : Nat} {w : List Nat} (h : pcs[i]? = some w) (hw : w = [] ∨ w = [46] ∨ (w ≠ [46, 46] ∧ pcs[i + 1]? = some [46, 46])) : pFaults pcs root ≠ [] := by
  have hi := (List.getElem?_eq_some_iff.mp h).1
  have : fauL pcs root i ≠ [] := by
    unfold fauL
    rw [h]
    by_cases h1 : some w = some [] ∨ some w = some [46]
    · rw [if_pos h1]; simp
    · rw [if_neg h1]
      simp only [Option.some.injEq, not_or] at h1
      rcases hw with rfl | rfl | ⟨h2, h3⟩
      · exact absurd rfl h1.1
      · exact absurd rfl h1.2
      · rw [if_neg (by simpa using h2), if_pos h3]; simp
  obtain ⟨q, hq⟩ := List.exists_mem_of_ne_nil _ this
  exact List.ne_nil_of_mem (fau_mem.mpr ⟨i, hi, hq⟩)
theorem fau_root {pcs : List (List Nat)} {root : List Nat} (h : pcs[0]? = some [46, 46]) (hr : root ≠ []) : pFaults pcs root ≠ [] := by
  have hi := (List.getElem?_eq_some_iff.mp h).1
  have : (0, 1) ∈ fauL pcs root 0 := by
    unfold fauL
    rw [h]; simp [hr]
  exact List.ne_nil_of_mem (fau_mem.mpr ⟨0, hi, this⟩)
noncomputable abbrev nrm (root : List Nat) (ps : List (List Nat)) : List (List Nat) := ps.foldl (normStep root) []
theorem cutAt {α : Type} {ps : List α} {k : Nat} {w : α} (h : ps[k]? = some w) : ps = ps.take k ++ w :: ps.drop (k + 1) := by
  obtain ⟨h1, h2⟩ := List.getElem?_eq_some_iff.mp h
  rw [← h2, ← List.drop_eq_getElem_cons h1, List.take_append_drop]
theorem step_skip {root w : List Nat} {acc : List (List Nat)} (h : w = [] ∨ w = [46]) : normStep root acc w = acc := by unfold normStep; rw [if_pos h]
theorem step_push {root w : List Nat} {acc : List (List Nat)} (h1 : w ≠ []) (h2 : w ≠ [46]) (h3 : w ≠ [46, 46] ∨ (root = [] ∧ acc = []) ∨ acc.getLast? = some [46, 46]) : normStep root acc w = acc ++ [w] := by
  unfold normStep; rw [if_neg (by simp [h1, h2]), if_pos h3]
theorem red_nrm {root : List Nat} {ps : List (List Nat)} {q : Nat × Nat} (hq : q ∈ pFaults ps root) : nrm root (ps.take q.1 ++ ps.drop (q.1 + q.2)) = nrm root ps ∧ (ps.take q.1 ++ ps.drop (q.1 + q.2)).length < ps.length := by
  obtain ⟨k, c⟩ := q
  rcases fau_cases hq with ⟨h1, h2⟩ | ⟨h1, h2, h3⟩ | ⟨h1, w, h2, h3, h4, h5, h6⟩
  · simp only at h1 h2 ⊢
    subst h1
    obtain ⟨w, hw, hv⟩ : ∃ w, ps[k]? = some w ∧ (w = [] ∨ w = [46]) := by
      rcases h2 with h | h
      · exact ⟨_, h, .inl rfl⟩
      · exact ⟨_, h, .inr rfl⟩
    have hk := (List.getElem?_eq_some_iff.mp hw).1
    refine ⟨?_, by simp; omega⟩
    conv => rhs; rw [cutAt hw]
    unfold nrm
    rw [List.foldl_append, List.foldl_append, List.foldl_cons, step_skip hv]
  · cases h1
    have hk := (List.getElem?_eq_some_iff.mp h3).1
    refine ⟨?_, by simp; omega⟩
    conv => rhs; rw [cutAt h3]
    have : normStep root [] [46, 46] = [] := by
      unfold normStep
      rw [if_neg (by simp), if_neg (by simp [h2])]; rfl
    simp only [List.take_zero, List.nil_append, Nat.zero_add]
    unfold nrm
    rw [List.foldl_cons, this]
  · simp only at h1 h2 h6 ⊢
    subst h1
    have hk := (List.getElem?_eq_some_iff.mp h6).1
    refine ⟨?_, by simp; omega⟩
    have e2 : ps.drop (k + 1) = [46, 46] :: ps.drop (k + 2) := by
      have := cutAt (ps := ps.drop (k + 1)) (k := 0) (w := [46, 46]) (by rw [List.getElem?_drop]; exact h6)
      simpa using this
    conv => rhs; rw [cutAt h2, e2]
    unfold nrm
    rw [List.foldl_append, List.foldl_append, List.foldl_cons, List.foldl_cons]
    rw [step_push (w := w) h3 h4 (.inl h5)]
    have : normStep root (List.foldl (normStep root) [] (List.take k ps) ++ [w]) [46, 46] = List.foldl (normStep root) [] (List.take k ps) := by
      unfold normStep
      rw [if_neg (by simp), if_neg (by simp [h5]), List.dropLast_concat]
    rw [this]
theorem stable {root : List Nat} {ps : List (List Nat)} (h : pFaults ps root = []) : nrm root ps = ps := by
  have key : ∀ n, n ≤ ps.length → nrm root (ps.take n) = ps.take n := by
    intro n
    induction n with
    | zero => intro _; simp
    | succ n ih =>
      intro hn
      have hw : ps[n]? = some ps[n] := List.getElem?_eq_getElem (by omega)
      have e : ps.take (n + 1) = ps.take n ++ [ps[n]] := List.take_succ_eq_append_getElem (by omega)
      rw [e]
      unfold nrm
      rw [List.foldl_append]
      show normStep root (nrm root (ps.take n)) ps[n] = _
      rw [ih (by omega)]
      have n1 : ps[n] ≠ [] := fun q => fau_at hw (.inl q) h
      have n2 : ps[n] ≠ [46] := fun q => fau_at hw (.inr (.inl q)) h
      refine step_push n1 n2 ?_
      by_cases n3 : ps[n] = [46, 46]
      · right
        rw [n3] at hw
        cases n with
        | zero =>
          left
          refine ⟨?_, by simp⟩
          by_cases hr : root = []
          · exact hr
          · exact absurd h (fau_root hw hr)
        | succ m =>
          right
          have hv : ps[m]? = some ps[m] := List.getElem?_eq_getElem (by omega)
          have hv2 : ps[m] = [46, 46] := by
            by_cases q : ps[m] = [46, 46]
            · exact q
            · exact absurd h (fau_at hv (.inr (.inr ⟨q, hw⟩)))
          rw [List.take_succ_eq_append_getElem (i := m) (by omega), List.getLast?_concat, hv2]
      · exact .inl n3
  have := key ps.length (Nat.le_refl _)
  rwa [List.take_length] at this
theorem step_len (root : List Nat) (acc : List (List Nat)) (w : List Nat) : (normStep root acc w).length ≤ acc.length + 1 := by
  unfold normStep; repeat' split
  all_goals simp
  all_goals omega
theorem fold_len (root : List Nat) : ∀ (ps acc : List (List Nat)), (ps.foldl (normStep root) acc).length ≤ acc.length + ps.length
  | [], acc => by simp
  | w :: ps, acc => by
    have h1 := fold_len root ps (normStep root acc w)
    have h2 := step_len root acc w
    rw [List.foldl_cons, List.length_cons]; omega
theorem step_mem {root : List Nat} {acc : List (List Nat)} {w x : List Nat} (h : x ∈ normStep root acc w) : x ∈ acc ∨ x = w := by
  unfold normStep at h
  split at h
  · exact .inl h
  · split at h
    · simpa using h
    · exact .inl (List.dropLast_subset _ h)
theorem fold_mem {root : List Nat} : ∀ (ps acc : List (List Nat)) (x : List Nat), x ∈ ps.foldl (normStep root) acc → x ∈ acc ∨ x ∈ ps
  | [], acc, x, h => .inl h
  | w :: ps, acc, x, h => by
    rcases fold_mem ps _ x h with h | h
    · rcases step_mem h with h | rfl
      · exact .inl h
      · exact .inr (.head _)
    · exact .inr (.tail _ h)
theorem nrm_mem {root : List Nat} {ps : List (List Nat)} {x : List Nat} (h : x ∈ nrm root ps) : x ∈ ps := (fold_mem ps [] x h).elim nofun id
theorem inv_norm {root straight : List Nat} {pieces : List (List Nat)} (h : Inv root straight pieces) (hs : pSplitroot (root ++ joinL [47] pieces) = ([], root, joinL [47] pieces)) : pNormpath (root ++ joinL [47] pieces) = straight := by
  rw [normpath_eq hs, h.str]
  cases pieces with
  | nil => rfl
  | cons p ps => rw [split_join _ (by simp) h.no]
theorem neq_iff {root straight : List Nat} {ps : List (List Nat)} (h : Inv root straight ps) (h1 : joinL [47] ps ≠ []) (h2 : root ++ joinL [47] ps ≠ [46]) : root ++ joinL [47] ps ≠ straight ↔ pFaults ps root ≠ [] := by
  constructor
  · intro hne hf
    have := h.str
    rw [show ps.foldl (normStep root) [] = ps from stable hf] at this
    rw [this] at hne
    unfold fin at hne
    rw [if_neg (by simp [h1])] at hne
    exact hne rfl
  · intro hf he
    have hs := h.str
    rw [← he] at hs
    change root ++ joinL [47] ps = fin root (nrm root ps) at hs
    unfold fin at hs
    split at hs
    · exact h2 hs
    · have hj := List.append_cancel_left hs
      have hn : nrm root ps ≠ [] := by
        intro q
        rw [q] at hj
        exact h1 hj
      have hp : ps ≠ [] := by intro q; rw [q] at h1; exact h1 rfl
      have e1 := split_join ps hp h.no
      have e2 := split_join (nrm root ps) hn fun p hp => h.no p (nrm_mem hp)
      rw [hj, e2] at e1
      obtain ⟨q, hq⟩ := List.exists_mem_of_ne_nil _ hf
      have hr := red_nrm hq
      have hl := fold_len root (ps.take q.1 ++ ps.drop (q.1 + q.2)) []
      change (nrm root _).length ≤ _ at hl
      rw [hr.1, e1] at hl
      have := hr.2
      simp only [List.length_nil] at hl
      omega
theorem lens_le_drop (n : Nat) : ∀ ps : List (List Nat), lens (ps.drop n) ≤ lens ps := by
  induction n with
  | zero => intro ps; simp
  | succ n ih =>
    intro ps
    cases ps with
    | nil => simp
    | cons p ps =>
      have := ih ps
      have e : lens (p :: ps) = (p.length + 1) + lens ps := by simp [lens]
      rw [List.drop_succ_cons, e]; omega
theorem inv_step {root straight : List Nat} {pieces : List (List Nat)} (h : Inv root straight pieces) {q : Nat × Nat} (hq : q ∈ pFaults pieces root) : Inv root straight (pieces.take q.1 ++ pieces.drop (q.1 + q.2)) ∧ (pieces.take q.1 ++ pieces.drop (q.1 + q.2)).length < pieces.length := by
  have hr := red_nrm hq
  have hm : ∀ p ∈ pieces.take q.1 ++ pieces.drop (q.1 + q.2), p ∈ pieces := fun p hp => by
    rcases List.mem_append.mp hp with hp | hp
    · exact List.mem_of_mem_take hp
    · exact List.mem_of_mem_drop hp
  refine ⟨⟨h.rt, fun p hp => h.no p (hm p hp), fun p hp => h.ok p (hm p hp), ?_, ?_, h.sok, h.slen⟩, hr.2⟩
  · have h1 := h.len
    have h2 : lens pieces = lens (pieces.take q.1) + lens (pieces.drop q.1) := by rw [← lens_append, List.take_append_drop]
    have h3 := lens_le_drop q.2 (pieces.drop q.1)
    rw [List.drop_drop] at h3
    rw [lens_append]; omega
  · have := h.str
    change straight = fin root (nrm root pieces) at this
    rw [← hr.1] at this; exact this
theorem spl_back {root : List Nat} {ps : List (List Nat)} (hr : root = [] ∨ root = [47] ∨ root = [47, 47]) (h : (joinL [47] ps).head? ≠ some 47) : pSplitroot (root ++ joinL [47] ps) = ([], root, joinL [47] ps) := by
  rw [spl_eq]
  rcases hr with rfl | rfl | rfl
  · rw [List.nil_append, if_pos h]
  · rw [if_neg (by simp), if_pos (.inl (by simpa using h))]; rfl
  · rw [if_neg (by simp), if_neg (by simp; simpa using h)]; rfl
theorem inv_end {root straight : List Nat} {pieces : List (List Nat)} (h : Inv root straight pieces) (hf : pFaults pieces root = []) : straight = fin root pieces ∧ pNormpath straight = straight := by
  have hs : straight = fin root pieces := by
    have := h.str
    rwa [show pieces.foldl (normStep root) [] = pieces from stable hf] at this
  refine ⟨hs, ?_⟩
  by_cases hz : root ++ joinL [47] pieces = []
  · have : straight = [46] := by rw [hs]; unfold fin; rw [if_pos hz]
    rw [this]
    decide
  · have e : straight = root ++ joinL [47] pieces := by rw [hs]; unfold fin; rw [if_neg hz]
    have hh : (joinL [47] pieces).head? ≠ some 47 := by
      cases hp : pieces with
      | nil => simp [joinL]
      | cons p ps =>
        have h0 : pieces[0]? = some p := by rw [hp]; rfl
        cases p with
        | nil => exact absurd hf (fau_at h0 (.inl rfl))
        | cons c r =>
          have hc : c ≠ 47 := h.no (c :: r) (by rw [hp]; exact .head _) c (.head _)
          cases ps with
          | nil => simpa [joinL] using hc
          | cons p2 ps2 => simpa [joinL] using hc
    have := inv_norm h (spl_back h.rt hh)
    rw [← e] at this; exact this
theorem inv_start {path : List Nat} (h : okC path = true) (hl : path.length ≤ 15) : Inv (pSplitroot path).2.1 (pNormpath path) (splitC 47 (path.drop (pSplitroot path).2.1.length)) := by
  obtain ⟨hr, he⟩ := spl_root path
  have hn := normpath_eq he
  generalize hrt : (pSplitroot path).2.1 = root at hr he hn ⊢
  have hrl : root.length ≤ 2 := by rcases hr with h | h | h <;> rw [h] <;> decide
  have hrok : okC root = true := by rcases hr with h | h | h <;> rw [h] <;> decide
  have hm := split_mem (c := 47) (path.drop root.length)
  have hok : ∀ p ∈ splitC 47 (path.drop root.length), okC p = true := fun p hp => (okC_iff p).mpr fun c hc => (okC_iff path).mp h c (List.mem_of_mem_drop (hm p hp c hc).2)
  have hle : lens (splitC 47 (path.drop root.length)) = (path.drop root.length).length + 1 := splitC_sum 47 _
  have hle2 : lens (splitC 47 (path.drop root.length)) ≤ 16 := by rw [hle]; simp; omega
  refine ⟨hr, fun p hp c hc => (hm p hp c hc).1, hok, by omega, hn, ?_, ?_⟩
  · rw [hn]
    unfold fin
    split
    · rfl
    · have h2 : okC (joinL [47] ((splitC 47 (path.drop root.length)).foldl (normStep root) [])) = true := join_ok fun p hp => hok p (nrm_mem hp)
      rw [okC_iff] at hrok h2 ⊢
      intro c hc
      rcases List.mem_append.mp hc with hc | hc
      · exact hrok c hc
      · exact h2 c hc
  · rw [hn]
    unfold fin
    split
    · decide
    · have h1 := joinL_len [47] ((splitC 47 (path.drop root.length)).foldl (normStep root) [])
      have h2 := normFold_lens root (splitC 47 (path.drop root.length)) []
      have h3 : lens ((splitC 47 (path.drop root.length)).foldl (normStep root) []) = (((splitC 47 (path.drop root.length)).foldl (normStep root) []).map fun p => p.length + [47].length).sum := rfl
      have h4 : lens [] = 0 := rfl
      rw [List.length_append]
      omega
noncomputable def Mt (one : List Nat → Nat → Bool) : List It' → List Nat → Prop
  | [], s => s = []
  | none :: ps, s => ∃ a b, s = a ++ b ∧ Mt one ps b
  | some q :: ps, s => ∃ c s', s = c :: s' ∧ one q c = true ∧ Mt one ps s'
theorem takes_run (one : List Nat → Nat → Bool) (name : List Nat) : ∀ (parts : List It') (at' : List Nat), (∀ i ∈ at', i ≤ name.length) → at'.Pairwise (· ≤ ·) →
    (name.length ∈ parts.foldl (takeStep one name) at' ↔ ∃ p ∈ at', Mt one parts (name.drop p))
  | [], at', h1, h2 => by
    simp only [List.foldl_nil, Mt]
    constructor
    · intro h; exact ⟨_, h, by simp⟩
    · rintro ⟨p, hp, h⟩
      have := h1 p hp
      have h3 := List.drop_eq_nil_iff.mp h
      have : p = name.length := by omega
      exact this ▸ hp
  | none :: ps, at', h1, h2 => by
    rw [List.foldl_cons]
    cases at' with
    | nil =>
      rw [show takeStep one name [] none = [] from rfl, takes_run one name ps [] nofun .nil]
      simp
    | cons a r =>
      have ha := h1 a (.head _)
      rw [show takeStep one name (a :: r) none = List.range' a (name.length + 1 - a) from rfl, takes_run one name ps _ (fun i hi => by simp only [List.mem_range'_1] at hi; omega) List.pairwise_le_range']
      simp only [Mt]
      constructor
      · rintro ⟨p, hp, h⟩
        simp only [List.mem_range'_1] at hp
        refine ⟨a, .head _, (name.drop a).take (p - a), name.drop p, ?_, h⟩
        have e : name.drop p = (name.drop a).drop (p - a) := by rw [List.drop_drop]; congr 1; omega
        rw [e, List.take_append_drop]
      · rintro ⟨p, hp, x, y, e, h⟩
        have hap : a ≤ p := by
          rcases List.mem_cons.mp hp with rfl | hp
          · exact Nat.le_refl _
          · exact List.rel_of_pairwise_cons h2 hp
        have hpl := h1 p hp
        have hxl : x.length ≤ name.length - p := by
          have := congrArg List.length e
          rw [List.length_drop, List.length_append] at this; omega
        refine ⟨p + x.length, by simp only [List.mem_range'_1]; omega, ?_⟩
        have : name.drop (p + x.length) = y := by rw [← List.drop_drop, e, List.drop_left]
        rw [this]; exact h
  | some q :: ps, at', h1, h2 => by
    rw [List.foldl_cons]
    have hle : ∀ i ∈ takeStep one name at' (some q), i ≤ name.length := by
      intro i hi
      simp only [takeStep, List.mem_map, List.mem_filter] at hi
      obtain ⟨j, ⟨hj1, hj2⟩, rfl⟩ := hi
      cases hj : name[j]? with
      | none => rw [hj] at hj2; simp at hj2
      | some c => have := (List.getElem?_eq_some_iff.mp hj).1; omega
    rw [takes_run one name ps _ hle (by
      simp only [takeStep]
      rw [List.pairwise_map]
      exact (h2.filter _).imp fun h => Nat.succ_le_succ h)]
    simp only [Mt, takeStep, List.mem_map, List.mem_filter]
    constructor
    · rintro ⟨_, ⟨j, ⟨hj1, hj2⟩, rfl⟩, h⟩
      cases hj : name[j]? with
      | none => rw [hj] at hj2; simp at hj2
      | some c =>
        rw [hj] at hj2
        obtain ⟨hl, hv⟩ := List.getElem?_eq_some_iff.mp hj
        exact ⟨j, hj1, c, name.drop (j + 1), by rw [← hv]; exact List.drop_eq_getElem_cons hl, hj2, h⟩
    · rintro ⟨p, hp, c, s', e, ho, h⟩
      have hl : p < name.length := by
        have := congrArg List.length e
        rw [List.length_drop, List.length_cons] at this; omega
      have e2 := List.drop_eq_getElem_cons hl
      rw [e] at e2
      injection e2 with e3 e4
      refine ⟨p + 1, ⟨p, ⟨hp, ?_⟩, rfl⟩, e4 ▸ h⟩
      rw [List.getElem?_eq_getElem hl, ← e3]; exact ho
theorem takes_iff (one : List Nat → Nat → Bool) (parts : List It') (name : List Nat) : pTakes one parts name = true ↔ Mt one parts name := by
  unfold pTakes
  rw [decide_eq_true_iff, takes_run one name parts [0] (by simp) (by simp)]
  simp
/- the text between two slashes -/
noncomputable def Et : List (List Nat) → List Nat
  | [] => [47]
  | p :: ps => 47 :: (p ++ Et ps)
theorem et_join : ∀ (ps : List (List Nat)), ps ≠ [] → [47] ++ joinL [47] ps ++ [47] = Et ps
  | [], h => absurd rfl h
  | [p], _ => by simp [joinL, Et]
  | p :: q :: r, _ => by
    have ih := et_join (q :: r) (by simp)
    show [47] ++ (p ++ [47] ++ joinL [47] (q :: r)) ++ [47] = 47 :: (p ++ Et (q :: r))
    rw [← ih]; simp
theorem et_head (ps : List (List Nat)) : ∃ e, Et ps = 47 :: e := by cases ps <;> exact ⟨_, rfl⟩
theorem et_split : ∀ (ps : List (List Nat)) (k : Nat), k ≤ ps.length → ∃ a, Et ps = a ++ Et (ps.drop k)
  | ps, 0, _ => ⟨[], by simp⟩
  | [], k + 1, h => by simp at h
  | p :: ps, k + 1, h => by
    obtain ⟨a, e⟩ := et_split ps k (by simpa using h)
    exact ⟨47 :: (p ++ a), by rw [List.drop_succ_cons]; show 47 :: (p ++ Et ps) = _; rw [e]; simp⟩
noncomputable abbrev No47 (ps : List (List Nat)) : Prop := ∀ p ∈ ps, ∀ c ∈ p, c ≠ 47
theorem et_cut : ∀ (ps : List (List Nat)) (a r : List Nat), No47 ps → Et ps = a ++ 47 :: r → ∃ k, k ≤ ps.length ∧ 47 :: r = Et (ps.drop k)
  | [], a, r, _, e => by
    cases a with
    | nil => exact ⟨0, Nat.le_refl _, e.symm⟩
    | cons x a => simp [Et] at e
  | p :: ps, a, r, h, e => by
    cases a with
    | nil => exact ⟨0, Nat.zero_le _, e.symm⟩
    | cons x a =>
      have e2 : p ++ Et ps = a ++ 47 :: r := by
        have e : 47 :: (p ++ Et ps) = x :: (a ++ 47 :: r) := e
        injection e
      rcases List.append_eq_append_iff.mp e2 with ⟨a', e3, e4⟩ | ⟨c', e3, e4⟩
      · obtain ⟨k, hk, e5⟩ := et_cut ps a' r (fun p hp => h p (.tail _ hp)) e4
        exact ⟨k + 1, by simpa using hk, e5⟩
      · cases c' with
        | nil =>
          obtain ⟨k, hk, e5⟩ := et_cut ps [] r (fun p hp => h p (.tail _ hp)) (by simpa using e4.symm)
          exact ⟨k + 1, by simpa using hk, e5⟩
        | cons y c' =>
          injection e4 with e5 _
          exact absurd e5.symm (h p (.head _) y (by rw [e3]; simp))
theorem first47 : ∀ (p w e b : List Nat), (∀ c ∈ p, c ≠ 47) → (∀ c ∈ w, c ≠ 47) → p ++ 47 :: e = w ++ 47 :: b → p = w ∧ e = b
  | [], [], e, b, _, _, h => by simpa using h
  | [], y :: w, e, b, _, h2, h => by injection h with h _; exact absurd h.symm (h2 y (.head _))
  | x :: p, [], e, b, h1, _, h => by injection h with h _; exact absurd h (h1 x (.head _))
  | x :: p, y :: w, e, b, h1, h2, h => by
    injection h with h3 h4
    obtain ⟨h5, h6⟩ := first47 p w e b (fun c hc => h1 c (.tail _ hc)) (fun c hc => h2 c (.tail _ hc)) h4
    exact ⟨by rw [h3, h5], h6⟩
theorem et_first {ps : List (List Nat)} {w b : List Nat} (h : No47 ps) (hw : ∀ c ∈ w, c ≠ 47) (e : Et ps = 47 :: (w ++ 47 :: b)) : ∃ rest, ps = w :: rest ∧ 47 :: b = Et rest := by
  cases ps with
  | nil =>
    have e : [47] = 47 :: (w ++ 47 :: b) := e
    injection e with _ e
    cases w <;> cases e
  | cons p ps =>
    obtain ⟨e', he⟩ := et_head ps
    have e : 47 :: (p ++ Et ps) = 47 :: (w ++ 47 :: b) := e
    injection e with _ e
    rw [he] at e
    obtain ⟨h1, h2⟩ := first47 p w e' b (h p (.head _)) hw e
    exact ⟨ps, by rw [h1], by rw [he, h2]⟩
theorem no_drop {ps : List (List Nat)} (h : No47 ps) (k : Nat) : No47 (ps.drop k) := fun p hp => h p (List.mem_of_mem_drop hp)
/-- a piece w right behind a slash -/
theorem et_piece {ps : List (List Nat)} {a w b : List Nat} (h : No47 ps) (hw : ∀ c ∈ w, c ≠ 47) (e : Et ps = a ++ 47 :: (w ++ 47 :: b)) : ∃ k, ps[k]? = some w ∧ 47 :: b = Et (ps.drop (k + 1)) := by
  obtain ⟨k, hk, e2⟩ := et_cut ps a _ h e
  obtain ⟨rest, e3, e4⟩ := et_first (no_drop h k) hw e2.symm
  refine ⟨k, ?_, ?_⟩
  · have : (ps.drop k)[0]? = some w := by rw [e3]; rfl
    simpa [List.getElem?_drop] using this
  · rw [e4]
    have : ps.drop (k + 1) = (ps.drop k).drop 1 := by rw [List.drop_drop]
    rw [this, e3]; rfl
theorem et_two {ps : List (List Nat)} {a w b : List Nat} (h : No47 ps) (hw : ∀ c ∈ w, c ≠ 47) (e : Et ps = a ++ 47 :: (w ++ 47 :: 46 :: 46 :: 47 :: b)) : ∃ k, ps[k]? = some w ∧ ps[k + 1]? = some [46, 46] := by
  obtain ⟨k, h1, h2⟩ := et_piece h hw e
  obtain ⟨rest, e3, _⟩ := et_first (w := [46, 46]) (no_drop h (k + 1)) (by decide) h2.symm
  refine ⟨k, h1, ?_⟩
  have : (ps.drop (k + 1))[0]? = some [46, 46] := by rw [e3]; rfl
  simpa [List.getElem?_drop] using this
theorem et_at {ps : List (List Nat)} {k : Nat} {w : List Nat} (h : ps[k]? = some w) : ∃ a e, Et ps = a ++ 47 :: (w ++ 47 :: e) := by
  have hk := (List.getElem?_eq_some_iff.mp h).1
  obtain ⟨a, e⟩ := et_split ps k (Nat.le_of_lt hk)
  have : ps.drop k = w :: ps.drop (k + 1) := by
    rw [List.drop_eq_getElem_cons hk, (List.getElem?_eq_some_iff.mp h).2]
  rw [this] at e
  obtain ⟨e', he⟩ := et_head (ps.drop (k + 1))
  exact ⟨a, e', by rw [e]; show a ++ 47 :: (w ++ Et _) = _; rw [he]⟩
theorem et_at2 {ps : List (List Nat)} {k : Nat} {w : List Nat} (h : ps[k]? = some w) (h2 : ps[k + 1]? = some [46, 46]) : ∃ a e, Et ps = a ++ 47 :: (w ++ 47 :: 46 :: 46 :: 47 :: e) := by
  have hk := (List.getElem?_eq_some_iff.mp h).1
  have hk2 := (List.getElem?_eq_some_iff.mp h2).1
  obtain ⟨a, e⟩ := et_split ps k (Nat.le_of_lt hk)
  have e1 : ps.drop k = w :: ps.drop (k + 1) := by
    rw [List.drop_eq_getElem_cons hk, (List.getElem?_eq_some_iff.mp h).2]
  have e2 : ps.drop (k + 1) = [46, 46] :: ps.drop (k + 2) := by
    rw [List.drop_eq_getElem_cons hk2, (List.getElem?_eq_some_iff.mp h2).2]
  rw [e1, e2] at e
  obtain ⟨e', he⟩ := et_head (ps.drop (k + 2))
  exact ⟨a, e', by rw [e]; show a ++ 47 :: (w ++ 47 :: ([46, 46] ++ Et _)) = _; rw [he]; rfl⟩
/-- somewhere between a name and .. behind it lies a fault -/
theorem fau_between {ps : List (List Nat)} {root : List Nat} : ∀ (j k : Nat) (w : List Nat), ps[k]? = some w → w ≠ [46, 46] → ps[k + 1 + j]? = some [46, 46] → pFaults ps root ≠ []
  | 0, k, w, h1, h2, h3 => fau_at h1 (.inr (.inr ⟨h2, h3⟩))
  | j + 1, k, w, h1, h2, h3 => by
    have hl := (List.getElem?_eq_some_iff.mp h3).1
    have hv : ps[k + 1]? = some ps[k + 1] := List.getElem?_eq_getElem (by omega)
    by_cases q : ps[k + 1] = [46, 46]
    · exact fau_at h1 (.inr (.inr ⟨h2, by rw [hv, q]⟩))
    · exact fau_between j (k + 1) _ hv q (by rw [← h3]; congr 1; omega)
theorem o47 (c : Nat) : pOne [47] c = true ↔ c = 47 := by unfold pOne; rw [if_pos rfl]; simp; exact eq_comm
theorem o46 (c : Nat) : pOne [92, 46] c = true ↔ c = 46 := by unfold pOne; rw [if_neg (by decide), if_pos rfl]; simp; exact eq_comm
theorem on47 (c : Nat) : pOne [91, 94, 47, 93] c = true ↔ c ≠ 47 := by unfold pOne; rw [if_neg (by decide), if_neg (by decide), if_pos rfl]; simp
theorem ond (c : Nat) : pOne [91, 94, 46, 47, 93] c = true ↔ (c ≠ 46 ∧ c ≠ 47) := by unfold pOne; rw [if_neg (by decide), if_neg (by decide), if_neg (by decide)]; simp
theorem long_fau {root : List Nat} {ps : List (List Nat)} {a m1 b : List Nat} {c2 c3 c4 : Nat} (h : No47 ps) (n2 : c2 ≠ 47) (n3 : c3 ≠ 47) (n4 : c4 ≠ 47) (e : Et ps = a ++ 47 :: c2 :: c3 :: c4 :: (m1 ++ 47 :: 46 :: 46 :: 47 :: b)) : pFaults ps root ≠ [] := by
  obtain ⟨k, hk, e2⟩ := et_cut ps a _ h e
  have hnk := no_drop h k
  cases hd : ps.drop k with
  | nil =>
    rw [hd] at e2
    cases e2
  | cons p rest =>
    rw [hd] at e2 hnk
    have e2 : 47 :: c2 :: c3 :: c4 :: (m1 ++ 47 :: 46 :: 46 :: 47 :: b) = 47 :: (p ++ Et rest) := e2
    injection e2 with _ e2
    obtain ⟨e', he⟩ := et_head rest
    have hp := hnk p (.head _)
    obtain ⟨p', rfl⟩ : ∃ p', p = c2 :: c3 :: c4 :: p' := by
      rw [he] at e2
      rcases p with _ | ⟨a1, _ | ⟨a2, _ | ⟨a3, r⟩⟩⟩
      · injection e2 with q; exact absurd q n2
      · injection e2 with _ q; injection q with q; exact absurd q n3
      · injection e2 with _ q; injection q with _ q; injection q with q; exact absurd q n4
      · injection e2 with q1 q; injection q with q2 q; injection q with q3 q
        exact ⟨r, by rw [q1, q2, q3]⟩
    have e3 : p' ++ Et rest = m1 ++ 47 :: 46 :: 46 :: 47 :: b := by
      have e2 : c2 :: c3 :: c4 :: (m1 ++ 47 :: 46 :: 46 :: 47 :: b) = c2 :: c3 :: c4 :: (p' ++ Et rest) := e2
      injection e2 with _ q; injection q with _ q; injection q with _ q
      exact q.symm
    have hk1 : k < ps.length := by
      have := congrArg List.length hd
      rw [List.length_drop, List.length_cons] at this; omega
    have hw : ps[k]? = some (c2 :: c3 :: c4 :: p') := by
      have : (ps.drop k)[0]? = some (c2 :: c3 :: c4 :: p') := by rw [hd]; rfl
      simpa [List.getElem?_drop] using this
    have hrest : rest = ps.drop (k + 1) := by
      have : ps.drop (k + 1) = (ps.drop k).drop 1 := by rw [List.drop_drop]
      rw [this, hd]; rfl
    have key : ∃ j : Nat, rest[j]? = some [46, 46] := by
      rcases List.append_eq_append_iff.mp e3 with ⟨a', q1, q2⟩ | ⟨c', q1, q2⟩
      · obtain ⟨j, hj, _⟩ := et_piece (w := [46, 46]) (fun p hp => hnk p (.tail _ hp)) (by decide) q2
        exact ⟨j, hj⟩
      · cases c' with
        | nil =>
          obtain ⟨j, hj, _⟩ := et_piece (a := []) (w := [46, 46]) (fun p hp => hnk p (.tail _ hp)) (by decide) q2.symm
          exact ⟨j, hj⟩
        | cons z c' =>
          injection q2 with q3 _
          exact absurd q3.symm (hp z (by rw [q1]; simp))
    obtain ⟨j, hj⟩ := key
    rw [hrest, List.getElem?_drop] at hj
    exact fau_between j k _ hw (by simp) hj
set_option maxHeartbeats 2000000 in
theorem hit_fau {root : List Nat} {ps : List (List Nat)} (h : No47 ps) (hh : hitP root (Et ps) = true) : pFaults ps root ≠ [] := by
  unfold hitP at hh
  rcases Bool.or_eq_true_iff.mp hh with hh | hh
  · have hh := of_decide_eq_true hh
    obtain ⟨parts, hm⟩ := List.exists_mem_of_ne_nil _ hh
    obtain ⟨h1, h2⟩ := List.mem_filter.mp hm
    have h2 := (takes_iff _ _ _).mp h2
    rw [faulty_eq] at h1
    simp only [List.mem_cons, List.mem_nil_iff, or_false] at h1
    rcases h1 with rfl | rfl | rfl | rfl | rfl | rfl
    · simp only [Mt, o47] at h2
      obtain ⟨a, _, e, c1, s1, rfl, rfl, c2, s2, rfl, rfl, x, y, rfl, rfl⟩ := h2
      obtain ⟨k, hk, _⟩ := et_piece (w := []) h nofun e
      exact fau_at hk (.inl rfl)
    · simp only [Mt, o47, o46] at h2
      obtain ⟨a, _, e, c1, s1, rfl, rfl, c2, s2, rfl, rfl, c3, s3, rfl, rfl, x, y, rfl, rfl⟩ := h2
      obtain ⟨k, hk, _⟩ := et_piece (w := [46]) h (by decide) e
      exact fau_at hk (.inr (.inl rfl))
    · simp only [Mt, o47, o46, on47] at h2
      obtain ⟨a, _, e, c1, s1, rfl, rfl, c2, s2, rfl, n2, c3, s3, rfl, rfl, c4, s4, rfl, rfl, c5, s5, rfl, rfl, c6, s6, rfl, rfl, x, y, rfl, rfl⟩ := h2
      obtain ⟨k, hk, hk2⟩ := et_two (w := [c2]) h (by simpa using n2) e
      exact fau_at hk (.inr (.inr ⟨by simp, hk2⟩))
    · simp only [Mt, o47, o46, on47, ond] at h2
      obtain ⟨a, _, e, c1, s1, rfl, rfl, c2, s2, rfl, n2, c3, s3, rfl, n3, c7, s7, rfl, rfl, c4, s4, rfl, rfl, c5, s5, rfl, rfl, c6, s6, rfl, rfl, x, y, rfl, rfl⟩ := h2
      obtain ⟨k, hk, hk2⟩ := et_two (w := [c2, c3]) h (by simp; exact ⟨n2.2, n3⟩) e
      exact fau_at hk (.inr (.inr ⟨by simp; intro q; exact absurd q n2.1, hk2⟩))
    · simp only [Mt, o47, o46, on47, ond] at h2
      obtain ⟨a, _, e, c1, s1, rfl, rfl, c2, s2, rfl, n2, c3, s3, rfl, n3, c7, s7, rfl, rfl, c4, s4, rfl, rfl, c5, s5, rfl, rfl, c6, s6, rfl, rfl, x, y, rfl, rfl⟩ := h2
      obtain ⟨k, hk, hk2⟩ := et_two (w := [c2, c3]) h (by subst n2; simp; exact n3.2) e
      exact fau_at hk (.inr (.inr ⟨by simp; intro _ q; exact absurd q n3.1, hk2⟩))
    · simp only [Mt, o47, o46, on47, ond] at h2
      obtain ⟨a, _, e, c1, s1, rfl, rfl, c2, s2, rfl, n2, c3, s3, rfl, n3, c4, s4, rfl, n4, m1, _, rfl, c5, s5, rfl, rfl, c6, s6, rfl, rfl, c7, s7, rfl, rfl, c8, s8, rfl, rfl, x, y, rfl, rfl⟩ := h2
      exact long_fau h n2 n3 n4 e
  · obtain ⟨hr, h2⟩ := Bool.and_eq_true_iff.mp hh
    have hr := of_decide_eq_true hr
    have h2 := (takes_iff _ _ _).mp h2
    rw [ahead_eq] at h2
    simp only [Mt, o47, o46] at h2
    obtain ⟨c1, s1, e, rfl, c2, s2, rfl, rfl, c3, s3, rfl, rfl, c4, s4, rfl, rfl, x, y, rfl, rfl⟩ := h2
    obtain ⟨rest, hrest, _⟩ := et_first (w := [46, 46]) h (by decide) e
    exact fau_root (by rw [hrest]; rfl) hr
set_option maxHeartbeats 2000000 in
theorem fau_hit {root : List Nat} {ps : List (List Nat)} (h : No47 ps) (hf : pFaults ps root ≠ []) : hitP root (Et ps) = true := by
  have hit1 : ∀ parts, parts ∈ faultyP → Mt pOne parts (Et ps) → hitP root (Et ps) = true := by
    intro parts h1 h2
    unfold hitP
    rw [Bool.or_eq_true_iff]
    left
    exact decide_eq_true (List.ne_nil_of_mem (List.mem_filter.mpr ⟨h1, (takes_iff _ _ _).mpr h2⟩))
  obtain ⟨q, hq⟩ := List.exists_mem_of_ne_nil _ hf
  rcases fau_cases hq with ⟨_, h2 | h2⟩ | ⟨_, h2, h3⟩ | ⟨_, w, h2, h3, h4, h5, h6⟩
  · obtain ⟨a, e, he⟩ := et_at h2
    refine hit1 [none, some [47], some [47], none] (by rw [faulty_eq]; simp) ?_
    simp only [Mt, o47]
    exact ⟨a, _, he, _, _, rfl, rfl, _, _, rfl, rfl, e, [], by simp, rfl⟩
  · obtain ⟨a, e, he⟩ := et_at h2
    refine hit1 [none, some [47], some [92, 46], some [47], none] (by rw [faulty_eq]; simp) ?_
    simp only [Mt, o47, o46]
    exact ⟨a, _, he, _, _, rfl, rfl, _, _, rfl, rfl, _, _, rfl, rfl, e, [], by simp, rfl⟩
  · unfold hitP
    rw [Bool.or_eq_true_iff]
    right
    rw [decide_eq_true h2, Bool.true_and]
    refine (takes_iff _ _ _).mpr ?_
    rw [ahead_eq]
    simp only [Mt, o47, o46]
    cases hp : ps with
    | nil => rw [hp] at h3; simp at h3
    | cons p ps' =>
      rw [hp] at h3
      simp at h3
      subst h3
      obtain ⟨e', he⟩ := et_head ps'
      refine ⟨_, _, rfl, rfl, _, _, rfl, rfl, _, _, rfl, rfl, 47, e', ?_, rfl, e', [], by simp, rfl⟩
      show [] ++ Et ps' = _
      rw [he]; rfl
  · obtain ⟨a, e, he⟩ := et_at2 h2 h6
    have hn := h w (List.mem_of_getElem? h2)
    rcases w with _ | ⟨c1, _ | ⟨c2, _ | ⟨c3, r⟩⟩⟩
    · exact absurd rfl h3
    · refine hit1 [none, some [47], some [91, 94, 47, 93], some [47], some [92, 46], some [92, 46], some [47], none] (by rw [faulty_eq]; simp) ?_
      simp only [Mt, o47, o46, on47]
      exact ⟨a, _, he, _, _, rfl, rfl, _, _, rfl, hn c1 (by simp), _, _, rfl, rfl, _, _, rfl, rfl, _, _, rfl, rfl, _, _, rfl, rfl, e, [], by simp, rfl⟩
    · by_cases hc : c1 = 46
      · refine hit1 [none, some [47], some [92, 46], some [91, 94, 46, 47, 93], some [47], some [92, 46], some [92, 46], some [47], none] (by rw [faulty_eq]; simp) ?_
        simp only [Mt, o47, o46, ond]
        refine ⟨a, _, he, _, _, rfl, rfl, _, _, rfl, hc, _, _, rfl, ⟨?_, hn c2 (by simp)⟩, _, _, rfl, rfl, _, _, rfl, rfl, _, _, rfl, rfl, _, _, rfl, rfl, e, [], by simp, rfl⟩
        intro q
        exact h5 (by rw [hc, q])
      · refine hit1 [none, some [47], some [91, 94, 46, 47, 93], some [91, 94, 47, 93], some [47], some [92, 46], some [92, 46], some [47], none] (by rw [faulty_eq]; simp) ?_
        simp only [Mt, o47, o46, on47, ond]
        exact ⟨a, _, he, _, _, rfl, rfl, _, _, rfl, ⟨hc, hn c1 (by simp)⟩, _, _, rfl, hn c2 (by simp), _, _, rfl, rfl, _, _, rfl, rfl, _, _, rfl, rfl, _, _, rfl, rfl, e, [], by simp, rfl⟩
    · refine hit1 [none, some [47], some [91, 94, 47, 93], some [91, 94, 47, 93], some [91, 94, 47, 93], none, some [47], some [92, 46], some [92, 46], some [47], none] (by rw [faulty_eq]; simp) ?_
      simp only [Mt, o47, o46, on47]
      exact ⟨a, _, he, _, _, rfl, rfl, _, _, rfl, hn c1 (by simp), _, _, rfl, hn c2 (by simp), _, _, rfl, hn c3 (by simp), r, _, rfl, _, _, rfl, rfl, _, _, rfl, rfl, _, _, rfl, rfl, _, _, rfl, rfl, e, [], by simp, rfl⟩
theorem inv_hit {root straight : List Nat} {pieces : List (List Nat)} (h : Inv root straight pieces) (h1 : joinL [47] pieces ≠ []) (h2 : root ++ joinL [47] pieces ≠ [46]) :
    hitP root ([47] ++ joinL [47] pieces ++ [47]) = decide (root ++ joinL [47] pieces ≠ straight) ∧ hitP root ([47] ++ joinL [47] pieces ++ [47]) = decide (pFaults pieces root ≠ []) := by
  have hp : pieces ≠ [] := by intro q; rw [q] at h1; exact h1 rfl
  rw [et_join pieces hp]
  have hi : hitP root (Et pieces) = true ↔ pFaults pieces root ≠ [] := ⟨hit_fau h.no, fau_hit h.no⟩
  have hn := neq_iff h h1 h2
  have e : hitP root (Et pieces) = decide (pFaults pieces root ≠ []) := by
    by_cases q : pFaults pieces root ≠ []
    · rw [decide_eq_true q]; exact hi.mpr q
    · rw [decide_eq_false q]; exact Bool.eq_false_iff.mpr fun z => q (hi.mp z)
  exact ⟨by rw [e]; exact decide_eq_decide.mpr hn.symm, e⟩
theorem splitroot_okc {x : List Nat} (h : okC x = true) : okC (pSplitroot x).1 = true ∧ okC (pSplitroot x).2.1 = true ∧ okC (pSplitroot x).2.2 = true := by
  have h0 : ∀ c ∈ x, c < 0x110000 := by simpa [okC] using h
  have hp : ∀ lo hi, okC (pick lo hi x) = true := fun lo hi => by
    simp only [okC, List.all_eq_true, decide_eq_true_eq]
    exact fun c hc => h0 c (pick_mem hc)
  unfold pSplitroot
  split
  · exact ⟨rfl, rfl, h⟩
  · split
    · exact ⟨rfl, rfl, hp _ _⟩
    · exact ⟨rfl, hp _ _, hp _ _⟩
theorem tupEq {S : Sig} {a b c a' b' c' : List Nat} (h1 : okC a = true) (h2 : okC b = true) (h3 : okC c = true) (h4 : okC a' = true) (h5 : okC b' = true) (h6 : okC c' = true) (k : Nat) :
    Op2 S k (compareOp .Eq) (.tup [.str a, .str b, .str c]) (.tup [.str a', .str b', .str c']) (.bool (decide ((a, b, c) = (a', b', c')))) :=
  bool_any (P := fun b => Op2 S k (compareOp .Eq) _ _ (.bool b)) (by simp) (Op2.eqD true (by simp [D.ok, h1, h2, h3]) (by simp [D.ok, h4, h5, h6]))
theorem neNil {S : Sig} {α : Type} {xs : List α} (g : α → D) (h : ∀ x ∈ xs, D.ok false 7 (g x) = true) (k : Nat) : Op2 S k (compareOp .NotEq) (.list (xs.map g)) (.list []) (.bool (decide (xs ≠ []))) := by
  have := Op2.neD (S := S) (k := k) (d₁ := .list (xs.map g)) (d₂ := .list []) false (by simp [D.ok]; exact h) (by simp [D.ok])
  have e : (!@decide (D.list (xs.map g) = D.list []) (Classical.propDecidable _)) = decide (xs ≠ []) := by
    cases xs <;> simp
  rw [← e]
  exact this
theorem eqNil {S : Sig} {α : Type} {xs : List α} (g : α → D) (h : ∀ x ∈ xs, D.ok false 7 (g x) = true) (k : Nat) : Op2 S k (compareOp .Eq) (.list (xs.map g)) (.list []) (.bool (decide (xs = []))) :=
  bool_any (P := fun b => Op2 S k (compareOp .Eq) _ _ (.bool b)) (by simp) (Op2.eqD (d₁ := .list (xs.map g)) (d₂ := .list []) false (by simp [D.ok]; exact h) (by simp [D.ok]))
include hK
omit hK in
theorem itD_part (v : Value) : itD v = partD v := by funext x; cases x <;> rfl
theorem one_ok {p : List Nat} (hp : p ∈ ([[47], [92, 46], [91, 94, 47, 93], [91, 94, 46, 47, 93]] : List (List Nat))) (k c : Nat) : Ops S (k + 1) (fun vs => call (.ref 156) vs) [.str p, .str [c]] (.bool (pOne p c)) := by
  simp only [List.mem_cons, List.mem_nil_iff, or_false] at hp
  rcases hp with rfl | rfl | rfl | rfl
  · exact law_one_plain hK (h := 47) (l := 47) rfl rfl rfl rfl rfl (by decide)
  · exact law_one_plain hK (h := 92) (l := 46) rfl rfl rfl rfl rfl (by decide)
  · exact law_one_set hK (r := [47]) (by decide) (by decide)
  · exact law_one_set hK (r := [46, 47]) (by decide) (by decide)
theorem takes_ok {k : Nat} {a : Addr} {parts : List It'} {name : List Nat} (hp : parts ∈ aheadP :: faultyP) (hn : name.length ≤ 1000) :
    Ops S (k + 2) (fun vs => call (.ref 161) vs) [.list (parts.map (partD (.ref a))), .raw (.ref a), .str name] (.bool (pTakes pOne parts name)) := by
  refine law_takes_ok hK rfl (fun p h k c => one_ok hK ?_ k c) hn
  have : ∀ ps ∈ aheadP :: faultyP, ∀ p, some p ∈ ps → p ∈ ([[47], [92, 46], [91, 94, 47, 93], [91, 94, 46, 47, 93]] : List (List Nat)) := by
    rw [faulty_eq, ahead_eq]
    intro ps h p hp
    have key : ∀ ps ∈ ([[some [47], some [92, 46], some [92, 46], some [47], none], [none, some [47], some [47], none], [none, some [47], some [92, 46], some [47], none], [none, some [47], some [91, 94, 47, 93], some [47], some [92, 46], some [92, 46], some [47], none],
      [none, some [47], some [91, 94, 46, 47, 93], some [91, 94, 47, 93], some [47], some [92, 46], some [92, 46], some [47], none], [none, some [47], some [92, 46], some [91, 94, 46, 47, 93], some [47], some [92, 46], some [92, 46], some [47], none],
      [none, some [47], some [91, 94, 47, 93], some [91, 94, 47, 93], some [91, 94, 47, 93], none, some [47], some [92, 46], some [92, 46], some [47], none]] : List (List It')), ∀ o ∈ ps, (match o with | none => true | some p => decide (p ∈ ([[47], [92, 46], [91, 94, 47, 93], [91, 94, 46, 47, 93]] : List (List Nat)))) = true := by decide
    have := key ps h _ hp
    exact of_decide_eq_true this
  exact this parts hp p h
theorem faults_inv {root straight : List Nat} {pieces : List (List Nat)} (h : Inv root straight pieces) (k : Nat) : Ops S (k + 1) (fun vs => call (.ref 175) vs) [.list (pieces.map .str), .str root] (.list ((pFaults pieces root).map pairD)) :=
  law_faults_ok hK h.ok (by have := lens_length pieces; have := h.len; omega)
set_option maxHeartbeats 8000000 in
theorem law_ok {k : Nat} {ns : List Int} (hT : (148, 144) ∈ S.tabs) (hqa : ∀ p, S.qualAt p = fi_translate.qual ++ "<lambda>") : Ops0 S (k + 4) (fun v => call (.ref 180) [v]) (.list (ns.map .int)) (.bool true) := by
  have n0 := @n_law_0
  have n1 := @n_law_1
  have n2 := @n_law_2
  have n3 := @n_law_3
  have n4 := @n_law_4
  have n5 := @n_law_5
  have n6 := @n_law_6
  have n7 := @n_law_7
  have n8 := @n_law_8
  have n9 := @n_law_9
  have n10 := @n_law_10
  have n11 := @n_law_11
  have n12 := @n_law_12
  have n13 := @n_law_13
  have n14 := @n_law_14
  have n15 := @n_law_15
  have n16 := @n_law_16
  have n17 := @n_law_17
  have n18 := @n_law_18
  have g_translate := g_law_translate hK
  have k_translate := hK.cal_translate
  have g_range := g_law_range hK
  have g_abs := g_law_abs hK
  have g_sum := g_law_sum hK
  have g_law_drawn := g_law_law_drawn hK
  have k_law_drawn := hK.cal_law_drawn
  have g_normpath := g_law_normpath hK
  have k_normpath := hK.cal_normpath
  have g_splitroot := g_law_splitroot hK
  have k_splitroot := hK.cal_splitroot
  have g_len := g_law_len hK
  have g_law_faults := g_law_law_faults hK
  have k_law_faults := hK.cal_law_faults
  have g_law_takes := g_law_law_takes hK
  have k_law_takes := hK.cal_law_takes
  have c0 : Cs "*" [42] := rfl
  have c1 : Cs "*//*" [42, 47, 47, 42] := rfl
  have c2 : Cs "*/./*" [42, 47, 46, 47, 42] := rfl
  have c3 : Cs "*/[!/]/../*" [42, 47, 91, 33, 47, 93, 47, 46, 46, 47, 42] := rfl
  have c4 : Cs "*/[!./][!/]/../*" [42, 47, 91, 33, 46, 47, 93, 91, 33, 47, 93, 47, 46, 46, 47, 42] := rfl
  have c5 : Cs "*/.[!./]/../*" [42, 47, 46, 91, 33, 46, 47, 93, 47, 46, 46, 47, 42] := rfl
  have c6 : Cs "*/[!/][!/][!/]*/../*" [42, 47, 91, 33, 47, 93, 91, 33, 47, 93, 91, 33, 47, 93, 42, 47, 46, 46, 47, 42] := rfl
  have c7 : Cs "." [46] := rfl
  have c8 : Cs "/../*" [47, 46, 46, 47, 42] := rfl
  have c9 : Cs "/" [47] := rfl
  have c10 : Cs "" [] := rfl
  have c11 : Cs "script" [115, 99, 114, 105, 112, 116] := rfl
  have c12 : Cs "star" [115, 116, 97, 114] := rfl
  have c13 : Cs "texts" [116, 101, 120, 116, 115] := rfl
  have c14 : Cs "text" [116, 101, 120, 116] := rfl
  have c15 : Cs "faulty" [102, 97, 117, 108, 116, 121] := rfl
  have c16 : Cs "ahead" [97, 104, 101, 97, 100] := rfl
  have c17 : Cs "turn" [116, 117, 114, 110] := rfl
  have c18 : Cs "number" [110, 117, 109, 98, 101, 114] := rfl
  have c19 : Cs "path" [112, 97, 116, 104] := rfl
  have c20 : Cs "straight" [115, 116, 114, 97, 105, 103, 104, 116] := rfl
  have c21 : Cs "root" [114, 111, 111, 116] := rfl
  have c22 : Cs "pieces" [112, 105, 101, 99, 101, 115] := rfl
  have c23 : Cs "picks" [112, 105, 99, 107, 115] := rfl
  have c24 : Cs "faults" [102, 97, 117, 108, 116, 115] := rfl
  have c25 : Cs "step" [115, 116, 101, 112] := rfl
  have c26 : Cs "tail" [116, 97, 105, 108] := rfl
  have c27 : Cs "between" [98, 101, 116, 119, 101, 101, 110] := rfl
  have c28 : Cs "parts" [112, 97, 114, 116, 115] := rfl
  have c29 : Cs "hit" [104, 105, 116] := rfl
  have c30 : Cs "k" [107] := rfl
  have c31 : Cs "count" [99, 111, 117, 110, 116] := rfl
  refine Fn.intro0 (f := fi_law) hK.fn_law rfl ?_
  show EXs S _ fi_law [some (B.val _), some (B.cell none), none, none, none, none, none, none, none, none, none, none, none, none, none, some (B.cell none), none, none, none] _ _
  conv => arg 5; whnf
  have hsz := sizeLine_eq
  have htr : ∀ (k : Nat) (v : Value) (pat : List Nat), solid v = true → pat.length ≤ 1000 → (∀ c ∈ pat, c ≠ 45) → (∀ c ∈ pat, sig c = false) → (∀ c ∈ pat, c < 0x110000) → Ops S (k + 2) (fun vs => call (.ref 149) vs) [.str pat, .raw v, .str [46]] (.list ((pTr [46] pat).map (partD v))) :=
    fun k v pat hv h1 h2 h3 h4 => by rw [← itD_part]; exact translate_ok hK hT hqa hv h1 h2 h3 h4
  refine EXs.listRaw (ds := [.str [42]]) (Γ₁ := fun a => _) (by walk_at "m:evs") (fun a => AS.nmC n1 rfl) (by decide) fun a => ?_
  simp only [List.set_cons_zero, List.set_cons_succ]
  walk_at "m:step"
  have htx : [D.str [42, 47, 47, 42], D.str [42, 47, 46, 47, 42], D.str [42, 47, 91, 33, 47, 93, 47, 46, 46, 47, 42], D.str [42, 47, 91, 33, 46, 47, 93, 91, 33, 47, 93, 47, 46, 46, 47, 42], D.str [42, 47, 46, 91, 33, 46, 47, 93, 47, 46, 46, 47, 42], D.str [42, 47, 91, 33, 47, 93, 91, 33, 47, 93, 91, 33, 47, 93, 42, 47, 46, 46, 47, 42]] = pats.map D.str := rfl
  rw [htx]
  have hout : faultyP.map (fun ps => D.list (ps.map (partD (.ref a)))) = (pats.filter fun _ => true).map (fun p => D.list ((pTr [46] p).map (partD (.ref a)))) := by
    rw [List.filter_eq_self.mpr (fun _ _ => rfl)]
    show (pats.map (pTr [46])).map _ = _
    rw [List.map_map]; rfl
  refine EXs.cons (EX.assignComp (d := .tup (pats.map .str)) (ds := pats.map .str) (outs := faultyP.map (fun ps => D.list (ps.map (partD (.ref a))))) (Γc := [none, some (.val (.raw (.ref a)))]) ["text", "star"] [.local, .cell] ?h1 ?h2 ?h3 ?h4 ?h5 ?h6 ?h7 ?h8 ?h9 ?h10 ?h11 (AS.nm n3) ?h13 ?h14) ?rest
  case h1 => decide
  case h2 => rfl
  case h3 => rfl
  case h4 => decide
  case h5 => exact AllCap.other rfl rfl (AllCap.other rfl rfl (AllCap.other rfl rfl (AllCap.free (.cell 1 rfl rfl) .nil)))
  case h6 => exact CapL.skip (CapL.cap rfl rfl (.cell 1 rfl rfl) .nil)
  case h7 => walk_at "m:ev"
  case h8 => exact It.tup
  case h9 => simp [pats]; omega
  case h10 =>
    intro fc e1 e2 e3
    have m0 : Nm fc "text" 0 .local := Nm.of e2 e3 rfl rfl
    have m1 : Nm fc "star" 1 .cell := Nm.of e2 e3 rfl rfl
    have go := Raw.g (S := S) (x := "_translate") e1 rfl hK.ns_translate
    rw [hout]
    refine CL.filter (τ := Option B) D.str (fun p => D.list ((pTr [46] p).map (partD (.ref a)))) (fun _ => true) (fun t => [t, some (.val (.raw (.ref a)))]) pats none ?_
    intro p hp t
    have htp : ∀ k : Nat, Ops S (k + 2) (fun vs => call (.ref 149) vs) [.str p, .raw (.ref a), .str [46]] (.list ((pTr [46] p).map (partD (.ref a)))) := by
      intro k
      have : ∀ p ∈ pats, p.length ≤ 1000 ∧ (∀ c ∈ p, c ≠ 45) ∧ (∀ c ∈ p, sig c = false) ∧ (∀ c ∈ p, c < 0x110000) := by decide
      obtain ⟨q1, q2, q3, q4⟩ := this p hp
      exact htr k _ p rfl q1 q2 q3 q4
    clear htr
    refine ⟨some (.val (.str p)), AS.nm m0, ?_, fun hk => ?_⟩
    · exact Ts.nil
    · walk_at "m:ev"
  case h11 => intro _ _; rfl
  case h13 => intro _; exact ⟨_, rfl⟩
  case h14 => intro _; rfl
  case rest =>
    simp only [List.set_cons_zero, List.set_cons_succ]
    have hta : ∀ k : Nat, Ops S (k + 2) (fun vs => call (.ref 149) vs) [.str [47, 46, 46, 47, 42], .raw (.ref a), .str [46]] (.list (aheadP.map (partD (.ref a)))) :=
      fun k => htr k _ _ rfl (by decide) (by decide) (by decide) (by decide)
    clear htr
    walk_at "m:step"
    generalize hF : D.list (faultyP.map fun ps => D.list (ps.map (partD (.ref a)))) = dF
    generalize hA : D.list (aheadP.map (partD (.ref a))) = dA
    have hsm2 := small0 (n := 2) (by omega)
    have hnsl : (ns.map D.int).length = ns.length := List.length_map ..
    refine EXs.forFold (σ := Unit) (τ := Unit) (fun _ _ => [some (B.val (D.list (ns.map D.int))), some (B.cell (some (D.raw (.ref a)))), some (B.val (D.tup (pats.map D.str))), some (B.val dF), some (B.val dA), none, none, none, none, none, none, none, none, none, none, some (B.cell none), none, none, none])
      (fun i : Nat => D.int (i : Int)) (fun _ _ => ()) (fun _ _ => True) (List.range 2) () () rfl (d := .rng 0 ((2 : Nat) : Int) 1) (by show EV _ _ _ _ _ (.rng 0 2 1); walk_at "m:ev") (It.range0 hsm2) trivial ?_ ?_
    · intro n _ _ turn hturn _
      have ht2 : turn = 0 ∨ turn = 1 := by have := List.mem_range.mp hturn; omega
      refine ⟨trivial, _, (), AS.nm n5, Or.inl ?_⟩
      simp only [List.set_cons_zero, List.set_cons_succ]
      obtain ⟨m, hm⟩ := Ops.sumI (S := S) (k := k + 3) (ns := pickBy (places (some (turn : Int)) none 2 ns.length) ns)
      rw [← pickBy_map, ← hnsl] at hm
      obtain ⟨w, hw⟩ : ∃ w : Int, [D.int 1341, D.int 2903][idx [D.int 1341, D.int 2903].length (turn : Int)]? = some (D.int w) := by
        rcases ht2 with rfl | rfl <;> exact ⟨_, rfl⟩
      have zw : -([D.int 1341, D.int 2903].length : Int) ≤ (turn : Int) := by simp only [List.length_cons, List.length_nil]; omega
      walk_at "m:step"
      clear hm hw zw
      generalize (if m < 0 then -m else m) + w = num
      have hdr : ∀ k : Nat, Ops S (k + 1) (fun vs => call (.ref 168) vs) [.int num] (.str (pDrawn num)) := fun k => law_drawn_ok hK
      walk_at "m:step"
      obtain ⟨hok, hlen⟩ := drawn_fit num
      clear hdr
      generalize pDrawn num = path at hok hlen ⊢
      have hnp : ∀ k : Nat, Ops S (k + 3) (fun vs => call (.ref 125) vs) [.str path] (.str (pNormpath path)) := fun k => normpath_ok hK (by omega)
      have hsr : ∀ (k : Nat), Ops S (k + 2) (fun vs => call (.ref 118) vs) [.str path] (.tup [.str (pSplitroot path).1, .str (pSplitroot path).2.1, .str (pSplitroot path).2.2]) := fun k => splitroot_ok hK
      walk_at "m:step"
      walk_at "m:step"
      clear hnp hsr
      have hI := inv_start hok hlen
      have hpk : pick (some ((pSplitroot path).2.1.length : Int)) none path = path.drop (pSplitroot path).2.1.length := pick_from _ _
      have hpl := pick_length_le (some ((pSplitroot path).2.1.length : Int)) none path
      have hpz : (pick (some ((pSplitroot path).2.1.length : Int)) none path).length + 2 ≤ sizeLine := by omega
      walk_at "m:step"
      rw [hpk]
      walk_at "m:step"
      have hps16 : (splitC 47 (path.drop (pSplitroot path).2.1.length)).length < 20 := by
        have := splitC_length 47 (path.drop (pSplitroot path).2.1.length)
        simp only [List.length_drop] at this
        omega
      generalize (pSplitroot path).2.1 = root at hI hps16 ⊢
      generalize pNormpath path = straight at hI ⊢
      generalize splitC 47 (path.drop root.length) = pieces at hI hps16 ⊢
      have hfa0 := fun k : Nat => faults_inv hK hI k
      walk_at "m:step"
      clear hfa0
      have hsm20 := small0 (n := 20) (by omega)
      let Γl : (List (List Nat) × Int) → (Option B × Option B × Option B × Option B) → Ctxt := fun s t => [some (B.val (D.list (ns.map D.int))), some (B.cell (some (D.raw (.ref a)))), some (B.val (D.tup (pats.map D.str))), some (B.val dF), some (B.val dA), some (B.val (D.int (turn : Int))), some (B.val (D.int num)), some (B.val (D.str path)), some (B.val (D.str straight)), some (B.val (D.str root)), some (B.val (D.list (s.1.map D.str))), some (B.val (D.int s.2)), some (B.val (D.list ((pFaults s.1 root).map pairD))), t.1, t.2.1, some (B.cell none), none, t.2.2.1, t.2.2.2]
      refine EXs.forUntil (σ := List (List Nat) × Int) (τ := Option B × Option B × Option B × Option B) Γl
        (fun i : Nat => D.int (i : Int)) (fun s => Inv root straight s.1 ∧ s.1.length ≤ pieces.length) (fun s => pFaults s.1 root = []) (fun s => s.1.length) (List.range 20) (pieces, _) (none, none, none, none) rfl (d := .rng 0 ((20 : Nat) : Int) 1) (by show EV _ _ _ _ _ (.rng 0 20 1); walk_at "m:ev") (It.range0 hsm20) ?_ ⟨hI, Nat.le_refl _⟩ ?_ ?_
      · simpa using hps16
      · clear hI
        rintro ⟨ps, pk⟩ ⟨t1, t2, t3, t4⟩ step ⟨hI, hle⟩
        simp only at hI hle ⊢
        have hrt : root.length ≤ 2 := by rcases hI.rt with h | h | h <;> rw [h] <;> decide
        have hrok : okC root = true := by rcases hI.rt with h | h | h <;> rw [h] <;> decide
        have hjz : (ps.map fun p => p.length + [47].length).sum ≤ 100 := hI.len
        have hjz2 : (ps.map fun p => p.length + [47].length).sum ≤ sizeLine := by omega
        have hjl := joinL_len [47] ps
        have htl : (joinL [47] ps).length ≤ 100 := by omega
        have htok : okC (joinL [47] ps) = true := join_ok hI.ok
        have hin := fun h => inv_norm hI h
        have hih := fun h1 h2 => inv_hit hI h1 h2
        let Γb : (Option B × Option B) → Ctxt := fun t => [some (B.val (D.list (ns.map D.int))), some (B.cell (some (D.raw (.ref a)))), some (B.val (D.tup (pats.map D.str))), some (B.val dF), some (B.val dA), some (B.val (D.int (turn : Int))), some (B.val (D.int num)), some (B.val (D.str path)), some (B.val (D.str straight)), some (B.val (D.str root)), some (B.val (D.list (ps.map D.str))), some (B.val (D.int pk)), some (B.val (D.list ((pFaults ps root).map pairD))), some (B.val (D.int (step : Int))), some (B.val (D.str (joinL [47] ps))), some (B.cell none), none, t3, t4]
        let fl : Int := ((pFaults ps root).length : Int)
        let q : Nat × Nat := (pFaults ps root).getD (pk.fmod fl).toNat (0, 0)
        let ps' : List (List Nat) := ps.take q.1 ++ ps.drop (q.1 + q.2)
        refine ⟨_, if pFaults ps root = [] then .brk (Γl (ps, pk) (some (B.val (D.int (step : Int))), some (B.val (D.str (joinL [47] ps))), t3, t4)) else .next (Γl (ps', pk.fdiv 7) (some (B.val (D.int (step : Int))), some (B.val (D.str (joinL [47] ps))), some (B.val (D.int (q.1 : Int))), some (B.val (D.int (q.2 : Int))))), AS.nm n13, ?_, ?_⟩
        · simp only [Γl, List.set_cons_zero, List.set_cons_succ]
          walk_at "m:step"
          refine EXs.cons (Γ₁ := Γb (none, none)) ?ifst ?rest
          case ifst =>
            have hxok : okC (root ++ joinL [47] ps) = true := by
              simp only [okC, List.all_append, Bool.and_eq_true]
              exact ⟨hrok, htok⟩
            have hxl : (root ++ joinL [47] ps).length ≤ 102 := by rw [List.length_append]; omega
            have hsok := splitroot_okc hxok
            have hsr : ∀ k : Nat, Ops S (k + 2) (fun vs => call (.ref 118) vs) [.str (root ++ joinL [47] ps)] (.tup [.str (pSplitroot (root ++ joinL [47] ps)).1, .str (pSplitroot (root ++ joinL [47] ps)).2.1, .str (pSplitroot (root ++ joinL [47] ps)).2.2]) := fun k => splitroot_ok hK
            have hop := fun k => tupEq (S := S) hsok.1 hsok.2.1 hsok.2.2 (show okC [] = true from rfl) hrok htok k
            have hadd : root.length + (joinL [47] ps).length ≤ sizeLine := by omega
            by_cases hs : pSplitroot (root ++ joinL [47] ps) = ([], root, joinL [47] ps)
            · refine EX.ifT (TV.is (b := decide (((pSplitroot (root ++ joinL [47] ps)).1, (pSplitroot (root ++ joinL [47] ps)).2.1, (pSplitroot (root ++ joinL [47] ps)).2.2) = ([], root, joinL [47] ps))) (by walk_at "m:tv") (decide_eq_true hs)) ?inn
              clear hop hsr
              have hnp : ∀ k : Nat, Ops S (k + 3) (fun vs => call (.ref 125) vs) [.str (root ++ joinL [47] ps)] (.str (pNormpath (root ++ joinL [47] ps))) := fun k => normpath_ok hK (by omega)
              have hnn := hin hs
              have hne : (pNormpath (root ++ joinL [47] ps) != straight) = false := by rw [hnn]; simp
              walk_at "m:step"
              clear hnp hne hnn
              by_cases h1 : joinL [47] ps = []
              · have b1 : (joinL [47] ps != []) = false := by rw [h1]; rfl
                refine' EXs.to ?mm rfl
                case mm => walk_at "m:exs"
              · have b1 : (joinL [47] ps != []) = true := by simp [h1]
                by_cases h2 : root ++ joinL [47] ps = [46]
                · have b2 : (root ++ joinL [47] ps != [46]) = false := by rw [h2]; rfl
                  refine' EXs.to ?mm rfl
                  case mm => walk_at "m:exs"
                · have b2 : (root ++ joinL [47] ps != [46]) = true := by simp only [bne_iff_ne]; exact h2
                  have hhit := hih h1 h2
                  refine EXs.wk ?inn1 (Γ₁ := (Γb (none, none)).set 15 (some (B.cell (some (.str ([47] ++ joinL [47] ps ++ [47]))))) |>.set 16 (some (B.val (.bool (hitP root ([47] ++ joinL [47] ps ++ [47])))))) ?le
                  case le => exact .same (.same (.same (.same (.same (.same (.same (.same (.same (.same (.same (.same (.same (.same (.same (.cell (.none (.same (.same .nil))))))))))))))))))
                  simp only [Γb, List.set_cons_zero, List.set_cons_succ]
                  refine EXs.cons (EX.ifT (by walk_at "m:tv") ?inn2) EXs.nil
                  have hbz : ([47] ++ joinL [47] ps).length + [47].length ≤ sizeLine := by simp; omega
                  have hbz0 : [47].length + (joinL [47] ps).length ≤ sizeLine := by simp; omega
                  walk_at "m:step"
                  clear hin hih
                  have hbl : ([47] ++ joinL [47] ps ++ [47]).length ≤ 1000 := by simp; omega
                  have hhd : hitP root ([47] ++ joinL [47] ps ++ [47]) = (decide (faultyP.filter (fun parts => pTakes pOne parts ([47] ++ joinL [47] ps ++ [47])) ≠ []) || (decide (root ≠ []) && pTakes pOne aheadP ([47] ++ joinL [47] ps ++ [47]))) := rfl
                  generalize hbt : [47] ++ joinL [47] ps ++ [47] = btw at hhit hhd hbl ⊢
                  have hah : ∀ k : Nat, Ops S (k + 2) (fun vs => call (.ref 161) vs) [dA, .raw (.ref a), .str btw] (.bool (pTakes pOne aheadP btw)) := by
                    intro k; rw [← hA]; exact takes_ok hK (.head _) hbl
                  refine EXs.cons (EX.assign (EV.cmp (d₁ := .list ((faultyP.filter fun parts => pTakes pOne parts btw).map fun _ => D.int 1)) (d₂ := .list [])
                    (EV.comp (d := .list (faultyP.map fun ps => D.list (ps.map (partD (.ref a))))) (ds := faultyP.map fun ps => D.list (ps.map (partD (.ref a)))) (Γc := [none, some (.val (.str btw)), some (.val (.raw (.ref a)))]) ["parts", "between", "star"] [.local, .cell, .cell] ?h1 ?h2 ?h3 ?h4 ?h5 ?h6 ?h7 ?h8 ?h9 ?h10 ?h11)
                    (EV.list EVs.nil) (neNil (fun _ => D.int 1) (fun _ _ => rfl) _)) (AS.nm n16) ?m1 ?m2 ?m3) ?rest2
                  case h1 => decide
                  case h2 => rfl
                  case h3 => rfl
                  case h4 => decide
                  case h5 => exact AllCap.other rfl rfl (AllCap.other rfl rfl (AllCap.other rfl rfl (AllCap.free (.cell 15 rfl rfl) (AllCap.free (.cell 1 rfl rfl) .nil))))
                  case h6 => exact CapL.skip (CapL.cap rfl rfl (.cell 15 rfl rfl) (CapL.cap rfl rfl (.cell 1 rfl rfl) .nil))
                  case h7 => rw [hF]; walk_at "m:ev"
                  case h8 => exact It.list
                  case h9 => rw [faulty_eq]; simp; omega
                  case h10 =>
                    intro fc e1 e2 e3
                    have m0 : Nm fc "parts" 0 .local := Nm.of e2 e3 rfl rfl
                    have m1 : Nm fc "between" 1 .cell := Nm.of e2 e3 rfl rfl
                    have m2 : Nm fc "star" 2 .cell := Nm.of e2 e3 rfl rfl
                    have go := Raw.g (S := S) (x := "_law_takes") e1 rfl hK.ns_law_takes
                    refine CL.filter (τ := Option B) (fun ps : List It' => D.list (ps.map (partD (.ref a)))) (fun _ => D.int 1) (fun parts => pTakes pOne parts btw) (fun t => [t, some (.val (.str btw)), some (.val (.raw (.ref a)))]) faultyP none ?_
                    intro p hp t
                    have htk : ∀ k : Nat, Ops S (k + 2) (fun vs => call (.ref 161) vs) [.list (p.map (partD (.ref a))), .raw (.ref a), .str btw] (.bool (pTakes pOne p btw)) := fun k => takes_ok hK (.tail _ hp) hbl
                    clear hah
                    refine ⟨some (.val (.list (p.map (partD (.ref a))))), AS.nm m0, Ts.one ?_, fun hk => ?_⟩
                    · walk_at "m:tv"
                    · walk_at "m:ev"
                  case h11 => intro _ _; rfl
                  case m1 => intro _; rfl
                  case m2 => intro _; rfl
                  case m3 => intro _ _; rfl
                  simp only [List.set_cons_zero, List.set_cons_succ]
                  have hne2 : ∀ k : Nat, Op2 S k (compareOp .NotEq) (.list ((pFaults ps root).map pairD)) (.list []) (.bool (decide (pFaults ps root ≠ []))) := fun k => neNil pairD (fun _ _ => rfl) k
                  refine EXs.cons (Γ₁ := (Γb (none, none)).set 15 (some (B.cell (some (.str btw)))) |>.set 16 (some (B.val (.bool (hitP root btw))))) ?ifh ?lasth
                  case ifh =>
                    simp only [Γb, List.set_cons_zero, List.set_cons_succ]
                    rw [hhd]
                    generalize decide (faultyP.filter (fun parts => pTakes pOne parts btw) ≠ []) = hb1
                    by_cases r0 : root = []
                    · have g0 : (root != []) = false := by rw [r0]; rfl
                      rw [decide_eq_false (by simpa using r0), Bool.false_and, Bool.or_false]
                      walk_at "m:ex"
                    · have g0 : (root != []) = true := by simp [r0]
                      rw [decide_eq_true r0, Bool.true_and]
                      cases htk : pTakes pOne aheadP btw
                      · rw [htk] at hah
                        rw [Bool.or_false]
                        walk_at "m:ex"
                      · rw [htk] at hah
                        rw [Bool.or_true]
                        walk_at "m:ex"
                  case lasth =>
                    clear hah hhd
                    simp only [Γb, List.set_cons_zero, List.set_cons_succ]
                    obtain ⟨hh1, hh2⟩ := hhit
                    generalize hitP root btw = hb2 at hh1 hh2 ⊢
                    have g1 : (hb2 != (root ++ joinL [47] ps != straight)) = false := by
                      rw [hh1]
                      by_cases e : root ++ joinL [47] ps = straight
                      · simp [e]
                      · simp only [bne_eq_false_iff_eq]
                        rw [decide_eq_true e]; symm; simpa using e
                    have g2 : (hb2 != decide (pFaults ps root ≠ [])) = false := by rw [hh2]; simp
                    refine' EXs.to ?mm rfl
                    case mm => walk_at "m:exs"
            · refine EX.ifF (TV.is (b := decide (((pSplitroot (root ++ joinL [47] ps)).1, (pSplitroot (root ++ joinL [47] ps)).2.1, (pSplitroot (root ++ joinL [47] ps)).2.2) = ([], root, joinL [47] ps))) (by walk_at "m:tv") (decide_eq_false hs)) EXs.nil
          case rest =>
            clear hin hih
            have heq : ∀ k : Nat, Op2 S k (compareOp .Eq) (.list ((pFaults ps root).map pairD)) (.list []) (.bool (decide (pFaults ps root = []))) := fun k => eqNil pairD (fun _ _ => rfl) k
            simp only [Γb]
            by_cases hf : pFaults ps root = []
            · rw [if_pos hf]
              rw [decide_eq_true hf] at heq
              refine' EXs.to ?mm rfl
              case mm => walk_at "m:exs"
            · rw [if_neg hf]
              rw [decide_eq_false hf] at heq
              walk_at "m:step"
              clear heq
              have hfl : ((pFaults ps root).map pairD).length = (pFaults ps root).length := List.length_map ..
              have hf0 : 0 < (pFaults ps root).length := List.length_pos_iff.mpr hf
              have hf20 : (pFaults ps root).length ≤ 100 := by
                have h1 := faults_len ps root
                have h2 := lens_length ps
                have h3 := hI.len
                omega
              have hmod : ∀ k : Nat, Op2 S k (binaryOp .Mod) (.int pk) (.int ((((pFaults ps root).map pairD).length : Nat) : Int)) (.int (pk.fmod fl)) := by
                intro k
                rw [hfl]
                exact Op2.modI (by omega) (by
                  have : ((pFaults ps root).length : Int).natAbs = (pFaults ps root).length := rfl
                  rw [this]
                  exact Nat.lt_of_le_of_lt (Nat.log2_le_self _) (by omega))
              have hm0 : 0 ≤ pk.fmod fl := Int.fmod_nonneg_of_pos _ (by simp only [fl]; omega)
              have hm1 : pk.fmod fl < fl := Int.fmod_lt_of_pos _ (by simp only [fl]; omega)
              have hqe : (pFaults ps root)[(pk.fmod fl).toNat]? = some q := by
                have : (pk.fmod fl).toNat < (pFaults ps root).length := by simp only [fl] at hm1 ⊢; omega
                simp only [q, List.getD_eq_getElem?_getD, List.getElem?_eq_getElem this, Option.getD_some]
              have hit : ((pFaults ps root).map pairD)[idx ((pFaults ps root).map pairD).length (pk.fmod fl)]? = some (.tup [.int (q.1 : Int), .int (q.2 : Int)]) := by
                have : idx ((pFaults ps root).map pairD).length (pk.fmod fl) = (pk.fmod fl).toNat := by unfold idx; rw [if_neg (by omega)]
                rw [this, List.getElem?_map, hqe]; rfl
              have hi0 : -(((pFaults ps root).map pairD).length : Int) ≤ pk.fmod fl := by omega
              walk_at "m:step"
              walk_at "m:step"
              have hqm : q ∈ pFaults ps root := List.mem_of_getElem? hqe
              have hpe : pick none (some (q.1 : Int)) (ps.map D.str) ++ pick (some ((q.1 : Int) + (q.2 : Int))) none (ps.map D.str) = ps'.map D.str := by
                have e := pick_from (ps.map D.str) (q.1 + q.2)
                push_cast at e
                rw [e, pick_to, ← List.map_take, ← List.map_drop, ← List.map_append]
              have hpz : (pick none (some (q.1 : Int)) (ps.map D.str)).length + (pick (some ((q.1 : Int) + (q.2 : Int))) none (ps.map D.str)).length ≤ sizeLine := by
                have e1 := pick_length_le none (some (q.1 : Int)) (ps.map D.str)
                have e2 := pick_length_le (some ((q.1 : Int) + (q.2 : Int))) none (ps.map D.str)
                simp only [List.length_map] at e1 e2
                omega
              walk_at "m:step"
              rw [hpe]
              have hfa1 := fun k : Nat => faults_inv hK (inv_step hI hqm).1 k
              clear hmod hit
              refine' EXs.to ?mm rfl
              case mm => walk_at "m:exs"
        · by_cases hf : pFaults ps root = []
          · exact .inl ⟨hf, _, by rw [if_pos hf]⟩
          · have hq : q ∈ pFaults ps root := by
              have hf0 : 0 < (pFaults ps root).length := List.length_pos_iff.mpr hf
              have hm0 : 0 ≤ pk.fmod fl := Int.fmod_nonneg_of_pos _ (by simp only [fl]; omega)
              have hm1 : pk.fmod fl < fl := Int.fmod_lt_of_pos _ (by simp only [fl]; omega)
              have : (pk.fmod fl).toNat < (pFaults ps root).length := by simp only [fl] at hm1 ⊢; omega
              simp only [q, List.getD_eq_getElem?_getD, List.getElem?_eq_getElem this, Option.getD_some]
              exact List.getElem_mem this
            have hs := inv_step hI hq
            exact .inr ⟨(ps', pk.fdiv 7), _, ⟨hs.1, by have := hs.2; simp only [ps']; omega⟩, hs.2, by rw [if_neg hf]⟩
      · rintro ⟨ps, pk⟩ ⟨t1, t2, t3, t4⟩ ⟨hI, _⟩ hf
        simp only at hI hf
        clear hps16
        have hrt : root.length ≤ 2 := by rcases hI.rt with h | h | h <;> rw [h] <;> decide
        have hjz : (ps.map fun p => p.length + [47].length).sum ≤ 100 := hI.len
        have hjz2 : (ps.map fun p => p.length + [47].length).sum ≤ sizeLine := by omega
        have hjl := joinL_len [47] ps
        have hadd : root.length + (joinL [47] ps).length ≤ sizeLine := by omega
        obtain ⟨he1, he2⟩ := inv_end hI hf
        have hsl := hI.slen
        refine EXs.wk ?inn9 (Γ₁ := Γl (ps, pk) (t1, t2, t3, t4)) ?le9
        case le9 => exact .same (.same (.same (.same (.same (.none (.none (.none (.none (.none (.none (.none (.none (.none (.none (.cell (.none (.none (.none .nil))))))))))))))))))
        simp only [Γl]
        have hne2 : ∀ k : Nat, Op2 S k (compareOp .NotEq) (.list ((pFaults ps root).map pairD)) (.list []) (.bool false) := by
          intro k
          have := neNil (S := S) (xs := pFaults ps root) pairD (fun _ _ => rfl) k
          rwa [decide_eq_false (by simp [hf])] at this
        have hnp : ∀ k : Nat, Ops S (k + 3) (fun vs => call (.ref 125) vs) [.str straight] (.str (pNormpath straight)) := fun k => normpath_ok hK (by omega)
        have hns : (pNormpath straight != straight) = false := by rw [he2]; simp
        rw [fin] at he1
        by_cases hz : root ++ joinL [47] ps = []
        · rw [if_pos hz] at he1
          have z1 : decide (root ++ joinL [47] ps ≠ []) = false := by simp only [decide_eq_false_iff_not]; exact fun h => h hz
          have g3 : (straight != [46]) = false := by rw [he1]; rfl
          refine' EXs.to ?mm rfl
          case mm => walk_at "m:exs"
        · rw [if_neg hz] at he1
          have z1 : decide (root ++ joinL [47] ps ≠ []) = true := by simp only [decide_eq_true_eq]; exact hz
          have g3 : (straight != root ++ joinL [47] ps) = false := by rw [he1]; simp
          refine' EXs.to ?mm rfl
          case mm => walk_at "m:exs"
    · intro _ _
      walk_at "m:exs"
end Mine

open PySem PySem.W PyProof.Rows
namespace Mine
/- names that the head would give to twins of its own written objects: taken, so that it evaluates the objects as they stand (the twins' equations are long) -/
theorem final.tw10022720517303903229 : True := trivial
theorem final.tw10042153376342002085 : True := trivial
theorem final.tw10042477878066290759 : True := trivial
theorem final.tw10108980501507098693 : True := trivial
theorem final.tw10127347573287987278 : True := trivial
theorem final.tw10130028901845136418 : True := trivial
theorem final.tw10136838083808060652 : True := trivial
theorem final.tw10161721240196843986 : True := trivial
theorem final.tw10198918189601624818 : True := trivial
theorem final.tw10215562686513343379 : True := trivial
theorem final.tw10227530899379596992 : True := trivial
theorem final.tw10235623650222328101 : True := trivial
theorem final.tw1023977753357071421 : True := trivial
theorem final.tw10280614528598747071 : True := trivial
theorem final.tw1033934193855143035 : True := trivial
theorem final.tw1036930978727434209 : True := trivial
theorem final.tw10400498931376978561 : True := trivial
theorem final.tw10405456934154409483 : True := trivial
theorem final.tw1046168147640454745 : True := trivial
theorem final.tw10519780935772106490 : True := trivial
theorem final.tw10620928361779868618 : True := trivial
theorem final.tw10747181895674852957 : True := trivial
theorem final.tw10835571653514984676 : True := trivial
theorem final.tw10855050123940413320 : True := trivial
theorem final.tw10865263461131140414 : True := trivial
theorem final.tw10897546583699624312 : True := trivial
theorem final.tw10974664851726905660 : True := trivial
theorem final.tw11057646398824700998 : True := trivial
theorem final.tw11134921181324909023 : True := trivial
theorem final.tw11153157573971964366 : True := trivial
theorem final.tw11353945107730167574 : True := trivial
theorem final.tw11409176808490423547 : True := trivial
theorem final.tw11454308670320448749 : True := trivial
theorem final.tw11455286470832896224 : True := trivial
theorem final.tw11464804445707456352 : True := trivial
theorem final.tw11483661804922472206 : True := trivial
theorem final.tw11520401330096609620 : True := trivial
theorem final.tw11659793539358505850 : True := trivial
theorem final.tw11661903567044720909 : True := trivial
theorem final.tw11702953093837033213 : True := trivial
theorem final.tw11773714837947557637 : True := trivial
theorem final.tw11896923181146892737 : True := trivial
theorem final.tw11908802298470853932 : True := trivial
theorem final.tw11965803952282292702 : True := trivial
theorem final.tw12015204588933193610 : True := trivial
theorem final.tw12059012588361500591 : True := trivial
theorem final.tw12065736614108987081 : True := trivial
theorem final.tw12181345595061343083 : True := trivial
theorem final.tw1219376236543507551 : True := trivial
theorem final.tw12197735419432522352 : True := trivial
theorem final.tw12234275800261845075 : True := trivial
theorem final.tw1224190584447957246 : True := trivial
theorem final.tw12326750588531125101 : True := trivial
theorem final.tw12388972978486176875 : True := trivial
theorem final.tw12389126837187576176 : True := trivial
theorem final.tw12411140988998077859 : True := trivial
theorem final.tw12442840532546170135 : True := trivial
theorem final.tw1252694169317132 : True := trivial
theorem final.tw12568166217375708458 : True := trivial
theorem final.tw12582848187128144534 : True := trivial
theorem final.tw12612486758627221125 : True := trivial
theorem final.tw12787673743913026722 : True := trivial
theorem final.tw12813686065312059881 : True := trivial
theorem final.tw12852182725542459066 : True := trivial
theorem final.tw12904224180886492615 : True := trivial
theorem final.tw12933409026105978606 : True := trivial
theorem final.tw13084178088124665500 : True := trivial
theorem final.tw1315242773965117982 : True := trivial
theorem final.tw13157370665421402307 : True := trivial
theorem final.tw13198125711504249433 : True := trivial
theorem final.tw1323907996379488894 : True := trivial
theorem final.tw13272435591910737277 : True := trivial
theorem final.tw1329960898435082621 : True := trivial
theorem final.tw13421372506842242409 : True := trivial
theorem final.tw13436894549356674435 : True := trivial
theorem final.tw13447579337430037540 : True := trivial
theorem final.tw13665693801982328571 : True := trivial
theorem final.tw13707858908888328168 : True := trivial
theorem final.tw13808806784388952406 : True := trivial
theorem final.tw13902647279651871334 : True := trivial
theorem final.tw14054177327168669609 : True := trivial
theorem final.tw14112978927293448718 : True := trivial
theorem final.tw14219477473750013154 : True := trivial
theorem final.tw14381790933468784648 : True := trivial
theorem final.tw14424997594739748307 : True := trivial
theorem final.tw1447174530608621962 : True := trivial
theorem final.tw14476525473978586552 : True := trivial
theorem final.tw1457224253908937477 : True := trivial
theorem final.tw14592424073331965608 : True := trivial
theorem final.tw1477146434381541279 : True := trivial
theorem final.tw14783993916324718730 : True := trivial
theorem final.tw14838063319114388084 : True := trivial
theorem final.tw14846775239822927482 : True := trivial
theorem final.tw14885865362977504382 : True := trivial
theorem final.tw14891174452418874599 : True := trivial
theorem final.tw14896924122953452532 : True := trivial
theorem final.tw14923001549059771250 : True := trivial
theorem final.tw14983176056467492890 : True := trivial
theorem final.tw15002957657636978355 : True := trivial
theorem final.tw15028318858351353704 : True := trivial
theorem final.tw15055759508504394698 : True := trivial
theorem final.tw15187764968134394116 : True := trivial
theorem final.tw15205743503277619710 : True := trivial
theorem final.tw15369134361003073817 : True := trivial
theorem final.tw154085630076864448 : True := trivial
theorem final.tw15423543969872308761 : True := trivial
theorem final.tw15438442293791725603 : True := trivial
theorem final.tw15461508515462595316 : True := trivial
theorem final.tw15613107854449630783 : True := trivial
theorem final.tw15626734571503195110 : True := trivial
theorem final.tw15739658634312021467 : True := trivial
theorem final.tw15749131273807778147 : True := trivial
theorem final.tw15760011681539393063 : True := trivial
theorem final.tw15874777749913318607 : True := trivial
theorem final.tw15875135524755104827 : True := trivial
theorem final.tw15891373984983396202 : True := trivial
theorem final.tw15981178532920550917 : True := trivial
theorem final.tw15998246895451491800 : True := trivial
theorem final.tw15998802877172754485 : True := trivial
theorem final.tw16058654645877152194 : True := trivial
theorem final.tw16195603264935533082 : True := trivial
theorem final.tw16224197975931463073 : True := trivial
theorem final.tw16229342706642441425 : True := trivial
theorem final.tw16315930030254332300 : True := trivial
theorem final.tw16345452470020161006 : True := trivial
theorem final.tw16445440151621273314 : True := trivial
theorem final.tw16447020560854314571 : True := trivial
theorem final.tw16540968434458866720 : True := trivial
theorem final.tw16674493107115136728 : True := trivial
theorem final.tw16682726815438651451 : True := trivial
theorem final.tw16711262688699148389 : True := trivial
theorem final.tw16953426186885405313 : True := trivial
theorem final.tw17178561752005649357 : True := trivial
theorem final.tw17299782089999335445 : True := trivial
theorem final.tw17333754714033110994 : True := trivial
theorem final.tw17339996171863926278 : True := trivial
theorem final.tw17385785918144372039 : True := trivial
theorem final.tw17447932666967288649 : True := trivial
theorem final.tw17504587829303871878 : True := trivial
theorem final.tw17530486881934591621 : True := trivial
theorem final.tw17603491640193073671 : True := trivial
theorem final.tw17778278403737863388 : True := trivial
theorem final.tw17795520440141544005 : True := trivial
theorem final.tw17803981208475232141 : True := trivial
theorem final.tw17897890680846628611 : True := trivial
theorem final.tw17901554314227848745 : True := trivial
theorem final.tw17906251651433466956 : True := trivial
theorem final.tw17951112728021898439 : True := trivial
theorem final.tw18016225678640273874 : True := trivial
theorem final.tw18026312885207256928 : True := trivial
theorem final.tw1807292130814547012 : True := trivial
theorem final.tw1814489462105293161 : True := trivial
theorem final.tw18209651382716861065 : True := trivial
theorem final.tw18258006383807355842 : True := trivial
theorem final.tw18263178374938755917 : True := trivial
theorem final.tw18309510468732470755 : True := trivial
theorem final.tw18333122673250038332 : True := trivial
theorem final.tw18425918669502787056 : True := trivial
theorem final.tw18443530126623473481 : True := trivial
theorem final.tw18445564810647810139 : True := trivial
theorem final.tw1870604113638288131 : True := trivial
theorem final.tw2117453587529596892 : True := trivial
theorem final.tw2167434960708656226 : True := trivial
theorem final.tw2171061741386772384 : True := trivial
theorem final.tw2191496003128243387 : True := trivial
theorem final.tw2273162815646607404 : True := trivial
theorem final.tw2321079126958112427 : True := trivial
theorem final.tw2345478731417732964 : True := trivial
theorem final.tw248991099862406949 : True := trivial
theorem final.tw2540090075640739688 : True := trivial
theorem final.tw2554477461950841771 : True := trivial
theorem final.tw2672478281966032744 : True := trivial
theorem final.tw2712558364757893831 : True := trivial
theorem final.tw293838362897950174 : True := trivial
theorem final.tw2956332391171996519 : True := trivial
theorem final.tw3153843199815580015 : True := trivial
theorem final.tw320977072341628269 : True := trivial
theorem final.tw3268801115549755241 : True := trivial
theorem final.tw327804048879480523 : True := trivial
theorem final.tw3307739722061211303 : True := trivial
theorem final.tw3384860348465029522 : True := trivial
theorem final.tw3426866111578574435 : True := trivial
theorem final.tw3477953164056872788 : True := trivial
theorem final.tw3619555724634058376 : True := trivial
theorem final.tw3651465948642542242 : True := trivial
theorem final.tw3676795932780261704 : True := trivial
theorem final.tw3747968469854975610 : True := trivial
theorem final.tw3795370793634241106 : True := trivial
theorem final.tw3893210301790734820 : True := trivial
theorem final.tw3936246226047674485 : True := trivial
theorem final.tw4113752316972050158 : True := trivial
theorem final.tw4142987303094263458 : True := trivial
theorem final.tw4144371117990100604 : True := trivial
theorem final.tw4312115456105261190 : True := trivial
theorem final.tw4477894701127151756 : True := trivial
theorem final.tw4528829327937641964 : True := trivial
theorem final.tw4684833621079587295 : True := trivial
theorem final.tw4732386213834708499 : True := trivial
theorem final.tw490598620533316918 : True := trivial
theorem final.tw4941518728927537897 : True := trivial
theorem final.tw4979452831251284307 : True := trivial
theorem final.tw504096057067478995 : True := trivial
theorem final.tw5089064438980251878 : True := trivial
theorem final.tw5194651091858292416 : True := trivial
theorem final.tw5389411940215200779 : True := trivial
theorem final.tw5415015098129623477 : True := trivial
theorem final.tw5513875924864653303 : True := trivial
theorem final.tw5608000997636702945 : True := trivial
theorem final.tw566928310568437219 : True := trivial
theorem final.tw5718155059003099199 : True := trivial
theorem final.tw5783540511648905065 : True := trivial
theorem final.tw5863569607161340233 : True := trivial
theorem final.tw5892880772836789786 : True := trivial
theorem final.tw6028682145041479106 : True := trivial
theorem final.tw6090495070513234986 : True := trivial
theorem final.tw6093091803640200726 : True := trivial
theorem final.tw6158865224554252413 : True := trivial
theorem final.tw6210968012304685554 : True := trivial
theorem final.tw6355387849186045191 : True := trivial
theorem final.tw6408627558038916697 : True := trivial
theorem final.tw6606378570343130875 : True := trivial
theorem final.tw6627534881075276826 : True := trivial
theorem final.tw6628137532042735977 : True := trivial
theorem final.tw6642738502091292294 : True := trivial
theorem final.tw6754861164810569688 : True := trivial
theorem final.tw685945308638388284 : True := trivial
theorem final.tw6886013543448097282 : True := trivial
theorem final.tw6914771820346824484 : True := trivial
theorem final.tw7091158148372881714 : True := trivial
theorem final.tw7098433149869615935 : True := trivial
theorem final.tw711753044238566856 : True := trivial
theorem final.tw7157494796241977561 : True := trivial
theorem final.tw7181538497367391721 : True := trivial
theorem final.tw7421639907970033554 : True := trivial
theorem final.tw7511173690161008258 : True := trivial
theorem final.tw7542923308735110344 : True := trivial
theorem final.tw7590621624990511771 : True := trivial
theorem final.tw7696433628538851831 : True := trivial
theorem final.tw7750760841996414401 : True := trivial
theorem final.tw7804466294446386063 : True := trivial
theorem final.tw7833768916911220442 : True := trivial
theorem final.tw7847801984549298289 : True := trivial
theorem final.tw7849055961647869931 : True := trivial
theorem final.tw7895919473546186562 : True := trivial
theorem final.tw7911462216747631511 : True := trivial
theorem final.tw807308427763349152 : True := trivial
theorem final.tw8241138965210643142 : True := trivial
theorem final.tw8387401590369894660 : True := trivial
theorem final.tw8425546621259409239 : True := trivial
theorem final.tw8494221389510286962 : True := trivial
theorem final.tw8494731447957467223 : True := trivial
theorem final.tw8502431511492158837 : True := trivial
theorem final.tw8504249788394277908 : True := trivial
theorem final.tw856429200271513008 : True := trivial
theorem final.tw8574308042635271748 : True := trivial
theorem final.tw8634380131411928257 : True := trivial
theorem final.tw8658419982449086391 : True := trivial
theorem final.tw8664426482510907556 : True := trivial
theorem final.tw8731573251788014547 : True := trivial
theorem final.tw8851945119839480084 : True := trivial
theorem final.tw8879119404054116266 : True := trivial
theorem final.tw8953045562842406001 : True := trivial
theorem final.tw8970192344042157281 : True := trivial
theorem final.tw8983094371880723818 : True := trivial
theorem final.tw9027451854550268119 : True := trivial
theorem final.tw9126048592727317795 : True := trivial
theorem final.tw9164177404319337304 : True := trivial
theorem final.tw9185436724222690198 : True := trivial
theorem final.tw9404056537236846864 : True := trivial
theorem final.tw9437695159733557368 : True := trivial
theorem final.tw9463132958827231848 : True := trivial
theorem final.tw954828845405437352 : True := trivial
theorem final.tw955534659494221573 : True := trivial
theorem final.tw9571212941379925581 : True := trivial
theorem final.tw977142313825115020 : True := trivial
theorem final.tw9788256078724583796 : True := trivial
theorem final.tw9815051736475309569 : True := trivial
theorem final.tw9816280823844487792 : True := trivial
theorem final.tw9885169743852063000 : True := trivial
theorem final.tw9917796009047001856 : True := trivial
set_option Elab.async true in
set_option maxRecDepth 100000 in
set_option maxHeartbeats 8000000 in
theorem final : PySem.Challenge.rw_dn0049_02.Holds := by
  w_on
  o_law
  k_head
  case hw => w_witness2
  w_strict (
    k_fill
    intro w s₀ s₁ mg mb G Y fa o pm cd doc dV kV ho hd hcd hD hmg hg args vals as hpre hlay hrd hwl hlo
    have KX := km_in_of Y
    km_tabs Y
    refine Ground.open G ?_
    intro T B D TE TW
    have hmg' := hmg
    km_lay T hmg ho hd cd
    clear hmg
    wrow_args hpre hlay hrd hwl hlo
    rename_i hs hlay0 hLa hr1 hl2 a1 a2 l vs a3 hL ra w1 r0 hI hr hc1 hc2
    refine law_done (S := ⟨PySem.Challenge.rw_dn0049_02.row.prog, w, _, mg, mb, [(148, 144)], fun _ => fi_translate.qual ++ "<lambda>", s₁.heap.objs.size⟩) (a := 180) (k := 24) (x := "law") ?C (by decide) hT9 KX ?n T rfl hg hmg' ?x hL w1 ⟨_, rfl⟩ hI ?len (fun _ => rfl) ?post
    case n => rfl
    case x => rfl
    case len => have h1 := hI.length; have h2 := sizeLine_eq; omega
    case post => wrow_post
    case C => exact law_ok (k := 20) ⟨rfl, rfl, rfl, rfl, rfl, rfl, rfl, rfl, rfl, rfl, rfl, rfl, rfl, rfl, rfl, rfl, rfl, rfl, rfl, rfl, rfl, rfl, ⟨⟨_, _, _, _, _, _, _, _, _, _, _, _, rfl, rfl, by rfl, by intro vs hv; match vs, hv with | [a0], _ => rfl⟩, rfl, rfl, rfl, rfl, rfl, rfl⟩, Callee.fn rfl, ⟨⟨_, _, _, _, _, _, _, _, _, _, _, _, rfl, rfl, by rfl, by intro vs hv; match vs, hv with | [a0], _ => rfl⟩, rfl, rfl, rfl, rfl, rfl, rfl⟩, Callee.fn rfl, ⟨⟨_, _, _, _, _, _, _, _, _, _, _, _, rfl, rfl, by rfl, by intro vs hv; match vs, hv with | [a0], _ => rfl⟩, rfl, rfl, rfl, rfl, rfl, rfl⟩, Callee.fn rfl, ⟨⟨_, _, _, _, _, _, _, _, _, _, _, _, rfl, rfl, by rfl, by intro vs hv; match vs, hv with | [a0], _ => rfl⟩, rfl, rfl, rfl, rfl, rfl, rfl⟩, Callee.fn rfl, ⟨⟨_, _, _, _, _, _, _, _, _, _, _, _, rfl, rfl, by rfl, by intro vs hv; match vs, hv with | [a0, a1, a2], _ => rfl⟩, rfl, rfl, rfl, rfl, rfl, rfl⟩, Callee.fn rfl, ⟨⟨_, _, _, _, _, _, _, _, _, _, _, _, rfl, rfl, by rfl, by intro vs hv; match vs, hv with | [a0, a1], _ => rfl⟩, rfl, rfl, rfl, rfl, rfl, rfl⟩, Callee.fn rfl, ⟨⟨_, _, _, _, _, _, _, _, _, _, _, _, rfl, rfl, by rfl, by intro vs hv; match vs, hv with | [a0, a1, a2], _ => rfl⟩, rfl, rfl, rfl, rfl, rfl, rfl⟩, Callee.fn rfl, ⟨⟨_, _, _, _, _, _, _, _, _, _, _, _, rfl, rfl, by rfl, by intro vs hv; match vs, hv with | [a0], _ => rfl⟩, rfl, rfl, rfl, rfl, rfl, rfl⟩, Callee.fn rfl, ⟨⟨_, _, _, _, _, _, _, _, _, _, _, _, rfl, rfl, by rfl, by intro vs hv; match vs, hv with | [a0, a1], _ => rfl⟩, rfl, rfl, rfl, rfl, rfl, rfl⟩, Callee.fn rfl, ⟨⟨_, _, _, _, _, _, _, _, _, _, _, _, rfl, rfl, by rfl, by intro vs hv; match vs, hv with | [a0], _ => rfl⟩, rfl, rfl, rfl, rfl, rfl, rfl⟩, Callee.fn rfl, ⟨⟨_, _, _, rfl, rfl, rfl, rfl⟩, ⟨_, _, rfl, rfl⟩⟩, ⟨_, _, rfl, by repeat (first | exact EscAll.nil | refine EscAll.cons rfl rfl ?_)⟩⟩ (.head _) (fun _ => rfl))
end Mine
theorem PySem.Challenge.cw_dn0049_02_holds : PySem.Challenge.rw_dn0049_02.Holds :=
  Mine.final
