import PyProof.Rows.All
import Wide.All
import OpenK.AllK
import Wide.FinOn
import PyProof.WalksEnum
import PyProof.ZipIter
import PyProof.EnumMake
import PyProof.FString5
import PyProof.ExcAttrAll.IndexError
import PyProof.RulesFinally
import KE.KUnpack
import Lean
import PySem.Challenge.RW_dn0049_03
set_option Elab.async false
set_option compiler.extract_closed false
set_option maxRecDepth 100000
set_option linter.unusedVariables false
namespace Mine
section
theorem byC {G:Prop} (h:∀ C:Prop,(G→C)→C):G:=h G id
theorem e0_2  {p1 p2:Prop} {G:Prop} (h:p1∧p2) (k:p1→p2→G):G:=k h.1 h.2
theorem e1_1.{u1} {α1:Sort u1} {p1:α1→Prop} {G:Prop} (h:∃ x1,p1 x1) (k:∀ x1,p1 x1→G):G:=h.elim k
theorem e0_3  {p1 p2 p3:Prop} {G:Prop} (h:p1∧p2∧p3) (k:p1→p2→p3→G):G:=k h.1 h.2.1 h.2.2
theorem e1_2.{u1} {α1:Sort u1} {p1 p2:α1→Prop} {G:Prop} (h:∃ x1,p1 x1∧p2 x1) (k:∀ x1,p1 x1→p2 x1→G):G:=h.elim fun x h=>e0_2 h (k x)
theorem e2_1.{u1,u2} {α1:Sort u1} {α2:Sort u2} {p1:α1→α2→Prop} {G:Prop} (h:∃ x1 x2,p1 x1 x2) (k:∀ x1 x2,p1 x1 x2→G):G:=h.elim fun x h=>e1_1 h (k x)
theorem e0_4  {p1 p2 p3 p4:Prop} {G:Prop} (h:p1∧p2∧p3∧p4) (k:p1→p2→p3→p4→G):G:=k h.1 h.2.1 h.2.2.1 h.2.2.2
theorem e1_3.{u1} {α1:Sort u1} {p1 p2 p3:α1→Prop} {G:Prop} (h:∃ x1,p1 x1∧p2 x1∧p3 x1) (k:∀ x1,p1 x1→p2 x1→p3 x1→G):G:=h.elim fun x h=>e0_3 h (k x)
theorem e2_2.{u1,u2} {α1:Sort u1} {α2:Sort u2} {p1 p2:α1→α2→Prop} {G:Prop} (h:∃ x1 x2,p1 x1 x2∧p2 x1 x2) (k:∀ x1 x2,p1 x1 x2→p2 x1 x2→G):G:=h.elim fun x h=>e1_2 h (k x)
theorem e3_1.{u1,u2,u3} {α1:Sort u1} {α2:Sort u2} {α3:Sort u3} {p1:α1→α2→α3→Prop} {G:Prop} (h:∃ x1 x2 x3,p1 x1 x2 x3) (k:∀ x1 x2 x3,p1 x1 x2 x3→G):G:=h.elim fun x h=>e2_1 h (k x)
theorem e0_5  {p1 p2 p3 p4 p5:Prop} {G:Prop} (h:p1∧p2∧p3∧p4∧p5) (k:p1→p2→p3→p4→p5→G):G:=k h.1 h.2.1 h.2.2.1 h.2.2.2.1 h.2.2.2.2
theorem e1_4.{u1} {α1:Sort u1} {p1 p2 p3 p4:α1→Prop} {G:Prop} (h:∃ x1,p1 x1∧p2 x1∧p3 x1∧p4 x1) (k:∀ x1,p1 x1→p2 x1→p3 x1→p4 x1→G):G:=h.elim fun x h=>e0_4 h (k x)
theorem e2_3.{u1,u2} {α1:Sort u1} {α2:Sort u2} {p1 p2 p3:α1→α2→Prop} {G:Prop} (h:∃ x1 x2,p1 x1 x2∧p2 x1 x2∧p3 x1 x2) (k:∀ x1 x2,p1 x1 x2→p2 x1 x2→p3 x1 x2→G):G:=h.elim fun x h=>e1_3 h (k x)
theorem e3_2.{u1,u2,u3} {α1:Sort u1} {α2:Sort u2} {α3:Sort u3} {p1 p2:α1→α2→α3→Prop} {G:Prop} (h:∃ x1 x2 x3,p1 x1 x2 x3∧p2 x1 x2 x3) (k:∀ x1 x2 x3,p1 x1 x2 x3→p2 x1 x2 x3→G):G:=h.elim fun x h=>e2_2 h (k x)
theorem e4_1.{u1,u2,u3,u4} {α1:Sort u1} {α2:Sort u2} {α3:Sort u3} {α4:Sort u4} {p1:α1→α2→α3→α4→Prop} {G:Prop} (h:∃ x1 x2 x3 x4,p1 x1 x2 x3 x4) (k:∀ x1 x2 x3 x4,p1 x1 x2 x3 x4→G):G:=h.elim fun x h=>e3_1 h (k x)
theorem e0_6  {p1 p2 p3 p4 p5 p6:Prop} {G:Prop} (h:p1∧p2∧p3∧p4∧p5∧p6) (k:p1→p2→p3→p4→p5→p6→G):G:=k h.1 h.2.1 h.2.2.1 h.2.2.2.1 h.2.2.2.2.1 h.2.2.2.2.2
theorem e1_5.{u1} {α1:Sort u1} {p1 p2 p3 p4 p5:α1→Prop} {G:Prop} (h:∃ x1,p1 x1∧p2 x1∧p3 x1∧p4 x1∧p5 x1) (k:∀ x1,p1 x1→p2 x1→p3 x1→p4 x1→p5 x1→G):G:=h.elim fun x h=>e0_5 h (k x)
theorem e2_4.{u1,u2} {α1:Sort u1} {α2:Sort u2} {p1 p2 p3 p4:α1→α2→Prop} {G:Prop} (h:∃ x1 x2,p1 x1 x2∧p2 x1 x2∧p3 x1 x2∧p4 x1 x2) (k:∀ x1 x2,p1 x1 x2→p2 x1 x2→p3 x1 x2→p4 x1 x2→G):G:=h.elim fun x h=>e1_4 h (k x)
theorem e3_3.{u1,u2,u3} {α1:Sort u1} {α2:Sort u2} {α3:Sort u3} {p1 p2 p3:α1→α2→α3→Prop} {G:Prop} (h:∃ x1 x2 x3,p1 x1 x2 x3∧p2 x1 x2 x3∧p3 x1 x2 x3) (k:∀ x1 x2 x3,p1 x1 x2 x3→p2 x1 x2 x3→p3 x1 x2 x3→G):G:=h.elim fun x h=>e2_3 h (k x)
theorem e0_7  {p1 p2 p3 p4 p5 p6 p7:Prop} {G:Prop} (h:p1∧p2∧p3∧p4∧p5∧p6∧p7) (k:p1→p2→p3→p4→p5→p6→p7→G):G:=k h.1 h.2.1 h.2.2.1 h.2.2.2.1 h.2.2.2.2.1 h.2.2.2.2.2.1 h.2.2.2.2.2.2
theorem e1_6.{u1} {α1:Sort u1} {p1 p2 p3 p4 p5 p6:α1→Prop} {G:Prop} (h:∃ x1,p1 x1∧p2 x1∧p3 x1∧p4 x1∧p5 x1∧p6 x1) (k:∀ x1,p1 x1→p2 x1→p3 x1→p4 x1→p5 x1→p6 x1→G):G:=h.elim fun x h=>e0_6 h (k x)
theorem e2_5.{u1,u2} {α1:Sort u1} {α2:Sort u2} {p1 p2 p3 p4 p5:α1→α2→Prop} {G:Prop} (h:∃ x1 x2,p1 x1 x2∧p2 x1 x2∧p3 x1 x2∧p4 x1 x2∧p5 x1 x2) (k:∀ x1 x2,p1 x1 x2→p2 x1 x2→p3 x1 x2→p4 x1 x2→p5 x1 x2→G):G:=h.elim fun x h=>e1_5 h (k x)
theorem e3_4.{u1,u2,u3} {α1:Sort u1} {α2:Sort u2} {α3:Sort u3} {p1 p2 p3 p4:α1→α2→α3→Prop} {G:Prop} (h:∃ x1 x2 x3,p1 x1 x2 x3∧p2 x1 x2 x3∧p3 x1 x2 x3∧p4 x1 x2 x3) (k:∀ x1 x2 x3,p1 x1 x2 x3→p2 x1 x2 x3→p3 x1 x2 x3→p4 x1 x2 x3→G):G:=h.elim fun x h=>e2_4 h (k x)
theorem e4_3.{u1,u2,u3,u4} {α1:Sort u1} {α2:Sort u2} {α3:Sort u3} {α4:Sort u4} {p1 p2 p3:α1→α2→α3→α4→Prop} {G:Prop} (h:∃ x1 x2 x3 x4,p1 x1 x2 x3 x4∧p2 x1 x2 x3 x4∧p3 x1 x2 x3 x4) (k:∀ x1 x2 x3 x4,p1 x1 x2 x3 x4→p2 x1 x2 x3 x4→p3 x1 x2 x3 x4→G):G:=h.elim fun x h=>e3_3 h (k x)
theorem e2_6.{u1,u2} {α1:Sort u1} {α2:Sort u2} {p1 p2 p3 p4 p5 p6:α1→α2→Prop} {G:Prop} (h:∃ x1 x2,p1 x1 x2∧p2 x1 x2∧p3 x1 x2∧p4 x1 x2∧p5 x1 x2∧p6 x1 x2) (k:∀ x1 x2,p1 x1 x2→p2 x1 x2→p3 x1 x2→p4 x1 x2→p5 x1 x2→p6 x1 x2→G):G:=h.elim fun x h=>e1_6 h (k x)
theorem e3_5.{u1,u2,u3} {α1:Sort u1} {α2:Sort u2} {α3:Sort u3} {p1 p2 p3 p4 p5:α1→α2→α3→Prop} {G:Prop} (h:∃ x1 x2 x3,p1 x1 x2 x3∧p2 x1 x2 x3∧p3 x1 x2 x3∧p4 x1 x2 x3∧p5 x1 x2 x3) (k:∀ x1 x2 x3,p1 x1 x2 x3→p2 x1 x2 x3→p3 x1 x2 x3→p4 x1 x2 x3→p5 x1 x2 x3→G):G:=h.elim fun x h=>e2_5 h (k x)
theorem e4_4.{u1,u2,u3,u4} {α1:Sort u1} {α2:Sort u2} {α3:Sort u3} {α4:Sort u4} {p1 p2 p3 p4:α1→α2→α3→α4→Prop} {G:Prop} (h:∃ x1 x2 x3 x4,p1 x1 x2 x3 x4∧p2 x1 x2 x3 x4∧p3 x1 x2 x3 x4∧p4 x1 x2 x3 x4) (k:∀ x1 x2 x3 x4,p1 x1 x2 x3 x4→p2 x1 x2 x3 x4→p3 x1 x2 x3 x4→p4 x1 x2 x3 x4→G):G:=h.elim fun x h=>e3_4 h (k x)
theorem e3_6.{u1,u2,u3} {α1:Sort u1} {α2:Sort u2} {α3:Sort u3} {p1 p2 p3 p4 p5 p6:α1→α2→α3→Prop} {G:Prop} (h:∃ x1 x2 x3,p1 x1 x2 x3∧p2 x1 x2 x3∧p3 x1 x2 x3∧p4 x1 x2 x3∧p5 x1 x2 x3∧p6 x1 x2 x3) (k:∀ x1 x2 x3,p1 x1 x2 x3→p2 x1 x2 x3→p3 x1 x2 x3→p4 x1 x2 x3→p5 x1 x2 x3→p6 x1 x2 x3→G):G:=h.elim fun x h=>e2_6 h (k x)
theorem e4_5.{u1,u2,u3,u4} {α1:Sort u1} {α2:Sort u2} {α3:Sort u3} {α4:Sort u4} {p1 p2 p3 p4 p5:α1→α2→α3→α4→Prop} {G:Prop} (h:∃ x1 x2 x3 x4,p1 x1 x2 x3 x4∧p2 x1 x2 x3 x4∧p3 x1 x2 x3 x4∧p4 x1 x2 x3 x4∧p5 x1 x2 x3 x4) (k:∀ x1 x2 x3 x4,p1 x1 x2 x3 x4→p2 x1 x2 x3 x4→p3 x1 x2 x3 x4→p4 x1 x2 x3 x4→p5 x1 x2 x3 x4→G):G:=h.elim fun x h=>e3_5 h (k x)
theorem e4_6.{u1,u2,u3,u4} {α1:Sort u1} {α2:Sort u2} {α3:Sort u3} {α4:Sort u4} {p1 p2 p3 p4 p5 p6:α1→α2→α3→α4→Prop} {G:Prop} (h:∃ x1 x2 x3 x4,p1 x1 x2 x3 x4∧p2 x1 x2 x3 x4∧p3 x1 x2 x3 x4∧p4 x1 x2 x3 x4∧p5 x1 x2 x3 x4∧p6 x1 x2 x3 x4) (k:∀ x1 x2 x3 x4,p1 x1 x2 x3 x4→p2 x1 x2 x3 x4→p3 x1 x2 x3 x4→p4 x1 x2 x3 x4→p5 x1 x2 x3 x4→p6 x1 x2 x3 x4→G):G:=h.elim fun x h=>e3_6 h (k x)
theorem e5_5.{u1,u2,u3,u4,u5} {α1:Sort u1} {α2:Sort u2} {α3:Sort u3} {α4:Sort u4} {α5:Sort u5} {p1 p2 p3 p4 p5:α1→α2→α3→α4→α5→Prop} {G:Prop} (h:∃ x1 x2 x3 x4 x5,p1 x1 x2 x3 x4 x5∧p2 x1 x2 x3 x4 x5∧p3 x1 x2 x3 x4 x5∧p4 x1 x2 x3 x4 x5∧p5 x1 x2 x3 x4 x5) (k:∀ x1 x2 x3 x4 x5,p1 x1 x2 x3 x4 x5→p2 x1 x2 x3 x4 x5→p3 x1 x2 x3 x4 x5→p4 x1 x2 x3 x4 x5→p5 x1 x2 x3 x4 x5→G):G:=h.elim fun x h=>e4_5 h (k x)
end
section
open PySem PySem.W PySem.Calls PyProof.Rows
structure Grown (s s':Shared):Prop where
  heap:s.heap.objs.size≤s'.heap.objs.size
  toks:s.toks≤s'.toks
  gens:s.gens.size≤s'.gens.size
theorem Grown.refl (s:Shared):Grown s s:=⟨Nat.le_refl _,Nat.le_refl _,Nat.le_refl _⟩
theorem Grown.trans {a b c:Shared} (x:Grown a b) (y:Grown b c):Grown a c:=⟨Nat.le_trans x.heap y.heap,Nat.le_trans x.toks y.toks,Nat.le_trans x.gens y.gens⟩
theorem Grown.setGen (s:Shared) (g:Nat) (x:GenState):Grown s (s.setGen g x):=⟨Nat.le_refl _,Nat.le_refl _,by simp [Shared.setGen]⟩
theorem runs_grown {M:Model} {Γ:Ctx} {p:Pos} {t:Sem Fin} {fs:List Frame} {s s':Shared} {e:End} (h:Runs M Γ p t fs s e s'):Grown s s':=by
  induction h <;> first
    | exact .refl _
    | assumption
    | exact Grown.trans (by assumption) (by assumption)
    | (refine Grown.trans ?_ (by assumption);exact ⟨by simp,Nat.le_refl _,Nat.le_refl _⟩)
    | (refine Grown.trans ?_ (by assumption);exact ⟨Nat.le_refl _,Nat.le_succ _,Nat.le_refl _⟩)
    | (refine Grown.trans ?_ (by assumption);exact ⟨Nat.le_refl _,Nat.le_refl _,by simp⟩)
    | (refine Grown.trans (Grown.setGen _ _ _) (Grown.trans (by assumption) (Grown.trans (Grown.setGen _ _ _) (by assumption))))
    | (refine Grown.trans (by assumption) (Grown.trans (by assumption) (by assumption)))
    | (refine Grown.trans (by assumption) (Grown.trans (Grown.setGen _ _ _) (by assumption)))
    | (refine Grown.trans (Grown.setGen _ _ _) (by assumption))
    | skip
theorem Wakes.grown {M:Model} {Γ:Ctx} {p:Pos} {g:Nat} {r:Resume} {s s':Shared} {res:GenResult} (h:Wakes M Γ p g r s res s'):Grown s s':=by
  have run:∀ {M':Ctx} {p':Pos} {t:Sem Fin} {fs:List Frame} {x:End→GenState},(∃ e₁ s₁,Runs M M' p' t fs (s.setGen g .running) e₁ s₁∧e₁.quiet = true∧res = e₁.result∧s' = s₁.setGen g (x e₁))→Grown s s':=fun h=>by
    (refine e2_4 (h) (fun e₁ s₁ hr _ _ q1q=>?_);subst q1q);exact (Grown.setGen _ _ _).trans ((runs_grown hr).trans (Grown.setGen _ _ _))
  unfold Wakes at h
  generalize s.gens[g]? = o at h
  cases o with
  | none=>exact h.elim
  | some st =>
    cases st with
    | fresh c =>
      cases r with
      | send v=>cases v <;> first | exact run h | (rw [h.2];exact .refl _)
      | throw x=>rw [h.2];exact ⟨Nat.le_refl _,Nat.le_refl _,by simp [Shared.setGen]⟩
    | suspended=>exact run h
    | running=>rw [h.2];exact .refl _
    | finished=>rw [h.2];exact .refl _
theorem wp_grown {α:Type} (M:Model) (Γ:Ctx) (s₀:Shared) (t:Sem α):∀ (Q:α→Pos→Shared→Prop) (E:Value→Pos→Shared→Prop) (p:Pos) (s:Shared),Grown s₀ s→Sem.wp M Γ t Q E p s →
    Sem.wp M Γ t (fun a p' s'=>Grown s₀ s'∧Q a p' s') (fun e p' s'=>Grown s₀ s'∧E e p' s') p s:=by
  induction t with
  | pure a=>intro Q E p s hn h;exact ⟨hn,h⟩
  | raise e=>intro Q E p s hn h;exact ⟨hn,h⟩
  | unsupported _=>intro Q E p s _ h;exact h
  | finish _=>intro Q E p s _ h;exact h
  | rule _ k ih=>intro Q E p s hn h;exact ih () Q E p s hn h
  | «at» p' k ih=>intro Q E p s hn h;exact ih () Q E p' s hn h
  | load a _ k ih=>intro Q E p s hn h;refine e1_2 (h) (fun o ho h=>?_);exact ⟨o,ho,ih o Q E p s hn h⟩
  | update a _ f k ih=>intro Q E p s hn h;exact ⟨h.1,ih () Q E p _ (hn.trans ⟨by simp,Nat.le_refl _,Nat.le_refl _⟩) h.2⟩
  | loadIfAlive a k ih=>intro Q E p s hn h;exact ih _ Q E p s hn h
  | point _ k ih=>intro Q E p s hn h;exact ih () Q E p s hn h
  | register _ _=>intro Q E p s _ h;exact h
  | alloc o k ih=>intro Q E p s hn h;exact ih _ Q E p _ (hn.trans ⟨by simp,Nat.le_refl _,Nat.le_refl _⟩) h
  | fresh k ih=>intro Q E p s hn h;exact ih _ Q E p _ (hn.trans ⟨Nat.le_refl _,Nat.le_succ _,Nat.le_refl _⟩) h
  | ask k ih=>intro Q E p s hn h;exact ih _ Q E p s hn h
  | choose src m k ih=>intro Q E p s hn h;exact ⟨h.1,ih _ Q E p _ (hn.trans ⟨Nat.le_refl _,Nat.le_refl _,Nat.le_refl _⟩) h.2⟩
  | os q _ k ih=>intro Q E p s hn h;exact ih _ Q E p _ (hn.trans ⟨Nat.le_refl _,Nat.le_refl _,Nat.le_refl _⟩) h
  | call c hd _ _ k ih=>intro Q E p s hn h;refine e2_2 (h) (fun r s' hr h=>?_);exact ⟨r,s',hr,ih r Q E p s' (hn.trans (runs_grown hr)) h⟩
  | handled own k ih=>intro Q E p s hn h;exact ih _ Q E p s hn h
  | genState g k ih=>intro Q E p s hn h;refine e1_2 (h) (fun st hs h=>?_);exact ⟨st,hs,ih _ Q E p s hn h⟩
  | newGen c k ih=>intro Q E p s hn h;exact ih _ Q E p _ (hn.trans ⟨Nat.le_refl _,Nat.le_refl _,by simp⟩) h
  | resume g r _ k ih=>intro Q E p s hn h;refine e2_2 (h) (fun res s' hw h=>?_);exact ⟨res,s',hw,ih res Q E p s' (hn.trans (Wakes.grown hw)) h⟩
  | yield _ _ _ _=>intro Q E p s _ h;exact h
  | stack k ih=>intro Q E p s hn h;exact ih _ Q E p s hn h
  | fork _ _=>intro Q E p s _ h;exact h
  | thread k ih=>intro Q E p s hn h;exact ih _ Q E p s hn h
  | await _ _ _ _ _=>intro Q E p s _ h;exact h
theorem wpAny_grown {α:Type} {M:Model} {A:Around} {s:Shared} {t:Sem α} {Q:α→Shared→Prop} {E:Value→Shared→Prop}
    (h:wpAny M A t (fun a s'=>Grown s s'→Q a s') (fun e s'=>Grown s s'→E e s') s):wpAny M A t Q E s :=
  wpAny_mono (fun Γ p hΓ=>wp_grown M Γ s t _ _ p s (.refl s) (h Γ p hΓ):wpAny M A t (fun a s'=>Grown s s'∧(Grown s s'→Q a s')) (fun e s'=>Grown s s'∧(Grown s s'→E e s')) s) (fun _ _ x=>x.2 x.1) (fun _ _ x=>x.2 x.1)
theorem wp_ifT {α:Type} {M:Model} {A:Around} {c:Prop} [Decidable c] {a b:Sem α} {Q:α→Shared→Prop} {E:Value→Shared→Prop} {s:Shared} (hc:c) (h:wpAny M A a Q E s):wpAny M A (if c then a else b) Q E s:=by rw [if_pos hc];exact h
theorem wp_ifF {α:Type} {M:Model} {A:Around} {c:Prop} [Decidable c] {a b:Sem α} {Q:α→Shared→Prop} {E:Value→Shared→Prop} {s:Shared} (hc:¬ c) (h:wpAny M A b Q E s):wpAny M A (if c then a else b) Q E s:=by rw [if_neg hc];exact h
end
section
open PySem PySem.W PySem.Calls PyProof.Rows
inductive D where
  | raw (v:Value)
  | int (i:Int)
  | str (s:List Nat)
  | list (xs:List D)
  | tup (xs:List D)
  | rng (a b c:Int)
  | obj (a:Addr) (o:Obj)
noncomputable abbrev D.bool (b:Bool):D:=.raw (.bool b)
noncomputable abbrev D.none:D:=.raw .none
noncomputable def Keep (g h:Heap):Prop:=∀ b o,g.get? b = some o→h.get? b = some o
theorem Keep.refl (g:Heap):Keep g g:=fun _ _ e=>e
theorem Keep.trans {a b c:Heap} (x:Keep a b) (y:Keep b c):Keep a c:=fun p o e=>y p o (x p o e)
noncomputable abbrev listO (vs:List Value) (n:Nat):Obj:={ cls:=.type "list",data:=.seq vs.toArray n }
noncomputable abbrev tupO (vs:List Value) (n:Nat):Obj:={ cls:=.type "tuple",data:=.seq vs.toArray n }
mutual
inductive Rd (g:Heap):Value→D→Prop where
  | raw (v:Value):Rd g v (.raw v)
  | int (i:Int) (t:Tok):Rd g (.int i t) (.int i)
  | str (s:List Nat) (t:Tok):s.length≤sizeLine→Rd g (.str ⟨s.toArray⟩ t) (.str s)
  | list {a:Addr} {vs:List Value} {n:Nat} {xs:List D}:g.get? a = some (listO vs n)→vs.length≤sizeLine→Rds g vs xs→Rd g (.ref a) (.list xs)
  | tup {a:Addr} {vs:List Value} {n:Nat} {xs:List D}:g.get? a = some (tupO vs n)→vs.length≤sizeLine→Rds g vs xs→Rd g (.ref a) (.tup xs)
  | rng {r:Addr} {a b c:Int} {t u v:Tok}:g.get? r = some { cls:=.type "range",dict:=Option.none,data:=.fields #[.int a t,.int b u,.int c v],slots:=#[] }→Rd g (.ref r) (.rng a b c)
  | obj {a:Addr} {o:Obj}:g.get? a = some o→Rd g (.ref a) (.obj a o)
inductive Rds (g:Heap):List Value→List D→Prop where
  | nil:Rds g [] []
  | cons {v:Value} {d:D} {vs:List Value} {ds:List D}:Rd g v d→Rds g vs ds→Rds g (v :: vs) (d :: ds)
end
theorem Rd.mono {g g':Heap} (k:Keep g g') {v:Value} {d:D} (r:Rd g v d):Rd g' v d :=
  Rd.rec (motive_1:=fun v d _=>Rd g' v d) (motive_2:=fun vs ds _=>Rds g' vs ds) (fun v=>.raw v) (fun i t=>.int i t) (fun s t h=>.str s t h) (fun e hl _ ih=>.list (k _ _ e) hl ih) (fun e hl _ ih=>.tup (k _ _ e) hl ih) (fun e=>.rng (k _ _ e)) (fun e=>.obj (k _ _ e)) .nil (fun _ _ a b=>.cons a b) r
section
variable {g:Heap}
theorem Rd.casesRaw {w:Value} {motive:(v:Value)→Rd g v (.raw w)→Prop} (raw:motive w (.raw w)) {v:Value} (r:Rd g v (.raw w)):motive v r:=by cases r;exact raw
theorem Rd.casesInt {i:Int} {motive:(v:Value)→Rd g v (.int i)→Prop} (int:∀ t,motive (.int i t) (.int i t)) {v:Value} (r:Rd g v (.int i)):motive v r:=by cases r with | int i t=>exact int t
theorem Rd.casesStr {s:List Nat} {motive:(v:Value)→Rd g v (.str s)→Prop} (str:∀ t hs,motive (.str ⟨s.toArray⟩ t) (.str s t hs)) {v:Value} (r:Rd g v (.str s)):motive v r:=by cases r with | str s t hs=>exact str t hs
theorem Rd.casesList {xs:List D} {motive:(v:Value)→Rd g v (.list xs)→Prop} (list:∀ {a vs n} (e:g.get? a = some (listO vs n)) (hl:vs.length≤sizeLine) (rs:Rds g vs xs),motive (.ref a) (.list e hl rs)) {v:Value} (r:Rd g v (.list xs)):motive v r:=by cases r with | list e hl rs=>exact list e hl rs
theorem Rd.casesTup {xs:List D} {motive:(v:Value)→Rd g v (.tup xs)→Prop} (tup:∀ {a vs n} (e:g.get? a = some (tupO vs n)) (hl:vs.length≤sizeLine) (rs:Rds g vs xs),motive (.ref a) (.tup e hl rs)) {v:Value} (r:Rd g v (.tup xs)):motive v r:=by cases r with | tup e hl rs=>exact tup e hl rs
theorem Rd.casesRng {a b c:Int} {motive:(v:Value)→Rd g v (.rng a b c)→Prop} (rng:∀ {r t u w} (e:g.get? r = some { cls:=.type "range",dict:=Option.none,data:=.fields #[.int a t,.int b u,.int c w],slots:=#[] }),motive (.ref r) (.rng e)) {v:Value} (r:Rd g v (.rng a b c)):motive v r:=by cases r with | rng e=>exact rng e
theorem Rd.casesObj {a:Addr} {o:Obj} {motive:(v:Value)→Rd g v (.obj a o)→Prop} (obj:∀ e:g.get? a = some o,motive (.ref a) (.obj e)) {v:Value} (r:Rd g v (.obj a o)):motive v r:=by cases r with | obj e=>exact obj e
theorem Rds.casesNil {motive:(vs:List Value)→Rds g vs []→Prop} (nil:motive [] .nil) {vs:List Value} (r:Rds g vs []):motive vs r:=by cases r;exact nil
theorem Rds.casesCons {d:D} {ds:List D} {motive:(vs:List Value)→Rds g vs (d :: ds)→Prop} (cons:∀ {v vs} (a:Rd g v d) (b:Rds g vs ds),motive (v :: vs) (.cons a b)) {vs:List Value} (r:Rds g vs (d :: ds)):motive vs r:=by cases r with | cons a b=>exact cons a b
end
theorem Rds.mono {g g':Heap} (k:Keep g g') {vs:List Value} {ds:List D} (r:Rds g vs ds):Rds g' vs ds:=by
  induction ds generalizing vs with
  | nil=>cases r using Rds.casesNil;exact .nil
  | cons d ds ih=>cases r using Rds.casesCons with | cons a b=>exact .cons (a.mono k) (ih b)
theorem Rds.length {g:Heap} {vs:List Value} {ds:List D} (r:Rds g vs ds):vs.length = ds.length:=by
  induction ds generalizing vs with
  | nil=>cases r using Rds.casesNil;rfl
  | cons d ds ih=>cases r using Rds.casesCons with | cons a b=>exact congrArg Nat.succ (ih b)
theorem Rds.append {g:Heap} {vs ws:List Value} {ds es:List D} (r:Rds g vs ds) (y:Rds g ws es):Rds g (vs ++ ws) (ds ++ es):=by
  induction ds generalizing vs with
  | nil=>cases r using Rds.casesNil;exact y
  | cons d ds ih=>cases r using Rds.casesCons with | cons a b=>exact .cons a (ih b)
theorem Rds.get {g:Heap} {vs:List Value} {ds:List D} (r:Rds g vs ds) (i:Nat) {d:D} (h:ds[i]? = some d):∃ v,vs[i]? = some v∧Rd g v d:=by
  induction ds generalizing vs i with
  | nil=>cases h
  | cons e ds ih =>
    cases r using Rds.casesCons with
    | cons a b =>
      cases i with
      | zero=>cases h;exact ⟨_,rfl,a⟩
      | succ i=>exact ih b i h
theorem Rds.drop {g:Heap} {vs:List Value} {ds:List D} (r:Rds g vs ds) (n:Nat):Rds g (vs.drop n) (ds.drop n):=by
  induction ds generalizing vs n with
  | nil=>cases r using Rds.casesNil;cases n <;> exact .nil
  | cons e ds ih =>
    cases r using Rds.casesCons with
    | cons a b =>
      cases n with
      | zero=>exact .cons a b
      | succ n=>exact ih b n
theorem Rds.take {g:Heap} {vs:List Value} {ds:List D} (r:Rds g vs ds) (n:Nat):Rds g (vs.take n) (ds.take n):=by
  induction ds generalizing vs n with
  | nil=>cases r using Rds.casesNil;cases n <;> exact .nil
  | cons e ds ih =>
    cases r using Rds.casesCons with
    | cons a b =>
      cases n with
      | zero=>exact .nil
      | succ n=>exact .cons a (ih b n)
noncomputable def D.flat:D→Bool
  | .list _=>false
  | .tup _=>false
  | .rng ..=>false
  | .obj ..=>false
  | _=>true
theorem Rd.flat_any {g g':Heap} {v:Value} {d:D} (r:Rd g v d) (h:d.flat = true):Rd g' v d:=by
  cases r with
  | raw v=>exact .raw v
  | int i t=>exact .int i t
  | str s t hs=>exact .str s t hs
  | list=>cases h
  | tup=>cases h
  | rng=>cases h
  | obj=>cases h
noncomputable def cut (h:Heap) (P:Addr→Bool):Heap:=⟨h.objs.mapIdx fun i o=>if P i then o else { o with data:=.freed },h.life⟩
theorem cut_get (h:Heap) (P:Addr→Bool) (b:Addr):(cut h P).get? b = if P b then h.get? b else Option.none:=by
  unfold cut Heap.get?
  simp only [Array.getElem?_mapIdx]
  cases h.objs[b]? with
  | none=>cases P b <;> rfl
  | some o=>cases P b <;> rfl
theorem cut_some {h:Heap} {P:Addr→Bool} {b:Addr} {o:Obj}:(cut h P).get? b = some o ↔ P b = true∧h.get? b = some o:=by
  rw [cut_get]
  cases P b <;> simp
set_option genInjectivity false in
structure Sig where
  prog:Program
  w:World
  K:Frag
  mg:Str→Option Value
  mb:Str→Option Value
  tabs:List (Addr × Addr)
  qualAt:Pos→Str
  z:Addr
  hd:Bool:=true
class Free (S:Sig):Prop where
  free:S.hd = true
noncomputable abbrev Sig.M (S:Sig):Model:=model S.prog S.w
noncomputable def Sig.T (S:Sig) (b:Addr):Prop:=b ∈ S.tabs.map (·.2)
structure Base (S:Sig) (g:Heap):Prop where
  kin:S.K.In g
  glob:g.Ns mainGlobals S.mg
  blt:g.Ns builtinsNs S.mb
  nolimit:g.NoLimit
  boot:∀ x:Str,x ≠ "__name__"→S.mb x = bootBuiltins x
  bmain:∃ bm ob,S.mg "__builtins__" = some (.ref bm)∧bm ≠ builtinsNs∧g.get? bm = some ob∧ob.cls = .type "module"∧ob.dict = some builtinsNs∧ob.data = .plain
  heads:∀ q ∈ S.tabs,CodeHd g q.1 q.2∧g.get? q.2 = Option.none
theorem Base.mono {S:Sig} {g g':Heap} (B:Base S g) (k:Keep g g') (hT:∀ q ∈ S.tabs,g'.get? q.2 = Option.none):Base S g' where
  kin:=B.kin.keeps k
  glob:=B.glob.keeps k
  blt:=B.blt.keeps k
  nolimit:=B.nolimit.keeps k
  boot:=B.boot
  bmain:=e2_4 B.bmain fun bm ob h1 h2 h3 r=>⟨bm,ob,h1,h2,k _ _ h3,r⟩
  heads:=fun q hq=>⟨(B.heads q hq).1.keeps k,hT q hq⟩
structure Tabs (S:Sig) (g:Heap) (s:Shared):Prop where
  pos:0 < s.toks
  all:∀ q ∈ S.tabs,∃ ps,s.heap.get? q.2 = some (tabObj ps)∧TriplesOk ps.toList∧∀ pos cv,codeAmong pos ps.toList = some cv→g.CodeRec cv (S.qualAt pos)
noncomputable def NsObj (o:Obj):Prop:=∃ es ep,o.data = .dict es ep
theorem notNs_list {vs:List Value} {n:Nat}:¬ NsObj (listO vs n):=by rintro ⟨_,_,q⟩;cases q
theorem notNs_fields {o:Obj} {vs:Array Value} (h:o.data = .fields vs):¬ NsObj o:=by rintro ⟨_,_,q⟩;rw [h] at q;cases q
noncomputable def Like (S:Sig) (a:Addr) (o o':Obj):Prop:=o' = o ∨ (S.z≤a∧NsObj o∧∃ sl,o' = { o with slots:=sl })
theorem Like.refl {S:Sig} {a:Addr} (o:Obj):Like S a o o:=.inl rfl
theorem Like.trans {S:Sig} {a:Addr} {o₁ o₂ o₃:Obj} (x:Like S a o₁ o₂) (y:Like S a o₂ o₃):Like S a o₁ o₃:=by
  rcases x with rfl | ⟨h1,h2,sl,rfl⟩
  · exact y
  · rcases y with rfl | ⟨_,_,sl',rfl⟩
    · exact .inr ⟨h1,h2,sl,rfl⟩
    · exact .inr ⟨h1,h2,sl',rfl⟩
theorem Like.data {S:Sig} {a:Addr} {o o':Obj} (x:Like S a o o'):o'.data = o.data:=by
  rcases x with rfl | ⟨_,_,sl,rfl⟩ <;> rfl
theorem Like.cls {S:Sig} {a:Addr} {o o':Obj} (x:Like S a o o'):o'.cls = o.cls:=by
  rcases x with rfl | ⟨_,_,sl,rfl⟩ <;> rfl
theorem Like.eq {S:Sig} {a:Addr} {o o':Obj} (x:Like S a o o') (h:¬ NsObj o):o' = o:=by
  rcases x with rfl | ⟨_,h2,_⟩
  · rfl
  · exact absurd h2 h
noncomputable abbrev Ab (b:Addr):Addr→Prop:=fun a=>b≤a
noncomputable abbrev Nw (s:Shared):Addr→Prop:=Ab s.heap.objs.size
structure Tr (S:Sig) (W:Addr→Prop) (g:Heap) (s:Shared) (g':Heap) (s':Shared):Prop where
  mono:Keep g g'
  keep:Keep g' s'.heap
  same:∀ a o,¬ W a→¬ S.T a→s.heap.get? a = some o→∃ o',s'.heap.get? a = some o'∧Like S a o o'
  fresh:∀ a o,g'.get? a = some o→g.get? a = some o ∨ W a
  size:s.heap.objs.size≤s'.heap.objs.size
  tabs:∀ q ∈ S.tabs,∀ ps,s.heap.get? q.2 = some (tabObj ps)→∃ more,s'.heap.get? q.2 = some (tabObj (ps ++ more))
  base:Base S g'
  now:Tabs S g' s'
  os:s'.os = s.os
  bare:AllBare s.gens→AllBare s'.gens
  gens:s.gens.size≤s'.gens.size
  toks:s.toks≤s'.toks
theorem Tr.weak {S:Sig} {W V:Addr→Prop} {g g':Heap} {s s':Shared} (x:Tr S V g s g' s') (h:∀ a,V a→W a):Tr S W g s g' s' :=
  { x with same:=fun a o l n e=>x.same a o (fun q=>l (h a q)) n e,fresh:=fun a o e=>(x.fresh a o e).imp id (h a) }
theorem Tr.trans {S:Sig} {W V:Addr→Prop} {g₁ g₂ g₃:Heap} {s₁ s₂ s₃:Shared} (x:Tr S W g₁ s₁ g₂ s₂) (y:Tr S V g₂ s₂ g₃ s₃) (h:∀ a,V a→W a):Tr S W g₁ s₁ g₃ s₃ where
  mono:=x.mono.trans y.mono
  keep:=y.keep
  same:=fun a o l n e=>e1_2 (x.same a o l n e) fun o' e' k=>e1_2 (y.same a o' (fun q=>l (h a q)) n e') fun o'' e'' k'=>⟨o'',e'',k.trans k'⟩
  fresh:=fun a o e=>(y.fresh a o e).elim (fun e=>x.fresh a o e) fun l=>.inr (h a l)
  size:=Nat.le_trans x.size y.size
  tabs:=fun q hq ps e=>e1_1 (x.tabs q hq ps e) fun m e'=>e1_1 (y.tabs q hq _ e') fun m' e''=>⟨m ++ m',by rw [e'',Array.append_assoc]⟩
  base:=y.base
  now:=y.now
  os:=y.os.trans x.os
  bare:=y.bare ∘ x.bare
  gens:=Nat.le_trans x.gens y.gens
  toks:=Nat.le_trans x.toks y.toks
theorem Tr.refl {S:Sig} {g:Heap} {s:Shared} (W:Addr→Prop) (k:Keep g s.heap) (B:Base S g) (T:Tabs S g s):Tr S W g s g s where
  mono:=.refl g
  keep:=k
  same:=fun _ o _ _ e=>⟨o,e,.refl o⟩
  fresh:=fun _ _ e=>.inl e
  size:=Nat.le_refl _
  tabs:=fun _ _ ps e=>⟨#[],by rw [e,Array.append_empty]⟩
  base:=B
  now:=T
  os:=rfl
  bare:=id
  gens:=Nat.le_refl _
  toks:=Nat.le_refl _
open Classical in
theorem world_of {g h':Heap} (z:Nat) (N:Addr→Prop) (hk:Keep g h'):∃ g',Keep g g'∧Keep g' h'∧(∀ a o,g'.get? a = some o→g.get? a = some o ∨ (z≤a∧N a))∧∀ b o,h'.get? b = some o→z≤b→N b→g'.get? b = some o:=by
  refine ⟨cut h' fun b=>(g.get? b).isSome || decide (z≤b∧N b),fun b o e=>cut_some.mpr ⟨by rw [e];rfl,hk b o e⟩,fun b o e=>(cut_some.mp e).2,fun a o e=>?_,fun b o e l n=>cut_some.mpr ⟨by rw [decide_eq_true (p:=z≤b∧N b) ⟨l,n⟩,Bool.or_true],e⟩⟩
  refine e0_2 (cut_some.mp e) (fun e1 e2=>?_)
  cases q:g.get? a with
  | none=>rw [q] at e1;exact .inr (of_decide_eq_true e1)
  | some x=>exact .inl ((hk a x q).symm.trans e2)
theorem Tabs.noneT {S:Sig} {g g':Heap} {s:Shared} (T:Tabs S g s) (B:Base S g) (fr:∀ a o,g'.get? a = some o→g.get? a = some o ∨ s.heap.objs.size≤a) (q:Addr × Addr) (hq:q ∈ S.tabs):g'.get? q.2 = Option.none:=by
  cases e:g'.get? q.2 with
  | none=>rfl
  | some o=>exact e1_1 (T.all q hq) fun ps e'=>(fr _ _ e).elim (fun h=>absurd ((B.heads q hq).2.symm.trans h) nofun) fun h=>absurd (Heap.lt_size e'.1) (Nat.not_lt.mpr h)
theorem Tr.growF {S:Sig} {g:Heap} {s s':Shared} (F N:Addr→Prop) (k:Keep g s.heap) (B:Base S g) (T:Tabs S g s) (old:∀ b o,¬ F b→s.heap.get? b = some o→s'.heap.get? b = some o) (hFg:∀ b,F b→g.get? b = Option.none) (hFT:∀ b,F b→¬ S.T b)
    (hz:s.heap.objs.size≤s'.heap.objs.size) (hos:s'.os = s.os) (hg:s'.gens = s.gens) (ht:s.toks≤s'.toks) :
    ∃ g',Tr S (fun a=>Nw s a ∨ F a) g s g' s'∧(∀ b o,s'.heap.get? b = some o→s.heap.objs.size≤b→N b→g'.get? b = some o)∧(∀ b,g'.get? b ≠ Option.none→g.get? b ≠ Option.none ∨ (s.heap.objs.size≤b∧N b)):=by
  have nF:∀ {b o},g.get? b = some o→¬ F b:=fun {b o} e q=>by rw [hFg b q] at e;cases e
  have nFT:∀ q ∈ S.tabs,¬ F q.2:=fun q hq h=>hFT _ h (List.mem_map_of_mem hq)
  refine e1_4 (world_of s.heap.objs.size N fun b o e=>old b o (nF e) (k b o e)) fun g' mono keep fr' inN=>?_
  have fr:∀ a o,g'.get? a = some o→g.get? a = some o ∨ s.heap.objs.size≤a:=fun a o e=>(fr' a o e).imp id And.left
  refine ⟨g',?_,inN,fun b hb=>?_⟩
  · exact {
      mono:=mono
      keep:=keep
      same:=fun a o h _ e=>⟨o,old a o (fun q=>h (.inr q)) e,.refl o⟩
      fresh:=fun a o e=>(fr a o e).imp id .inl
      size:=hz
      tabs:=fun q hq ps e=>⟨#[],by rw [old _ _ (nFT q hq) e,Array.append_empty]⟩
      base:=B.mono mono (T.noneT B fr)
      now:=⟨Nat.lt_of_lt_of_le T.pos ht,fun q hq=>e1_3 (T.all q hq) fun ps e1 e2 e3=>⟨ps,old _ _ (nFT q hq) e1,e2,fun pos cv e=>(e3 pos cv e).keeps mono⟩⟩
      os:=hos
      bare:=fun h=>by rw [hg];exact h
      gens:=by rw [hg];exact Nat.le_refl _
      toks:=ht }
  · cases e:g'.get? b with
    | none=>exact absurd e hb
    | some o=>exact (fr' b o e).imp (fun q=>by rw [q];nofun) id
theorem Tr.grow {S:Sig} {g:Heap} {s s':Shared} (N:Addr→Prop) (k:Keep g s.heap) (B:Base S g) (T:Tabs S g s) (old:Keep s.heap s'.heap) (hz:s.heap.objs.size≤s'.heap.objs.size) (hos:s'.os = s.os) (hg:s'.gens = s.gens) (ht:s.toks≤s'.toks) :
    ∃ g',Tr S (Nw s) g s g' s'∧(∀ b o,s'.heap.get? b = some o→s.heap.objs.size≤b→N b→g'.get? b = some o)∧(∀ b,s.heap.objs.size≤b→¬ N b→g'.get? b = Option.none):=by
  refine e1_3 (Tr.growF (fun _=>False) N k B T (fun b o _ e=>old b o e) (fun _ h=>h.elim) (fun _ h=>h.elim) hz hos hg ht) (fun g' t h1 h2=>?_)
  refine ⟨g',t.weak fun a h=>h.elim id False.elim,h1,fun b l n=>?_⟩
  cases e:g'.get? b with
  | none=>rfl
  | some o =>
    rcases h2 b (by rw [e];nofun) with q | q
    · cases e':g.get? b with
      | none=>exact absurd e' q
      | some o'=>exact absurd (Heap.lt_size (k b o' e')) (Nat.not_lt.mpr l)
    · exact absurd q.2 n
theorem Tr.tick {S:Sig} {g:Heap} {s:Shared} {t:Nat} (W:Addr→Prop) (k:Keep g s.heap) (B:Base S g) (T:Tabs S g s) (ht:s.toks≤t):Tr S W g s g { s with toks:=t } :=
  { Tr.refl W k B T with toks:=ht,now:=⟨Nat.lt_of_lt_of_le T.pos ht,T.all⟩ }
set_option genInjectivity false in
structure Fi where
  scope:Scope
  qual:Str
  code:Value
  vars:List Str
  kinds:List NameKind
  nodup:vars.Nodup
  ok:((vars.zip kinds).all fun p=>scope.names.lookup p.1 == some p.2) = true
theorem Fi.kind (f:Fi) {i:Nat} {x:Str} {kd:NameKind} (h1:f.vars[i]? = some x) (h2:f.kinds[i]? = some kd):f.scope.names.lookup x = some kd:=by
  have h:=List.all_eq_true.mp f.ok (x,kd) (by
    rw [List.mem_iff_getElem?]
    exact ⟨i,by rw [List.getElem?_zip_eq_some];exact ⟨h1,h2⟩⟩)
  simpa using h
theorem Fi.inj (f:Fi) {i j:Nat} {x:Str} (h1:f.vars[i]? = some x) (h2:f.vars[j]? = some x):i = j:=by
  refine e1_1 (List.getElem?_eq_some_iff.mp h1) (fun hi e1=>?_)
  refine e1_1 (List.getElem?_eq_some_iff.mp h2) (fun hj e2=>?_)
  have h:=List.pairwise_iff_getElem.mp f.nodup
  rcases Nat.lt_trichotomy i j with l | l | l
  · exact absurd (e1.trans e2.symm) (h i j hi hj l)
  · exact l
  · exact absurd (e2.trans e1.symm) (h j i hj hi l)
structure EnvIs (f:Fi) (env:Env):Prop where
  scope:env.scope = f.scope
  qual:env.qual = f.qual
  code:env.code = f.code
  globals:env.globals = mainGlobals
  builtins:env.builtins = builtinsNs
  kind:env.scope.kind = .function
inductive B where
  | val (d:D)
  | own (xs:List D)
  | app (i:Nat)
  | cell (d:Option D)
noncomputable def Var (h:Heap) (env:Env) (m:Str→Option Value) (x:Str) (v:Value):Prop :=
  match env.kindOf x with
  | some .local=>m x = some v
  | some .cell=>∃ c,env.cells.lookup x = some c∧h.IsCell c (some v)
  | some .free=>∃ c,env.cells.lookup x = some c∧h.IsCell c (some v)
  | _=>False
noncomputable def OwnList (g h:Heap) (W:Addr→Prop) (a:Addr) (xs:List D):Prop :=
  ∃ vs n,h.get? a = some (listO vs n)∧vs.length≤sizeLine∧Rds g vs xs∧g.get? a = Option.none∧W a
noncomputable def OwnCell (g h:Heap) (W:Addr→Prop) (env:Env) (x:Str) (od:Option D):Prop :=
  ∃ c ov,env.cells.lookup x = some c∧h.IsCell c ov∧g.get? c = Option.none∧W c∧(∀ y,env.cells.lookup y = some c→y = x)∧∀ d,od = some d→∃ v,ov = some v∧Rd g v d
noncomputable abbrev appO (l:Addr):Obj:={ cls:=.type "builtin_function_or_method",data:=.fields #[.builtin "list.append",.ref l] }
noncomputable def BoundAppend (g:Heap) (q a:Addr):Prop:=g.get? q = some (appO a)
noncomputable def Holds (g h:Heap) (W:Addr→Prop) (env:Env) (m:Str→Option Value) (ad:Nat→Addr) (i:Nat) (x:Str):B→Prop
  | .val d=>∃ v,Var h env m x v∧Rd g v d
  | .own xs=>env.kindOf x = some .local∧m x = some (.ref (ad i))∧OwnList g h W (ad i) xs
  | .app y=>env.kindOf x = some .local∧∃ q,m x = some (.ref q)∧BoundAppend g q (ad y)
  | .cell od=>env.kindOf x = some .cell∧OwnCell g h W env x od
noncomputable abbrev Ctxt:=List (Option B)
structure St (S:Sig) (f:Fi) (Γ:Ctxt) (g:Heap) (W:Addr→Prop) (env:Env) (s:Shared):Prop where
  keep:Keep g s.heap
  base:Base S g
  tabs:Tabs S g s
  envIs:EnvIs f env
  wide:∀ a,s.heap.objs.size≤a→W a
  clt:∀ x c,env.cells.lookup x = some c→c < s.heap.objs.size
  vars:∃ m ad,s.heap.Ns env.locals m∧W env.locals∧g.get? env.locals = Option.none ∧
    (∀ i x b,f.vars[i]? = some x→Γ[i]? = some (some b)→Holds g s.heap W env m ad i x b) ∧
    ∀ i j xs ys,Γ[i]? = some (some (.own xs))→Γ[j]? = some (some (.own ys))→ad i = ad j→i = j
theorem Tabs.notT {S:Sig} {g:Heap} {s:Shared} (T:Tabs S g s) {a:Addr} {o:Obj} (e:s.heap.get? a = some o) (hd:∀ vs,o.data ≠ .fields vs):¬ S.T a:=fun ht=>by
  (refine e1_2 (List.mem_map.mp ht) (fun q hq q1q=>?_);subst q1q)
  refine e1_2 (T.all q hq) (fun ps e' _=>?_)
  rw [e] at e'
  cases e'
  exact hd _ rfl
theorem Tabs.newT {S:Sig} {g:Heap} {s:Shared} (T:Tabs S g s) {a:Addr} (h:s.heap.objs.size≤a):¬ S.T a:=fun q =>
  e1_2 (List.mem_map.mp q) fun p hp e=>e1_1 (T.all p hp) fun ps e'=>by subst e;exact absurd (Heap.lt_size e'.1) (Nat.not_lt.mpr h)
section
variable {S:Sig} {V:Addr→Prop} {g g':Heap} {s s':Shared}
theorem Tr.ns (t:Tr S V g s g' s') (T:Tabs S g s) {L:Addr} {m:Str→Option Value} (h:s.heap.Ns L m) (hl:¬ V L):s'.heap.Ns L m:=by
  refine e3_3 (h) (fun o es ep e hd r=>?_)
  (refine e1_2 (t.same L o hl (T.notT e (by rw [hd];nofun)) e) (fun o' e' k=>?_))
  exact ⟨o',es,ep,e',k.data.trans hd,r⟩
theorem Tr.isCell (t:Tr S V g s g' s') (T:Tabs S g s) {c:Addr} {v:Option Value} (h:s.heap.IsCell c v) (hl:¬ V c):s'.heap.IsCell c v:=by
  refine e1_2 (h) (fun o e hd=>?_)
  (refine e1_2 (t.same c o hl (T.notT e (by rw [hd];nofun)) e) (fun o' e' k=>?_))
  exact ⟨o',e',k.data.trans hd⟩
theorem Tr.none (t:Tr S V g s g' s') {a:Addr} (h:g.get? a = Option.none) (hl:¬ V a):g'.get? a = Option.none:=by
  cases e:g'.get? a with
  | none=>rfl
  | some o=>exact (t.fresh a o e).elim (fun q=>by rw [h] at q;cases q) fun q=>absurd q hl
theorem Tr.listO (t:Tr S V g s g' s') (T:Tabs S g s) {a:Addr} {vs:List Value} {n:Nat} (e:s.heap.get? a = some (listO vs n)) (hl:¬ V a):s'.heap.get? a = some (listO vs n) :=
  e1_2 (t.same a _ hl (T.notT e nofun) e) fun o' e' k=>by rw [e',k.eq notNs_list]
theorem Tr.ownList (t:Tr S V g s g' s') (T:Tabs S g s) {W:Addr→Prop} {a:Addr} {xs:List D} (h:OwnList g s.heap W a xs) (hl:¬ V a):OwnList g' s'.heap W a xs:=by
  exact e2_5 h fun vs n e hz r hn hb=>⟨vs,n,t.listO T e hl,hz,r.mono t.mono,t.none hn hl,hb⟩
end
theorem OwnList.lt {g h:Heap} {W:Addr→Prop} {a:Addr} {xs:List D} (x:OwnList g h W a xs):a < h.objs.size:=e2_2 x fun _ _ e _=>Heap.lt_size e
section
variable {S:Sig} {f:Fi} {Γ:Ctxt} {g g':Heap} {W:Addr→Prop} {env:Env} {s s':Shared}
theorem Var.go {h h':Heap} {env:Env} {m m':Str→Option Value} {x:Str} {v:Value} (hv:Var h env m x v) (hm:m x = some v→m' x = some v) (hc:∀ c,env.cells.lookup x = some c→h.IsCell c (some v)→h'.IsCell c (some v)):Var h' env m' x v:=by
  unfold Var at hv ⊢
  generalize env.kindOf x = kd at hv ⊢
  cases kd with
  | none=>exact hv
  | some kd=>cases kd <;> first | exact hm hv | exact e1_2 hv fun c h1 h2=>⟨c,h1,hc c h1 h2⟩ | exact hv
theorem Holds.ownC {h:Heap} {m:Str→Option Value} {ad:Nat→Addr} {i:Nat} {x:Str} {xs:List D} {C:Prop} (H:Holds g h W env m ad i x (.own xs))
    (K:env.kindOf x = some .local→m x = some (.ref (ad i))→∀ vs n,h.get? (ad i) = some (listO vs n)→vs.length≤sizeLine→Rds g vs xs→g.get? (ad i) = Option.none→W (ad i)→C):C :=
  e0_3 H fun a1 a2 r=>e2_5 r (K a1 a2)
theorem Holds.cellC {h:Heap} {m:Str→Option Value} {ad:Nat→Addr} {i:Nat} {x:Str} {od:Option D} {C:Prop} (H:Holds g h W env m ad i x (.cell od))
    (K:env.kindOf x = some .cell→∀ c ov,env.cells.lookup x = some c→h.IsCell c ov→g.get? c = Option.none→W c→(∀ y,env.cells.lookup y = some c→y = x)→(∀ d,od = some d→∃ v,ov = some v∧Rd g v d)→C):C :=
  e0_2 H fun a1 r=>e2_6 r (K a1)
theorem Holds.go {h h':Heap} {W':Addr→Prop} {m m':Str→Option Value} {ad ad':Nat→Addr} {i:Nat} {x:Str} {b:B} (H:Holds g h W env m ad i x b) (kg:Keep g g') (hm:∀ v,m x = some v→m' x = some v)
    (hc:∀ c ov,env.cells.lookup x = some c→h.IsCell c ov→h'.IsCell c ov)
    (ho:∀ xs,b = .own xs→ad' i = ad i∧∀ vs n,h.get? (ad i) = some (listO vs n)→g.get? (ad i) = Option.none→W (ad i)→h'.get? (ad i) = some (listO vs n)∧g'.get? (ad i) = Option.none∧W' (ad i))
    (ha:∀ y,b = .app y→ad' y = ad y)
    (hw:∀ c ov,env.cells.lookup x = some c→h.IsCell c ov→g.get? c = Option.none→W c→g'.get? c = Option.none∧W' c):Holds g' h' W' env m' ad' i x b:=by
  cases b with
  | val d=>exact e1_2 H fun v hv hr=>⟨v,hv.go (hm v) (fun c=>hc c _),hr.mono kg⟩
  | own xs=>exact H.ownC fun a1 a2 vs n a3 a4 a5 a6 a7=>e0_2 (ho xs rfl) fun ea r=>e0_3 (r vs n a3 a6 a7) fun r1 r2 r3=>by unfold Holds OwnList;rw [ea];exact ⟨a1,hm _ a2,vs,n,r1,a4,a5.mono kg,r2,r3⟩
  | app y=>exact e0_2 H fun a1 r=>e1_2 r fun q a2 a3=>⟨a1,q,hm _ a2,by rw [ha y rfl];exact kg _ _ a3⟩
  | cell od=>exact H.cellC fun a1 c ov a2 a3 a4 a5 a6 a7=>e0_2 (hw c ov a2 a3 a4 a5) fun w1 w2=>⟨a1,c,ov,a2,hc c ov a2 a3,w1,w2,a6,fun d e=>e1_2 (a7 d e) fun v e' r=>⟨v,e',r.mono kg⟩⟩
theorem Tr.holds (t:Tr S (Nw s) g s g' s') (T:Tabs S g s) {m:Str→Option Value} {ad:Nat→Addr} {i:Nat} {x:Str} {b:B} (h:Holds g s.heap W env m ad i x b):Holds g' s'.heap W env m ad i x b :=
  h.go t.mono (fun _ e=>e) (fun _ _ _ h2=>t.isCell T h2 (Nat.not_le.mpr h2.lt)) (fun _ _=>⟨rfl,fun _ _ e n w=>⟨t.listO T e (Nat.not_le.mpr (Heap.lt_size e)),t.none n (Nat.not_le.mpr (Heap.lt_size e)),w⟩⟩) (fun _ _=>rfl)
    fun _ _ _ h2 n w=>⟨t.none n (Nat.not_le.mpr h2.lt),w⟩
theorem St.move (h:St S f Γ g W env s) (t:Tr S (Nw s) g s g' s'):St S f Γ g' W env s' where
  keep:=t.keep
  base:=t.base
  tabs:=t.now
  envIs:=h.envIs
  wide:=fun a l=>h.wide a (Nat.le_trans t.size l)
  clt:=fun x c e=>Nat.lt_of_lt_of_le (h.clt x c e) t.size
  vars:=by
    refine e2_5 (h.vars) (fun m ad h1 h2 h3 h4 h5=>?_)
    exact ⟨m,ad,t.ns h.tabs h1 (Nat.not_le.mpr h1.lt),h2,t.none h3 (Nat.not_le.mpr h1.lt),fun i x b e e'=>t.holds h.tabs (h4 i x b e e'),h5⟩
theorem St.new (h:St S f Γ g W env s):∀ a,Nw s a→W a:=h.wide
end
structure Room (S:Sig) (k:Nat) (A:Around):Prop where
  handled:S.hd = true→A.handled = none
  depth:A.depth + k < recursionLimit
  units:A.units + 40 * k + 100 < cLine
noncomputable def EV (S:Sig) (k:Nat) (f:Fi) (Γ:Ctxt) (e:Expr) (d:D):Prop :=
  ∀ (A:Around) (g:Heap) (W:Addr→Prop) (env:Env) (s:Shared) (Q:Value→Shared→Prop) (E:Value→Shared→Prop),Room S k A→St S f Γ g W env s →
    (∀ v g' s',Tr S (Nw s) g s g' s'→Rd g' v d→Q v s')→wpAny S.M A (eval e env) Q E s
noncomputable def TV (S:Sig) (k:Nat) (f:Fi) (Γ:Ctxt) (e:Expr) (b:Bool):Prop :=
  ∀ (A:Around) (g:Heap) (W:Addr→Prop) (env:Env) (s:Shared) (Q:Bool→Shared→Prop) (E:Value→Shared→Prop),Room S k A→St S f Γ g W env s →
    (∀ g' s',Tr S (Nw s) g s g' s'→Q b s')→wpAny S.M A (isTrue e env (eval e env)) Q E s
inductive Res where
  | next (Γ:Ctxt)
  | ret (d:D)
  | brk (Γ:Ctxt)
  | cont (Γ:Ctxt)
noncomputable def Post (S:Sig) (f:Fi) (r:Res) (g:Heap) (W:Addr→Prop) (env:Env) (fl:Flow) (s:Shared):Prop :=
  match r with
  | .next Γ=>fl = .next∧St S f Γ g W env s
  | .ret d=>∃ v,fl = .ret v∧Rd g v d
  | .brk Γ=>fl = .brk∧St S f Γ g W env s
  | .cont Γ=>fl = .cont∧St S f Γ g W env s
noncomputable def EX (S:Sig) (k:Nat) (f:Fi) (Γ:Ctxt) (st:Stmt) (r:Res):Prop :=
  ∀ (A:Around) (g:Heap) (W:Addr→Prop) (env:Env) (s:Shared) (Q:Flow→Shared→Prop) (E:Value→Shared→Prop),Room S k A→St S f Γ g W env s →
    (∀ fl g' s',Tr S W g s g' s'→Post S f r g' W env fl s'→Q fl s')→wpAny S.M A (exec st env) Q E s
noncomputable def EXs (S:Sig) (k:Nat) (f:Fi) (Γ:Ctxt) (sts:List Stmt) (r:Res):Prop :=
  ∀ (A:Around) (g:Heap) (W:Addr→Prop) (env:Env) (s:Shared) (Q:Flow→Shared→Prop) (E:Value→Shared→Prop),Room S k A→St S f Γ g W env s →
    (∀ fl g' s',Tr S W g s g' s'→Post S f r g' W env fl s'→Q fl s')→wpAny S.M A (execs sts env) Q E s
end
section
open PySem PySem.W PySem.Calls PyProof.Rows
structure At (S:Sig) (k:Nat) (A:Around) (g:Heap) (s:Shared):Prop where
  room:Room S k A
  keep:Keep g s.heap
  base:Base S g
  tabs:Tabs S g s
section
variable {S:Sig} {k:Nat} {f:Fi} {Γ:Ctxt} {A:Around} {g g':Heap} {W:Addr→Prop} {env:Env} {s s':Shared}
theorem St.at (h:St S f Γ g W env s) (R:Room S k A):At S k A g s:=⟨R,h.keep,h.base,h.tabs⟩
theorem Tr.at {V:Addr→Prop} (t:Tr S V g s g' s') (R:Room S k A):At S k A g' s':=⟨R,t.keep,t.base,t.now⟩
theorem At.refl (a:At S k A g s) (V:Addr→Prop):Tr S V g s g s:=Tr.refl V a.keep a.base a.tabs
theorem At.tick (a:At S k A g s) (V:Addr→Prop) {t:Nat} (ht:s.toks≤t):Tr S V g s g { s with toks:=t }:=Tr.tick V a.keep a.base a.tabs ht
theorem Tr.then {g₂:Heap} {s₂:Shared} (x:Tr S (Nw s) g s g' s') (y:Tr S (Nw s') g' s' g₂ s₂):Tr S (Nw s) g s g₂ s₂:=x.trans y fun _ l=>Nat.le_trans x.size l
end
noncomputable def Op1 (S:Sig) (k:Nat) (t:Value→Sem Value) (d₁ d:D):Prop :=
  ∀ (A:Around) (g:Heap) (s:Shared) (v₁:Value) (Q:Value→Shared→Prop) (E:Value→Shared→Prop),At S k A g s→Rd g v₁ d₁ →
    (∀ v g' s',Tr S (Nw s) g s g' s'→Rd g' v d→Q v s')→wpAny S.M A (t v₁) Q E s
noncomputable def Op2 (S:Sig) (k:Nat) (t:Value→Value→Sem Value) (d₁ d₂ d:D):Prop :=
  ∀ (A:Around) (g:Heap) (s:Shared) (v₁ v₂:Value) (Q:Value→Shared→Prop) (E:Value→Shared→Prop),At S k A g s→Rd g v₁ d₁→Rd g v₂ d₂ →
    (∀ v g' s',Tr S (Nw s) g s g' s'→Rd g' v d→Q v s')→wpAny S.M A (t v₁ v₂) Q E s
noncomputable def Ops (S:Sig) (k:Nat) (t:List Value→Sem Value) (ds:List D) (d:D):Prop :=
  ∀ (A:Around) (g:Heap) (s:Shared) (vs:List Value) (Q:Value→Shared→Prop) (E:Value→Shared→Prop),At S k A g s→Rds g vs ds →
    (∀ v g' s',Tr S (Nw s) g s g' s'→Rd g' v d→Q v s')→wpAny S.M A (t vs) Q E s
noncomputable def OpT (S:Sig) (k:Nat) (d:D) (b:Bool):Prop :=
  ∀ (A:Around) (g:Heap) (s:Shared) (v:Value) (Q:Bool→Shared→Prop) (E:Value→Shared→Prop),At S k A g s→Rd g v d →
    (∀ g' s',Tr S (Nw s) g s g' s'→Q b s')→wpAny S.M A (truthy v) Q E s
section
variable {S:Sig} {k:Nat} {f:Fi} {Γ:Ctxt} {e l r:Expr} {d d₁ d₂:D} {pos:Pos}
theorem kindOf_eq {f:Fi} {env:Env} (h:EnvIs f env) (x:Str):env.kindOf x = f.scope.names.lookup x:=by
  show env.scope.names.lookup x = _
  rw [h.scope]
theorem EV.name {x:Str} (i:Nat) (hx:f.vars[i]? = some x) (hl:Γ[i]? = some (some (.val d))) (hd:(x == ("__debug__":Str)) = false:=by decide) (hcd:(x == ("__classdict__":Str)) = false:=by decide):EV S k f Γ (.Name x pos) d:=by
  intro A g W env s Q E R st h
  refine e2_5 (st.vars) (fun m ad hns hb hg hH hI=>?_)
  refine e1_2 (hH i x _ hx hl) (fun v hv hr=>?_)
  refine wpAny_Name ?_ hd
  have fin:=h v g s ((st.at R).refl _) hr
  unfold Var at hv
  cases hk:env.kindOf x with
  | none=>rw [hk] at hv;exact hv.elim
  | some kd =>
    rw [hk] at hv
    cases kd <;> first | exact wpAny_loadName_local st.envIs.kind hk hns hv fin | exact e1_2 hv fun c h1 h2=>wpAny_loadName_cell st.envIs.kind hk h1 h2 fin | exact e1_2 hv fun c h1 h2=>wpAny_loadName_free st.envIs.kind hk h1 h2 fin hcd | exact hv.elim
theorem EV.nameC {x:Str} (i:Nat) (hx:f.vars[i]? = some x) (hl:Γ[i]? = some (some (.cell (some d)))) (hd:(x == ("__debug__":Str)) = false:=by decide):EV S k f Γ (.Name x pos) d:=by
  intro A g W env s Q E R st h
  refine e2_5 (st.vars) (fun m ad hns hb hg hH hI=>?_)
  refine (hH i x _ hx hl).cellC fun hk c ov hc hcell _ _ _ hval=>?_
  (refine e1_2 (hval d rfl) (fun v q1q hr=>?_);subst q1q)
  exact wpAny_Name (wpAny_loadName_cell st.envIs.kind hk hc hcell (h v g s ((st.at R).refl _) hr)) hd
theorem EV.global {x:Str} {v:Value} (hk:f.scope.names.lookup x = some .globalImplicit) (hn:nsIn S.K mainGlobals x = some (some v)) (hd:(x == ("__debug__":Str)) = false:=by decide):EV S k f Γ (.Name x pos) (.raw v):=by
  intro A g W env s Q E R st h
  have e:env.globals = mainGlobals:=st.envIs.globals
  refine Name_function_global st.envIs.kind ((kindOf_eq st.envIs x).trans hk) (loadGlobal_global (env:=env) (mg:=S.mg) ?_ (mg_of st.base.kin st.base.glob hn) (h v g s ((st.at R).refl _) (.raw v))) hd
  rw [e]
  exact st.base.glob.keeps st.keep
theorem EV.boot {x:Str} {v:Value} (hk:f.scope.names.lookup x = some .globalImplicit) (hn:nsIn S.K mainGlobals x = some none) (hv:bootBuiltins x = some v) (hx:x ≠ "__name__":=by decide) (hd:(x == ("__debug__":Str)) = false:=by decide):EV S k f Γ (.Name x pos) (.raw v):=by
  intro A g W env s Q E R st h
  have e:env.globals = mainGlobals:=st.envIs.globals
  have e2:env.builtins = builtinsNs:=st.envIs.builtins
  refine Name_function_global st.envIs.kind ((kindOf_eq st.envIs x).trans hk) (loadGlobal_builtin (env:=env) (mg:=S.mg) (mb:=S.mb) ?_ (mg_none_of st.base.kin st.base.glob hn) ?_ ((st.base.boot x hx).trans hv) (h v g s ((st.at R).refl _) (.raw v))) hd
  · rw [e];exact st.base.glob.keeps st.keep
  · rw [e2];exact st.base.blt.keeps st.keep
theorem EV.cInt {i:Int} {kk:Nat}:EV S k f Γ (.Constant (.int i) kk pos) (.int i):=by
  intro A g W env s Q E R st h
  exact wpAny_Constant_int (h _ g _ ((st.at R).tick _ (Nat.le_succ _)) (.int i _))
theorem EV.cStr {x:Str} {cs:List Nat} {kk:Nat} (hx:x.cps.toList = cs) (hl:cs.length≤sizeLine):EV S k f Γ (.Constant (.str x) kk pos) (.str cs):=by
  intro A g W env s Q E R st h
  subst hx
  exact Constant_str (h _ g _ ((st.at R).tick _ (Nat.le_succ _)) (by have:=Rd.str (g:=g) x.cps.toList s.toks hl;simpa using this))
theorem EV.cBool {b:Bool} {kk:Nat}:EV S k f Γ (.Constant (.bool b) kk pos) (.bool b):=by
  intro A g W env s Q E R st h
  exact wpAny_Constant_bool (h _ g _ ((st.at R).refl _) (.raw _))
theorem EV.cNone {kk:Nat}:EV S k f Γ (.Constant .none kk pos) .none:=by
  intro A g W env s Q E R st h
  exact wpAny_Constant_none (h _ g _ ((st.at R).refl _) (.raw _))
theorem EV.bin {op:Operator} (h1:EV S k f Γ l d₁) (h2:EV S k f Γ r d₂) (h3:Op2 S k (binaryOp op) d₁ d₂ d):EV S k f Γ (.BinOp l op r pos) d:=by
  intro A g W env s Q E R st h
  exact wpAny_BinOp (h1 A g W env s _ E R st fun v1 g1 s1 t1 r1=>h2 A g1 W env s1 _ E R (st.move t1) fun v2 g2 s2 t2 r2 =>
    h3 A g2 s2 v1 v2 Q E (t2.at R) (r1.mono t2.mono) r2 fun v g3 s3 t3 r3=>h v g3 s3 ((t1.then t2).then t3) r3)
theorem EV.un {op:UnaryOp} (h1:EV S k f Γ l d₁) (h3:Op1 S k (unaryOp op) d₁ d):EV S k f Γ (.UnaryOp op l pos) d:=by
  intro A g W env s Q E R st h
  exact wpAny_UnaryOp (h1 A g W env s _ E R st fun v1 g1 s1 t1 r1=>h3 A g1 s1 v1 Q E (t1.at R) r1 fun v g3 s3 t3 r3=>h v g3 s3 (t1.then t3) r3)
theorem EV.cmp {op:CmpOp} (h1:EV S k f Γ l d₁) (h2:EV S k f Γ r d₂) (h3:Op2 S k (compareOp op) d₁ d₂ d) (hm:behindInMarks op r = false:=by rfl):EV S k f Γ (.Compare l [op] [r] pos) d:=by
  intro A g W env s Q E R st h
  exact wpAny_Compare1 (h1 A g W env s _ E R st fun v1 g1 s1 t1 r1=>h2 A g1 W env s1 _ E R (st.move t1) fun v2 g2 s2 t2 r2 =>
    h3 A g2 s2 v1 v2 Q E (t2.at R) (r1.mono t2.mono) r2 fun v g3 s3 t3 r3=>h v g3 s3 ((t1.then t2).then t3) r3) hm
theorem OpT.bool {b:Bool}:OpT S k (.bool b) b:=by
  intro A g s v Q E a r h
  cases r using Rd.casesRaw
  exact wpAny_truthy_bool (h g s (a.refl _))
theorem OpT.none:OpT S k .none false:=by
  intro A g s v Q E a r h
  cases r using Rd.casesRaw
  exact fun _ _ _=>h g s (a.refl _)
theorem OpT.str {x:List Nat}:OpT S k (.str x) (decide (x ≠ [])):=by
  intro A g s v Q E a r h
  cases r using Rd.casesStr with
  | str t hs =>
    have hz:=sizeLine_eq
    have e:(((⟨x.toArray⟩:Str).length:Int) != 0) = decide (x ≠ []):=by
      show ((x.toArray.size:Int) != 0) = _
      cases x <;> simp;lia
    refine P.truthy_str ?_ ?_
    · show ¬ ((x.toArray.size:Int) ≥ 2 ^ 63)
      simp only [List.size_toArray];lia
    · rw [e];exact h g _ (a.tick _ (by lia))
theorem OpT.list {xs:List D}:OpT S k (.list xs) (decide (xs ≠ [])):=by
  intro A g s v Q E a r h
  cases r using Rd.casesList with
  | list ho hl rs =>
    rename_i ad vs n
    have hz:=sizeLine_eq
    have hlen:=rs.length
    refine wpAny_truthy_list (items:=vs.toArray) ⟨_,a.keep _ _ ho,rfl,n,rfl⟩ (by simp only [List.size_toArray];lia) ?_
    have e:(!vs.toArray.isEmpty) = decide (xs ≠ []):=by
      cases rs <;> simp
    rw [e];exact h g _ (a.tick _ (by lia))
theorem TV.val (hv:∀ env w,isTrue e env w = (do let v ← w;standAt e.pos;holding [v] (truthy v))) (h1:EV S k f Γ e d) {b:Bool} (h2:OpT S k d b):TV S k f Γ e b:=by
  intro A g W env s Q E R st h
  rw [hv]
  exact wpAny_bind (wpAny_mono (h1 A g W env s (fun v s₁=>wpAny S.M A (truthy v) Q E s₁) E R st fun v1 g1 s1 t1 r1=>h2 A g1 s1 v1 Q E (t1.at R) r1 fun g2 s2 t2=>h g2 s2 (t1.then t2))
    (fun v s₁ h₁=>wpAny_bind (wpAny_standAt (wpAny_holding h₁))) fun _ _ x=>x)
theorem TV.not {b:Bool} (h1:TV S k f Γ e b):TV S k f Γ (.UnaryOp .Not e pos) (!b):=by
  intro A g W env s Q E R st h
  rw [arm_isTrue_UnaryOp]
  exact wpAny_bind (wpAny_mono (h1 A g W env s (fun b' s₁=>Q (!b') s₁) E R st fun g1 s1 t1=>h g1 s1 t1) (fun v s₁ h₁=>wpAny_pure h₁) fun _ _ x=>x)
theorem TV.cmp {op:CmpOp} {b:Bool} (h1:EV S k f Γ l d₁) (h2:EV S k f Γ r d₂) (h3:Op2 S k (compareOp op) d₁ d₂ (.bool b)) (hm:behindInMarks op r = false:=by rfl):TV S k f Γ (.Compare l [op] [r] pos) b:=by
  intro A g W env s Q E R st h
  refine wpAny_isTrue_Compare1 (h1 A g W env s _ E R st fun v1 g1 s1 t1 r1=>h2 A g1 W env s1 _ E R (st.move t1) fun v2 g2 s2 t2 r2 =>
    h3 A g2 s2 v1 v2 _ E (t2.at R) (r1.mono t2.mono) r2 fun v g3 s3 t3 r3=>?_) hm
  exact (OpT.bool (k:=k)) A g3 s3 v Q E (t3.at R) r3 fun g4 s4 t4=>h g4 s4 (((t1.then t2).then t3).then t4)
end
theorem At.push {S:Sig} {k:Nat} {A:Around} {g:Heap} {s:Shared} (a:At S k A g s) (o:Obj) (hf:o.isFreed = false:=by rfl) {t:Nat} (ht:s.toks≤t:=by lia) :
    ∃ g',Tr S (Nw s) g s g' { s with heap:=s.heap.push o,toks:=t }∧g'.get? s.heap.objs.size = some o:=by
  refine e1_3 (Tr.grow (s':={ s with heap:=s.heap.push o,toks:=t }) (fun _=>True) a.keep a.base a.tabs (fun b x e=>Heap.get?_push_of_some _ e) (by simp) rfl rfl ht) (fun g' h1 h2 _=>?_)
  exact ⟨g',h1,h2 _ _ (Heap.get?_push_size _ hf) (Nat.le_refl _) trivial⟩
structure EVs (S:Sig) (k:Nat) (f:Fi) (Γ:Ctxt) (es:List Expr) (ds:List D):Prop where
  plain:∀ env pos,(backTo pos (starEach es env)).any (·.1) = false
  run:∀ (pos:Pos) (A:Around) (g:Heap) (W:Addr→Prop) (env:Env) (s:Shared) (Q:List Value→Shared→Prop) (E:Value→Shared→Prop),Room S k A→St S f Γ g W env s →
    (∀ vs g' s',Tr S (Nw s) g s g' s'→Rds g' vs ds→Q vs s')→wpAny S.M A (spliced (backTo pos (starEach es env))) Q E s
section
variable {S:Sig} {k:Nat} {f:Fi} {Γ:Ctxt} {e l r:Expr} {es:List Expr} {d d₁ d₂:D} {ds:List D} {pos:Pos}
theorem EVs.nil:EVs S k f Γ [] []:=⟨fun _ _=>rfl,fun pos A g W env s Q E R st h=>spliced_nil (h [] g s ((st.at R).refl _) .nil)⟩
theorem EVs.cons (h1:EV S k f Γ e d) (h2:EVs S k f Γ es ds) (hs:∀ env,starEach (e :: es) env = (false,eval e env) :: starEach es env:=by intro _;rfl):EVs S k f Γ (e :: es) (d :: ds):=by
  refine ⟨fun env pos=>?_,fun pos A g W env s Q E R st h=>?_⟩
  · rw [hs]
    show (false || (backTo pos (starEach es env)).any (·.1)) = false
    rw [h2.plain];rfl
  · rw [hs]
    show wpAny S.M A (spliced ((false,eval e env) :: backTo pos (starEach es env))) Q E s
    exact spliced_cons (h1 A g W env s _ E R st fun v g1 s1 t1 r1=>h2.run pos A g1 W env s1 _ E R (st.move t1) fun vs g2 s2 t2 r2=>h _ g2 s2 (t1.then t2) (.cons (r1.mono t2.mono) r2))
theorem EV.list (h:EVs S k f Γ es ds) (hl:ds.length≤sizeLine:=by decide):EV S k f Γ (.List es pos) (.list ds):=by
  intro A g W env s Q E R st hQ
  refine wpAny_List_spliced (h.run pos A g W env s _ E R st fun vs g1 s1 t1 r1=>?_)
  have hlen:=r1.length
  refine e1_2 ((t1.at R).push { cls:=.type "list",data:=.seq vs.toArray } (t:=s1.toks)) (fun g2 t2 e2=>?_)
  exact ⟨by lia,hQ _ g2 _ (t1.then t2) (.list e2 (by lia) (r1.mono t2.mono))⟩
theorem EV.tup {kk:Nat} (h:EVs S k f Γ es ds) (hl:ds.length≤sizeLine:=by decide):EV S k f Γ (.Tuple es kk pos) (.tup ds):=by
  intro A g W env s Q E R st hQ
  refine wpAny_Tuple_spliced (h.run pos A g W env s _ E R st fun vs g1 s1 t1 r1=>?_)
  have hlen:=r1.length
  refine e1_2 ((t1.at R).push { cls:=.type "tuple",data:=.seq vs.toArray } (t:=s1.toks)) (fun g2 t2 e2=>?_)
  exact ⟨by lia,hQ _ g2 _ (t1.then t2) (.tup e2 (by lia) (r1.mono t2.mono))⟩
theorem EV.ifExp {c:Expr} {b:Bool} (h1:TV S k f Γ c b) (h2:b = true→EV S k f Γ l d) (h3:b = false→EV S k f Γ r d):EV S k f Γ (.IfExp c l r pos) d:=by
  intro A g W env s Q E R st hQ
  refine wpAny_IfExp (h1 A g W env s _ E R st fun g1 s1 t1=>?_)
  cases b with
  | true=>exact h2 rfl A g1 W env s1 Q E R (st.move t1) fun v g2 s2 t2 r2=>hQ v g2 s2 (t1.then t2) r2
  | false=>exact h3 rfl A g1 W env s1 Q E R (st.move t1) fun v g2 s2 t2 r2=>hQ v g2 s2 (t1.then t2) r2
noncomputable def ATV (S:Sig) (k:Nat) (f:Fi) (Γ:Ctxt) (op:BoolOp) (es:List Expr) (b:Bool):Prop :=
  ∀ (A:Around) (g:Heap) (W:Addr→Prop) (env:Env) (s:Shared) (Q:Bool→Shared→Prop) (E:Value→Shared→Prop),Room S k A→St S f Γ g W env s →
    (∀ g' s',Tr S (Nw s) g s g' s'→Q b s')→wpAny S.M A (allTrue op es env) Q E s
theorem ATV.andNil:ATV S k f Γ .And [] true:=fun A g W env s Q E R st h=>wpAny_allTrue_And_nil (h g s ((st.at R).refl _))
theorem ATV.orNil:ATV S k f Γ .Or [] false:=fun A g W env s Q E R st h=>wpAny_allTrue_Or_nil (h g s ((st.at R).refl _))
theorem ATV.and {b c:Bool} (h1:TV S k f Γ e b) (h2:b = true→ATV S k f Γ .And es c):ATV S k f Γ .And (e :: es) (b && c):=by
  intro A g W env s Q E R st h
  refine wpAny_allTrue_And_cons (h1 A g W env s _ E R st fun g1 s1 t1=>?_)
  cases b with
  | true=>exact h2 rfl A g1 W env s1 Q E R (st.move t1) fun g2 s2 t2=>h g2 s2 (t1.then t2)
  | false=>exact h g1 s1 t1
theorem ATV.or {b c:Bool} (h1:TV S k f Γ e b) (h2:b = false→ATV S k f Γ .Or es c):ATV S k f Γ .Or (e :: es) (b || c):=by
  intro A g W env s Q E R st h
  refine wpAny_allTrue_Or_cons (h1 A g W env s _ E R st fun g1 s1 t1=>?_)
  cases b with
  | false=>exact h2 rfl A g1 W env s1 Q E R (st.move t1) fun g2 s2 t2=>h g2 s2 (t1.then t2)
  | true=>exact h g1 s1 t1
theorem TV.boolOp {op:BoolOp} {b:Bool} (h:ATV S k f Γ op es b):TV S k f Γ (.BoolOp op es pos) b:=by
  intro A g W env s Q E R st hQ
  exact wpAny_isTrue_BoolOp (h A g W env s Q E R st hQ)
noncomputable def BV (S:Sig) (k:Nat) (f:Fi) (Γ:Ctxt) (op:BoolOp) (es:List Expr) (d:D):Prop :=
  ∀ (pos:Pos) (A:Around) (g:Heap) (W:Addr→Prop) (env:Env) (s:Shared) (Q:Value→Shared→Prop) (E:Value→Shared→Prop),Room S k A→St S f Γ g W env s →
    (∀ v g' s',Tr S (Nw s) g s g' s'→Rd g' v d→Q v s')→wpAny S.M A (boolOp pos op (evalEach es env)) Q E s
theorem BV.last {op:BoolOp} (h:EV S k f Γ e d):BV S k f Γ op [e] d:=fun _ A g W env s Q E R st hQ=>h A g W env s Q E R st hQ
theorem BV.cons {op:BoolOp} {b:Bool} {e':Expr} (h1:EV S k f Γ e d₁) (h2:OpT S k d₁ b) (h3:(b = (op == .Or))→d = d₁) (h4:(b = (op == .And))→BV S k f Γ op (e' :: es) d):BV S k f Γ op (e :: e' :: es) d:=by
  intro pos A g W env s Q E R st hQ
  show wpAny S.M A (do
    let v ← eval e env
    standAt pos
    let t ← holding [v] (truthy v)
    match op,t with
    | .And,false | .Or,true=>pure v
    | _,_=>boolOp pos op (evalEach (e' :: es) env)) Q E s
  refine wpAny_bind (h1 A g W env s _ E R st fun v g1 s1 t1 r1=>wpAny_bind (wpAny_standAt (wpAny_bind (wpAny_holding (h2 A g1 s1 v _ E (t1.at R) r1 fun g2 s2 t2=>?_)))))
  have go:(b = (op == .And))→wpAny S.M A (boolOp pos op (evalEach (e' :: es) env)) Q E s2:=fun q =>
    h4 q pos A g2 W env s2 Q E R ((st.move t1).move t2) fun v' g3 s3 t3 r3=>hQ v' g3 s3 ((t1.then t2).then t3) r3
  have stop:(b = (op == .Or))→wpAny S.M A (pure v) Q E s2:=fun q=>wpAny_pure (hQ v g2 s2 (t1.then t2) (by rw [h3 q];exact r1.mono t2.mono))
  cases op <;> cases b
  · exact stop rfl
  · exact go rfl
  · exact go rfl
  · exact stop rfl
theorem EV.boolOp {op:BoolOp} (h:BV S k f Γ op es d):EV S k f Γ (.BoolOp op es pos) d:=by
  intro A g W env s Q E R st hQ
  rw [arm_eval_BoolOp]
  exact h pos A g W env s Q E R st hQ
theorem evalArgs_any {M:Model} {A:Around} {E:Value→Shared→Prop} {s:Shared} {fv:Value} {args:List (Bool × Sem Value)} {Q:Args→Shared→Prop} (hp:args.any (·.1) = false)
    (h:wpAny M A (spliced args) (fun vs s₁=>Q ⟨vs,[]⟩ s₁) E s):wpAny M A (evalArgs fv true args []) Q E s:=by
  cases args with
  | nil =>
    unfold evalArgs
    show wpAny M A (spliced [] >>= _) Q E s
    refine wpAny_bind (wpAny_mono h (fun vs s₁ h₁=>?_) fun _ _ x=>x)
    refine wpAny_bind (wpAny_pure ?_)
    refine wpAny_holding ?_
    exact wpAny_bind (wpAny_pure (wpAny_bind (wpAny_pure (wpAny_pure h₁))))
  | cons x rest =>
    obtain ⟨b,t⟩:=x
    cases b with
    | true=>simp at hp
    | false=>exact evalArgs_plain h
noncomputable def Callee (S:Sig) (fv:Value):Prop:=∀ h,S.K.In h→∃ kk,(kk = Keeper.frame ∨ kk = Keeper.machine ∨ kk = Keeper.boundFrame)∧Looks S.M h (keeperOf fv) kk
theorem Callee.builtin {id:String}:Callee S (.builtin id):=fun _ _=>⟨.machine,.inr (.inl rfl),.of_pure rfl⟩
theorem Callee.type {T:String}:Callee S (.type T):=fun _ _=>⟨.machine,.inr (.inl rfl),.of_pure rfl⟩
theorem Callee.fn {fv:Value} (h:keepIn S.K fv = true):Callee S fv:=fun hp X=>keeps_K h hp X
theorem EV.call {fn:Expr} {fv:Value} (hn:∀ env,eval (.Call fn es [] pos) env = (do callWith pos (← eval fn env) [] (backTo pos (starEach es env)) (backToKw pos (keywordEach [] env)))) (h1:EV S k f Γ fn (.raw fv)) (hc:Callee S fv) (h2:EVs S k f Γ es ds) (h3:Ops S k (fun vs=>PySem.call fv vs) ds d) :
    EV S k f Γ (.Call fn es [] pos) d:=by
  intro A g W env s Q E R st hQ
  rw [hn]
  refine wpAny_bind (h1 A g W env s _ E R st fun v g1 s1 t1 r1=>?_)
  cases r1 using Rd.casesRaw
  refine callWith_of (P:=fun h=>S.K.In h) (by show ((backTo pos (starEach es env)).any (·.1) || false) = false;rw [h2.plain];rfl) hc ?_
  refine evalArgs_any (h2.plain _ _) (h2.run pos A g1 W env s1 _ E R (st.move t1) fun vs g2 s2 t2 r2=>⟨t2.base.kin.keeps t2.keep,?_⟩)
  exact h3 A g2 s2 vs Q E (t2.at R) r2 fun v' g3 s3 t3 r3=>hQ v' g3 s3 ((t1.then t2).then t3) r3
noncomputable def TyD:D→String→Prop
  | .str _,T=>T = "str"
  | .int _,T=>T = "int"
  | .list _,T=>T = "list"
  | .tup _,T=>T = "tuple"
  | .rng ..,T=>T = "range"
  | .obj _ o,T=>o.cls = .type T∧o.dict = Option.none
  | .raw _,_=>False
theorem ref_is {g:Heap} {a:Addr} {o:Obj} {T:String} {s:Shared} (kp:Keep g s.heap) (e:g.get? a = some o) (hc:o.cls = .type T) (hd:o.dict = Option.none):s.TypeIs (.ref a) T∧∀ b,Value.ref a = .ref b→∃ ob,s.heap.get? b = some ob∧ob.dict = Option.none :=
  ⟨⟨o,kp _ _ e,hc⟩,fun b q=>⟨o,by injection q with q;exact q ▸ kp _ _ e,hd⟩⟩
theorem TyD.is {g:Heap} {v:Value} {d:D} {T:String} {s:Shared} (h:TyD d T) (r:Rd g v d) (kp:Keep g s.heap):s.TypeIs v T∧∀ a,v = .ref a→∃ ob,s.heap.get? a = some ob∧ob.dict = Option.none:=by
  cases r with
  | raw=>exact h.elim
  | int i t=>cases h;exact ⟨typeIs_int s i t,nofun⟩
  | str x t=>cases h;exact ⟨typeIs_str s _ t,nofun⟩
  | list e=>exact ref_is kp e (h ▸ rfl) rfl
  | tup e=>exact ref_is kp e (h ▸ rfl) rfl
  | rng e=>exact ref_is kp e (h ▸ rfl) rfl
  | obj e=>exact ref_is kp e h.1 h.2
theorem EV.meth {o:Expr} {name:Str} {apos:Pos} {T id:String} {d₀:D} (pa:PlainAttrs T) (slot:Slot T name id) (hty:typeOf (.builtin id) = pure (.type "method_descriptor"))
    (h1:EV S k f Γ o d₀) (ht:TyD d₀ T) (h2:EVs S k f Γ es ds) (h3:Ops S k (fun vs=>PySem.call (.builtin id) vs) (d₀ :: ds) d)
    (hbase:∀ env,attributeBase o name env (eval o env) = eval o env:=by intro _;rfl)
    (hline:(apos.endLine == pos.line) = true:=by rfl)
    (hfew:∀ env,((backTo pos (starEach es env)).all (fun x=>!x.1) && (backToKw pos (keywordEach [] env)).all (fun x=>x.1.isSome)
      && decide (es.length + ([]:List Keyword).length + (if ([]:List Keyword).isEmpty then 0 else 1) < 30)) = true:=by intro _;rfl) :
    EV S k f Γ (.Call (.Attribute o name apos) es [] pos) d:=by
  intro A g W env s Q E R st hQ
  refine wpAny_Call_method (T:=T) (id:=id) (hbase env) (hfew env) hline pa slot hty ?_
  refine h1 A g W env s _ E R st fun ov g1 s1 t1 r1=>?_
  refine e0_2 (ht.is r1 t1.keep) (fun hT hd=>?_)
  refine ⟨hT,hd,?_⟩
  refine callWith_of (P:=fun h=>S.K.In h) (by show ((backTo pos (starEach es env)).any (·.1) || false) = false;rw [h2.plain];rfl) (Callee.builtin (S:=S)) ?_
  refine evalArgs_any (h2.plain _ _) (h2.run pos A g1 W env s1 _ E R (st.move t1) fun vs g2 s2 t2 r2=>⟨t2.base.kin.keeps t2.keep,?_⟩)
  exact h3 A g2 s2 (ov :: vs) Q E (t2.at R) (.cons (r1.mono t2.mono) r2) fun v' g3 s3 t3 r3=>hQ v' g3 s3 ((t1.then t2).then t3) r3
theorem EV.item {T id:String} (h1:EV S k f Γ l d₁) (h2:EV S k f Γ r d₂) (ht:TyD d₁ T) (hl:typeLookup (.type T) "__getitem__" = pure (some (.builtin id))) (h3:Op2 S k getItem d₁ d₂ d)
    (hs:∀ o i,subscripted r false o i = operate [o,i] (getItem o i):=by intro _ _;with_unfolding_all rfl):EV S k f Γ (.Subscript l r pos) d:=by
  intro A g W env s Q E R st hQ
  refine Subscript_ (h1 A g W env s _ E R st fun v1 g1 s1 t1 r1=>h2 A g1 W env s1 _ E R (st.move t1) fun v2 g2 s2 t2 r2=>?_)
  refine tail_any (ht.is (r1.mono t2.mono) t2.keep).1 hl ?_ (hs _ _)
  exact h3 A g2 s2 v1 v2 Q E (t2.at R) (r1.mono t2.mono) r2 fun v g3 s3 t3 r3=>hQ v g3 s3 ((t1.then t2).then t3) r3
end
end
section
open PySem PySem.W PySem.Calls PyProof.Rows
section
variable {S:Sig} {k:Nat} {f:Fi} {Γ Γ' Γ₁ Γ₂:Ctxt} {e l r:Expr} {es:List Expr} {d d₁ d₂:D} {ds:List D} {pos p':Pos} {st:Stmt} {sts:List Stmt} {res:Res}
theorem Tr.set {W:Addr→Prop} {a:Addr} {g:Heap} {s:Shared} {h':Heap} {t:Nat} (kp:Keep g s.heap) (B:Base S g) (T:Tabs S g s) (hs:Heap.SameBut a s.heap h') (ha:W a) (hg:g.get? a = Option.none) (hT:¬ S.T a) (ht:s.toks≤t):Tr S W g s g { s with heap:=h',toks:=t } where
  mono:=.refl g
  keep:=fun b o e=>(hs.2 b (fun q=>by rw [q,hg] at e;cases e)).trans (kp b o e)
  same:=fun b o l n e=>⟨o,(hs.2 b (fun q=>l (q ▸ ha))).trans e,.refl o⟩
  fresh:=fun _ _ e=>.inl e
  size:=Nat.le_of_eq hs.1.symm
  tabs:=fun q hq ps e=>⟨#[],by rw [hs.2 q.2 (fun z=>hT (by rw [← z];exact List.mem_map_of_mem hq)),e,Array.append_empty]⟩
  base:=B
  now:=⟨Nat.lt_of_lt_of_le T.pos ht,fun q hq=>e1_3 (T.all q hq) fun ps e1 e2 e3=>⟨ps,(hs.2 q.2 (fun z=>hT (by rw [← z];exact List.mem_map_of_mem hq))).trans e1,e2,e3⟩⟩
  os:=rfl
  bare:=id
  gens:=Nat.le_refl _
  toks:=ht
theorem get_set {Γ:Ctxt} {i j:Nat} {b c:B} (h:(Γ.set i (some b))[j]? = some (some c)):(j = i∧c = b) ∨ (j ≠ i∧Γ[j]? = some (some c)):=by
  rw [List.getElem?_set] at h
  by_cases q:i = j
  · simp only [q,if_true] at h
    split at h
    · simp only [Option.some.injEq] at h;exact .inl ⟨q.symm,h.symm⟩
    · cases h
  · simp only [q,if_false] at h;exact .inr ⟨fun z=>q z.symm,h⟩
theorem inj_set {ad:Nat→Addr} {i:Nat} {b:B} (hb:∀ ys,b ≠ .own ys) (hI:∀ p q xs ys,Γ[p]? = some (some (.own xs))→Γ[q]? = some (some (.own ys))→ad p = ad q→p = q) (p q:Nat) (xs ys:List D)
    (h1:(Γ.set i (some b))[p]? = some (some (.own xs))) (h2:(Γ.set i (some b))[q]? = some (some (.own ys))):ad p = ad q→p = q :=
  (get_set h1).elim (fun e=>absurd e.2.symm (hb xs)) fun h1=>(get_set h2).elim (fun e=>absurd e.2.symm (hb ys)) fun h2=>hI p q xs ys h1.2 h2.2
theorem inj_if {ad:Nat→Addr} {i:Nat} {zs:List D} {a:Addr} (hb:∀ j ys,Γ[j]? = some (some (.own ys))→ad j ≠ a) (hI:∀ p q xs ys,Γ[p]? = some (some (.own xs))→Γ[q]? = some (some (.own ys))→ad p = ad q→p = q) (p q:Nat) (xs ys:List D)
    (h1:(Γ.set i (some (.own zs)))[p]? = some (some (.own xs))) (h2:(Γ.set i (some (.own zs)))[q]? = some (some (.own ys))) (e:(if p = i then a else ad p) = if q = i then a else ad q):p = q :=
  (get_set h1).elim (fun e1=>(get_set h2).elim (fun e2=>e1.1.trans e2.1.symm) fun n2=>by rw [if_pos e1.1,if_neg n2.1] at e;exact absurd e.symm (hb _ _ n2.2))
    fun n1=>(get_set h2).elim (fun e2=>by rw [if_neg n1.1,if_pos e2.1] at e;exact absurd e (hb _ _ n1.2)) fun n2=>by rw [if_neg n1.1,if_neg n2.1] at e;exact hI _ _ _ _ n1.2 n2.2 e
theorem app_ne {i j q:Nat} (hna:(Γ.all fun b=>match b with | some (.app q)=>q != i | _=>true) = true) (hq:Γ[j]? = some (some (.app q))):q ≠ i:=by
  have h:(q != i) = true:=List.all_eq_true.mp hna _ (List.mem_of_getElem? hq)
  exact bne_iff_ne.mp h
theorem ne_get {h:Heap} {a b:Addr} {o o':Obj} (h1:h.get? a = some o) (h2:h.get? b = some o') (h3:o' ≠ o):b ≠ a:=fun q=>h3 (Option.some.inj (h2.symm.trans (q ▸ h1)))
theorem ns_away {h h':Heap} {L a:Addr} {m:Str→Option Value} {o:Obj} (x:h.Ns L m) (hs:Heap.SameBut a h h') (e:h.get? a = some o) (ho:∀ es ep,o.data ≠ .dict es ep):h'.Ns L m :=
  e3_3 x fun o' es ep e1 hd r=>⟨o',es,ep,(hs.2 _ (ne_get e e1 fun q=>ho es ep (q ▸ hd))).trans e1,hd,r⟩
theorem wp_storeL {A:Around} {g:Heap} {W:Addr→Prop} {env:Env} {s:Shared} {m:Str→Option Value} {ad ad':Nat→Addr} {i:Nat} {x:Str} {v:Value} {b:B} {Q:Unit→Shared→Prop} {E:Value→Shared→Prop}
    (kp:Keep g s.heap) (Bs:Base S g) (T:Tabs S g s) (eI:EnvIs f env) (wide:∀ a,s.heap.objs.size≤a→W a) (clt:∀ x c,env.cells.lookup x = some c→c < s.heap.objs.size) (hx:f.vars[i]? = some x) (hk:f.kinds[i]? = some .local)
    (hns:s.heap.Ns env.locals m) (hb:W env.locals) (hg:g.get? env.locals = Option.none) (hH:∀ i x b,f.vars[i]? = some x→Γ[i]? = some (some b)→Holds g s.heap W env m ad i x b)
    (hI:∀ p q xs ys,(Γ.set i (some b))[p]? = some (some (.own xs))→(Γ.set i (some b))[q]? = some (some (.own ys))→ad' p = ad' q→p = q)
    (hnew:∀ h' m',h'.Ns env.locals m'→m' x = some v→Heap.SameBut env.locals s.heap h'→env.kindOf x = some .local→Holds g h' W env m' ad' i x b)
    (hsame:∀ j xs,j ≠ i→Γ[j]? = some (some (.own xs))→ad' j = ad j) (happ:∀ j q,j ≠ i→Γ[j]? = some (some (.app q))→ad' q = ad q)
    (h:∀ g' s',Tr S W g s g' s'→St S f (Γ.set i (some b)) g' W env s'→Q () s'):wpAny S.M A (storeName env x v) Q E s:=by
  have hki:env.kindOf x = some .local:=(kindOf_eq eI x).trans (f.kind hx hk)
  have nT:¬ S.T env.locals:=by refine e3_3 (hns) (fun o es ep e hd _=>?_);exact T.notT e (by rw [hd];nofun)
  refine wpAny_storeName_local hki hns (fun h' hn hs=>?_) (by rw [eI.kind];rfl)
  have t:Tr S W g s g { s with heap:=h',toks:=s.toks + 1 }:=Tr.set kp Bs T hs hb hg nT (Nat.le_succ _)
  refine h g _ t ⟨t.keep,Bs,t.now,eI,fun a l=>wide a (Nat.le_trans t.size l),fun x c e=>Nat.lt_of_lt_of_le (clt x c e) t.size,_,ad',hn,hb,hg,fun j y c hy hc=>?_,hI⟩
  rcases get_set hc with ⟨rfl,rfl⟩ | ⟨hj,hc'⟩
  · obtain rfl:x = y:=Option.some.inj (hx.symm.trans hy)
    exact hnew _ _ hn (by simp) hs hki
  · have hyx:y ≠ x:=fun q=>hj (f.inj hy (q ▸ hx))
    exact (hH j y c hy hc').go (fun _ _ e=>e) (fun v e=>by simp only [if_neg hyx];exact e)
      (fun c ov _ h2=>h2.sameBut hs fun q=>e1_2 h2 fun o e hd=>e3_2 hns fun o' es ep e' r=>ne_get e' e (fun z=>by rw [← z,hd] at r;cases r.1) q)
      (fun xs e=>⟨hsame j xs hj (e ▸ hc'),fun vs n e1 e2 e3=>⟨(hs.2 _ fun q=>e3_2 hns fun o' es ep e' r=>ne_get e' e1 (fun z=>by rw [← z] at r;cases r.1) q).trans e1,e2,e3⟩⟩)
      (fun q e=>happ j q hj (e ▸ hc')) fun _ _ _ _ h4 h5=>⟨h4,h5⟩
noncomputable def AS (S:Sig) (k:Nat) (f:Fi) (Γ:Ctxt) (t:Expr) (d:D) (Γ':Ctxt):Prop :=
  ∀ (A:Around) (g:Heap) (W:Addr→Prop) (env:Env) (s:Shared) (v:Value) (Q:Unit→Shared→Prop) (E:Value→Shared→Prop),Room S k A→St S f Γ g W env s→Rd g v d →
    (∀ g' s',Tr S W g s g' s'→St S f Γ' g' W env s'→Q () s')→wpAny S.M A (assign t env v) Q E s
noncomputable def ASs (S:Sig) (k:Nat) (f:Fi) (Γ:Ctxt) (ts:List Expr) (ds:List D) (Γ':Ctxt):Prop :=
  (∀ env,(assignEach ts env).findIdx? (·.1) = Option.none)∧(∀ env,(assignEach ts env).length = ts.length)∧ts.length = ds.length ∧
  ∀ (A:Around) (g:Heap) (W:Addr→Prop) (env:Env) (s:Shared) (vs:List Value) (Q:Unit→Shared→Prop) (E:Value→Shared→Prop),Room S k A→St S f Γ g W env s→Rds g vs ds →
    (∀ g' s',Tr S W g s g' s'→St S f Γ' g' W env s'→Q () s')→wpAny S.M A (assignInOrder ((assignEach ts env).map (·.2)) vs) Q E s
theorem wp_storeVal {A:Around} {g:Heap} {W:Addr→Prop} {env:Env} {s:Shared} {i:Nat} {x:Str} {v:Value} {Q:Unit→Shared→Prop} {E:Value→Shared→Prop}
    (hx:f.vars[i]? = some x) (hk:f.kinds[i]? = some .local) (st:St S f Γ g W env s) (hr:Rd g v d)
    (h:∀ g' s',Tr S W g s g' s'→St S f (Γ.set i (some (.val d))) g' W env s'→Q () s'):wpAny S.M A (storeName env x v) Q E s:=by
  refine e2_5 (st.vars) (fun m ad hns hb hg hH hI=>?_)
  exact wp_storeL (b:=.val d) (ad:=ad) (ad':=ad) st.keep st.base st.tabs st.envIs st.wide st.clt hx hk hns hb hg hH (inj_set nofun hI) (fun h' m' hn hv hs hki=>⟨v,by unfold Var;rw [hki];exact hv,hr⟩) (fun _ _ _ _=>rfl) (fun _ _ _ _=>rfl) h
theorem AS.name {x:Str} (i:Nat) (hx:f.vars[i]? = some x) (hk:f.kinds[i]? = some .local):AS S k f Γ (.Name x pos) d (Γ.set i (some (.val d))):=by
  intro A g W env s v Q E R st hr h
  rw [arm_assign_Name]
  exact wpAny_bind (wpAny_standAt (wpAny_bindName (wp_storeVal hx hk st hr h)))
theorem AS.cell {x:Str} {od:Option D} (i:Nat) (hx:f.vars[i]? = some x) (hl:Γ[i]? = some (some (.cell od))):AS S k f Γ (.Name x pos) d (Γ.set i (some (.cell (some d)))):=by
  intro A g W env s v Q E R st hr h
  rw [arm_assign_Name]
  refine wpAny_bind (wpAny_standAt (wpAny_bindName ?_))
  refine e2_5 (st.vars) (fun m ad hns hb hg hH hI=>?_)
  refine (hH i x _ hx hl).cellC fun hki c ov hc hcell hgc hbc huniq hval=>?_
  refine wpAny_storeName_cell st.envIs.kind hki hc hcell fun h' hcell' hs=>?_
  have nT:¬ S.T c:=by refine e1_2 (hcell) (fun o e hd=>?_);exact st.tabs.notT e (by rw [hd];nofun)
  have t:Tr S W g s g { s with heap:=h',toks:=s.toks }:=Tr.set st.keep st.base st.tabs hs hbc hgc nT (Nat.le_refl _)
  have ne:∀ {a o},s.heap.get? a = some o→(∀ v,o.data ≠ .cell v)→a ≠ c:=fun {a o} e hd q=>by
    refine e1_2 (hcell) (fun o' e' hd'=>?_)
    rw [q,e'] at e;cases e;exact hd _ hd'
  have hns':h'.Ns env.locals m:=by
    refine e3_3 (hns) (fun o es ep e hd r=>?_)
    exact ⟨o,es,ep,(hs.2 _ (ne e (by rw [hd];nofun))).trans e,hd,r⟩
  refine h g _ t ⟨t.keep,st.base,t.now,st.envIs,fun a l=>st.wide a (Nat.le_trans t.size l),fun x c e=>Nat.lt_of_lt_of_le (st.clt x c e) t.size,m,ad,hns',hb,hg,fun j y b hy hbj=>?_,inj_set nofun hI⟩
  · rcases get_set hbj with ⟨rfl,rfl⟩ | ⟨hj,hb'⟩
    · obtain rfl:x = y:=Option.some.inj (hx.symm.trans hy)
      exact ⟨hki,c,some v,hc,hcell',hgc,hbc,huniq,fun d' e=>by cases e;exact ⟨v,rfl,hr⟩⟩
    · have hyx:y ≠ x:=fun q=>hj (f.inj hy (q ▸ hx))
      exact (hH j y b hy hb').go (fun _ _ e=>e) (fun _ e=>e) (fun c' ov h1 h2=>h2.sameBut hs fun q=>hyx (huniq y (q ▸ h1)))
        (fun xs e=>⟨rfl,fun vs n e1 e2 e3=>⟨(hs.2 _ (ne e1 fun _ q=>by cases q)).trans e1,e2,e3⟩⟩) (fun _ _=>rfl) fun _ _ _ _ h4 h5=>⟨h4,h5⟩
theorem ASs.nil:ASs S k f Γ [] [] Γ:=⟨fun _=>rfl,fun _=>rfl,rfl,fun A g W env s vs Q E R st hr h=>by
  cases hr using Rds.casesNil
  exact wpAny_pure (h g s ((st.at R).refl _) st)⟩
theorem ASs.cons {t:Expr} {ts:List Expr} (h1:AS S k f Γ t d Γ₁) (h2:ASs S k f Γ₁ ts ds Γ') (hs:∀ env,assignEach (t :: ts) env = (false,assign t env) :: assignEach ts env:=by intro _;rfl):ASs S k f Γ (t :: ts) (d :: ds) Γ':=by
  refine e0_4 (h2) (fun a1 a2 a3 a4=>?_)
  refine ⟨fun env=>?_,fun env=>?_,by simp [a3],fun A g W env s vs Q E R st hr h=>?_⟩
  · rw [hs,List.findIdx?_cons];simp [a1]
  · rw [hs,List.length_cons,a2];rfl
  · cases hr using Rds.casesCons with
    | cons r1 r2 =>
      rw [hs]
      show wpAny S.M A (do holding _ (assign t env _);assignInOrder ((assignEach ts env).map (·.2)) _) Q E s
      exact wpAny_bind (wpAny_holding (h1 A g W env s _ _ E R st r1 fun g1 s1 t1 st1=>a4 A g1 W env s1 _ Q E R st1 (r2.mono t1.mono) fun g2 s2 t2 st2=>h g2 s2 (t1.trans t2 (fun _ q=>q)) st2))
theorem AS.tup [Free S] {ts:List Expr} {kk:Nat} (h:ASs S k f Γ ts ds Γ'):AS S k f Γ (.Tuple ts kk pos) (.tup ds) Γ':=by
  intro A g W env s v Q E R st hr hQ
  refine e0_4 (h) (fun a1 a2 a3 a4=>?_)
  cases hr using Rd.casesTup with
  | tup e hl rs =>
    rename_i a vs n
    have hlen:=rs.length
    have ht:s.heap.IsTuple a vs.toArray:=⟨_,st.keep _ _ e,rfl,n,rfl⟩
    rw [arm_assign_Tuple]
    refine wpAny_bind (wpAny_standAt ?_)
    unfold unpack
    rw [show (assignEach ts env).length = vs.toArray.size by rw [a2,a3];simp [hlen],a1 env]
    refine wpAny_bind (wpAny_holding (wpAny_grown (wpAny_unpackItems_tuple (R.handled Free.free) ht fun h' hx G=>?_)))
    have old:Keep s.heap h':=fun b o e=>hx b o (Nat.ne_of_lt (Heap.lt_size e)) e
    refine e1_2 (Tr.grow (s':={ s with heap:=h' }) (fun _=>False) st.keep st.base st.tabs old G.heap rfl rfl (Nat.le_refl _)) (fun g1 t1 _=>?_)
    exact a4 A g1 W env _ _ _ E R (st.move t1) (rs.mono t1.mono) fun g2 s2 t2 st2=>hQ g2 s2 ((t1.weak st.new).trans t2 (fun _ q=>q)) st2
theorem EXs.nil:EXs S k f Γ [] (.next Γ):=fun A g W env s Q E R st h=>wpAny_execs_nil (h _ g s ((st.at R).refl _) ⟨rfl,st⟩)
theorem EXs.cons (h1:EX S k f Γ st (.next Γ₁)) (h2:EXs S k f Γ₁ sts res):EXs S k f Γ (st :: sts) res:=by
  intro A g W env s Q E R st h
  refine wpAny_execs_cons (h1 A g W env s _ E R st fun fl g1 s1 t1 p1=>?_)
  (refine e0_2 (p1) (fun q1q st1=>?_);subst q1q)
  exact h2 A g1 W env s1 Q E R st1 fun fl g2 s2 t2 p2=>h fl g2 s2 (t1.trans t2 (fun _ q=>q)) p2
noncomputable def Res.leaves:Res→Bool
  | .next _=>false
  | _=>true
theorem EXs.stop (h1:EX S k f Γ st res) (hr:res.leaves = true:=by rfl):EXs S k f Γ (st :: sts) res:=by
  intro A g W env s Q E R st h
  refine wpAny_execs_cons (h1 A g W env s _ E R st fun fl g1 s1 t1 p1=>?_)
  have:=h fl g1 s1 t1 p1
  cases res with
  | next _=>(first | cases hr using Rd.casesInt | cases hr using Rd.casesStr | cases hr using Rd.casesRaw | cases hr using Rds.casesNil | cases hr using Rds.casesCons | cases hr using Rd.casesList | cases hr using Rd.casesTup | cases hr)
  | ret d=>(refine e1_2 (p1) (fun v q2q _=>?_);subst q2q);exact this
  | brk Γ=>(refine e0_2 (p1) (fun q3q _=>?_);subst q3q);exact this
  | cont Γ=>(refine e0_2 (p1) (fun q4q _=>?_);subst q4q);exact this
theorem EX.brk:EX S k f Γ (.Break pos) (.brk Γ):=fun A g W env s Q E R st h=>wpAny_Break (h _ g s ((st.at R).refl _) ⟨rfl,st⟩)
theorem EX.cont:EX S k f Γ (.Continue pos) (.cont Γ):=fun A g W env s Q E R st h=>wpAny_Continue (h _ g s ((st.at R).refl _) ⟨rfl,st⟩)
theorem EX.ret (h:EV S k f Γ e d):EX S k f Γ (.Return (some e) pos) (.ret d):=fun A g W env s Q E R st hQ =>
  wpAny_Return_some (h A g W env s _ E R st fun v g1 s1 t1 r1=>hQ _ g1 s1 (t1.weak st.new) ⟨v,rfl,r1⟩)
theorem EX.if {c:Expr} {b:Bool} {body orelse:List Stmt} (h1:TV S k f Γ c b) (h2:b = true→EXs S k f Γ body res) (h3:b = false→EXs S k f Γ orelse res):EX S k f Γ (.If c body orelse pos) res:=by
  intro A g W env s Q E R st hQ
  refine wpAny_If (h1 A g W env s _ E R st fun g1 s1 t1=>?_)
  cases b with
  | true=>exact h2 rfl A g1 W env s1 Q E R (st.move t1) fun fl g2 s2 t2 p2=>hQ fl g2 s2 ((t1.weak st.new).trans t2 (fun _ q=>q)) p2
  | false=>exact h3 rfl A g1 W env s1 Q E R (st.move t1) fun fl g2 s2 t2 p2=>hQ fl g2 s2 ((t1.weak st.new).trans t2 (fun _ q=>q)) p2
theorem EX.assert {c:Expr} {msg:Option Expr} (h1:TV S k f Γ c true):EX S k f Γ (.Assert c msg pos) (.next Γ):=by
  intro A g W env s Q E R st hQ
  rw [arm_exec_Assert]
  exact wpAny_bind (wpAny_standAt (wpAny_bind (h1 A g W env s _ E R st fun g1 s1 t1=>wpAny_pure (hQ _ g1 s1 (t1.weak st.new) ⟨rfl,st.move t1⟩))))
theorem EX.assign {t:Expr} (h1:EV S k f Γ e d) (h2:AS S k f Γ t d Γ₁) (hs:∀ env,swapsWithSole [t] e pos.line env = pure false:=by intro _;rfl) (hw:∀ env,swappedStores [t] e env = pure none:=by intro _;rfl)
    (ha:∀ env v,assignAll v ((assignEach [t] env).map (·.2)) = assign t env v:=by intro _ _;rfl):EX S k f Γ (.Assign [t] e pos) (.next Γ₁):=by
  intro A g W env s Q E R st hQ
  refine wpAny_Assign_stores (h1 A g W env s _ E R st fun v g1 s1 t1 r1=>?_) (hs env) (hw env)
  rw [ha]
  exact h2 A g1 W env s1 v _ E R (st.move t1) r1 fun g2 s2 t2 st2=>hQ _ g2 s2 ((t1.weak st.new).trans t2 (fun _ q=>q)) ⟨rfl,st2⟩
theorem not_interactive {env:Env} (h:EnvIs f env):interactive env = false:=by
  unfold interactive
  rw [h.kind];rfl
theorem EX.aug {x:Str} {op:Operator} (i:Nat) (hx:f.vars[i]? = some x) (hk:f.kinds[i]? = some .local) (hl:Γ[i]? = some (some (.val d₁))) (h1:EV S k f Γ e d₂) (h2:Op2 S k (inplaceOp op) d₁ d₂ d):EX S k f Γ (.AugAssign (.Name x p') op e pos) (.next (Γ.set i (some (.val d)))):=by
  intro A g W env s Q E R st hQ
  refine e2_5 (st.vars) (fun m ad hns hb hg hH hI=>?_)
  refine e1_2 (hH i x _ hx hl) (fun v hv hr=>?_)
  have hki:env.kindOf x = some .local:=(kindOf_eq st.envIs x).trans (f.kind hx hk)
  unfold Var at hv
  rw [hki] at hv
  refine wpAny_AugAssign_Name (wpAny_loadName_local st.envIs.kind hki hns hv (h1 A g W env s _ E R st fun v2 g1 s1 t1 r1=>h2 A g1 s1 v v2 _ E (t1.at R) (hr.mono t1.mono) r1 fun v3 g2 s2 t2 r2=>?_))
  exact wp_storeVal hx hk ((st.move t1).move t2) r2 fun g3 s3 t3 st3=>hQ _ g3 s3 (((t1.then t2).weak st.new).trans t3 (fun _ q=>q)) ⟨rfl,st3⟩
inductive WL (S:Sig) (k:Nat) (f:Fi) (test:Expr) (body:List Stmt):Ctxt→Res→Prop where
  | stop {Γ:Ctxt}:TV S k f Γ test false→WL S k f test body Γ (.next Γ)
  | next {Γ Γ₁:Ctxt} {r:Res}:TV S k f Γ test true→EXs S k f Γ body (.next Γ₁)→WL S k f test body Γ₁ r→WL S k f test body Γ r
  | cont {Γ Γ₁:Ctxt} {r:Res}:TV S k f Γ test true→EXs S k f Γ body (.cont Γ₁)→WL S k f test body Γ₁ r→WL S k f test body Γ r
  | brk {Γ Γ₁:Ctxt}:TV S k f Γ test true→EXs S k f Γ body (.brk Γ₁)→WL S k f test body Γ (.next Γ₁)
  | ret {Γ:Ctxt} {d:D}:TV S k f Γ test true→EXs S k f Γ body (.ret d)→WL S k f test body Γ (.ret d)
noncomputable def Cd (S:Sig) (k:Nat) (f:Fi) (Γ:Ctxt) (c:Env→Code) (r:Res):Prop :=
  ∀ (A:Around) (g:Heap) (W:Addr→Prop) (env:Env) (s:Shared) (R:Result→Shared→Prop),Room S k A→St S f Γ g W env s →
    (∀ fl g' s',Tr S W g s g' s'→Post S f r g' W env fl s'→R (.ok fl) s')→codeAny S.M A (c env) R s
theorem under_loop (A:Around) (test:Expr) (body orelse:List Stmt) (env:Env):A.under (.whileLoop test body orelse env) = A:=Around.under_of_weight rfl
theorem whileTurn_ok {A:Around} {test:Expr} {body:List Stmt} {env:Env} {Q:PySem.Fin→Shared→Prop} {E:Value→Shared→Prop} {s:Shared}
    (h:wpAny S.M A (whileTurn test body [] env) Q E s) (hE:∀ e s,E e s→False):wpAny S.M A ((whileTurn test body [] env).onRaise (fun x=>do noteFrame x env;theTreesLotGoes x)) Q E s :=
  wpAny_onRaise (wpAny_mono h (fun _ _ x=>x) fun _ _ x=>(hE _ _ x).elim)
theorem WL.code {test:Expr} {body:List Stmt} (w:WL S k f test body Γ res):Cd S k f Γ (fun env=>.whileLoop test body [] env) res:=by
  induction w with
  | stop ht =>
    intro A g W env s R Rm st h
    refine codeAny_of_tree ?_
    rw [under_loop]
    refine wpAny_mono (whileTurn_ok (Q:=fun fin s'=>match fin with | .done f=>R (.ok f) s' | .again c'=>c'.quiet = true∧codeAny S.M A c' R s') (E:=fun _ _=>False) ?_ fun _ _ x=>x) (fun _ _ x=>x) fun _ _ x=>x.elim
    unfold whileTurn
    refine wpAny_bind (ht A g W env s _ _ Rm st fun g1 s1 t1=>?_)
    refine wp_ifF Bool.false_ne_true ?_
    exact wpAny_bind (wpAny_execs_nil (wpAny_pure (h _ g1 s1 (t1.weak st.new) ⟨rfl,st.move t1⟩)))
  | next ht hb _ ih =>
    intro A g W env s R Rm st h
    refine codeAny_of_tree ?_
    rw [under_loop]
    refine wpAny_mono (whileTurn_ok (Q:=fun fin s'=>match fin with | .done f=>R (.ok f) s' | .again c'=>c'.quiet = true∧codeAny S.M A c' R s') (E:=fun _ _=>False) ?_ fun _ _ x=>x) (fun _ _ x=>x) fun _ _ x=>x.elim
    unfold whileTurn
    refine wpAny_bind (ht A g W env s _ _ Rm st fun g1 s1 t1=>?_)
    refine wp_ifT rfl ?_
    refine wpAny_bind (hb A g1 W env s1 _ _ Rm (st.move t1) fun fl g2 s2 t2 p2=>?_)
    (refine e0_2 (p2) (fun q5q st2=>?_);subst q5q)
    refine wpAny_pure ⟨rfl,ih A g2 W env s2 R Rm st2 fun fl g3 s3 t3 p3=>h fl g3 s3 (((t1.weak st.new).trans t2 (fun _ q=>q)).trans t3 (fun _ q=>q)) p3⟩
  | cont ht hb _ ih =>
    intro A g W env s R Rm st h
    refine codeAny_of_tree ?_
    rw [under_loop]
    refine wpAny_mono (whileTurn_ok (Q:=fun fin s'=>match fin with | .done f=>R (.ok f) s' | .again c'=>c'.quiet = true∧codeAny S.M A c' R s') (E:=fun _ _=>False) ?_ fun _ _ x=>x) (fun _ _ x=>x) fun _ _ x=>x.elim
    unfold whileTurn
    refine wpAny_bind (ht A g W env s _ _ Rm st fun g1 s1 t1=>?_)
    refine wp_ifT rfl ?_
    refine wpAny_bind (hb A g1 W env s1 _ _ Rm (st.move t1) fun fl g2 s2 t2 p2=>?_)
    (refine e0_2 (p2) (fun q6q st2=>?_);subst q6q)
    refine wpAny_pure ⟨rfl,ih A g2 W env s2 R Rm st2 fun fl g3 s3 t3 p3=>h fl g3 s3 (((t1.weak st.new).trans t2 (fun _ q=>q)).trans t3 (fun _ q=>q)) p3⟩
  | brk ht hb =>
    intro A g W env s R Rm st h
    refine codeAny_of_tree ?_
    rw [under_loop]
    refine wpAny_mono (whileTurn_ok (Q:=fun fin s'=>match fin with | .done f=>R (.ok f) s' | .again c'=>c'.quiet = true∧codeAny S.M A c' R s') (E:=fun _ _=>False) ?_ fun _ _ x=>x) (fun _ _ x=>x) fun _ _ x=>x.elim
    unfold whileTurn
    refine wpAny_bind (ht A g W env s _ _ Rm st fun g1 s1 t1=>?_)
    refine wp_ifT rfl ?_
    refine wpAny_bind (hb A g1 W env s1 _ _ Rm (st.move t1) fun fl g2 s2 t2 p2=>?_)
    (refine e0_2 (p2) (fun q7q st2=>?_);subst q7q)
    exact wpAny_pure (h _ g2 s2 ((t1.weak st.new).trans t2 (fun _ q=>q)) ⟨rfl,st2⟩)
  | ret ht hb =>
    intro A g W env s R Rm st h
    refine codeAny_of_tree ?_
    rw [under_loop]
    refine wpAny_mono (whileTurn_ok (Q:=fun fin s'=>match fin with | .done f=>R (.ok f) s' | .again c'=>c'.quiet = true∧codeAny S.M A c' R s') (E:=fun _ _=>False) ?_ fun _ _ x=>x) (fun _ _ x=>x) fun _ _ x=>x.elim
    unfold whileTurn
    refine wpAny_bind (ht A g W env s _ _ Rm st fun g1 s1 t1=>?_)
    refine wp_ifT rfl ?_
    refine wpAny_bind (hb A g1 W env s1 _ _ Rm (st.move t1) fun fl g2 s2 t2 p2=>?_)
    (refine e1_2 (p2) (fun v q8q r2=>?_);subst q8q)
    exact wpAny_pure (h _ g2 s2 ((t1.weak st.new).trans t2 (fun _ q=>q)) ⟨v,rfl,r2⟩)
theorem EX.while {test:Expr} {body:List Stmt} (w:WL S k f test body Γ res):EX S k f Γ (.While test body [] pos) res:=by
  intro A g W env s Q E R st hQ
  exact wpAny_While (w.code A g W env s _ R st hQ)
end
end
section
open PySem PySem.W PySem.Calls PyProof.Rows
noncomputable def Same (F:Addr→Prop) (s s':Shared):Prop:=∀ a o,F a→s.heap.get? a = some o→s'.heap.get? a = some o
theorem Same.refl (F:Addr→Prop) (s:Shared):Same F s s:=fun _ _ _ e=>e
theorem Same.trans {F:Addr→Prop} {a b c:Shared} (x:Same F a b) (y:Same F b c):Same F a c:=fun p o h e=>y p o h (x p o h e)
noncomputable def Yl (S:Sig) (k:Nat) (F:Addr→Prop) (I:Addr) (tg:Expr):List D→Heap→Shared→Prop
  | [],g,s=>∀ (A:Around) (g':Heap) (s':Shared) (Q:Option Value→Shared→Prop) (E:Value→Shared→Prop),At S k A g' s'→Keep g g'→Same F s s'→(∀ a,F a→g'.get? a = none) →
      (∀ g₁ s₁,Tr S (fun a=>Nw s' a ∨ F a) g' s' g₁ s₁→Q none s₁)→wpAny S.M A (pyNext (.ref I)) Q E s'
  | d :: ds,g,s=>∀ (A:Around) (g':Heap) (s':Shared) (Q:Option Value→Shared→Prop) (E:Value→Shared→Prop),At S k A g' s'→Keep g g'→Same F s s'→(∀ a,F a→g'.get? a = none) →
      (∀ v g₁ s₁,Tr S (fun a=>Nw s' a ∨ F a) g' s' g₁ s₁→(∀ a,F a→g₁.get? a = none) →
        (∀ (f:Fi) (Γ Γ':Ctxt) (W:Addr→Prop) (env:Env) (Q':Unit→Shared→Prop) (E':Value→Shared→Prop),AS S k f Γ tg d Γ'→St S f Γ g₁ W env s₁→(∀ a,F a→¬ W a)→(∀ x c,env.cells.lookup x = some c→¬ F c) →
          (∀ g₂ s₂,Tr S (fun a=>W a ∨ F a) g₁ s₁ g₂ s₂→(∀ a,F a→g₂.get? a = none)→(∀ a o,F a→s₂.heap.get? a = some o→¬ NsObj o)→St S f Γ' g₂ W env s₂→Yl S k F I tg ds g₂ s₂→Q' () s₂)→wpAny S.M A (do letOwnedTupleGo tg (.ref I) v;assign tg env v) Q' E' s₁) →
        Q (some v) s₁)→wpAny S.M A (pyNext (.ref I)) Q E s'
theorem Yl.mono {S:Sig} {k:Nat} {F:Addr→Prop} {I:Addr} {tg:Expr} {ds:List D} {g g':Heap} {s s':Shared} (y:Yl S k F I tg ds g s) (hk:Keep g g') (hs:Same F s s'):Yl S k F I tg ds g' s':=by
  cases ds with
  | nil=>exact fun A g₁ s₁ Q E a k₁ h₁=>y A g₁ s₁ Q E a (hk.trans k₁) (hs.trans h₁)
  | cons d ds=>exact fun A g₁ s₁ Q E a k₁ h₁=>y A g₁ s₁ Q E a (hk.trans k₁) (hs.trans h₁)
noncomputable def Self (S:Sig) (k:Nat) (F:Addr→Prop) (I:Addr) (g:Heap) (s:Shared):Prop :=
  ∀ (A:Around) (g':Heap) (s':Shared) (Q:Value→Shared→Prop) (E:Value→Shared→Prop),At S k A g' s'→Keep g g'→Same F s s'→Q (.ref I) s'→wpAny S.M A (pyIter (.ref I)) Q E s'
noncomputable def It (S:Sig) (k:Nat) (d:D) (tg:Expr) (ds:List D):Prop :=
  ∀ (A:Around) (g:Heap) (s:Shared) (v:Value) (Q:Value→Shared→Prop) (E:Value→Shared→Prop),At S k A g s→Rd g v d →
    (∀ I F g' s',Tr S (Nw s) g s g' s'→(∀ a,F a→Nw s a∧g'.get? a = none∧a < s'.heap.objs.size)→Self S k F I g' s'→Yl S k F I tg ds g' s'→Q (.ref I) s')→wpAny S.M A (pyIter v) Q E s
section
variable {S:Sig} {k:Nat} {f:Fi} {Γ Γ' Γ₁ Γ₂:Ctxt} {e l r:Expr} {es:List Expr} {d d₁ d₂:D} {ds:List D} {pos p':Pos} {st:Stmt} {sts:List Stmt} {res:Res}
theorem St.widen {g:Heap} {W V:Addr→Prop} {env:Env} {s:Shared} (h:St S f Γ g V env s) (hv:∀ a,V a→W a):St S f Γ g W env s where
  keep:=h.keep
  base:=h.base
  tabs:=h.tabs
  envIs:=h.envIs
  wide:=fun a l=>hv a (h.wide a l)
  clt:=h.clt
  vars:=by
    refine e2_5 (h.vars) (fun m ad h1 h2 h3 h4 h5=>?_)
    refine ⟨m,ad,h1,hv _ h2,h3,fun i x b e e'=>?_,h5⟩
    exact (h4 i x b e e').go (fun _ _ e=>e) (fun _ e=>e) (fun _ _ _ h=>h) (fun _ _=>⟨rfl,fun _ _ e1 e2 e3=>⟨e1,e2,hv _ e3⟩⟩) (fun _ _=>rfl) fun _ _ _ _ h5 h6=>⟨h5,hv _ h6⟩
theorem St.without {g g':Heap} {W:Addr→Prop} {env:Env} {s s':Shared} {F:Addr→Prop} (h:St S f Γ g W env s) (t:Tr S (Nw s) g s g' s') (hF:∀ a,F a→Nw s a∧a < s'.heap.objs.size):St S f Γ g' (fun a=>W a∧¬ F a) env s':=by
  have h':=h.move t
  refine e2_5 (h.vars) (fun m ad h1 h2 h3 h4 h5=>?_)
  have nF:∀ {a o},s.heap.get? a = some o→¬ F a:=fun {a o} e q=>absurd (Heap.lt_size e) (Nat.not_lt.mpr (hF a q).1)
  refine ⟨t.keep,t.base,t.now,h.envIs,fun a l=>⟨h'.wide a l,fun q=>absurd (hF a q).2 (Nat.not_lt.mpr l)⟩,h'.clt,m,ad,t.ns h.tabs h1 (Nat.not_le.mpr h1.lt),⟨h2,e3_2 h1 fun o _ _ e _=>nF e⟩,t.none h3 (Nat.not_le.mpr h1.lt),fun i x b e e'=>?_,h5⟩
  exact (h4 i x b e e').go t.mono (fun _ e=>e) (fun _ _ _ h2=>t.isCell h.tabs h2 (Nat.not_le.mpr h2.lt)) (fun _ _=>⟨rfl,fun _ _ e n w=>⟨t.listO h.tabs e (Nat.not_le.mpr (Heap.lt_size e)),t.none n (Nat.not_le.mpr (Heap.lt_size e)),w,nF e⟩⟩) (fun _ _=>rfl)
    fun _ _ _ h2 n w=>⟨t.none n (Nat.not_le.mpr h2.lt),w,e1_1 h2 fun o e=>nF e.1⟩
theorem St.moveF {g g':Heap} {W:Addr→Prop} {env:Env} {s s':Shared} {F:Addr→Prop} (h:St S f Γ g W env s) (t:Tr S (fun a=>Nw s a ∨ F a) g s g' s') (hF:∀ a,F a→¬ W a) (hc:∀ x c,env.cells.lookup x = some c→¬ F c):St S f Γ g' W env s':=by
  refine e2_5 (h.vars) (fun m ad h1 h2 h3 h4 h5=>?_)
  have nV:∀ {a o},s.heap.get? a = some o→W a→¬ (Nw s a ∨ F a):=fun {a o} e w q=>q.elim (fun q=>absurd (Heap.lt_size e) (Nat.not_lt.mpr q)) fun q=>hF a q w
  refine ⟨t.keep,t.base,t.now,h.envIs,fun a l=>h.wide a (Nat.le_trans t.size l),fun x c e=>Nat.lt_of_lt_of_le (h.clt x c e) t.size,m,ad,t.ns h.tabs h1 (e3_2 h1 fun o _ _ e _=>nV e h2),h2,t.none h3 (e3_2 h1 fun o _ _ e _=>nV e h2),fun i x b e e'=>?_,h5⟩
  exact (h4 i x b e e').go t.mono (fun _ e=>e) (fun c _ h1 h2=>t.isCell h.tabs h2 fun q=>q.elim (fun q=>absurd h2.lt (Nat.not_lt.mpr q)) (hc x c h1)) (fun _ _=>⟨rfl,fun _ _ e n w=>⟨t.listO h.tabs e (nV e w),t.none n (nV e w),w⟩⟩) (fun _ _=>rfl)
    fun c _ _ h2 n w=>⟨t.none n (e1_1 h2 fun o e=>nV e.1 w),w⟩
end
section
variable {S:Sig} {k:Nat} {f:Fi} {Γ Γ' Γ₁ Γ₂:Ctxt} {e l r:Expr} {es:List Expr} {d d₁ d₂:D} {ds:List D} {pos p':Pos} {st:Stmt} {sts:List Stmt} {res:Res} {tg:Expr}
theorem Tr.keepF {F:Addr→Prop} {g g':Heap} {s s':Shared} {V:Addr→Prop} (t:Tr S V g s g' s') (T:Tabs S g s) (hF:∀ a o,F a→s.heap.get? a = some o→¬ V a∧(∀ vs,o.data = .fields vs→¬ S.T a)∧¬ NsObj o):Same F s s':=fun a o h e=>by
  refine e0_3 (hF a o h e) (fun h1 h2 h3=>?_)
  have nT:¬ S.T a:=by
    cases q:o.data with
    | fields vs=>exact h2 vs q
    | _=>exact T.notT e (by rw [q];nofun)
  refine e1_2 (t.same a o h1 nT e) (fun o' e' k=>?_)
  rw [e',k.eq h3]
theorem Yl.walks [Free S] {I:Addr} {fp wr:List Addr} {n:Nat} {P:Nat→Value→Prop} {Stt:Nat→Heap→Prop} (Wk:∀ A:Around,A.handled = none→Walks S.prog S.w A I fp wr n P Stt)
    (hlet:∀ i A E s v (Q:Unit→Shared→Prop),Stt i s.heap→Q () s→wpAny S.M A (letOwnedTupleGo tg (.ref I) v) Q E s) (hT:∀ b ∈ wr,¬ S.T b) (hfl:∀ (b:Addr) (o:Obj),b ∈ wr→∀ i h,Stt i h→h.get? b = some o→¬ NsObj o) (hsize:∀ b ∈ wr,∀ i h,Stt i h→(h.get? b).isSome) :
    ∀ (ds:List D) (i:Nat) (g:Heap) (s:Shared),Keep g s.heap→i + ds.length = n→(∀ j d,ds[j]? = some d→∀ g',Keep g g'→∀ v,P (i + j) v→Rd g' v d)→(∀ b ∈ fp,b ∈ wr ∨ ∃ o,g.get? b = some o)→Stt i s.heap→Yl S k (fun a=>a ∈ wr) I tg ds g s:=by
  have step:∀ {g:Heap} {s:Shared} {h':Heap} {tk:Nat} {A:Around},At S k A g s→(∀ b o,b ∉ wr→s.heap.get? b = some o→h'.get? b = some o)→(∀ a,a ∈ wr→g.get? a = none)→Grown s { s with heap:=h',toks:=tk } →
      ∃ g',Tr S (fun a=>Nw s a ∨ a ∈ wr) g s g' { s with heap:=h',toks:=tk }∧∀ a,a ∈ wr→g'.get? a = none:=by
    intro g s h' tk A a hk hg G
    refine e1_3 (Tr.growF (s':={ s with heap:=h',toks:=tk }) (fun a=>a ∈ wr) (fun _=>False) a.keep a.base a.tabs hk hg hT G.heap rfl rfl G.toks) (fun g' t _ h2=>?_)
    refine ⟨g',t,fun b hb=>?_⟩
    cases e:g'.get? b with
    | none=>rfl
    | some o=>exact (h2 b (by rw [e];nofun)).elim (fun q=>absurd (hg b hb) q) fun q=>q.2.elim
  have frame:∀ {i:Nat} {g g':Heap} {s s':Shared},Keep g s.heap→Keep g' s'.heap→Keep g g'→Same (fun a=>a ∈ wr) s s'→(∀ b ∈ fp,b ∈ wr ∨ ∃ o,g.get? b = some o)→Stt i s.heap→Stt i s'.heap:=by
    intro i g g' s s' k1 k2 kg sm hfp hst
    refine (Wk { handled:=none } rfl).frame _ _ _ hst fun b hb o e=>(hfp b hb).elim (fun w=>sm b o w e) fun ⟨o',e'⟩=>?_
    obtain rfl:o = o':=Option.some.inj (e.symm.trans (k1 b o' e'))
    exact k2 _ _ (kg _ _ e')
  intro ds
  induction ds with
  | nil =>
    intro i g s kp hn hP hfp hst A g' s' Q E a kg sm hF hQ
    have fr:Stt n s'.heap:=frame kp a.keep kg sm hfp (by simpa using hn ▸ hst)
    refine wpAny_grown ((Wk A (a.room.handled Free.free)).done s' _ _ fr fun h' tk hk G=>?_)
    refine e1_2 (step a hk hF G) (fun g₁ t _=>?_)
    exact hQ g₁ _ t
  | cons d ds ih =>
    intro i g s kp hn hP hfp hst A g' s' Q E a kg sm hF hQ
    have fr:Stt i s'.heap:=frame kp a.keep kg sm hfp hst
    simp only [List.length_cons] at hn
    refine wpAny_grown ((Wk A (a.room.handled Free.free)).item i s' _ _ (by lia) fr fun v h' tk hPv hst' hk G=>?_)
    refine e1_2 (step a hk hF G) (fun g₁ t hF₁=>?_)
    refine hQ v g₁ _ t hF₁ fun f Γ Γ' W env Q' E' has st hW hc hQ'=>?_
    refine wpAny_bind (hlet (i + 1) A E' _ v _ hst' ?_)
    refine has A g₁ W env _ v Q' E' a.room st (hP 0 d rfl g₁ (kg.trans t.mono) v hPv) fun g₂ s₂ t₂ st₂=>?_
    have hF₂:∀ b,b ∈ wr→g₂.get? b = none:=fun b hb=>t₂.none (hF₁ b hb) (hW b hb)
    have sm₂:Same (fun a=>a ∈ wr) { s' with heap:=h',toks:=tk } s₂:=t₂.keepF t.now fun b o hb e=>⟨hW b hb,fun _ _=>hT b hb,hfl b o hb _ _ hst' e⟩
    have hfp':∀ b ∈ fp,b ∈ wr ∨ ∃ o,g₁.get? b = some o:=fun b hb=>(hfp b hb).imp id fun ⟨o,e⟩=>⟨o,t.mono _ _ (kg _ _ e)⟩
    have hst₂:Stt (i + 1) s₂.heap:=frame t.keep t₂.keep t₂.mono sm₂ hfp' hst'
    refine hQ' g₂ s₂ (t₂.weak fun _=>.inl) hF₂ (fun b o hb e=>hfl b o hb _ _ hst₂ e) st₂ ?_
    refine ih (i + 1) g₂ s₂ t₂.keep (by lia) (fun j d' hj g₃ k₃ v' hv'=>hP (j + 1) d' (by simpa using hj) g₃ (kg.trans (t.mono.trans (t₂.mono.trans k₃))) v' (by rw [show i + (j + 1) = i + 1 + j by lia];exact hv')) (fun b hb=>(hfp' b hb).imp id fun ⟨o,e⟩=>⟨o,t₂.mono _ _ e⟩) hst₂
theorem Self.walks [Free S] {I:Addr} {fp wr:List Addr} {n:Nat} {P:Nat→Value→Prop} {Stt:Nat→Heap→Prop} (Wk:∀ A:Around,A.handled = none→Walks S.prog S.w A I fp wr n P Stt)
    {g:Heap} {s:Shared} (kp:Keep g s.heap) (hfp:∀ b ∈ fp,b ∈ wr ∨ ∃ o,g.get? b = some o) (hst:Stt 0 s.heap):Self S k (fun a=>a ∈ wr) I g s:=by
  intro A g' s' Q E a kg sm hQ
  refine (Wk A (a.room.handled Free.free)).self 0 s' Q E ((Wk A (a.room.handled Free.free)).frame _ _ _ hst fun b hb o e=>(hfp b hb).elim (fun w=>sm b o w e) fun ⟨o',e'⟩=>?_) hQ
  obtain rfl:o = o':=Option.some.inj (e.symm.trans (kp b o' e'))
  exact a.keep _ _ (kg _ _ e')
noncomputable def Plain (tg:Expr):Prop:=∀ (M:Model) (A:Around) (E:Value→Shared→Prop) (s:Shared) (I:Addr) (v:Value) (Q:Unit→Shared→Prop) (T:String) (vs:Array Value) (o:Obj),s.heap.get? I = some o→o.cls = .type T→o.data = .fields vs →
  (["enumerate","zip","dict_itemiterator","dict_reverseitemiterator","odict_iterator","itertools.zip_longest","itertools.pairwise"].contains T) = false→Q () s→wpAny M A (letOwnedTupleGo tg (.ref I) v) Q E s
theorem plain (tg:Expr):Plain tg:=by
  intro M A E s I v Q T vs o ho hc hd hT hQ
  have key:∀ a,wpAny M A (do
      let o ← load I
      match o.cls,o.data with
      | .type n,.fields vs =>
        if ["enumerate","zip","dict_itemiterator","dict_reverseitemiterator","odict_iterator","itertools.zip_longest","itertools.pairwise"].contains n && vs[0]? == some (rawInt a) then
          rule "for.unpacks-the-owned-tuple"
          updateField I 0 .none
      | _,_=>pure ()) Q E s:=fun a=>by
    refine wpAny_bind (wpAny_load ho ?_)
    rw [hc,hd]
    exact wp_ifF (by rw [hT,Bool.false_and];exact Bool.false_ne_true) (wpAny_pure hQ)
  cases tg <;> first | exact wpAny_pure hQ | (cases v <;> first | exact wpAny_pure hQ | exact key _)
theorem It.list [Free S] {xs:List D}:It S k (.list xs) tg xs:=by
  intro A g s v Q E a r hQ
  cases r using Rd.casesList with
  | list e hl rs =>
    rename_i ad vs n
    have hls:s.heap.IsList ad vs.toArray:=⟨_,a.keep _ _ e,rfl,n,rfl⟩
    refine wpAny_pyIter_list hls ?_
    let s':Shared:={ s with heap:=s.heap.push { cls:=.type "list_iterator",data:=.fields #[.ref ad,.int 0 0] } }
    refine e1_3 (Tr.grow (s':=s') (fun _=>False) a.keep a.base a.tabs (fun b x e=>Heap.get?_push_of_some _ e) (by simp [s']) rfl rfl (Nat.le_refl _)) (fun g' t _ h2=>?_)
    have hlt:ad < s.heap.objs.size:=Heap.lt_size (a.keep _ _ e)
    have nT:∀ b,s.heap.objs.size≤b→¬ S.T b:=fun b hb=>a.tabs.newT hb
    refine hQ s.heap.objs.size (fun b=>b ∈ [s.heap.objs.size]) g' s' t (fun b hb=>?_) ?_ ?_
    · obtain rfl:=List.mem_singleton.mp hb
      exact ⟨Nat.le_refl _,h2 _ (Nat.le_refl _) id,by simp [s']⟩
    · refine Self.walks (fun A hh=>Walks.list hh s.heap.objs.size ad (Nat.ne_of_lt hlt) vs.toArray) t.keep (fun b hb=>?_) ⟨⟨_,Heap.get?_push_size _ rfl,rfl,rfl⟩,hls.push _⟩
      rcases List.mem_cons.mp hb with rfl | hb
      · exact .inl (by simp)
      · obtain rfl:=List.mem_singleton.mp hb
        exact .inr ⟨_,t.mono _ _ e⟩
    · refine Yl.walks (fun A hh=>Walks.list hh s.heap.objs.size ad (Nat.ne_of_lt hlt) vs.toArray) (fun i A E s₁ v Q h q=>?_) (fun b hb=>?_) (fun b o hb i h st eb=>?_) (fun b hb i h st=>?_) xs 0 g' s' t.keep ?_ ?_ ?_ ⟨⟨_,Heap.get?_push_size _ rfl,rfl,rfl⟩,hls.push _⟩
      · (refine e0_2 (h) (fun q2q _=>?_);refine e1_3 (q2q) (fun o ho hc hd=>?_))
        exact plain tg _ _ _ _ _ _ _ _ _ o ho hc hd (by decide) q
      · obtain rfl:=List.mem_singleton.mp hb;exact nT _ (Nat.le_refl _)
      · obtain rfl:=List.mem_singleton.mp hb
        (refine e0_2 (st) (fun q3q _=>?_);refine e1_3 (q3q) (fun o' ho hc hd=>?_))
        rw [eb] at ho;cases ho;exact notNs_fields hd
      · obtain rfl:=List.mem_singleton.mp hb
        (refine e0_2 (st) (fun q4q _=>?_);refine e1_3 (q4q) (fun o' ho hc hd=>?_))
        rw [ho];rfl
      · simp [rs.length]
      · intro j d hj g₂ k₂ v hv
        refine e1_2 (rs.get j hj) (fun v' hv' r'=>?_)
        have:v = v':=by simpa [hv'] using hv.symm
        subst this
        exact r'.mono (t.mono.trans k₂)
      · intro b hb
        rcases List.mem_cons.mp hb with rfl | hb
        · exact .inl (by simp)
        · obtain rfl:=List.mem_singleton.mp hb
          exact .inr ⟨_,t.mono _ _ e⟩
noncomputable def intD (a c:Int) (n:Nat):List D:=(List.range n).map fun i=>.int (a + (i:Nat) * c)
theorem It.range [Free S] {a₀ b₀ c₀:Int} {n:Nat} (hsm:Builtin.Range.small a₀ b₀ c₀ = true) (hn:Builtin.Range.rangeSize a₀ b₀ c₀ = (n:Int)):It S k (.rng a₀ b₀ c₀) tg (intD a₀ c₀ n):=by
  intro A g s v Q E a r hQ
  cases r using Rd.casesRng with
  | rng e =>
    rename_i ad t u w
    have hls:IsRange s.heap ad a₀ b₀ c₀ t u w:=a.keep _ _ e
    refine wpAny_pyIter_range hls hsm ?_
    let s':Shared:={ s with heap:=s.heap.push { cls:=.type "range_iterator",data:=.fields #[rawInt a₀,rawInt (Builtin.Range.rangeSize a₀ b₀ c₀),rawInt c₀] } }
    refine e1_3 (Tr.grow (s':=s') (fun _=>False) a.keep a.base a.tabs (fun b x e=>Heap.get?_push_of_some _ e) (by simp [s']) rfl rfl (Nat.le_refl _)) (fun g' t _ h2=>?_)
    have nT:∀ b,s.heap.objs.size≤b→¬ S.T b:=fun b hb=>a.tabs.newT hb
    refine hQ s.heap.objs.size (fun b=>b ∈ [s.heap.objs.size]) g' s' t (fun b hb=>?_) ?_ ?_
    · obtain rfl:=List.mem_singleton.mp hb
      exact ⟨Nat.le_refl _,h2 _ (Nat.le_refl _) id,by simp [s']⟩
    · refine Self.walks (fun A hh=>Walks.range hh s.heap.objs.size a₀ c₀ n) t.keep (fun b hb=>.inl hb) ?_
      show IsRangeIter s'.heap _ _ _ _
      have e1:a₀ + ((0:Nat):Int) * c₀ = a₀:=by simp
      have e2:(n:Int) - ((0:Nat):Int) = n:=by simp
      rw [e1,e2,← hn]
      exact Heap.get?_push_size _ rfl
    · refine Yl.walks (fun A hh=>Walks.range hh s.heap.objs.size a₀ c₀ n) (fun i A E s₁ v Q h q=>?_) (fun b hb=>?_) (fun b o hb i h st eb=>?_) (fun b hb i h st=>?_) (intD a₀ c₀ n) 0 g' s' t.keep ?_ ?_ ?_ ?_
      · exact plain tg _ _ _ _ _ _ _ _ _ _ h rfl rfl (by decide) q
      · obtain rfl:=List.mem_singleton.mp hb;exact nT _ (Nat.le_refl _)
      · obtain rfl:=List.mem_singleton.mp hb
        have st':h.get? s.heap.objs.size = some _:=st
        rw [eb] at st';cases st';exact notNs_fields rfl
      · obtain rfl:=List.mem_singleton.mp hb
        have st':h.get? s.heap.objs.size = some _:=st
        rw [st'];rfl
      · simp [intD]
      · intro j d hj g₂ k₂ v hv
        (refine e1_1 (hv) (fun t' q10q=>?_);subst q10q)
        have hj':j < n:=by
          have:=(List.getElem?_eq_some_iff.mp hj).1
          simpa [intD] using this
        have:d = .int (a₀ + ((0 + j:Nat):Int) * c₀):=by
          simp [intD,hj'] at hj
          simp [← hj]
        rw [this]
        exact .int _ _
      · intro b hb
        exact .inl hb
      · show IsRangeIter s'.heap _ _ _ _
        have e1:a₀ + ((0:Nat):Int) * c₀ = a₀:=by simp
        have e2:(n:Int) - ((0:Nat):Int) = n:=by simp
        rw [e1,e2,← hn]
        exact Heap.get?_push_size _ rfl
theorem bind_assoc' {α β γ:Type} {M:Model} {A:Around} {E:Value→Shared→Prop} {s:Shared} {a:Sem α} {b:Sem β} {c:β→Sem γ} {Q:γ→Shared→Prop} (h:wpAny M A (do let _ ← a;b) (fun x s'=>wpAny M A (c x) Q E s') E s):wpAny M A (do let _ ← a;let x ← b;c x) Q E s:=by
  intro Γ p hΓ
  have:=h Γ p hΓ
  simp only [Sem.wp_bind'] at this ⊢
  exact Sem.wp_mono _ _ _ (fun x p' s' h'=>Sem.wp_mono _ _ _ (fun y p'' s'' h''=>h'' Γ p'' hΓ) (fun _ _ _ h=>h) _ _ h') (fun _ _ _ h=>h) _ _ this
inductive FL (S:Sig) (k:Nat) (f:Fi) (tg:Expr) (body:List Stmt):Ctxt→List D→Res→Prop where
  | nil {Γ:Ctxt}:FL S k f tg body Γ [] (.next Γ)
  | next {Γ Γ₁ Γ₂:Ctxt} {d:D} {ds:List D} {r:Res}:AS S k f Γ tg d Γ₁→EXs S k f Γ₁ body (.next Γ₂)→FL S k f tg body Γ₂ ds r→FL S k f tg body Γ (d :: ds) r
  | cont {Γ Γ₁ Γ₂:Ctxt} {d:D} {ds:List D} {r:Res}:AS S k f Γ tg d Γ₁→EXs S k f Γ₁ body (.cont Γ₂)→FL S k f tg body Γ₂ ds r→FL S k f tg body Γ (d :: ds) r
  | brk {Γ Γ₁ Γ₂:Ctxt} {d:D} {ds:List D}:AS S k f Γ tg d Γ₁→EXs S k f Γ₁ body (.brk Γ₂)→FL S k f tg body Γ (d :: ds) (.next Γ₂)
  | ret {Γ Γ₁:Ctxt} {d d':D} {ds:List D}:AS S k f Γ tg d Γ₁→EXs S k f Γ₁ body (.ret d')→FL S k f tg body Γ (d :: ds) (.ret d')
theorem under_for (A:Around) (tg:Expr) (it:Value) (body orelse:List Stmt) (env:Env):A.under (.forLoop tg it body orelse env) = A:=Around.under_of_weight rfl
theorem forTurn_ok {A:Around} {it:Value} {body:List Stmt} {env:Env} {Q:PySem.Fin→Shared→Prop} {s:Shared}
    (h:wpAny S.M A (forTurn tg it body [] env) Q (fun _ _=>False) s) {E:Value→Shared→Prop}:wpAny S.M A ((forTurn tg it body [] env).onRaise (fun x=>do noteFrame x env;theTreesLotGoes x)) Q E s :=
  wpAny_onRaise (wpAny_mono h (fun _ _ x=>x) fun _ _ x=>x.elim)
theorem FL.code {body:List Stmt} {I:Addr} {F:Addr→Prop} (fl:FL S k f tg body Γ ds res):∀ (A:Around) (g:Heap) (W:Addr→Prop) (env:Env) (s:Shared) (R:Result→Shared→Prop),Room S k A→St S f Γ g W env s→(∀ a,F a→¬ W a)→(∀ x c,env.cells.lookup x = some c→¬ F c)→(∀ a,F a→g.get? a = none)→(∀ a,F a→¬ S.T a) →
    Yl S k F I tg ds g s→(∀ r g' s',Tr S (fun a=>W a ∨ F a) g s g' s'→Post S f res g' W env r s'→R (.ok r) s')→codeAny S.M A (.forLoop tg (.ref I) body [] env) R s:=by
  induction fl with
  | nil =>
    intro A g W env s R Rm st hW hc hg hT y hR
    refine codeAny_of_tree ?_
    rw [under_for]
    refine forTurn_ok ?_
    unfold forTurn
    refine wpAny_bind (wpAny_standAt (wpAny_bind (wpAny_onRaise ?_)))
    refine y A g s _ _ (st.at Rm) (.refl g) (.refl F s) hg fun g₁ s₁ t₁=>?_
    refine wpAny_pure ⟨rfl,codeAny_block (wpAny_execs_nil ?_)⟩
    exact hR _ g₁ s₁ (t₁.weak fun a=>Or.imp (st.new a) id) ⟨rfl,st.moveF t₁ hW hc⟩
  | next has hb _ ih =>
    intro A g W env s R Rm st hW hc hg hT y hR
    refine codeAny_of_tree ?_
    rw [under_for]
    refine forTurn_ok ?_
    unfold forTurn
    refine wpAny_bind (wpAny_standAt (wpAny_bind (wpAny_onRaise ?_)))
    refine y A g s _ _ (st.at Rm) (.refl g) (.refl F s) hg fun v g₁ s₁ t₁ hg₁ hass=>?_
    dsimp only
    refine bind_assoc' (hass f _ _ W env _ _ has (st.moveF t₁ hW hc) hW hc fun g₂ s₂ t₂ hg₂ hfr st₂ y₂=>?_)
    refine wpAny_bind (hb A g₂ W env s₂ _ _ Rm st₂ fun fl g₃ s₃ t₃ p₃=>?_)
    (refine e0_2 (p₃) (fun q11q st₃=>?_);subst q11q)
    have sm:Same F s₂ s₃:=t₃.keepF st₂.tabs fun a o h e=>⟨hW a h,fun _ _=>hT a h,hfr a o h e⟩
    refine wpAny_pure ⟨rfl,ih A g₃ W env s₃ R Rm st₃ hW hc (fun a h=>t₃.none (hg₂ a h) (hW a h)) hT (y₂.mono t₃.mono sm) fun r g₄ s₄ t₄ p₄=>?_⟩
    exact hR r g₄ s₄ (((t₁.weak fun a=>Or.imp (st.new a) id).trans t₂ fun _ q=>q).trans t₃ (fun _=>.inl) |>.trans t₄ fun _ q=>q) p₄
  | cont has hb _ ih =>
    intro A g W env s R Rm st hW hc hg hT y hR
    refine codeAny_of_tree ?_
    rw [under_for]
    refine forTurn_ok ?_
    unfold forTurn
    refine wpAny_bind (wpAny_standAt (wpAny_bind (wpAny_onRaise ?_)))
    refine y A g s _ _ (st.at Rm) (.refl g) (.refl F s) hg fun v g₁ s₁ t₁ hg₁ hass=>?_
    dsimp only
    refine bind_assoc' (hass f _ _ W env _ _ has (st.moveF t₁ hW hc) hW hc fun g₂ s₂ t₂ hg₂ hfr st₂ y₂=>?_)
    refine wpAny_bind (hb A g₂ W env s₂ _ _ Rm st₂ fun fl g₃ s₃ t₃ p₃=>?_)
    (refine e0_2 (p₃) (fun q12q st₃=>?_);subst q12q)
    have sm:Same F s₂ s₃:=t₃.keepF st₂.tabs fun a o h e=>⟨hW a h,fun _ _=>hT a h,hfr a o h e⟩
    refine wpAny_pure ⟨rfl,ih A g₃ W env s₃ R Rm st₃ hW hc (fun a h=>t₃.none (hg₂ a h) (hW a h)) hT (y₂.mono t₃.mono sm) fun r g₄ s₄ t₄ p₄=>?_⟩
    exact hR r g₄ s₄ (((t₁.weak fun a=>Or.imp (st.new a) id).trans t₂ fun _ q=>q).trans t₃ (fun _=>.inl) |>.trans t₄ fun _ q=>q) p₄
  | brk has hb =>
    intro A g W env s R Rm st hW hc hg hT y hR
    refine codeAny_of_tree ?_
    rw [under_for]
    refine forTurn_ok ?_
    unfold forTurn
    refine wpAny_bind (wpAny_standAt (wpAny_bind (wpAny_onRaise ?_)))
    refine y A g s _ _ (st.at Rm) (.refl g) (.refl F s) hg fun v g₁ s₁ t₁ hg₁ hass=>?_
    dsimp only
    refine bind_assoc' (hass f _ _ W env _ _ has (st.moveF t₁ hW hc) hW hc fun g₂ s₂ t₂ hg₂ hfr st₂ y₂=>?_)
    refine wpAny_bind (hb A g₂ W env s₂ _ _ Rm st₂ fun fl g₃ s₃ t₃ p₃=>?_)
    (refine e0_2 (p₃) (fun q13q st₃=>?_);subst q13q)
    exact wpAny_pure (hR _ g₃ s₃ (((t₁.weak fun a=>Or.imp (st.new a) id).trans t₂ fun _ q=>q).trans t₃ (fun _=>.inl)) ⟨rfl,st₃⟩)
  | ret has hb =>
    intro A g W env s R Rm st hW hc hg hT y hR
    refine codeAny_of_tree ?_
    rw [under_for]
    refine forTurn_ok ?_
    unfold forTurn
    refine wpAny_bind (wpAny_standAt (wpAny_bind (wpAny_onRaise ?_)))
    refine y A g s _ _ (st.at Rm) (.refl g) (.refl F s) hg fun v g₁ s₁ t₁ hg₁ hass=>?_
    dsimp only
    refine bind_assoc' (hass f _ _ W env _ _ has (st.moveF t₁ hW hc) hW hc fun g₂ s₂ t₂ hg₂ hfr st₂ y₂=>?_)
    refine wpAny_bind (hb A g₂ W env s₂ _ _ Rm st₂ fun fl g₃ s₃ t₃ p₃=>?_)
    (refine e1_2 (p₃) (fun v' q14q r₃=>?_);subst q14q)
    exact wpAny_pure (hR _ g₃ s₃ (((t₁.weak fun a=>Or.imp (st.new a) id).trans t₂ fun _ q=>q).trans t₃ (fun _=>.inl)) ⟨v',rfl,r₃⟩)
theorem EX.for {iter:Expr} {body:List Stmt} (h1:EV S k f Γ iter d) (h2:It S k d tg ds) (h3:FL S k f tg body Γ ds res) (hs:∀ env x,foldedSetIterable iter env x = pure x:=by intro _ _;rfl):EX S k f Γ (.For tg iter body [] pos) res:=by
  intro A g W env s Q E R st hQ
  refine wpAny_For (h1 A g W env s _ E R st fun v g₁ s₁ t₁ r₁=>h2 A g₁ s₁ v _ E (t₁.at R) r₁ fun I F g₂ s₂ t₂ hF _ y=>?_) (hs env)
  have st₁:=st.move t₁
  have st₂:=st₁.without t₂ fun a h=>⟨(hF a h).1,(hF a h).2.2⟩
  have hc:∀ x c,env.cells.lookup x = some c→¬ F c:=fun x c e h=>absurd (st₁.clt x c e) (Nat.not_lt.mpr (hF c h).1)
  have hT:∀ a,F a→¬ S.T a:=fun a h=>st₁.tabs.newT (hF _ h).1
  refine h3.code A g₂ _ env s₂ _ R st₂ (fun a h q=>q.2 h) hc (fun a h=>(hF a h).2.1) hT y fun r g₃ s₃ t₃ p₃=>?_
  have inW:∀ a,(W a∧¬ F a) ∨ F a→W a:=fun a q=>q.elim And.left fun h=>st₁.new a (hF a h).1
  refine hQ r g₃ s₃ (((t₁.then t₂).weak st.new).trans t₃ inW) ?_
  cases res with
  | next Γ'=>exact ⟨p₃.1,p₃.2.widen fun _=>And.left⟩
  | ret d=>exact p₃
  | brk Γ'=>exact ⟨p₃.1,p₃.2.widen fun _=>And.left⟩
  | cont Γ'=>exact ⟨p₃.1,p₃.2.widen fun _=>And.left⟩
end
end
section
open PySem PySem.W PySem.Calls PyProof.Rows
theorem bindL_off {kd:Str→Option NameKind} {y:Str} (bs:List (Str × Value)) (m:Str→Option Value) (h:∀ p ∈ bs,p.1 ≠ y):bindL kd bs m y = m y:=by
  induction bs generalizing m with
  | nil=>rfl
  | cons p r ih =>
    show bindL kd r _ y = m y
    rw [ih _ fun p hp=>h p (.tail _ hp)]
    have hn:y ≠ p.1:=fun q=>h p (.head _) q.symm
    split <;> simp [hn]
theorem bindC_off {kd:Str→Option NameKind} {y:Str} (bs:List (Str × Value)) (m:Str→Option Value) (h:∀ p ∈ bs,p.1 ≠ y):bindC kd bs m y = m y:=by
  induction bs generalizing m with
  | nil=>rfl
  | cons p r ih =>
    show bindC kd r _ y = m y
    rw [ih _ fun p hp=>h p (.tail _ hp)]
    have hn:y ≠ p.1:=fun q=>h p (.head _) q.symm
    split <;> simp [hn]
theorem zip_off {y:Str} {names:List Str} {vs:List Value} (h:y ∉ names):∀ p ∈ names.zip vs,p.1 ≠ y:=fun p hp q=>h (q ▸ (List.of_mem_zip hp).1)
theorem bindL_get {kd:Str→Option NameKind} {x:Str} {v:Value} (hk:kd x = some .local) (names:List Str) (vs:List Value) (m:Str→Option Value) (i:Nat) (hd:names.Nodup) (h1:names[i]? = some x) (h2:vs[i]? = some v):bindL kd (names.zip vs) m x = some v:=by
  induction names generalizing vs m i with
  | nil=>exact nomatch h1
  | cons n ns ih =>
    cases vs with
    | nil=>exact nomatch h2
    | cons w ws =>
      cases i with
      | zero =>
        cases h1;cases h2
        show bindL kd (ns.zip ws) _ x = some v
        rw [bindL_off _ _ (zip_off (List.nodup_cons.mp hd).1),if_pos hk]
        simp
      | succ i=>exact ih ws _ i (List.nodup_cons.mp hd).2 h1 h2
theorem bindC_get {kd:Str→Option NameKind} {x:Str} {v:Value} (hk:kd x ≠ some .local) (names:List Str) (vs:List Value) (m:Str→Option Value) (i:Nat) (hd:names.Nodup) (h1:names[i]? = some x) (h2:vs[i]? = some v):bindC kd (names.zip vs) m x = some v:=by
  induction names generalizing vs m i with
  | nil=>exact nomatch h1
  | cons n ns ih =>
    cases vs with
    | nil=>exact nomatch h2
    | cons w ws =>
      cases i with
      | zero =>
        cases h1;cases h2
        show bindC kd (ns.zip ws) _ x = some v
        rw [bindC_off _ _ (zip_off (List.nodup_cons.mp hd).1),if_neg hk]
        simp
      | succ i=>exact ih ws _ i (List.nodup_cons.mp hd).2 h1 h2
noncomputable def ctx0:List NameKind→List D→Ctxt
  | [],_=>[]
  | kd :: ks,d :: ds=>some (if kd = .cell then .cell (some d) else .val d) :: ctx0 ks ds
  | kd :: ks,[]=>(if kd = .cell then some (.cell none) else none) :: ctx0 ks []
theorem ctx0_get (ks:List NameKind) (ds:List D) (i:Nat) (kd:NameKind) (b:B) (h1:ks[i]? = some kd) (h2:(ctx0 ks ds)[i]? = some (some b)) :
    (∃ d,ds[i]? = some d∧b = if kd = .cell then .cell (some d) else .val d) ∨ (ds[i]? = none∧kd = .cell∧b = .cell none):=by
  induction ks generalizing ds i with
  | nil=>exact absurd h1 nofun
  | cons k ks ih =>
    cases i with
    | zero =>
      cases Option.some.inj h1
      cases ds with
      | cons d ds=>exact .inl ⟨d,rfl,(Option.some.inj (Option.some.inj h2)).symm⟩
      | nil =>
        have e:(if kd = .cell then some (.cell none) else none) = some b:=Option.some.inj h2
        by_cases hk:kd = .cell
        · rw [if_pos hk] at e;exact .inr ⟨rfl,hk,(Option.some.inj e).symm⟩
        · rw [if_neg hk] at e;cases e
    | succ i=>cases ds with
      | cons d ds=>exact ih ds i h1 h2
      | nil=>exact ih [] i h1 h2
theorem ctx0_len (ks:List NameKind) (ds:List D):(ctx0 ks ds).length = ks.length:=by
  induction ks generalizing ds with
  | nil=>rfl
  | cons k ks ih=>cases ds <;> exact congrArg (· + 1) (ih _)
noncomputable def FnAt (S:Sig) (a:Addr) (f:Fi) (names:List Str) (body:List Stmt):Prop :=
  (∃ oc od osl name qual params dV kV doc pm an ct,S.K.lookup a = some ⟨oc,od,.func (fnOf name qual params body f.scope dV kV doc pm an f.code ct),osl⟩∧codeIn S.K f.code qual = true∧f.qual = qual ++ ".<locals>." ∧
    ∀ vs:List Value,vs.length = names.length→bindArgs (fnOf name qual params body f.scope dV kV doc pm an f.code ct) ⟨vs,[]⟩ = pure (names.zip vs)) ∧
  f.scope.kind = .function∧f.scope.isCoroutine = false∧f.scope.isGenerator = false∧f.vars.take names.length = names∧f.kinds.length = f.vars.length∧f.kinds.all (fun kd=>kd == .local || kd == .cell) = true
section
variable {S:Sig} {a:Addr} {f:Fi} {names:List Str} {body:List Stmt} (F:FnAt S a f names body)
include F
theorem FnAt.kind:f.scope.kind = .function:=F.2.1
theorem FnAt.co:f.scope.isCoroutine = false:=F.2.2.1
theorem FnAt.gen:f.scope.isGenerator = false:=F.2.2.2.1
theorem FnAt.pre:f.vars.take names.length = names:=F.2.2.2.2.1
theorem FnAt.len:f.kinds.length = f.vars.length:=F.2.2.2.2.2.1
theorem FnAt.lc:f.kinds.all (fun kd=>kd == .local || kd == .cell) = true:=F.2.2.2.2.2.2
end
theorem FnAt.of {S:Sig} {a:Addr} {f:Fi} {names:List Str} {body:List Stmt} {oc:Value} {od:Option Addr} {osl:Array (Option Value)} {name qual:Str} {params:Arguments} {dV kV doc pm an ct:_}
    (h1:S.K.lookup a = some ⟨oc,od,.func (fnOf name qual params body f.scope dV kV doc pm an f.code ct),osl⟩) (h2:codeIn S.K f.code qual = true) (h3:f.qual = qual ++ ".<locals>.")
    (h4:∀ vs:List Value,vs.length = names.length→bindArgs (fnOf name qual params body f.scope dV kV doc pm an f.code ct) ⟨vs,[]⟩ = pure (names.zip vs)) (kind:f.scope.kind = .function) (co:f.scope.isCoroutine = false) (gen:f.scope.isGenerator = false)
    (pre:f.vars.take names.length = names) (len:f.kinds.length = f.vars.length) (lc:f.kinds.all (fun kd=>kd == .local || kd == .cell) = true):FnAt S a f names body :=
  ⟨⟨oc,od,osl,name,qual,params,dV,kV,doc,pm,an,ct,h1,h2,h3,h4⟩,kind,co,gen,pre,len,lc⟩
theorem Room.under {S:Sig} {k:Nat} {A:Around} {env:Env} (R:Room S (k + 1) A):Room S k (A.deeper env):=⟨R.handled,by have:=R.depth;show A.depth + 1 + k < _;lia,by have:=R.units;show A.units + 3 + 40 * k + 100 < _;lia⟩
theorem ctx0_own {ks:List NameKind} {ds:List D} {i:Nat} {xs:List D} (h:(ctx0 ks ds)[i]? = some (some (.own xs))):False:=by
  have hi:i < ks.length:=by
    have:=(List.getElem?_eq_some_iff.mp h).1
    rwa [ctx0_len] at this
  rcases ctx0_get _ _ _ _ _ (List.getElem?_eq_getElem hi) h with ⟨d',_,q⟩ | ⟨_,_,q⟩
  · split at q <;> cases q
  · cases q
structure NewFrame (f:Fi) (names:List Str) (vs:List Value) (s:Shared) (env:Env) (s':Shared):Prop where
  eI:EnvIs f env
  loc:env.locals = s.heap.objs.size
  frame:env.frame = some env.locals
  cells:env.cells = cellsFrom (s.heap.objs.size + 1) f.scope.names []
  x:InCallC s env.locals (bindL env.kindOf (names.zip vs) fun _=>none) env.cells (bindC env.kindOf (names.zip vs) fun _=>none) s'
theorem Fn.callGo {S:Sig} {a:Addr} {f:Fi} {names:List Str} {body:List Stmt} (F:FnAt S a f names body) {A:Around} {s:Shared} {vs:List Value} {Q:Value→Shared→Prop} {E:Value→Shared→Prop} {R:Shared→Prop} (hvl:vs.length = names.length) (KI:S.K.In s.heap) (hd:A.depth < recursionLimit) (NL:s.heap.NoLimit)
    (hN:∀ {qual:Str} {func:Option Addr} {Q:Env→Shared→Prop} {E:Value→Shared→Prop},(∀ env,env = newEnv f.scope s.heap.objs.size mainGlobals (cellsFrom (s.heap.objs.size + 1) f.scope.names []) qual func f.code none builtinsNs →
      ∀ s',InCallC s env.locals (bindL env.kindOf (names.zip vs) fun _=>none) env.cells (bindC env.kindOf (names.zip vs) fun _=>none) s'→R s'→Q env s')→wpAny S.M A.in1 (newFunctionEnv f.scope mainGlobals [] (names.zip vs) qual func f.code none builtinsNs) Q E s)
    (hb:∀ (env:Env) (s':Shared),NewFrame f names vs s env s'→R s'→Grown s s'→∀ (Q':Flow→Shared→Prop) (E':Value→Shared→Prop),(∀ v s₂,Q v s₂→Q' (.ret v) s₂)→wpAny S.M (A.deeper env) (execs body env) Q' E' s'):wpAny S.M A (call (.ref a) vs) Q E s:=by
  refine byC fun C hC=>?_
  obtain ⟨oc,od,osl,name,qual,params,dV,kV,doc,pm,an,ct,hlook,hcode,hqual,hbind⟩:=F.1
  refine hC ?_
  clear hC
  refine wpAny_call (codeAny_call_function (fd:=fnOf name qual params body f.scope dV kV doc pm an f.code ct) hd (KI _ _ hlook) rfl F.co F.gen rfl (codeRec_of KI hcode) ?_)
  rw [hbind vs hvl]
  refine wpAny_pure (wpAny_grown (hN fun env he s' x r G=>⟨NL.keeps x.toInCall.keep,codeAny_func ?_⟩))
  exact hb env s' ⟨⟨by rw [he];rfl,by rw [he,hqual];rfl,by rw [he];rfl,by rw [he];rfl,by rw [he];rfl,by rw [he];exact F.kind⟩,by rw [he];rfl,by rw [he];rfl,by rw [he];rfl,x⟩ r G _ _ fun v s₂ h=>h
theorem FnAt.kd {S:Sig} {a:Addr} {f:Fi} {names:List Str} {body:List Stmt} (F:FnAt S a f names body) {i:Nat} {x:Str} (e:f.vars[i]? = some x) {C:Prop} (K:∀ kd,f.kinds[i]? = some kd→(kd = .local ∨ kd = .cell)→f.scope.names.lookup x = some kd→C):C:=by
  have hi:i < f.kinds.length:=by rw [F.len];exact (List.getElem?_eq_some_iff.mp e).1
  refine K f.kinds[i] (List.getElem?_eq_getElem hi) ?_ (f.kind e (List.getElem?_eq_getElem hi))
  have:=List.all_eq_true.mp F.lc _ (List.getElem_mem hi)
  simpa using this
theorem Fn.core {S:Sig} {a:Addr} {f:Fi} {names:List Str} {body:List Stmt} {ds:List D} (F:FnAt S a f names body) (hl:names.length = ds.length) {g:Heap} {s s':Shared} {vs:List Value} {env:Env} {n:Nat} (kp:Keep g s.heap) (Bs:Base S g) (T:Tabs S g { s with toks:=n }) (rs:Rds g vs ds)
    (N:NewFrame f names vs s env s') (hz:s.heap.objs.size≤s'.heap.objs.size) (ht:n≤s'.toks):∃ g',Tr S (Nw s) g { s with toks:=n } g' s'∧St S f (ctx0 f.kinds ds) g' (Nw s) env s':=by
  have hloc:=N.loc
  have x:=N.x
  have hkE:∀ x,env.kindOf x = f.scope.names.lookup x:=fun x=>by show env.scope.names.lookup x = _;rw [N.eI.scope]
  (refine e2_1 (x.toInCall.same) (fun h₁ tk q2q=>?_);subst q2q)
  refine e1_3 (Tr.grow (s:={ s with toks:=n }) (s':={ s with heap:=h₁,toks:=tk }) (fun _=>False) kp Bs T x.toInCall.keep hz rfl rfl ht) (fun g' t _ hno=>?_)
  have above:∀ {y c},env.cells.lookup y = some c→s.heap.objs.size≤c:=fun {y c} hc=>by have:=x.above y c (mem_of_lookup hc);rw [hloc] at this;exact Nat.le_of_lt this
  refine ⟨g',t,t.keep,t.base,t.now,N.eI,fun a l=>Nat.le_trans t.size l,fun y c e=>(x.cell y c e).lt,_,fun _=>0,x.toInCall.ns,by show s.heap.objs.size≤env.locals;rw [hloc];exact Nat.le_refl _,hno _ (by rw [hloc];exact Nat.le_refl _) id,fun i y b hy hb'=>?_,fun i j xs ys h1 h2 _=>(ctx0_own h1).elim⟩
  refine F.kd hy fun kd hki hlk hlook'=>?_
  have cell:∀ {od:Option D},kd = .cell→(∀ d,od = some d→∃ v,bindC env.kindOf (names.zip vs) (fun _=>none) y = some v∧Rd g' v d)→Holds g' h₁ (Nw s) env (bindL env.kindOf (names.zip vs) fun _=>none) (fun _=>0) i y (.cell od):=fun {od} e hv=>by
    subst e
    refine e1_1 (Option.isSome_iff_exists.mp (cellsFrom_some f.scope.names (s.heap.objs.size + 1) [] (.inl hlook'))) (fun c hc=>?_)
    rw [← N.cells] at hc
    exact ⟨by rw [hkE,hlook'],c,_,hc,x.cell y c hc,hno _ (above hc) id,above hc,fun z hz=>name_of_addr x.apart (mem_of_lookup hz) (mem_of_lookup hc),hv⟩
  rcases ctx0_get _ _ _ _ _ hki hb' with ⟨d',hd',rfl⟩ | ⟨hd',e,rfl⟩
  · refine e1_2 (rs.get i hd') (fun v hv hr=>?_)
    have hnd:names.Nodup:=by rw [← F.pre];exact f.nodup.sublist (List.take_sublist _ _)
    have hni:names[i]? = some y:=by
      have hi:i < names.length:=by rw [hl];exact (List.getElem?_eq_some_iff.mp hd').1
      rw [← F.pre,List.getElem?_take,if_pos hi,hy]
    rcases hlk with rfl | rfl
    · refine ⟨v,?_,hr.mono t.mono⟩
      unfold Var
      rw [hkE,hlook']
      exact bindL_get (by rw [hkE,hlook']) names vs _ i hnd hni hv
    · exact cell rfl fun d'' e=>by cases e;exact ⟨v,bindC_get (by rw [hkE,hlook'];decide) names vs _ i hnd hni hv,hr.mono t.mono⟩
  · exact cell e nofun
theorem FnAt.binds {S:Sig} {a:Addr} {f:Fi} {names:List Str} {body:List Stmt} (F:FnAt S a f names body) {vs:List Value} {n:Nat} (p:Str × Value) (hp:p ∈ names.zip vs):f.scope.names.lookup p.1 = some .local ∨ (f.scope.names.lookup p.1 = some .cell∧((cellsFrom n f.scope.names []).lookup p.1).isSome = true):=by
  refine e1_1 (List.getElem_of_mem (List.of_mem_zip hp).1) fun i h=>e1_1 h fun hi e=>?_
  have:f.vars[i]? = some p.1:=by
    have q:(f.vars.take names.length)[i]? = some p.1:=by rw [F.pre,List.getElem?_eq_getElem hi,e]
    rwa [List.getElem?_take,if_pos hi] at q
  refine F.kd this fun kd _ hk hlk=>?_
  rcases hk with rfl | rfl
  · exact .inl hlk
  · exact .inr ⟨hlk,cellsFrom_some _ _ _ (.inl hlk)⟩
theorem Fn.introG {S:Sig} {k:Nat} {a:Addr} {f:Fi} {names:List Str} {body:List Stmt} {ds:List D} {d:D} (F:FnAt S a f names body) (hl:names.length = ds.length) {A:Around} {g:Heap} {s:Shared} {vs:List Value} {Q:Value→Shared→Prop} {E:Value→Shared→Prop} (at':At S (k + 1) A g s) (rs:Rds g vs ds)
    (hb:∀ (env:Env) (g':Heap) (s':Shared) (Q':Flow→Shared→Prop) (E':Value→Shared→Prop),env.frame = some env.locals→env.locals = s.heap.objs.size→Tr S (Nw s) g s g' s'→St S f (ctx0 f.kinds ds) g' (Nw s) env s' →
      (∀ fl g₂ s₂,Tr S (Nw s) g' s' g₂ s₂→Post S f (.ret d) g₂ (Nw s) env fl s₂→Q' fl s₂)→wpAny S.M (A.deeper env) (execs body env) Q' E' s')
    (hQ:∀ v g' s',Tr S (Nw s) g s g' s'→Rd g' v d→Q v s'):wpAny S.M A (call (.ref a) vs) Q E s:=by
  have hvl:vs.length = names.length:=by rw [rs.length,hl]
  refine Fn.callGo F (R:=fun _=>True) hvl (at'.base.kin.keeps at'.keep) (by have:=at'.room.depth;lia) (at'.base.nolimit.keeps at'.keep) (fun h=>wpAny_newFunctionEnv_cells F.kind F.binds fun env he s' x=>h env he s' x trivial) fun env s' N _ G Q' E' hq=>?_
  refine e1_2 (Fn.core F hl at'.keep at'.base at'.tabs rs N G.heap G.toks) fun g' t st=>?_
  exact hb env g' s' Q' E' N.frame N.loc t st fun fl g₂ s₂ t₂ p₂=>e1_2 p₂ fun v q r=>by subst q;exact hq v s₂ (hQ v g₂ s₂ (t.trans t₂ fun _ l=>l) r)
theorem Fn.intro {S:Sig} {k:Nat} {a:Addr} {f:Fi} {names:List Str} {body:List Stmt} {ds:List D} {d:D} (F:FnAt S a f names body) (hl:names.length = ds.length) (hb:EXs S k f (ctx0 f.kinds ds) body (.ret d)):Ops S (k + 1) (fun vs=>call (.ref a) vs) ds d :=
  fun A g s vs Q E at' rs hQ=>Fn.introG F hl at' rs (fun env g' s' Q' E' _ _ _ st h=>hb _ g' _ env s' Q' E' at'.room.under st h) hQ
end
section
open PySem PySem.W PySem.Calls PyProof.Rows
section
variable {S:Sig} {k:Nat} {f:Fi} {Γ Γ' Γ₁ Γ₂:Ctxt} {e l r:Expr} {es:List Expr} {d d₁ d₂:D} {ds:List D} {pos p':Pos} {sts:List Stmt} {res:Res}
theorem Tr.take {g:Heap} {s:Shared} {W:Addr→Prop} {a:Addr} {o:Obj} (kp:Keep g s.heap) (B:Base S g) (T:Tabs S g s) (ho:s.heap.get? a = some o) (hT:¬ S.T a) (ha:W a) :
    ∃ g',Tr S W g s g' s∧g'.get? a = some o∧∀ b,b ≠ a→g'.get? b = g.get? b:=by
  have mono:Keep g (cut s.heap fun b=>(g.get? b).isSome || b == a):=fun b o' e=>cut_some.mpr ⟨by simp [e],kp b o' e⟩
  have off:∀ b,b ≠ a→(cut s.heap fun b=>(g.get? b).isSome || b == a).get? b = g.get? b:=fun b hb=>by
    rw [cut_get]
    have:(b == a) = false:=by simpa using hb
    rw [this,Bool.or_false]
    cases e:g.get? b with
    | none=>rfl
    | some o'=>exact kp b o' e
  have hT':∀ q ∈ S.tabs,(cut s.heap fun b=>(g.get? b).isSome || b == a).get? q.2 = Option.none:=fun q hq=>by
    rw [off _ fun z=>hT (z ▸ List.mem_map_of_mem hq)];exact (B.heads q hq).2
  refine ⟨cut s.heap fun b=>(g.get? b).isSome || b == a,⟨mono,fun b o' e=>(cut_some.mp e).2,fun b o' _ _ e=>⟨o',e,.refl o'⟩,fun b o' e=>?_,Nat.le_refl _,fun _ _ ps e=>⟨#[],by rw [e,Array.append_empty]⟩,B.mono mono hT',⟨T.pos,fun q hq=>?_⟩,rfl,id,Nat.le_refl _,Nat.le_refl _⟩,cut_some.mpr ⟨by simp,ho⟩,off⟩
  · by_cases hb:b = a
    · exact .inr (hb ▸ ha)
    · rw [off b hb] at e;exact .inl e
  · refine e1_3 (T.all q hq) (fun ps e1 e2 e3=>?_)
    exact ⟨ps,e1,e2,fun pos cv e=>(e3 pos cv e).keeps mono⟩
theorem Tr.drop {g g' g'':Heap} {s s'':Shared} {V:Addr→Prop} {a:Addr} (B:Base S g) (hg:g.get? a = Option.none) (hoff:∀ b,b ≠ a→g'.get? b = g.get? b) (hd:∀ o,g'.get? a = some o→∀ vs,o.data ≠ .fields vs) (ha:g'.get? a ≠ Option.none) (t:Tr S V g' s g'' s'') :
    ∃ g₃,Tr S V g s g₃ s'':=by
  have get:∀ b,(cut g'' fun b=>!(b == a)).get? b = if b = a then Option.none else g''.get? b:=fun b=>by
    rw [cut_get];by_cases hb:b = a <;> simp [hb]
  have mono:Keep g (cut g'' fun b=>!(b == a)):=fun b o e=>by
    have hb:b ≠ a:=fun q=>by rw [q,hg] at e;cases e
    rw [get,if_neg hb]
    exact t.mono b o ((hoff b hb).trans e)
  refine ⟨cut g'' fun b=>!(b == a),⟨mono,fun b o e=>?_,t.same,fun b o e=>?_,t.size,t.tabs,B.mono mono fun q hq=>?_,⟨t.now.pos,fun q hq=>?_⟩,t.os,t.bare,t.gens,t.toks⟩⟩
  · rw [get] at e;split at e
    · cases e
    · exact t.keep b o e
  · rw [get] at e;split at e
    · cases e
    · rename_i hb
      exact (t.fresh b o e).imp (fun q=>(hoff b hb).symm.trans q) id
  · rw [get];split
    · rfl
    · exact (t.base.heads q hq).2
  · refine e1_3 (t.now.all q hq) (fun ps e1 e2 e3=>?_)
    refine ⟨ps,e1,e2,fun pos cv e=>?_⟩
    refine e4_4 (e3 pos cv e) (fun c o vs tt h1 h2 h3 h4=>?_)
    refine ⟨c,o,vs,tt,h1,?_,h3,h4⟩
    rw [get,if_neg]
    · exact h2
    · rintro rfl
      cases q':g'.get? c with
      | none=>exact ha q'
      | some o' =>
        have:=t.mono _ _ q'
        rw [h2] at this;cases this
        exact hd _ q' _ h3
theorem St.freeze {g:Heap} {W:Addr→Prop} {env:Env} {s:Shared} {j:Nat} {xs:List D} (st:St S f Γ g W env s) (hj:Γ[j]? = some (some (.own xs))) (hx:j < f.vars.length) :
    ∃ a vs n g',g.get? a = Option.none∧g'.get? a = some (listO vs n)∧(∀ b,b ≠ a→g'.get? b = g.get? b)∧Tr S W g s g' s∧St S f (Γ.set j (some (.val (.list xs)))) g' W env s:=by
  refine e2_5 (st.vars) (fun m ad hns hb hg hH hI=>?_)
  have hx':f.vars[j]? = some f.vars[j]:=List.getElem?_eq_getElem hx
  refine (hH j _ _ hx' hj).ownC fun hk hm vs n e hz rs hn hw=>?_
  refine e1_3 (Tr.take st.keep st.base st.tabs e (st.tabs.notT e nofun) hw) (fun g' t h1 h2=>?_)
  refine ⟨ad j,vs,n,g',hn,h1,h2,t,t.keep,t.base,t.now,st.envIs,st.wide,st.clt,m,ad,hns,hb,?_,fun i x b hy hb'=>?_,inj_set nofun hI⟩
  · rw [h2];exact hg
    exact e3_2 hns fun o es ep e' r=>ne_get e e' fun q=>by rw [q] at r;cases r.1
  · rcases get_set hb' with ⟨rfl,rfl⟩ | ⟨hi,hb''⟩
    · have:f.vars[i] = x:=Option.some.inj (hx'.symm.trans hy)
      refine ⟨.ref (ad i),?_,.list h1 hz (rs.mono t.mono)⟩
      unfold Var
      rw [← this,hk];exact hm
    · exact (hH i x b hy hb'').go t.mono (fun _ e=>e) (fun _ _ _ h=>h) (fun ys eb=>⟨rfl,fun _ _ e1 e2 e3=>⟨e1,(h2 _ fun q=>hi (hI _ _ _ _ (eb ▸ hb'') hj q)).trans e2,e3⟩⟩) (fun _ _=>rfl)
        fun _ _ _ h5 h6 h7=>⟨(h2 _ (e1_1 h5 fun o e'=>ne_get e e'.1 fun q=>by rw [q] at e';cases e'.2)).trans h6,h7⟩
theorem EXs.freeze {xs:List D} (j:Nat) (hj:Γ[j]? = some (some (.own xs))) (h:EXs S k f (Γ.set j (some (.val (.list xs)))) sts res) (hx:j < f.vars.length:=by decide):EXs S k f Γ sts res:=by
  intro A g W env s Q E R st hQ
  refine e4_5 (st.freeze hj hx) (fun a vs n g' _ _ _ t st'=>?_)
  exact h A g' W env s Q E R st' fun fl g₂ s₂ t₂ p₂=>hQ fl g₂ s₂ (t.trans t₂ fun _ q=>q) p₂
theorem EV.borrow {xs:List D} (j:Nat) (hj:Γ[j]? = some (some (.own xs))) (h:EV S k f (Γ.set j (some (.val (.list xs)))) e d) (hd:d.flat = true:=by rfl) (hx:j < f.vars.length:=by decide):EV S k f Γ e d:=by
  intro A g W env s Q E R st hQ
  refine e4_5 (st.freeze hj hx) (fun a vs n g' h1 h2 h3 t st'=>?_)
  refine h A g' W env s Q E R st' fun v g₂ s₂ t₂ r₂=>?_
  (refine e1_1 (Tr.drop st.base h1 h3 (fun o e=>by rw [h2] at e;cases e;nofun) (by rw [h2];nofun) t₂) (fun g₃ t₃=>?_))
  exact hQ v g₃ s₂ t₃ (r₂.flat_any hd)
theorem TV.borrow {xs:List D} {b:Bool} (j:Nat) (hj:Γ[j]? = some (some (.own xs))) (h:TV S k f (Γ.set j (some (.val (.list xs)))) e b) (hx:j < f.vars.length:=by decide):TV S k f Γ e b:=by
  intro A g W env s Q E R st hQ
  refine e4_5 (st.freeze hj hx) (fun a vs n g' h1 h2 h3 t st'=>?_)
  refine h A g' W env s Q E R st' fun g₂ s₂ t₂=>?_
  (refine e1_1 (Tr.drop st.base h1 h3 (fun o e=>by rw [h2] at e;cases e;nofun) (by rw [h2];nofun) t₂) (fun g₃ t₃=>?_))
  exact hQ g₃ s₂ t₃
noncomputable def OwnChg (S:Sig) (f:Fi) (Γ:Ctxt) (g₀:Heap) (s₀:Shared) (g:Heap) (W:Addr→Prop) (env:Env) (s:Shared) (j:Nat) (a:Addr):Prop :=
  ∀ h' vs' n' xs' t,h'.get? a = some (listO vs' n')→Heap.SameBut a s.heap h'→vs'.length≤sizeLine→Rds g vs' xs'→s.toks≤t →
    Tr S W g₀ s₀ g { s with heap:=h',toks:=t }∧St S f (Γ.set j (some (.own xs'))) g W env { s with heap:=h',toks:=t }
noncomputable def AppAt (f:Fi) (Γ:Ctxt) (g:Heap) (env:Env) (m:Str→Option Value) (j:Nat) (a:Addr):Prop :=
  ∀ (i:Nat) (y:Str),Γ[i]? = some (some (B.app j))→f.vars[i]? = some y→env.kindOf y = some .local∧∃ q,m y = some (.ref q)∧g.get? q = some (appO a)
theorem St.own {g:Heap} {W:Addr→Prop} {env:Env} {s:Shared} {j:Nat} {x:Str} {xs:List D} {C:Prop} (st:St S f Γ g W env s) (hj:Γ[j]? = some (some (.own xs))) (hx:f.vars[j]? = some x)
    (K:∀ a m vs n,env.kindOf x = some .local→s.heap.Ns env.locals m→m x = some (.ref a)→s.heap.get? a = some (listO vs n)→vs.length≤sizeLine→Rds g vs xs→AppAt f Γ g env m j a→OwnChg S f Γ g s g W env s j a→C):C:=by
  refine e2_5 (st.vars) (fun m ad hns hb hg hH hI=>?_)
  refine (hH j _ _ hx hj).ownC fun hk hm vs n e hz rs hn hw=>?_
  refine K (ad j) m vs n hk hns hm e hz rs (fun i y hi hy=>hH i y _ hy hi) (fun h' vs' n' xs' t e' hs hz' rs' ht=>?_)
  have T:Tr S W g s g { s with heap:=h',toks:=t }:=Tr.set st.keep st.base st.tabs hs hw hn (st.tabs.notT e nofun) ht
  refine ⟨T,T.keep,st.base,T.now,st.envIs,fun a l=>st.wide a (Nat.le_trans T.size l),fun y c e=>Nat.lt_of_lt_of_le (st.clt y c e) T.size,m,ad,ns_away hns hs e nofun,hb,hg,fun i y b hy hb'=>?_,fun p q xs₁ ys₁ e1 e2=>?_⟩
  · rcases get_set hb' with ⟨rfl,rfl⟩ | ⟨hi,hb''⟩
    · obtain rfl:x = y:=Option.some.inj (hx.symm.trans hy)
      exact ⟨hk,hm,vs',n',e',hz',rs',hn,hw⟩
    · exact (hH i y b hy hb'').go (fun _ _ e=>e) (fun _ e=>e) (fun _ _ _ hc=>hc.sameBut hs (e1_1 hc fun o e1=>ne_get e e1.1 fun q=>by rw [q] at e1;cases e1.2))
        (fun ys eb=>⟨rfl,fun _ _ a1 a2 a3=>⟨(hs.2 _ fun q=>hi (hI _ _ _ _ (eb ▸ hb'') hj q)).trans a1,a2,a3⟩⟩) (fun _ _=>rfl) fun _ _ _ _ h4 h5=>⟨h4,h5⟩
  · have got:∀ {p:Nat} {ys:List D},(Γ.set j (some (.own xs')))[p]? = some (some (.own ys))→∃ zs,Γ[p]? = some (some (.own zs)):=fun {p ys} e =>
      (get_set e).elim (fun e=>⟨xs,e.1 ▸ hj⟩) fun e=>⟨ys,e.2⟩
    exact e1_1 (got e1) fun _ e1=>e1_1 (got e2) fun _ e2=>hI p q _ _ e1 e2
theorem St.nmRun {g:Heap} {W:Addr→Prop} {env:Env} {s:Shared} {x:Str} {v:Value} {m:Str→Option Value} {A:Around} {npos:Pos} {Q E:Value→Shared→Prop} (st:St S f Γ g W env s) (hk:env.kindOf x = some .local) (hns:s.heap.Ns env.locals m) (hm:m x = some v)
    (hdb:(x == ("__debug__":Str)) = false) (hQ:Q v s):wpAny S.M A (eval (.Name x npos) env) Q E s :=
  wpAny_Name (wpAny_loadName_local st.envIs.kind hk hns hm hQ) hdb
structure OwnIn (S:Sig) (f:Fi) (Γ:Ctxt) (g:Heap) (W:Addr→Prop) (env:Env) (s:Shared) (j:Nat) (x:Str) (xs:List D) (a:Addr):Prop where
  ho:∃ vs n,s.heap.get? a = some (listO vs n)
  name:∀ {A:Around} {npos:Pos} {Q E:Value→Shared→Prop},(x == ("__debug__":Str)) = false→Q (.ref a) s→wpAny S.M A (eval (.Name x npos) env) Q E s
  app:∀ (i:Nat) (y:Str),Γ[i]? = some (some (B.app j))→f.vars[i]? = some y→∃ q,g.get? q = some (appO a)∧∀ {A:Around} {npos:Pos} {Q E:Value→Shared→Prop},(y == ("__debug__":Str)) = false→Q (.ref q) s→wpAny S.M A (eval (.Name y npos) env) Q E s
  later:∀ {g2:Heap} {s2:Shared} {C:Prop},Tr S (Nw s) g s g2 s2→(∀ vs n,s2.heap.get? a = some (listO vs n)→vs.length≤sizeLine→Rds g2 vs xs→OwnChg S f Γ g s g2 W env s2 j a→C)→C
theorem St.ownIn {g:Heap} {W:Addr→Prop} {env:Env} {s:Shared} {j:Nat} {x:Str} {xs:List D} {C:Prop} (st:St S f Γ g W env s) (hj:Γ[j]? = some (some (.own xs))) (hx:f.vars[j]? = some x) (K:∀ a,OwnIn S f Γ g W env s j x xs a→C):C :=
  st.own hj hx fun a m vs n hk hns hm ho _ _ ha _=>K a ⟨⟨vs,n,ho⟩,st.nmRun hk hns hm,fun i y hi hy=>e0_2 (ha i y hi hy) fun hk e=>e1_2 e fun q e h=>⟨q,h,st.nmRun hk hns e⟩,fun {g2 s2 C} t2 K=>by
    refine (st.move t2).own hj hx fun a₂ m₂ vs₂ n₂ _ hns₂ hm₂ ho₂ hz₂ rs₂ _ hch=>?_
    have e:=hns₂.agree (t2.ns st.tabs hns (Nat.not_le.mpr hns.lt)) x
    rw [hm₂,hm] at e;cases e
    exact K vs₂ n₂ ho₂ hz₂ rs₂ fun h' vs' n' xs' t e1 e2 e3 e4 e5=>e0_2 (hch h' vs' n' xs' t e1 e2 e3 e4 e5) fun T st3=>⟨(t2.weak st.new).trans T fun _ q=>q,st3⟩⟩
noncomputable def OwnOp (S:Sig) (k:Nat) (t:Value→List Value→Sem Value) (xs:List D) (ds:List D) (xs':List D) (d:D):Prop :=
  ∀ (A:Around) (g:Heap) (s:Shared) (a:Addr) (vs:List Value) (n:Nat) (args:List Value) (Q:Value→Shared→Prop) (E:Value→Shared→Prop),At S k A g s→s.heap.get? a = some (listO vs n)→vs.length≤sizeLine→Rds g vs xs→Rds g args ds →
    (∀ v h' vs' n' t',h'.get? a = some (listO vs' n')→Heap.SameBut a s.heap h'→vs'.length≤sizeLine→Rds g vs' xs'→s.toks≤t'→Rd g v d→Q v { s with heap:=h',toks:=t' })→wpAny S.M A (t (.ref a) args) Q E s
theorem EX.ownMeth {x name:Str} {apos npos:Pos} {id:String} {xs xs':List D} (j:Nat) (slot:Slot "list" name id) (hty:typeOf (.builtin id) = pure (.type "method_descriptor")) (hx:f.vars[j]? = some x) (hj:Γ[j]? = some (some (.own xs)))
    (h2:EVs S k f Γ es ds) (h3:OwnOp S k (fun o vs=>PySem.call (.builtin id) (o :: vs)) xs ds xs' d)
    (hdb:(x == ("__debug__":Str)) = false:=by decide)
    (hline:(apos.endLine == pos.line) = true:=by rfl)
    (hfew:∀ env,((backTo pos (starEach es env)).all (fun x=>!x.1) && (backToKw pos (keywordEach [] env)).all (fun x=>x.1.isSome)
      && decide (es.length + ([]:List Keyword).length + (if ([]:List Keyword).isEmpty then 0 else 1) < 30)) = true:=by intro _;rfl)
    (hs:∀ env,swapsWith (.Call (.Attribute (.Name x npos) name apos) es [] pos) none p'.line env = pure false:=by intro _;rfl) :
    EX S k f Γ (.Expr (.Call (.Attribute (.Name x npos) name apos) es [] pos) p') (.next (Γ.set j (some (.own xs')))):=by
  intro A g W env s Q E R st hQ
  refine wpAny_Expr_any ?_ (not_interactive st.envIs) (hs env)
  refine wpAny_Call_method (T:="list") (id:=id) (by rfl) (hfew env) hline PySem.F.plainAttrs_list slot hty ?_
  refine st.ownIn hj hx fun a O=>O.name hdb ?_
  refine ⟨e2_1 O.ho fun vs n ho=>⟨_,ho,rfl⟩,fun a' q=>by cases q;exact e2_1 O.ho fun vs n ho=>⟨_,ho,rfl⟩,?_⟩
  refine callWith_of (P:=fun h=>S.K.In h) (by show ((backTo pos (starEach es env)).any (·.1) || false) = false;rw [h2.plain];rfl) (Callee.builtin (S:=S)) ?_
  refine evalArgs_any (h2.plain _ _) (h2.run pos A g W env s _ E R st fun args g2 s2 t2 r2=>⟨t2.base.kin.keeps t2.keep,?_⟩)
  refine O.later t2 fun vs₂ n₂ ho₂ hz₂ rs₂ ch=>?_
  exact h3 A g2 s2 a _ _ args _ E (t2.at R) ho₂ hz₂ rs₂ r2 fun v h' vs' n' t' e1 e2 e3 e4 e5 _=>e0_2 (ch h' vs' n' xs' t' e1 e2 e3 e4 e5) fun T st3=>hQ _ g2 _ T ⟨rfl,st3⟩
theorem OwnOp.append {xs:List D} {d:D} (hz:xs.length < sizeLine):OwnOp S k (fun o vs=>PySem.call (.builtin "list.append") (o :: vs)) xs [d] (xs ++ [d]) .none:=by
  intro A g s a vs n args Q E at' ho hl rs ra hQ
  cases ra using Rds.casesCons with
  | cons r1 r2 =>
    cases r2 using Rds.casesNil
    rename_i v
    have hlen:=rs.length
    refine wpAny_list_append_plain ⟨n,ho⟩ (fun h' hp hs=>?_) (by simpa using hl)
    refine e1_1 (hp) (fun n' e=>?_)
    exact hQ _ h' (vs ++ [v]) n' _ (by simpa using e) hs (by simp;omega) (rs.append (.cons r1 .nil)) (Nat.le_refl _) (.raw _)
theorem OwnOp.pop {xs:List D} {d:D}:OwnOp S k (fun o vs=>PySem.call (.builtin "list.pop") (o :: vs)) (xs ++ [d]) [] xs d:=by
  intro A g s a vs n args Q E at' ho hl rs ra hQ
  cases ra using Rds.casesNil
  have hlen:=rs.length
  simp at hlen
  have hd:=rs.get xs.length (d:=d) (by simp)
  refine e1_2 (hd) (fun v hv hr=>?_)
  have hv':vs.toArray[vs.toArray.size - 1]? = some v:=by rw [← List.getElem?_toArray] at hv;simpa [hlen] using hv
  have e:vs.toArray.eraseIdxIfInBounds (vs.toArray.size - 1) = (vs.take xs.length).toArray:=by
    apply Array.toList_inj.mp
    simp [hlen,List.eraseIdx_eq_take_drop_succ]
    try omega
  refine call_meets PySem.F.slot_list_pop ⟨_,ho,rfl⟩ PySem.F.entry_list_pop (PySem.F.args_list_pop_1 _) (PySem.MeetsSeq.list_pop_last a vs.toArray n v hv' (by simpa using hl)) ⟨ho,?_⟩
  have q:=PySem.IsL.update (n:=n) ho (fun xs=>xs.eraseIdxIfInBounds (vs.toArray.size - 1))
  rw [e] at q
  have hr':Rds g (vs.take xs.length) xs:=by simpa using rs.take xs.length
  have fin:=hQ v _ (vs.take xs.length) _ s.toks q (Heap.SameBut.update ..) (by simp;omega) hr' (Nat.le_refl _) hr
  exact fin
theorem EX.ownNew {x:Str} {npos:Pos} (i:Nat) (hx:f.vars[i]? = some x) (hk:f.kinds[i]? = some .local) (h:EVs S k f Γ es ds)
    (hna:(Γ.all fun b=>match b with | some (.app q)=>q != i | _=>true) = true:=by rfl) (hl:ds.length≤sizeLine:=by decide)
    (hs:∀ env,swapsWithSole [.Name x npos] (.List es pos) p'.line env = pure false:=by intro _;rfl) (hw:∀ env,swappedStores [.Name x npos] (.List es pos) env = pure none:=by intro _;rfl)
    (ha:∀ env v,assignAll v ((assignEach [.Name x npos] env).map (·.2)) = PySem.assign (.Name x npos) env v:=by intro _ _;rfl) (hΓ:Γ.length≤f.vars.length:=by decide) :
    EX S k f Γ (.Assign [.Name x npos] (.List es pos) p') (.next (Γ.set i (some (.own ds)))):=by
  intro A g W env s Q E R st hQ
  refine wpAny_Assign_stores ?_ (hs env) (hw env)
  refine wpAny_List_spliced (h.run pos A g W env s _ E R st fun vs g1 s1 t1 r1=>?_)
  have hlen:=r1.length
  refine ⟨by omega,?_⟩
  rw [ha env,arm_assign_Name]
  refine wpAny_bind (wpAny_standAt (wpAny_bindName ?_))
  have a1:=t1.at R
  have st1:=st.move t1
  refine e1_3 (Tr.grow (s':={ s1 with heap:=s1.heap.push (listO vs 0) }) (fun _=>False) a1.keep a1.base a1.tabs (fun b x e=>Heap.get?_push_of_some _ e) (by simp) rfl rfl (Nat.le_refl _)) (fun g2 t2 _ hno=>?_)
  have st2:=st1.move t2
  refine e2_5 (st1.vars) (fun m ad hns hb hg hH hI=>?_)
  have hbig:∀ {j ys},Γ[j]? = some (some (.own ys))→ad j < s1.heap.objs.size:=fun {j ys} e=>by
    have hj:j < f.vars.length:=Nat.lt_of_lt_of_le (List.getElem?_eq_some_iff.mp e).1 hΓ
    exact (hH j _ _ (List.getElem?_eq_getElem hj) e).2.2.lt
  refine wp_storeL (b:=.own ds) (ad:=ad) (ad':=fun p=>if p = i then s1.heap.objs.size else ad p) t2.keep t2.base t2.now st2.envIs st2.wide st2.clt hx hk (t2.ns st1.tabs hns (Nat.not_le.mpr hns.lt)) hb (t2.none hg (Nat.not_le.mpr hns.lt)) (fun i x b e e'=>t2.holds st1.tabs (hH i x b e e')) (inj_if (fun j ys e=>Nat.ne_of_lt (hbig e)) hI) (fun h' m' hn hv hs' hki=>?_) (fun j xs hj _=>by simp [hj]) (fun j q hj hq=>by simp [app_ne hna hq]) fun g3 s3 t3 st3=>hQ _ g3 s3 (((t1.then t2).weak st.new).trans t3 fun _ z=>z) ⟨rfl,st3⟩
  refine ⟨hki,by simpa using hv,vs,0,?_,by omega,r1.mono t2.mono,by simpa using hno _ (Nat.le_refl _) id,by simpa using st1.wide _ (Nat.le_refl _)⟩
  simp only [if_true]
  refine (hs'.2 _ fun q=>?_).trans (Heap.get?_push_size _ rfl)
  have:=hns.lt;rw [← q] at this;exact absurd this (Nat.lt_irrefl _)
end
end
section
open PySem PySem.W PySem.Calls PyProof.Rows
theorem slot_mdget:Slot "method_descriptor" "__get__" "method_descriptor.__get__" :=
  .of (owner:="method_descriptor") (n:="__get__") (by rw [typeLookup_type,builtinLookup_eq_fast];kernel_rfl) (by decide +kernel) (by decide +kernel) (by decide +kernel)
    (by first | exact .inl (by decide +kernel) | exact .inr (by decide +kernel)) (by rw [isSubtype_type];kernel_rfl)
theorem entry_mdget:entryFor table "method_descriptor.__get__" = some Builtin.«method_descriptor.__get__»:=entryFor_of_tree (by kernel_rfl)
theorem args_mdget (a b c:Value):argsOk "method_descriptor.__get__" ⟨[a,b,c],[]⟩:=by unfold argsOk;kernel_rfl
theorem none_mdset:typeLookup (.type "method_descriptor") "__set__" = pure none:=by rw [typeLookup_type,builtinLookup_eq_fast];kernel_rfl
theorem none_mddel:typeLookup (.type "method_descriptor") "__delete__" = pure none:=by rw [typeLookup_type,builtinLookup_eq_fast];kernel_rfl
theorem look_append:typeLookup (.type "list") "append" = pure (some (.builtin "list.append")):=by rw [typeLookup_type,builtinLookup_eq_fast];kernel_rfl
theorem ty_append:typeOf (.builtin "list.append") = pure (.type "method_descriptor"):=PySem.F.type_list_append
theorem mdget_run {prog:Program} {w:World} {A:Around} {E:Value→Shared→Prop} {s:Shared} {l:Addr} {vs:List Value} {n:Nat} {P:PySem.Fin→Shared→Prop} (ho:s.heap.get? l = some (listO vs n))
    (h:P (.done (.ret (.ref s.heap.objs.size))) { s with heap:=s.heap.push (appO l) }):wpAny (model prog w) A (Builtin.«method_descriptor.__get__» ⟨[.builtin "list.append",.ref l,.type "list"],[]⟩) P E s:=by
  unfold Builtin.«method_descriptor.__get__»
  refine wpAny_bind (wpAny_of_eq (a:=(.builtin "list.append",some (.ref l),some (.type "list"))) (by first | rfl | kernel_rfl) ?_)
  dsimp only
  refine wp_ifF (by decide +kernel) ?_
  refine wpAny_bind (m:=_) (f:=fun _=>newFields "builtin_function_or_method" [.builtin "list.append",.ref l] >>= fun v=>ret v) ?_
  refine wpAny_bind (m:=_) (f:=fun (q:Str × Value)=>isInstance (.ref l) q.2 >>= fun b=>_) (wpAny_of_eq (a:=(("append":Str),.type "list")) (by kernel_rfl) ?_)
  refine wpAny_bind (wpAny_isInstance (T:="list") (b:=true) ⟨_,ho,rfl⟩ ?_ ?_)
  · rw [isSubtype_type];kernel_rfl
  refine wpAny_pure ?_
  exact wpAny_bind (wpAny_newObj_type (wpAny_pure h))
theorem look_get:specialOf (.builtin "list.append") "__get__" = pure (some (.builtin "method_descriptor.__get__")):=by
  unfold specialOf
  rw [ty_append]
  show typeLookup _ _ = _
  exact slot_mdget.lookup
theorem look_set:specialOf (.builtin "list.append") "__set__" = pure none:=by
  unfold specialOf
  rw [ty_append]
  exact none_mdset
theorem look_del:specialOf (.builtin "list.append") "__delete__" = pure none:=by
  unfold specialOf
  rw [ty_append]
  exact none_mddel
theorem getattribute_run {prog:Program} {w:World} {A:Around} {E:Value→Shared→Prop} {s:Shared} {l:Addr} {vs:List Value} {n:Nat} {t:Tok} {P:PySem.Fin→Shared→Prop} (ho:s.heap.get? l = some (listO vs n))
    (h:P (.done (.ret (.ref s.heap.objs.size))) { s with heap:=s.heap.push (appO l) }):wpAny (model prog w) A (Builtin.«object.__getattribute__» ⟨[.ref l,.str "append" t],[]⟩) P E s:=by
  obtain ⟨hp,g,d,tk,os⟩:=s
  have hT:∀ tk',(⟨hp,g,d,tk',os⟩:Shared).TypeIs (.ref l) "list":=fun _=>⟨_,ho,rfl⟩
  have f1:=look_append
  have f2:=look_get
  have f3:=look_set
  have f4:=look_del
  unfold Builtin.«object.__getattribute__»
  repeat (any_goals (first | assumption | wp_step))
  refine codeAny_call_builtin slot_mdget.plain entry_mdget (slot_mdget.check _ _ _ _ _ _ _ _ ty_append (args_mdget _ _ _) ?_)
  refine mdget_run (n:=n) (vs:=vs) ho ?_
  exact wpAny_pure h
theorem getAttr_append {prog:Program} {w:World} {A:Around} {E:Value→Shared→Prop} {s:Shared} {l:Addr} {vs:List Value} {n:Nat} {ex:Bool} {Q:Value→Shared→Prop} (ho:s.heap.get? l = some (listO vs n))
    (h:Q (.ref s.heap.objs.size) { s with heap:=s.heap.push (appO l),toks:=s.toks + 1 }):wpAny (model prog w) A (getAttr (.ref l) "append" ex) Q E s:=by
  obtain ⟨hp,g,d,tk,os⟩:=s
  have hT:∀ tk',(⟨hp,g,d,tk',os⟩:Shared).TypeIs (.ref l) "list":=fun _=>⟨_,ho,rfl⟩
  have f3:=F.slot_list_getattribute.lookup
  have f4:=F.slot_list_getattribute.bind (.ref l)
  unfold getAttr getAttrBy
  repeat (any_goals (first | assumption | exact hT _ | wp_step))
  refine wp_ifF (by rw [show onTheHeap (Value.builtin "list.__getattribute__") = false from rfl,Bool.and_false];exact Bool.false_ne_true) ?_
  unfold boundAndCalled
  refine wpAny_bind (wpAny_of_eq f4 ?_)
  refine wpAny_call_entry F.slot_list_getattribute (hT _) am_entry_list_getattribute (getattribute_run (n:=n) (vs:=vs) ho ⟨_,rfl,?_⟩) (F.args_list_getattribute_2 _ _)
  exact wpAny_pure h
section
variable {S:Sig} {k:Nat} {f:Fi} {Γ Γ' Γ₁ Γ₂:Ctxt} {e l r:Expr} {es:List Expr} {d d₁ d₂:D} {ds:List D} {pos p':Pos} {sts:List Stmt} {res:Res}
theorem EX.appBind {x y:Str} {npos npos':Pos} {xs:List D} (i j:Nat) (hx:f.vars[j]? = some x) (hj:Γ[j]? = some (some (.own xs))) (hy:f.vars[i]? = some y) (hk:f.kinds[i]? = some .local) (hij:i ≠ j)
    (hdb:(x == ("__debug__":Str)) = false:=by decide) (hna:(Γ.all fun b=>match b with | some (.app q)=>q != i | _=>true) = true:=by rfl)
    (hs:∀ env,swapsWithSole [.Name y npos] (.Attribute (.Name x npos') "append" pos) p'.line env = pure false:=by intro _;rfl) (hw:∀ env,swappedStores [.Name y npos] (.Attribute (.Name x npos') "append" pos) env = pure none:=by intro _;rfl)
    (ha:∀ env v,assignAll v ((assignEach [.Name y npos] env).map (·.2)) = PySem.assign (.Name y npos) env v:=by intro _ _;rfl) :
    EX S k f Γ (.Assign [.Name y npos] (.Attribute (.Name x npos') "append" pos) p') (.next (Γ.set i (some (.app j)))):=by
  intro A g W env s Q E R st hQ
  refine wpAny_Assign_stores ?_ (hs env) (hw env)
  refine e2_5 (st.vars) (fun m ad hns hb hg hH hI=>?_)
  refine (hH j _ _ hx hj).ownC fun hki hm vs n ho _ _ _ _=>?_
  refine Attribute_name (wpAny_Name (wpAny_loadName_local st.envIs.kind hki hns hm ?_) hdb)
  refine getAttr_append (n:=n) (vs:=vs) ho ?_
  refine e1_2 ((st.at R).push (appO (ad j)) (t:=s.toks + 1)) (fun g2 t2 e2=>?_)
  have st2:=st.move t2
  rw [ha env,arm_assign_Name]
  refine wpAny_bind (wpAny_standAt (wpAny_bindName ?_))
  refine wp_storeL (b:=.app j) (ad:=ad) (ad':=ad) t2.keep t2.base t2.now st2.envIs st2.wide st2.clt hy hk (t2.ns st.tabs hns (Nat.not_le.mpr hns.lt)) hb (t2.none hg (Nat.not_le.mpr hns.lt)) (fun i x b e e'=>t2.holds st.tabs (hH i x b e e')) (inj_set nofun hI) (fun h' m' hn hv hs' hki=>⟨hki,_,hv,e2⟩) (fun _ _ _ _=>rfl) (fun _ _ _ _=>rfl) fun g3 s3 t3 st3=>hQ _ g3 s3 ((t2.weak st.new).trans t3 fun _ z=>z) ⟨rfl,st3⟩
theorem sig_append:Manifest.signature? "list.append" = some ⟨.oneArg,"list.append","append",.self,[⟨"object",.posOnly,true⟩]⟩:=by
  rw [signature?_of (id:="list.append") (n:=['d','n','e','p','p','a']) (o:=['t','s','i','l']) (by kernel_rfl) PySem.F.owner_list];kernel_rfl
theorem kind_append:builtinKind "list.append" = some .method:=by kernel_rfl
theorem check_append {M:Model} {A:Around} {E:Value→Shared→Prop} {s:Shared} {l:Addr} {v:Value} {vs:List Value} {n:Nat} {Q:Unit→Shared→Prop} (ho:s.heap.get? l = some (listO vs n)) (h:Q () s):wpAny M A (checkBoundCall "list.append" ⟨[.ref l,v],[]⟩) Q E s:=by
  obtain ⟨hp,g,d,tk,os⟩:=s
  have hT:∀ tk',(⟨hp,g,d,tk',os⟩:Shared).TypeIs (.ref l) "list":=fun _=>⟨_,ho,rfl⟩
  unfold checkBoundCall
  rw [sig_append,kind_append]
  dsimp only
  refine wp_ifF (by decide) ?_
  refine wpAny_bind (wpAny_isInstance (T:="list") (b:=false) (hT _) (by rw [isSubtype_type];kernel_rfl) ?_)
  refine wp_ifF (by decide +kernel) ?_
  repeat (any_goals (first | assumption | exact hT _ | wp_step))
theorem app_cls1:(Value.type "builtin_function_or_method" == Value.type "method" || Value.type "builtin_function_or_method" == Value.type "builtin_function_or_method" || Value.type "builtin_function_or_method" == Value.type "method-wrapper") = true:=by decide
theorem app_cls2:(Value.type "builtin_function_or_method" != Value.type "method") = true:=by decide
theorem app_cls3:(Value.type "builtin_function_or_method" == Value.type "builtin_function_or_method" || Value.type "builtin_function_or_method" == Value.type "method-wrapper") = true:=by decide
theorem call_app {A:Around} {E:Value→Shared→Prop} {s:Shared} {q l:Addr} {v:Value} {vs:List Value} {n:Nat} {Q:Value→Shared→Prop} (hq:s.heap.get? q = some (appO l)) (ho:s.heap.get? l = some (listO vs n)) (hz:vs.length≤sizeLine)
    (h:∀ h' n',h'.get? l = some (listO (vs ++ [v]) n')→Heap.SameBut l s.heap h'→Q .none { s with heap:=h' }):wpAny S.M A (call (.ref q) [v]) Q E s:=by
  refine wpAny_call (codeAny_of_tree ?_)
  show wpAny _ A.in1 (callAny (.ref q) ⟨[v],[]⟩) _ _ s
  unfold callAny
  refine wpAny_bind (wpAny_load hq (wp_ifT app_cls1 (wp_ifT app_cls2 (wpAny_bind (check_append (vs:=vs) (n:=n) ho ?_)))))
  refine wpAny_bind (wpAny_pure (wpAny_pure ?_))
  refine ⟨Code.quiet_builtin _ (by decide +kernel),codeAny_builtin entry_list_append ?_⟩
  show wpAny _ _ (updateSeq l (·.push v) >>= fun _=>ret .none) _ _ s
  refine wpAny_bind ?_
  refine wpAny_updateSeq ho rfl (wpAny_pure ?_) (hz:=by simpa using hz)
  have e:=Heap.get?_update_self (Obj.mapSeq (·.push v)) ho (by rw [Obj.mapSeq_push_plain];rfl)
  rw [Obj.mapSeq_push_plain] at e
  exact h _ (n + 1) (by rw [e];simp) (Heap.SameBut.update ..)
theorem callWith_app {A:Around} {E:Value→Shared→Prop} {s:Shared} {q l:Addr} {args:List (Bool × Sem Value)} {Q:Value→Shared→Prop} (hplain:args.any (·.1) = false)
    (h:wpAny S.M A (evalArgs (.ref q) true args []) (fun x s₁=>s₁.heap.get? q = some (appO l)∧wpAny S.M A (call (.ref q) x.pos x.kw) Q E s₁) E s):wpAny S.M A (callWith pos (.ref q) [] args []) Q E s:=by
  unfold callWith
  refine wpAny_bind (wpAny_holding (wpAny_mono h (fun x s₁ h₁=>wpAny_bind (wpAny_standAt ?_)) fun _ _ x=>x))
  refine e0_2 (h₁) (fun ho hcall=>?_)
  have hs:(args.any (·.1) || ([]:List (Option Str × Sem Value)).any (·.1.isNone)) = false:=by rw [hplain];rfl
  rw [hs]
  refine wpAny_bind (show wpAny S.M A (keeperOf (.ref q)) _ _ _ from wpAny_bind (wpAny_load ho (wp_ifT app_cls2 (wpAny_of_eq (a:=Keeper.machine) (congrArg pure (if_pos app_cls3)) ?_))))
  exact wpAny_bind (wpAny_mono hcall (fun r s₂ hr=>wpAny_bind (wpAny_holding (wpAny_point (wpAny_pure hr)))) fun _ _ x=>x)
theorem EX.appCall {y:Str} {npos:Pos} {xs:List D} (i j:Nat) (hy:f.vars[i]? = some y) (hi:Γ[i]? = some (some (.app j))) (hj:Γ[j]? = some (some (.own xs))) (h2:EV S k f Γ e d) (hz:xs.length < sizeLine) (hjl:j < f.vars.length:=by decide)
    (hdb:(y == ("__debug__":Str)) = false:=by decide) (hn:∀ env,eval (.Call (.Name y npos) [e] [] pos) env = (do callWith pos (← eval (.Name y npos) env) [] (backTo pos (starEach [e] env)) (backToKw pos (keywordEach [] env))):=by intro _;rfl)
    (hse:∀ env,starEach [e] env = [(false,eval e env)]:=by intro _;rfl)
    (hs:∀ env,swapsWith (.Call (.Name y npos) [e] [] pos) none p'.line env = pure false:=by intro _;rfl) :
    EX S k f Γ (.Expr (.Call (.Name y npos) [e] [] pos) p') (.next (Γ.set j (some (.own (xs ++ [d]))))):=by
  intro A g W env s Q E R st hQ
  refine wpAny_Expr_any ?_ (not_interactive st.envIs) (hs env)
  rw [hn]
  refine st.ownIn hj (List.getElem?_eq_getElem hjl) fun a O=>e1_2 (O.app i y hi hy) fun q hq hnm=>wpAny_bind (hnm hdb ?_)
  rw [hse]
  refine callWith_app (l:=a) rfl ?_
  refine evalArgs_any rfl ?_
  show wpAny S.M A (spliced [(false,eval e env)]) _ _ _
  refine spliced_cons (h2 A g W env s _ E R st fun v g2 s2 t2 r2=>spliced_nil ?_)
  have hq2:=t2.keep _ _ (t2.mono _ _ hq)
  refine ⟨hq2,O.later t2 fun vs₂ n₂ ho₂ hz₂ rs₂ ch=>?_⟩
  refine call_app hq2 ho₂ hz₂ fun h' n' e1 e2=>?_
  have hl:=rs₂.length
  exact e0_2 (ch h' (vs₂ ++ [v]) n' (xs ++ [d]) s2.toks e1 e2 (by simp;lia) (rs₂.append (.cons r2 .nil)) (Nat.le_refl _)) fun T st3=>hQ _ g2 _ T ⟨rfl,st3⟩
noncomputable def idx (n:Nat) (i:Int):Nat:=if i < 0 then (i + (n:Int)).toNat else i.toNat
theorem idx_lt {n:Nat} {i:Int} (h:idx n i < n):i < (n:Int):=by
  by_cases hi:i < 0
  · exact Int.lt_of_lt_of_le hi (Int.natCast_nonneg n)
  · unfold idx at h;rw [if_neg hi] at h;exact Int.lt_of_toNat_lt h
theorem seqIndex_idx {n:Nat} {i:Int} (h0:-(n:Int)≤i) (h1:idx n i < n):seqIndex? i n = some (idx n i):=by
  have h2:=idx_lt h1
  unfold idx
  by_cases hi:i < 0
  · rw [PySem.seqIndex_neg hi h0,if_pos hi]
  · rw [if_neg hi];exact PySem.seqIndex_of (Int.not_lt.mp hi) h2
theorem wp_setAt {A:Around} {E:Value→Shared→Prop} {s:Shared} {a:Addr} {vs:List Value} {n:Nat} {i:Int} {t:Tok} {v:Value} {Q:Unit→Shared→Prop} (ho:s.heap.get? a = some (listO vs n)) (hz:vs.length≤sizeLine) (h0:-(vs.length:Int)≤i) (h1:i < vs.length)
    (hQ:∀ h' n',h'.get? a = some (listO (vs.set (idx vs.length i) v) n')→Heap.SameBut a s.heap h'→Q () { s with heap:=h' }):wpAny S.M A (setItem (.ref a) (.int i t) v) Q E s:=by
  have hsz:=sizeLine_eq
  have e:∀ j,(vs.toArray.setIfInBounds j v) = (vs.set j v).toArray:=fun j=>by
    apply Array.toList_inj.mp
    simp
  by_cases hi:i < 0
  · refine ki_setBack (n:=n) (items:=vs.toArray) ho hi (by simpa using h0) (by lia) ?_
    refine hQ _ n ?_ (Heap.SameBut.update ..)
    have q:=PySem.IsL.update (n:=n) ho (fun xs=>xs.setIfInBounds (i + vs.toArray.size).toNat v)
    simp only [e] at q
    have hi':idx vs.length i = (i + vs.toArray.size).toNat:=by simp [idx,hi]
    rw [hi']
    simpa using q
  · refine ki_setAt (n:=n) (items:=vs.toArray) ho (by lia) (by lia) (by simpa using h1) ?_
    refine hQ _ n ?_ (Heap.SameBut.update ..)
    have q:=PySem.IsL.update (n:=n) ho (fun xs=>xs.setIfInBounds i.toNat v)
    simp only [e] at q
    have hi':idx vs.length i = i.toNat:=by simp [idx,hi]
    rw [hi']
    simpa using q
theorem wp_getAt {A:Around} {E:Value→Shared→Prop} {s:Shared} (a:Addr) {vs:List Value} {n:Nat} {i:Int} {t:Tok} {v:Value} {Q:Value→Shared→Prop} (ho:s.heap.get? a = some (listO vs n)) (hz:vs.length≤sizeLine) (h0:-(vs.length:Int)≤i) (h1:i < vs.length) (hv:vs[idx vs.length i]? = some v)
    (hQ:Q v s):wpAny S.M A (getItem (.ref a) (.int i t)) Q E s:=by
  have hsz:=sizeLine_eq
  have hl:s.heap.IsList a vs.toArray:=⟨_,ho,rfl,n,rfl⟩
  by_cases hi:i < 0
  · refine wpAny_getItem_list_neg hl hi (by simpa using h0) (by lia) ?_ hQ
    have hi':idx vs.length i = (i + vs.toArray.size).toNat:=by simp [idx,hi]
    rw [hi'] at hv
    simpa using hv
  · refine wpAny_getItem_list hl (by lia) (by lia) ?_ hQ
    have hi':idx vs.length i = i.toNat:=by simp [idx,hi]
    rw [hi'] at hv
    simpa using hv
theorem Rds.set {g:Heap} {v:Value} {d:D} (h:Rd g v d) {vs:List Value} {ds:List D} (rs:Rds g vs ds) (i:Nat):Rds g (vs.set i v) (ds.set i d):=by
  induction vs generalizing ds i with
  | nil =>
    cases ds with
    | nil=>exact .nil
    | cons d ds=>exact nomatch rs.length
  | cons x xs ih =>
    cases ds with
    | nil=>exact nomatch rs.length
    | cons d ds =>
      cases rs using Rds.casesCons with
      | cons a b =>
        cases i with
        | zero=>exact .cons h b
        | succ i=>exact .cons a (ih b i)
theorem Rds.erase {g:Heap} {vs:List Value} {ds:List D} (rs:Rds g vs ds) (i:Nat):Rds g (vs.eraseIdx i) (ds.eraseIdx i):=by
  induction vs generalizing ds i with
  | nil =>
    cases ds with
    | nil=>exact .nil
    | cons d ds=>exact nomatch rs.length
  | cons x xs ih =>
    cases ds with
    | nil=>exact nomatch rs.length
    | cons d ds =>
      cases rs using Rds.casesCons with
      | cons a b =>
        cases i with
        | zero=>exact b
        | succ i=>exact .cons a (ih b i)
theorem AS.item {x:Str} {npos:Pos} {xs:List D} {i:Int} (j:Nat) (hx:f.vars[j]? = some x) (hj:Γ[j]? = some (some (.own xs))) (h2:EV S k f Γ e (.int i)) (h0:-(xs.length:Int)≤i) (h1:i < xs.length)
    (hdb:(x == ("__debug__":Str)) = false:=by decide):AS S k f Γ (.Subscript (.Name x npos) e pos) d (Γ.set j (some (.own (xs.set (idx xs.length i) d)))):=by
  intro A g W env s v Q E R st hr hQ
  rw [arm_assign_Subscript]
  refine st.ownIn hj hx fun a O=>wpAny_bind (wpAny_holding (O.name hdb ?_))
  refine wpAny_bind (wpAny_holding (h2 A g W env s _ E R st fun iv g2 s2 t2 r2=>wpAny_bind (wpAny_standAt (wpAny_bind (wpAny_holding ?_)))))
  refine O.later t2 fun vs₂ n₂ ho₂ hz₂ rs₂ ch=>?_
  have hl:=rs₂.length
  cases r2 using Rd.casesInt
  refine wp_setAt ho₂ hz₂ (by rw [hl];exact h0) (by rw [hl];exact h1) fun h' n' e1 e2=>wpAny_release ?_
  rw [hl] at e1
  exact e0_2 (ch h' _ n' (xs.set (idx xs.length i) d) s2.toks e1 e2 (by rw [List.length_set];exact hz₂) (Rds.set (hr.mono t2.mono) rs₂ _) (Nat.le_refl _)) fun T st3=>hQ g2 _ T st3
theorem wp_delAt {A:Around} {E:Value→Shared→Prop} {s:Shared} {a:Addr} {vs:List Value} {n:Nat} {i:Int} {t:Tok} {Q:Unit→Shared→Prop} (ho:s.heap.get? a = some (listO vs n)) (hz:vs.length≤sizeLine) (h0:0≤i) (h1:i < vs.length)
    (hQ:∀ h' n',h'.get? a = some (listO (vs.eraseIdx i.toNat) n')→Heap.SameBut a s.heap h'→Q () { s with heap:=h' }):wpAny S.M A (delItem (.ref a) (.int i t)) Q E s:=by
  have hsz:=sizeLine_eq
  (refine e1_1 (Int.eq_ofNat_of_zero_le h0) (fun j q1q=>?_);subst q1q)
  have hj:j < vs.length:=by lia
  refine wpAny_delItem_plain (k:=j) ⟨n,ho⟩ (fitsIndex_of h0 (by lia)) (PySem.seqIndex_of h0 (by simpa using h1)) (fun h' hp hs=>?_) (by simpa using hz)
  refine e1_1 (hp) (fun n' e=>?_)
  refine hQ h' n' ?_ hs
  rw [e]
  congr 2
  apply congrArg (fun z=>Data.seq z n')
  exact List.eraseIdxIfInBounds_toArray ..
theorem EX.delItem {x:Str} {npos:Pos} {xs:List D} {i:Int} (j:Nat) (hx:f.vars[j]? = some x) (hj:Γ[j]? = some (some (.own xs))) (h2:EV S k f Γ e (.int i)) (h0:0≤i) (h1:i < xs.length)
    (hdb:(x == ("__debug__":Str)) = false:=by decide):EX S k f Γ (.Delete [.Subscript (.Name x npos) e pos] p') (.next (Γ.set j (some (.own (xs.eraseIdx i.toNat))))):=by
  intro A g W env s Q E R st hQ
  refine wpAny_Delete (wpAny_deleteEach_cons ?_)
  rw [arm_delete_Subscript]
  refine st.ownIn hj hx fun a O=>wpAny_bind (O.name hdb ?_)
  refine wpAny_bind (wpAny_holding (h2 A g W env s _ E R st fun iv g2 s2 t2 r2=>wpAny_bind (wpAny_standAt ?_)))
  refine O.later t2 fun vs₂ n₂ ho₂ hz₂ rs₂ ch=>?_
  have hl:=rs₂.length
  cases r2 using Rd.casesInt
  refine wpAny_bind (wpAny_holding (wp_delAt ho₂ hz₂ h0 (by rw [hl];exact h1) fun h' n' e1 e2=>wpAny_release ?_))
  exact e0_2 (ch h' _ n' (xs.eraseIdx i.toNat) s2.toks e1 e2 (Nat.le_trans (List.length_eraseIdx_le ..) hz₂) (Rds.erase rs₂ _) (Nat.le_refl _)) fun T st3=>wpAny_deleteEach_nil (hQ _ g2 _ T ⟨rfl,st3⟩)
end
end
section
open PySem PySem.W PySem.Calls PyProof.Rows
section
variable {S:Sig} {k:Nat} {f:Fi} {Γ Γ':Ctxt} {e l r:Expr} {es:List Expr} {d d₁ d₂:D} {ds:List D} {pos:Pos}
theorem Op2.addI {a b:Int}:Op2 S k (binaryOp .Add) (.int a) (.int b) (.int (a + b)):=by
  intro A g s v₁ v₂ Q E at' r1 r2 h
  cases r1 using Rd.casesInt;cases r2 using Rd.casesInt
  exact P.add_int (h _ g _ (at'.tick _ (Nat.le_succ _)) (.int _ _))
theorem Op2.subI {a b:Int}:Op2 S k (binaryOp .Sub) (.int a) (.int b) (.int (a - b)):=by
  intro A g s v₁ v₂ Q E at' r1 r2 h
  cases r1 using Rd.casesInt;cases r2 using Rd.casesInt
  exact P.sub_int (h _ g _ (at'.tick _ (Nat.le_succ _)) (.int _ _))
theorem Op2.iaddI {a b:Int}:Op2 S k (inplaceOp .Add) (.int a) (.int b) (.int (a + b)):=by
  intro A g s v₁ v₂ Q E at' r1 r2 h
  cases r1 using Rd.casesInt;cases r2 using Rd.casesInt
  exact P.iadd_int (h _ g _ (at'.tick _ (Nat.le_succ _)) (.int _ _))
theorem Op2.isubI {a b:Int}:Op2 S k (inplaceOp .Sub) (.int a) (.int b) (.int (a - b)):=by
  intro A g s v₁ v₂ Q E at' r1 r2 h
  cases r1 using Rd.casesInt;cases r2 using Rd.casesInt
  exact P.isub_int (h _ g _ (at'.tick _ (Nat.le_succ _)) (.int _ _))
theorem Op2.eqI {a b:Int}:Op2 S k (compareOp .Eq) (.int a) (.int b) (.bool (a == b)):=by
  intro A g s v₁ v₂ Q E at' r1 r2 h
  cases r1 using Rd.casesInt;cases r2 using Rd.casesInt
  exact P.eq_int (h _ g _ (at'.refl _) (.raw _))
theorem Op2.ltI {a b:Int}:Op2 S k (compareOp .Lt) (.int a) (.int b) (.bool (decide (a < b))):=by
  intro A g s v₁ v₂ Q E at' r1 r2 h
  cases r1 using Rd.casesInt;cases r2 using Rd.casesInt
  exact P.lt_int (h _ g _ (at'.refl _) (.raw _))
theorem Op2.gtI {a b:Int}:Op2 S k (compareOp .Gt) (.int a) (.int b) (.bool (decide (a > b))):=by
  intro A g s v₁ v₂ Q E at' r1 r2 h
  cases r1 using Rd.casesInt;cases r2 using Rd.casesInt
  exact P.gt_int (h _ g _ (at'.refl _) (.raw _))
theorem Op2.geI {a b:Int}:Op2 S k (compareOp .GtE) (.int a) (.int b) (.bool (decide (a ≥ b))):=by
  intro A g s v₁ v₂ Q E at' r1 r2 h
  cases r1 using Rd.casesInt;cases r2 using Rd.casesInt
  exact P.ge_int (h _ g _ (at'.refl _) (.raw _))
theorem Op1.negI {a:Int}:Op1 S k (unaryOp .USub) (.int a) (.int (-a)):=by
  intro A g s v₁ Q E at' r1 h
  cases r1 using Rd.casesInt
  exact P.neg_int (h _ g _ (at'.tick _ (Nat.le_succ _)) (.int _ _))
theorem Op2.modI {a b:Int} (hb:b ≠ 0) (hs:b.natAbs.log2 < 200:=by decide +kernel):Op2 S k (binaryOp .Mod) (.int a) (.int b) (.int (a.fmod b)):=by
  intro A g s v₁ v₂ Q E at' r1 r2 h
  cases r1 using Rd.casesInt;cases r2 using Rd.casesInt
  exact mod_int' hb (h _ g _ (at'.tick _ (Nat.le_succ _)) (.int _ _))
theorem Op2.idivI {a b:Int} (hb:b ≠ 0) (hs:b.natAbs.log2 < 9000:=by decide +kernel):Op2 S k (binaryOp .FloorDiv) (.int a) (.int b) (.int (a.fdiv b)):=by
  intro A g s v₁ v₂ Q E at' r1 r2 h
  cases r1 using Rd.casesInt;cases r2 using Rd.casesInt
  exact floordiv_int hb (h _ g _ (at'.tick _ (Nat.le_succ _)) (.int _ _)) (.inl (PyProof.noPylong_of_log2 hs))
theorem Ops.absI {a:Int}:Ops S k (fun vs=>call (.builtin "abs") vs) [.int a] (.int (if a < 0 then -a else a)):=by
  intro A g s vs Q E at' rs h
  cases rs using Rds.casesCons with
  | cons r1 r2 =>
    cases r2 using Rds.casesNil;cases r1 using Rd.casesInt
    refine wpAny_grown (call_abs_int fun u tk G=>?_)
    exact h _ g _ (at'.tick _ G.toks) (.int _ _)
theorem strEq (a b:List Nat):((⟨a.toArray⟩:Str).cps.toList == (⟨b.toArray⟩:Str).cps.toList) = (a == b):=by simp
theorem Op2.eqS {a b:List Nat}:Op2 S k (compareOp .Eq) (.str a) (.str b) (.bool (a == b)):=by
  intro A g s v₁ v₂ Q E at' r1 r2 h
  cases r1 using Rd.casesStr;cases r2 using Rd.casesStr
  exact P.eq_str (h _ g _ (at'.refl _) (by rw [strEq];exact .raw _))
theorem Op2.neS {a b:List Nat}:Op2 S k (compareOp .NotEq) (.str a) (.str b) (.bool (a != b)):=by
  intro A g s v₁ v₂ Q E at' r1 r2 h
  cases r1 using Rd.casesStr;cases r2 using Rd.casesStr
  refine P.ne_str (h _ g _ (at'.refl _) ?_)
  have:((⟨a.toArray⟩:Str).cps.toList != (⟨b.toArray⟩:Str).cps.toList) = (a != b):=by simp
  rw [this];exact .raw _
theorem Op2.ltS {a b:List Nat}:Op2 S k (compareOp .Lt) (.str a) (.str b) (.bool (decide (a < b))):=by
  intro A g s v₁ v₂ Q E at' r1 r2 h
  cases r1 using Rd.casesStr;cases r2 using Rd.casesStr
  exact P.lt_str (h _ g _ (at'.refl _) (.raw _))
theorem strApp (a b:List Nat):(⟨a.toArray⟩:Str) ++ ⟨b.toArray⟩ = ⟨(a ++ b).toArray⟩:=by
  show (⟨a.toArray ++ b.toArray⟩:Str) = _
  simp
theorem Op2.addS {a b:List Nat} (hz:a.length + b.length≤sizeLine):Op2 S k (binaryOp .Add) (.str a) (.str b) (.str (a ++ b)):=by
  intro A g s v₁ v₂ Q E at' r1 r2 h
  cases r1 using Rd.casesStr;cases r2 using Rd.casesStr
  refine wpAny_grown (PyProof.Rows.add_str (fun t' tk G=>?_) (by simpa [Str.length] using hz))
  refine h _ g _ (at'.tick _ G.toks) ?_
  have:=Rd.str (g:=g) (a ++ b) t' (by simpa using hz)
  rw [strApp];exact this
theorem Ops.lenS {a:List Nat}:Ops S k (fun vs=>call (.builtin "len") vs) [.str a] (.int a.length):=by
  intro A g s vs Q E at' rs h
  cases rs using Rds.casesCons with
  | cons r1 r2 =>
    cases r2 using Rds.casesNil;cases r1 using Rd.casesStr
    rename_i t hs
    have hz:=sizeLine_eq
    refine P.len_str (by show ¬ ((a.toArray.size:Int) ≥ 2 ^ 63);simp only [List.size_toArray];lia) ?_
    refine h _ g _ (at'.tick _ (by lia)) ?_
    have:=Rd.int (g:=g) (a.length:Int) (s.toks + 1)
    simpa [Str.length] using this
theorem Op2.itemS {a:List Nat} {i:Int} {c:Nat} (hc:a[idx a.length i]? = some c) (h0:-(a.length:Int)≤i):Op2 S k getItem (.str a) (.int i) (.str [c]):=by
  intro A g s v₁ v₂ Q E at' r1 r2 h
  cases r1 using Rd.casesStr;cases r2 using Rd.casesInt
  rename_i t hs u
  have hz:=sizeLine_eq
  have hl:idx a.length i < a.length:=(List.getElem?_eq_some_iff.mp hc).1
  refine P.getItem_str (c:=c) ?_ ?_ (h _ g _ (at'.tick _ (Nat.le_succ _)) ?_)
  · have:=idx_lt hl
    simp only [Bool.or_eq_false_iff,decide_eq_false_iff_not]
    constructor <;> lia
  · show (seqIndex? i a.toArray.size).bind (a.toArray[·]?) = some c
    rw [List.size_toArray,seqIndex_idx h0 hl]
    exact (List.getElem?_toArray ..).trans hc
  · have:=Rd.str (g:=g) [c] s.toks (by show 1≤sizeLine;lia)
    simpa using this
noncomputable def pick {α:Type} (lo hi:Option Int) (l:List α):List α:=(l.drop (kms_lo lo l.length)).take (kms_hi hi l.length - kms_lo lo l.length)
theorem Rds.pick {g:Heap} {vs:List Value} {ds:List D} (h:Rds g vs ds) (lo hi:Option Int):Rds g (pick lo hi vs) (pick lo hi ds):=by
  unfold Mine.pick
  rw [h.length]
  exact (h.drop _).take _
theorem pick_length_le {α:Type} (lo hi:Option Int) (l:List α):(pick lo hi l).length≤l.length:=by
  unfold pick
  exact Nat.le_trans (List.length_take_le' ..) (by rw [List.length_drop];exact Nat.sub_le ..)
structure PV (S:Sig) (k:Nat) (f:Fi) (Γ:Ctxt) (o:Option Expr) (i:Option Int):Prop where
  run:∀ (A:Around) (g:Heap) (W:Addr→Prop) (env:Env) (s:Shared) (Q:Value→Shared→Prop) (E:Value→Shared→Prop),Room S k A→St S f Γ g W env s →
    (∀ p g' s',Tr S (Nw s) g s g' s'→p.map Prod.fst = i→Q (partValue p) s')→wpAny S.M A (evalPart o env) Q E s
theorem PV.none:PV S k f Γ none none:=⟨fun A g W env s Q E R st h=>wpAny_pure (h Option.none g s ((st.at R).refl _) rfl)⟩
theorem PV.some {i:Int} (h1:EV S k f Γ e (.int i)):PV S k f Γ (some e) (some i):=⟨fun A g W env s Q E R st h=>by
  rw [evalPart_some]
  exact h1 A g W env s Q E R st fun v g' s' t r=>by cases r using Rd.casesInt;exact h (Option.some (_,_)) g' s' t rfl⟩
theorem kms_hi_le (v:Option Int) (n:Nat):kms_hi v n≤n:=by
  unfold kms_hi
  split
  · exact Nat.le_refl _
  · split
    · exact Nat.sub_le ..
    · exact Nat.min_le_right ..
theorem picked_range {a:List Nat} {p q:Option (Int × Tok)}:slicePicked (⟨a.toArray⟩:Str) p q Option.none = sliceRange ((kms_lo (p.map Prod.fst) a.length:Nat):Int) ((kms_hi (q.map Prod.fst) a.length:Nat):Int) 1:=by
  have e:=kms_bounds (p.map Prod.fst) (q.map Prod.fst) a.length
  have h:slicePicked (⟨a.toArray⟩:Str) p q Option.none = sliceRange (sliceBounds (p.map Prod.fst) (q.map Prod.fst) none a.length).1 (sliceBounds (p.map Prod.fst) (q.map Prod.fst) none a.length).2.1 (sliceBounds (p.map Prod.fst) (q.map Prod.fst) none a.length).2.2:=by
    cases p <;> cases q <;> rfl
  rw [h,e]
theorem picked_eq {a:List Nat} {p q:Option (Int × Tok)}:(slicePicked (⟨a.toArray⟩:Str) p q Option.none).filterMap ((⟨a.toArray⟩:Str).cps[·]?) = pick (p.map Prod.fst) (q.map Prod.fst) a:=by
  rw [picked_range,sliceRange_one,pick_run]
  simp [pick]
theorem pick_len {α:Type} (lo hi:Option Int) (l:List α):(pick lo hi l).length = kms_hi hi l.length - kms_lo lo l.length:=by
  unfold pick
  rw [List.length_take,List.length_drop,Nat.min_eq_left (Nat.sub_le_sub_right (kms_hi_le hi l.length) _)]
theorem picked_len {a:List Nat} {p q:Option (Int × Tok)}:(slicePicked (⟨a.toArray⟩:Str) p q Option.none).length = (pick (p.map Prod.fst) (q.map Prod.fst) a).length:=by
  rw [picked_range,sliceRange_one,List.length_map,List.length_range,pick_len]
theorem slice_whole {α:Type} (lo hi:Option Int) (l:List α) (h:(pick lo hi l).length = l.length):pick lo hi l = l:=by
  rw [pick_len] at h
  have h2:=kms_hi_le hi l.length
  have h3:kms_lo lo l.length = 0 ∨ l = []:=by
    cases l with
    | nil=>exact .inr rfl
    | cons x l=>exact .inl (by rcases Nat.eq_zero_or_pos (kms_lo lo (x :: l).length) with e | e;exact e;exact absurd h (Nat.ne_of_lt (Nat.lt_of_le_of_lt (Nat.sub_le_sub_right h2 _) (Nat.sub_lt (Nat.succ_pos _) e))))
  rcases h3 with h0 | rfl
  · rw [h0,Nat.sub_zero] at h
    unfold pick
    rw [h0,List.drop_zero,Nat.sub_zero,h,List.take_length]
  · unfold pick;rw [List.drop_nil,List.take_nil]
theorem EV.sliceS {a:List Nat} {lo hi:Option Expr} {i j:Option Int} {p:Pos} (h1:EV S k f Γ e (.str a)) (h2:PV S k f Γ lo i) (h3:PV S k f Γ hi j) (ht:∀ o r,letTemporaryGo e o r = pure ():=by intro _ _;rfl) :
    EV S k f Γ (.Subscript e (.Slice lo hi none p) pos) (.str (pick i j a)):=by
  intro A g W env s Q E R st hQ
  refine wpAny_Subscript_str_slice (h1 A g W env s _ E R st fun v g1 s1 t1 r1=>h2.run A g1 W env s1 _ E R (st.move t1) fun p2 g2 s2 t2 e2=>h3.run A g2 W env s2 _ E R ((st.move t1).move t2) fun p3 g3 s3 t3 e3=>?_) ht
  cases r1 using Rd.casesStr
  rename_i t hs
  refine ⟨_,t,p2,p3,rfl,rfl,rfl,?_⟩
  have a3:=(((st.move t1).move t2).move t3).at R
  have T:=(t1.then t2).then t3
  have hp:=picked_eq (a:=a) (p:=p2) (q:=p3)
  rw [e2,e3] at hp
  unfold sliceMade
  split
  · rename_i hw
    refine e1_2 (a3.push { cls:=.type "slice",data:=.fields #[partValue p2,partValue p3,.none] } (t:=s3.toks)) (fun g4 t4 _=>?_)
    refine hQ _ g4 _ (T.then t4) ?_
    have:(pick i j a) = a:=by
      apply slice_whole
      have hl:=picked_len (a:=a) (p:=p2) (q:=p3)
      rw [e2,e3] at hl
      rw [← hl]
      simpa [Str.length] using hw
    rw [this];exact .str a t hs
  · refine e1_2 (a3.push { cls:=.type "slice",data:=.fields #[partValue p2,partValue p3,.none] } (t:=s3.toks + 1)) (fun g4 t4 _=>?_)
    rw [hp]
    have hl:=Nat.le_trans (pick_length_le i j a) hs
    refine ⟨by show (pick i j a).toArray.size≤_;simpa using hl,hQ _ g4 _ (T.then t4) (.str _ _ hl)⟩
end
theorem sub_str_self:isSubtype (.type "str") (.type "str") = pure true:=by rw [isSubtype_type];kernel_rfl
theorem nested_str {prog:Program} {w:World} {A:Around} {E:Value→Shared→Prop} {s:Shared} {n:Int} {t:Tok} {Q:PySem.Fin→Shared→Prop} (hq:Q (.done (.ret (.bool true))) s) :
    wpAny (model prog w) A (Builtin.«issubclass.nested» ⟨[.type "str",.type "str",.int n t],[]⟩) Q E s:=by
  have hself:=sub_str_self
  have hm:(Value.type "type" == Value.type "type") = true:=by decide
  have ht:typeOf (.type "str") = pure (.type "type"):=by first | rfl | kernel_rfl
  unfold Builtin.«issubclass.nested»
  repeat (any_goals (first | assumption | (rw [if_pos hm]) | (rw [hself]) | (rw [ht]) | wp_step))
theorem issubclass_str {A:Around} {E:Value→Shared→Prop} {prog:Program} {w:World} {s:Shared} {a:Addr} {v:Value} {n:Nat} {Q:Value→Shared→Prop} (ho:s.heap.get? a = some (tupO [.type "str",v] n))
    (h:Q (.bool true) s):wpAny (model prog w) A (call (.builtin "issubclass") [.type "str",.ref a]) Q E s:=by
  refine call_issubclass (S:=fun A R s=>s.heap.get? a = some (tupO [.type "str",v] n)∧R (.ok (.ret (.bool true))) s) (fun prog w A R s hs=>issubclass_outer ?_) ⟨ho,h⟩
  obtain ⟨hp,g,d,tk,os⟩:=s
  refine e0_2 (hs) (fun ho h=>?_)
  have hT:∀ tk',(⟨hp,g,d,tk',os⟩:Shared).TypeIs (.ref a) "tuple":=fun _=>⟨_,ho,rfl⟩
  unfold Builtin.«issubclass.nested»
  repeat (any_goals (first | assumption | exact hT _ | wp_step))
  refine wpAny_of_eq (a:=true) (show isSubtype (.type "tuple") (.type "tuple") = pure true by rw [isSubtype_type];kernel_rfl) ?_
  refine wp_ifT rfl ?_
  dsimp only
  refine wp_ifF (by decide) ?_
  refine wpAny_bind (wpAny_seqItems ho rfl ?_)
  rw [Option.getD_some,← Array.forIn_toList]
  show wpAny _ _ (forIn [Value.type "str",v] _ _ >>= _) _ _ _
  rw [List.forIn_cons]
  refine wpAny_bind (wpAny_bind (wpAny_bind ?_))
  refine call_function_entry (by decide +kernel) (by decide +kernel) F.entry_issubclass_nested (by unfold argsOk;kernel_rfl) (nested_str ⟨_,rfl,?_⟩)
  refine wpAny_bind (wpAny_truthy_bool ?_)
  refine wp_ifT rfl ?_
  exact wpAny_bind (wpAny_pure (wpAny_pure (wpAny_pure (wpAny_pure h))))
section
variable {S:Sig} {k:Nat} {f:Fi} {Γ Γ':Ctxt} {e l r:Expr} {es:List Expr} {d d₁ d₂:D} {ds:List D} {pos:Pos}
theorem Ops.issubStr {d₂:D}:Ops S k (fun vs=>call (.builtin "issubclass") vs) [.raw (.type "str"),.tup [.raw (.type "str"),d₂]] (.bool true):=by
  intro A g s vs Q E at' rs h
  cases rs using Rds.casesCons with
  | cons r1 r2 =>
    cases r2 using Rds.casesCons with
    | cons r2 r3 =>
      cases r3 using Rds.casesNil;cases r1 using Rd.casesRaw
      cases r2 using Rd.casesTup with
      | tup e hl rs =>
        cases rs using Rds.casesCons with
        | cons r4 r5 =>
          cases r4 using Rd.casesRaw
          cases r5 using Rds.casesCons with
          | cons r6 r7 =>
            cases r7 using Rds.casesNil
            exact issubclass_str (at'.keep _ _ e) (h _ g _ (at'.refl _) (.raw _))
theorem Ops.typeOf {d:D} {T:String} (ht:TyD d T) (hT:(Value.type T == Value.type "builtin_function_or_method") = false:=by decide):Ops S k (fun vs=>call (.type "type") vs) [d] (.raw (.type T)):=by
  intro A g s vs Q E at' rs h
  cases rs using Rds.casesCons with
  | cons r1 r2 =>
    cases r2 using Rds.casesNil
    exact call_type_of (ht.is r1 at'.keep).1 hT (h _ g _ (at'.refl _) (.raw _))
theorem Ops.isinstSB {a:List Nat}:Ops S k (fun vs=>call (.builtin "isinstance") vs) [.str a,.raw (.type "bytes")] (.bool false):=by
  intro A g s vs Q E at' rs h
  cases rs using Rds.casesCons with
  | cons r1 r2 =>
    cases r2 using Rds.casesCons with
    | cons r2 r3 =>
      cases r3 using Rds.casesNil;cases r1 using Rd.casesStr;cases r2 using Rd.casesRaw
      exact IsiPair.str_bytes (h _ g _ (at'.tick _ (Nat.le_succ _)) (.raw _))
theorem Ops.isinstSS {a:List Nat}:Ops S k (fun vs=>call (.builtin "isinstance") vs) [.str a,.raw (.type "str")] (.bool true):=by
  intro A g s vs Q E at' rs h
  cases rs using Rds.casesCons with
  | cons r1 r2 =>
    cases r2 using Rds.casesCons with
    | cons r2 r3 =>
      cases r3 using Rds.casesNil;cases r1 using Rd.casesStr;cases r2 using Rd.casesRaw
      exact IsiPair.str_str (h _ g _ (at'.refl _) (.raw _))
end
end
section
open PySem PySem.W PySem.Calls PyProof.Rows
mutual
noncomputable def D.py:D→PyData
  | .raw (.bool b)=>.bool b
  | .raw _=>.none
  | .int i=>.int i
  | .str s=>.str ⟨s.toArray⟩
  | .list xs=>.list (D.pys xs)
  | .tup xs=>.tuple (D.pys xs)
  | .rng ..=>.none
  | .obj ..=>.none
noncomputable def D.pys:List D→List PyData
  | []=>[]
  | d :: ds=>D.py d :: D.pys ds
end
noncomputable def okC (s:List Nat):Bool:=s.all fun c=>decide (c < 0x110000)
noncomputable def D.ok (m:Bool):Nat→D→Bool
  | _,.raw .none=>true
  | _,.raw (.bool _)=>m
  | _,.int _=>!m
  | _,.str s=>okC s
  | n + 1,.tup ds=>ds.all (D.ok m n)
  | n + 1,.list ds=>ds.all (D.ok m n)
  | _,_=>false
theorem strOk_of {s:List Nat} (h:okC s = true):PyData.strOk ⟨s.toArray⟩ = true:=by
  unfold okC at h
  unfold PyData.strOk
  simp at h ⊢
  exact h
theorem D.okRec {m:Bool} {P:Nat→D→Prop} (h0:∀ n,P n (.raw .none)) (h1:∀ n b,m = true→P n (.raw (.bool b))) (h2:∀ n i,m = false→P n (.int i)) (h3:∀ n s,okC s = true→P n (.str s))
    (h4:∀ n ds,(∀ d ∈ ds,D.ok m n d = true)→(∀ d ∈ ds,P n d)→P (n + 1) (.tup ds)) (h5:∀ n ds,(∀ d ∈ ds,D.ok m n d = true)→(∀ d ∈ ds,P n d)→P (n + 1) (.list ds)):∀ n d,D.ok m n d = true→P n d:=by
  have flat:∀ n d,(∀ ds,d ≠ .tup ds)→(∀ ds,d ≠ .list ds)→D.ok m n d = true→P n d:=fun n d n1 n2 h=>by
    have h:D.ok m 0 d = true:=by cases n;exact h;(cases d <;> first | exact h | exact absurd rfl (n1 _) | exact absurd rfl (n2 _) | skip);rename_i v;cases v <;> exact h
    cases d with
    | raw v=>cases v <;> first | exact h0 n | exact h1 n _ h | exact absurd h Bool.false_ne_true
    | int i=>exact h2 n i (by cases m;rfl;cases h)
    | str s=>exact h3 n s h
    | tup ds=>exact absurd rfl (n1 ds)
    | list ds=>exact absurd rfl (n2 ds)
    | _=>exact absurd h Bool.false_ne_true
  intro n
  induction n with
  | zero=>exact fun d h=>flat 0 d (fun ds e=>by subst e;exact absurd h Bool.false_ne_true) (fun ds e=>by subst e;exact absurd h Bool.false_ne_true) h
  | succ n ih =>
    intro d h
    cases d with
    | tup ds=>have q:=List.all_eq_true.mp h;exact h4 n ds q fun d hd=>ih d (q d hd)
    | list ds=>have q:=List.all_eq_true.mp h;exact h5 n ds q fun d hd=>ih d (q d hd)
    | _=>exact flat (n + 1) _ nofun nofun h
theorem D.okMap {m:Bool} {n:Nat} {α:Type} {g:α→D} {xs:List α} (h:∀ x ∈ xs,D.ok m n (g x) = true):D.ok m (n + 1) (.list (xs.map g)) = true :=
  List.all_eq_true.mpr fun d hd=>e1_2 (List.mem_map.mp hd) fun y hy e=>by subst e;exact h y hy
theorem D.ok2 {m:Bool} {n:Nat} {a b:D} (h1:D.ok m n a = true) (h2:D.ok m n b = true):D.ok m (n + 1) (.list [a,b]) = true:=by
  show (D.ok m n a && (D.ok m n b && true)) = true;rw [h1,h2];rfl
theorem D.okT2 {m:Bool} {n:Nat} {a b:D} (h1:D.ok m n a = true) (h2:D.ok m n b = true):D.ok m (n + 1) (.tup [a,b]) = true:=D.ok2 h1 h2
theorem py_allP {g h:Heap} {ds:List D} (ih:∀ d ∈ ds,∀ v,Rd g v d→∃ as,Reads h v (D.py d) as) {vs:List Value} (r:Rds g vs ds):∃ as,ReadsAll h vs (D.pys ds) as:=by
  induction ds generalizing vs with
  | nil=>cases r using Rds.casesNil;exact ⟨_,.nil⟩
  | cons d ds hi =>
    cases r using Rds.casesCons with
    | cons a b=>exact e1_1 (ih d (.head _) _ a) fun as q=>e1_1 (hi (fun d hd=>ih d (.tail _ hd)) b) fun bs r=>⟨_,.cons q r⟩
theorem py_reads {g h:Heap} (k:Keep g h) {m:Bool} {v:Value} {d:D} (n:Nat) (r:Rd g v d) (hd:D.ok m n d = true):∃ as,Reads h v (D.py d) as :=
  D.okRec (P:=fun _ d=>∀ v,Rd g v d→∃ as,Reads h v (D.py d) as) (fun _ v r=>by cases r using Rd.casesRaw;exact ⟨_,.none⟩) (fun _ b _ v r=>by cases r using Rd.casesRaw;exact ⟨_,.bool _⟩) (fun _ i _ v r=>by cases r using Rd.casesInt;exact ⟨_,.int _ _⟩) (fun _ s _ v r=>by cases r using Rd.casesStr;exact ⟨_,.str _ _⟩)
    (fun _ ds _ ih v r=>by cases r using Rd.casesTup with | tup e hl rs=>exact e1_1 (py_allP ih rs) fun as q=>⟨as,reads_tuple_at (k _ _ e) rfl rfl q⟩)
    (fun _ ds _ ih v r=>by cases r using Rd.casesList with | list e hl rs=>exact e1_1 (py_allP ih rs) fun as q=>⟨_,reads_list_at (k _ _ e) rfl rfl q⟩) n d hd v r
theorem py_layAll {n:Nat}:∀ {ds:List D},(∀ d ∈ ds,(D.py d).canLay0 = true∧(D.py d).depth≤n)→PyData.canLayAll0 (D.pys ds) = true∧PyData.depthAll (D.pys ds)≤n:=fun {ds} h=>by
  induction ds with
  | nil=>exact ⟨rfl,Nat.zero_le _⟩
  | cons d ds hi =>
    have h1:=h d (.head _)
    have h2:=hi fun e he=>h e (.tail _ he)
    exact ⟨(Bool.and_eq_true _ _).mpr ⟨h1.1,h2.1⟩,Nat.max_le.mpr ⟨h1.2,h2.2⟩⟩
theorem py_lay {m:Bool}:∀ (n:Nat) (d:D),D.ok m n d = true→(D.py d).canLay0 = true∧(D.py d).depth≤n :=
  D.okRec (fun _=>⟨rfl,Nat.zero_le _⟩) (fun _ _ _=>⟨rfl,Nat.zero_le _⟩) (fun _ _ _=>⟨rfl,Nat.zero_le _⟩) (fun _ _ h=>⟨strOk_of h,Nat.zero_le _⟩)
    (fun n ds _ ih=>e0_2 (py_layAll ih) fun a b=>⟨a,Nat.succ_le_succ b⟩) fun n ds _ ih=>e0_2 (py_layAll ih) fun a b=>⟨a,Nat.succ_le_succ b⟩
theorem iffF {b:Bool} {p:Prop} (h:b = false) (n:¬ p):b = true ↔ p:=⟨fun q=>absurd (h.symm.trans q) Bool.false_ne_true,fun q=>absurd q n⟩
theorem py_eqvAll {ds:List D} (ih:∀ d ∈ ds,∀ e,(∃ k,D.ok m k e = true)→(PyData.eqv (D.py d) (D.py e) = true ↔ d = e)):∀ {es:List D} {k:Nat},(∀ e ∈ es,D.ok m k e = true)→(PyData.eqvAll (D.pys ds) (D.pys es) = true ↔ ds = es):=by
  induction ds with
  | nil=>intro es k _;cases es;exact ⟨fun _=>rfl,fun _=>rfl⟩;exact iffF rfl nofun
  | cons d ds hi =>
    intro es k h
    cases es with
    | nil=>exact iffF rfl nofun
    | cons e es =>
      have q1:=ih d (.head _) e ⟨k,h e (.head _)⟩
      have q2:=hi (fun d hd=>ih d (.tail _ hd)) fun e he=>h e (.tail _ he)
      exact (Bool.and_eq_true _ _).to_iff.trans ((and_congr q1 q2).trans (List.cons.injEq ..).symm.to_iff)
theorem py_eqv {m:Bool} (n:Nat) (d e:D) (k:Nat) (h1:D.ok m n d = true) (h2:D.ok m k e = true):PyData.eqv (D.py d) (D.py e) = true ↔ d = e :=
  D.okRec (m:=m) (P:=fun _ d=>∀ e,(∃ k,D.ok m k e = true)→(PyData.eqv (D.py d) (D.py e) = true ↔ d = e))
    (fun _ e h=>e1_1 h fun k h=>D.okRec (P:=fun _ e=>PyData.eqv (D.py (.raw .none)) (D.py e) = true ↔ D.raw .none = e) (fun _=>⟨fun _=>rfl,fun _=>rfl⟩) (fun _ _ _=>iffF rfl nofun) (fun _ _ _=>iffF rfl nofun) (fun _ _ _=>iffF rfl nofun) (fun _ _ _ _=>iffF rfl nofun) (fun _ _ _ _=>iffF rfl nofun) k e h)
    (fun _ b hb e h=>e1_1 h fun k h=>D.okRec (P:=fun _ e=>PyData.eqv (D.py (.raw (.bool b))) (D.py e) = true ↔ D.raw (.bool b) = e) (fun _=>iffF rfl nofun) (fun _ _ _=>⟨fun h=>by rw [eq_of_beq h],fun h=>by cases h;exact beq_self_eq_true b⟩) (fun _ _ hm=>absurd (hb.symm.trans hm) nofun) (fun _ _ _=>iffF rfl nofun) (fun _ _ _ _=>iffF rfl nofun) (fun _ _ _ _=>iffF rfl nofun) k e h)
    (fun _ i hi e h=>e1_1 h fun k h=>D.okRec (P:=fun _ e=>PyData.eqv (D.py (.int i)) (D.py e) = true ↔ D.int i = e) (fun _=>iffF rfl nofun) (fun _ _ hm=>absurd (hi.symm.trans hm) nofun) (fun _ _ _=>⟨fun h=>by rw [eq_of_beq h],fun h=>by cases h;exact beq_self_eq_true i⟩) (fun _ _ _=>iffF rfl nofun) (fun _ _ _ _=>iffF rfl nofun) (fun _ _ _ _=>iffF rfl nofun) k e h)
    (fun _ s _ e h=>e1_1 h fun k h=>D.okRec (P:=fun _ e=>PyData.eqv (D.py (.str s)) (D.py e) = true ↔ D.str s = e) (fun _=>iffF rfl nofun) (fun _ _ _=>iffF rfl nofun) (fun _ _ _=>iffF rfl nofun) (fun _ t _=>⟨fun h=>by injection (eq_of_beq (show ((⟨s.toArray⟩:Str) == ⟨t.toArray⟩) = true from h)) with h;rw [show s = t from congrArg Array.toList h],fun h=>by cases h;exact beq_self_eq_true (⟨s.toArray⟩:Str)⟩) (fun _ _ _ _=>iffF rfl nofun) (fun _ _ _ _=>iffF rfl nofun) k e h)
    (fun _ ds _ ih e h=>e1_1 h fun k h=>D.okRec (P:=fun _ e=>PyData.eqv (D.py (.tup ds)) (D.py e) = true ↔ D.tup ds = e) (fun _=>iffF rfl nofun) (fun _ _ _=>iffF rfl nofun) (fun _ _ _=>iffF rfl nofun) (fun _ _ _=>iffF rfl nofun) (fun _ es h _=>(py_eqvAll ih h).trans (D.tup.injEq ..).symm.to_iff) (fun _ _ _ _=>iffF rfl nofun) k e h)
    (fun _ ds _ ih e h=>e1_1 h fun k h=>D.okRec (P:=fun _ e=>PyData.eqv (D.py (.list ds)) (D.py e) = true ↔ D.list ds = e) (fun _=>iffF rfl nofun) (fun _ _ _=>iffF rfl nofun) (fun _ _ _=>iffF rfl nofun) (fun _ _ _=>iffF rfl nofun) (fun _ _ _ _=>iffF rfl nofun) (fun _ es h _=>(py_eqvAll ih h).trans (D.list.injEq ..).symm.to_iff) k e h)
    n d h1 e ⟨k,h2⟩
theorem Room.u64 {k:Nat} {A:Around} (h:Room S k A):A.units + 65 < cLine:=by
  have:=h.units
  lia
section
variable {S:Sig} {k:Nat} {f:Fi} {Γ Γ':Ctxt} {e l r:Expr} {es:List Expr} {d d₁ d₂:D} {ds:List D} {pos:Pos}
open Classical in
theorem py_dec {m:Bool} {n:Nat} {d e:D} (h1:D.ok m n d = true) (h2:D.ok m n e = true):PyData.eqv (D.py d) (D.py e) = decide (d = e):=by
  have q:=py_eqv n d e n h1 h2
  by_cases hq:d = e
  · rw [decide_eq_true hq];exact q.mpr hq
  · rw [decide_eq_false hq];exact Bool.eq_false_iff.mpr fun x=>hq (q.mp x)
theorem py_shaped {m:Bool} {d:D} (h:D.ok m 8 d = true):SeqAt.shaped (D.py d) = true:=by
  have l:=py_lay 8 d h
  unfold SeqAt.shaped;rw [l.1,Bool.true_and];exact decide_eq_true (Nat.le_trans l.2 (by decide))
open Classical in
theorem Op2.eqD (m:Bool) (h1:D.ok m 8 d₁ = true) (h2:D.ok m 8 d₂ = true):Op2 S k (compareOp .Eq) d₁ d₂ (.bool (decide (d₁ = d₂))):=by
  intro A g s v₁ v₂ Q E at' r1 r2 h
  refine e1_1 (py_reads at'.keep 8 r1 h1) (fun as a=>?_)
  refine e1_1 (py_reads at'.keep 8 r2 h2) (fun bs b=>?_)
  refine eq_dataH a b (py_shaped h1) (py_shaped h2) (by have:=at'.room.u64;lia) ?_
  rw [py_dec h1 h2]
  exact h _ g _ (at'.refl _) (.raw _)
open Classical in
theorem Op2.neD (m:Bool) (h1:D.ok m 8 d₁ = true) (h2:D.ok m 8 d₂ = true):Op2 S k (compareOp .NotEq) d₁ d₂ (.bool (!decide (d₁ = d₂))):=by
  intro A g s v₁ v₂ Q E at' r1 r2 h
  refine e1_1 (py_reads at'.keep 8 r1 h1) (fun as a=>?_)
  refine e1_1 (py_reads at'.keep 8 r2 h2) (fun bs b=>?_)
  refine ne_dataH a b (py_shaped h1) (py_shaped h2) (by have:=at'.room.u64;lia) ?_
  rw [py_dec h1 h2]
  exact h _ g _ (at'.refl _) (.raw _)
theorem py_any {m:Bool} {d:D} (hd:D.ok m 8 d = true) (ds:List D) (h:∀ e ∈ ds,D.ok m 8 e = true):(D.pys ds).any (fun y=>PyData.eqv y (D.py d)) = true ↔ d ∈ ds:=by
  induction ds with
  | nil=>exact iffF rfl nofun
  | cons e ds ih =>
    have q:=ih fun x hx=>h x (.tail _ hx)
    have q1:=py_eqv 8 e d 8 (h e (.head _)) hd
    exact (Bool.or_eq_true _ _).to_iff.trans ((or_congr (q1.trans eq_comm) q).trans List.mem_cons.symm)
open Classical in
theorem py_mem {m:Bool} {d:D} (hd:D.ok m 8 d = true) {ds:List D} (h:∀ e ∈ ds,D.ok m 8 e = true):((D.pys ds).any fun y=>PyData.eqv y (D.py d)) = decide (d ∈ ds):=by
  by_cases hq:d ∈ ds
  · rw [decide_eq_true hq];exact (py_any hd ds h).mpr hq
  · rw [decide_eq_false hq];exact Bool.eq_false_iff.mpr fun z=>hq ((py_any hd ds h).mp z)
theorem py_layL {m:Bool} {ds:List D} (h:∀ d ∈ ds,D.ok m 8 d = true):PyData.canLayAll0 (D.pys ds) = true∧PyData.depthAll (D.pys ds)≤9:=by
  have l:=py_lay (m:=m) 9 (.list ds) (List.all_eq_true.mpr h)
  exact ⟨l.1,Nat.le_of_succ_le_succ (Nat.le_succ_of_le l.2)⟩
open Classical in
theorem Op2.inL (m:Bool) (h1:D.ok m 8 d = true) (h2:∀ e ∈ ds,D.ok m 8 e = true):Op2 S k (compareOp .In) d (.list ds) (.bool (decide (d ∈ ds))):=by
  intro A g s v₁ v₂ Q E at' r1 r2 h
  refine e1_1 (py_reads at'.keep 8 r1 h1) (fun as a=>?_)
  refine e1_1 (py_reads at'.keep (m:=m) 9 r2 (List.all_eq_true.mpr h2)) (fun bs b=>?_)
  have l:=py_layL h2
  have ld:=py_lay 8 d h1
  have u:=at'.room.u64
  refine SeqAt.in_list_reads (xs:=D.pys ds) b a l.1 ld.1 ?_ (by rw [py_mem h1 h2];exact h _ g _ (at'.refl _) (.raw _))
  have:=Nat.min_le_right (PyData.depthAll (D.pys ds)) (D.py d).depth
  have:=ld.2
  lia
open Classical in
theorem Op2.notInL (m:Bool) (h1:D.ok m 8 d = true) (h2:∀ e ∈ ds,D.ok m 8 e = true):Op2 S k (compareOp .NotIn) d (.list ds) (.bool (!decide (d ∈ ds))):=by
  intro A g s v₁ v₂ Q E at' r1 r2 h
  refine e1_1 (py_reads at'.keep 8 r1 h1) (fun as a=>?_)
  refine e1_1 (py_reads at'.keep (m:=m) 9 r2 (List.all_eq_true.mpr h2)) (fun bs b=>?_)
  have l:=py_layL h2
  have ld:=py_lay 8 d h1
  have u:=at'.room.u64
  refine SeqAt.notIn_list_reads (xs:=D.pys ds) b a l.1 ld.1 ?_ (by rw [py_mem h1 h2];exact h _ g _ (at'.refl _) (.raw _))
  have:=Nat.min_le_right (PyData.depthAll (D.pys ds)) (D.py d).depth
  have:=ld.2
  lia
open Classical in
theorem Op2.inT (m:Bool) (h1:D.ok m 8 d = true) (h2:∀ e ∈ ds,D.ok m 8 e = true):Op2 S k (compareOp .In) d (.tup ds) (.bool (decide (d ∈ ds))):=by
  intro A g s v₁ v₂ Q E at' r1 r2 h
  refine e1_1 (py_reads at'.keep 8 r1 h1) (fun as a=>?_)
  refine e1_1 (py_reads at'.keep (m:=m) 9 r2 (List.all_eq_true.mpr h2)) (fun bs b=>?_)
  have l:=py_layL h2
  have ld:=py_lay 8 d h1
  have u:=at'.room.u64
  refine SeqAt.in_tuple_reads (xs:=D.pys ds) b a l.1 ld.1 ?_ (by rw [py_mem h1 h2];exact h _ g _ (at'.refl _) (.raw _))
  have:=Nat.min_le_right (PyData.depthAll (D.pys ds)) (D.py d).depth
  have:=ld.2
  lia
end
end
section
open PySem PySem.W PySem.Calls PyProof.Rows Builtin Builtin.Str StrLaws
noncomputable def splitC (c:Nat):List Nat→List (List Nat)
  | []=>[[]]
  | x :: xs=>if x = c then [] :: splitC c xs else match splitC c xs with
    | []=>[[x]]
    | p :: ps=>(x :: p) :: ps
theorem splitC_ne (c:Nat):∀ xs,splitC c xs ≠ []
  | []=>by simp [splitC]
  | x :: xs=>by
    unfold splitC
    split
    · simp
    · split <;> simp
noncomputable def cutsC (c:Nat):Nat→List Nat→List Nat
  | _,[]=>[]
  | o,x :: xs=>if x = c then o :: cutsC c (o + 1) xs else cutsC c (o + 1) xs
theorem occ_run (xs:List Nat) (c hi limit:Nat) (hh:hi≤xs.length):∀ (l:List Nat) (found:Array Nat) (free:Nat),(∀ i ∈ l,free≤i)→l.Pairwise (· < ·) →
    (forIn l (found,free) (occBody ⟨xs.toArray⟩ ⟨#[c]⟩ hi limit)).run.fst.toList = found.toList ++ ((l.filter fun i=>decide (i < hi∧xs[i]? = some c)).take (limit - found.size))
  | [],found,free,_,_=>by simp
  | a :: l,found,free,hf,hp=>by
    rw [List.forIn_cons]
    have hl:∀ i ∈ l,a < i:=fun i hi=>(List.pairwise_cons.mp hp).1 i hi
    have sub:subAt ⟨xs.toArray⟩ ⟨#[c]⟩ a = true ↔ xs[a]? = some c:=by
      have:=subAt_one ⟨xs.toArray⟩ c a
      simp [Str.length] at this ⊢
      constructor
      · intro h
        by_cases hb:a + 1≤xs.length
        · exact (this.mp ⟨by lia,h⟩)
        · exfalso
          unfold subAt at h
          simp [Str.length] at h
          have:=congrArg List.length h
          simp at this;lia
      · intro h;exact (this.mpr h).2
    by_cases hc:(((found,free).fst.size < limit∧(found,free).snd≤a)∧a + (⟨#[c]⟩:Str).length≤hi)∧subAt ⟨xs.toArray⟩ ⟨#[c]⟩ a = true
    · have e:occBody ⟨xs.toArray⟩ ⟨#[c]⟩ hi limit a (found,free) = pure (.yield (found.push a,a + 1)):=by unfold occBody;rw [if_pos hc];rfl
      rw [e]
      show (forIn (m:=Id) l (found.push a,a + 1) (occBody ⟨xs.toArray⟩ ⟨#[c]⟩ hi limit)).run.fst.toList = _
      rw [occ_run xs c hi limit hh l _ _ (fun i hi=>hl i hi) (List.pairwise_cons.mp hp).2]
      have h1:a < hi∧xs[a]? = some c:=⟨by have:=hc.1.2;simp [Str.length] at this;lia,sub.mp hc.2⟩
      have h2:limit - found.size = (limit - (found.push a).size) + 1:=by rw [Array.size_push,Nat.sub_add_eq,Nat.sub_add_cancel (Nat.sub_pos_of_lt hc.1.1.1)]
      rw [List.filter_cons_of_pos (by simpa using h1),h2,List.take_succ_cons]
      simp
    · have e:occBody ⟨xs.toArray⟩ ⟨#[c]⟩ hi limit a (found,free) = pure (.yield (found,free)):=by unfold occBody;rw [if_neg hc]
      rw [e]
      show (forIn (m:=Id) l (found,free) (occBody ⟨xs.toArray⟩ ⟨#[c]⟩ hi limit)).run.fst.toList = _
      rw [occ_run xs c hi limit hh l _ _ (fun i hi=>hf i (.tail _ hi)) (List.pairwise_cons.mp hp).2]
      by_cases h1:a < hi∧xs[a]? = some c
      · have:limit - found.size = 0:=by
          have h3:¬ found.size < limit:=fun h4=>hc ⟨⟨⟨h4,hf a (.head _)⟩,by simp [Str.length];lia⟩,sub.mpr h1.2⟩
          lia
        rw [this];simp
      · rw [List.filter_cons_of_neg (by simpa using h1)]
theorem occ1 (xs:List Nat) (c lo hi limit:Nat) (hh:hi≤xs.length):occurrences ⟨xs.toArray⟩ ⟨#[c]⟩ lo hi limit = ((List.range' lo (hi + 1 - lo)).filter fun i=>decide (i < hi∧xs[i]? = some c)).take limit:=by
  rw [occ_eq,occ_run xs c hi limit hh _ _ _ (fun i hi=>by simp [List.mem_range'] at hi;lia) List.pairwise_lt_range']
  simp
theorem cuts_eq (c:Nat):∀ (xs:List Nat) (pre:List Nat),((List.range' pre.length (xs.length + 1)).filter fun i=>decide (i < pre.length + xs.length∧(pre ++ xs)[i]? = some c)) = cutsC c pre.length xs
  | [],pre=>by simp [cutsC,List.range'_succ]
  | x :: xs,pre=>by
    have ih:=cuts_eq c xs (pre ++ [x])
    simp only [List.length_append,List.length_cons,List.length_nil,List.append_assoc,List.singleton_append] at ih
    rw [List.length_cons,List.range'_succ]
    have e:pre.length + (xs.length + 1) = pre.length + (0 + 1) + xs.length:=by lia
    rw [show pre.length + (0 + 1) = pre.length + 1 by lia] at ih e
    by_cases h:x = c
    · rw [List.filter_cons_of_pos (by simp [h]),e,ih]
      simp only [cutsC,h,if_true]
    · rw [List.filter_cons_of_neg (by simp [h]),e,ih]
      simp only [cutsC,h,if_false]
theorem occ_all (xs:List Nat) (c limit:Nat) (hl:xs.length≤limit):occurrences ⟨xs.toArray⟩ ⟨#[c]⟩ 0 xs.length limit = cutsC c 0 xs:=by
  rw [occ1 xs c 0 xs.length limit (Nat.le_refl _)]
  have:=cuts_eq c xs []
  simp only [List.length_nil,Nat.zero_add,List.nil_append] at this
  rw [show xs.length + 1 - 0 = xs.length + 1 by lia,this]
  apply List.take_of_length_le
  have:∀ (xs:List Nat) o,(cutsC c o xs).length≤xs.length:=by
    intro xs
    induction xs with
    | nil=>intro o;simp [cutsC]
    | cons x xs ih=>intro o;unfold cutsC;have:=ih (o + 1);split <;> simp <;> lia
  exact Nat.le_trans (this _ _) hl
theorem parts_eq (c:Nat):∀ (xs pre mid:List Nat),(((pre.length :: (cutsC c (pre.length + mid.length) xs).map (· + 1)).zip (cutsC c (pre.length + mid.length) xs ++ [(pre ++ mid ++ xs).length])).map fun (p:Nat × Nat)=>((pre ++ mid ++ xs).take p.2).drop p.1) =
    match splitC c xs with
    | []=>[mid]
    | p :: ps=>(mid ++ p) :: ps
  | [],pre,mid=>by
    simp only [cutsC,splitC,List.map_nil,List.nil_append,List.zip_cons_cons,List.zip_nil_right,List.map_cons,List.append_nil]
    rw [List.take_of_length_le (Nat.le_refl _)];simp
  | x :: xs,pre,mid=>by
    by_cases h:x = c
    · subst h
      have ih:=parts_eq x xs (pre ++ mid ++ [x]) []
      simp only [List.length_append,List.length_cons,List.length_nil,List.append_nil,Nat.add_zero,Nat.zero_add,List.append_assoc,List.singleton_append] at ih
      simp only [cutsC,splitC,if_true,List.map_cons,List.cons_append,List.zip_cons_cons]
      simp only [List.length_append,List.length_cons,List.append_assoc]
      rw [show pre.length + mid.length + 1 = pre.length + (mid.length + 1) by lia]
      rw [ih]
      cases hs:splitC x xs with
      | nil=>exact absurd hs (splitC_ne x xs)
      | cons p ps =>
        simp only [List.append_nil,List.nil_append,List.cons.injEq,and_true]
        rw [← List.append_assoc,List.take_append_of_le_length (by simp),List.take_of_length_le (by simp)]
        simp
    · have ih:=parts_eq c xs pre (mid ++ [x])
      simp only [List.length_append,List.length_cons,List.length_nil,List.append_assoc,List.singleton_append,Nat.zero_add] at ih
      simp only [cutsC,splitC,h,if_false,List.append_assoc,List.length_append,List.length_cons]
      rw [show pre.length + mid.length + 1 = pre.length + (mid.length + 1) by lia,ih]
      cases hs:splitC c xs with
      | nil=>exact absurd hs (splitC_ne c xs)
      | cons p ps=>simp
theorem parts_split (c:Nat) (xs:List Nat) (limit:Nat) (hl:xs.length≤limit):partsBetween ⟨xs.toArray⟩ (occurrences ⟨xs.toArray⟩ ⟨#[c]⟩ 0 xs.length limit) 1 = (splitC c xs).map fun p=>⟨p.toArray⟩:=by
  rw [occ_all xs c limit hl]
  have:=parts_eq c xs [] []
  simp only [List.length_nil,List.nil_append,Nat.zero_add] at this
  unfold partsBetween
  have e:(match splitC c xs with | []=>[[]] | p :: ps=>p :: ps) = splitC c xs:=by
    cases hs:splitC c xs with
    | nil=>exact absurd hs (splitC_ne c xs)
    | cons p ps=>rfl
  rw [e] at this
  rw [← this,List.map_map]
  apply List.map_congr_left
  intro p _
  simp [strSub,List.drop_take]
noncomputable def joinL (sep:List Nat):List (List Nat)→List Nat
  | []=>[]
  | [p]=>p
  | p :: q :: r=>p ++ sep ++ joinL sep (q :: r)
theorem glued_fold (sep:List Nat):∀ (ps:List (List Nat)) (acc:List Nat),(ps.map fun p=>(⟨p.toArray⟩:Str)).foldl (fun (a:Array Nat) (p:Str)=>a ++ (⟨sep.toArray⟩:Str).cps ++ p.cps) acc.toArray = (acc ++ (ps.map fun p=>sep ++ p).flatten).toArray
  | [],acc=>by simp
  | p :: ps,acc=>by
    have:=glued_fold sep ps (acc ++ sep ++ p)
    simp only [List.map_cons,List.foldl_cons]
    simp at this ⊢
    exact this
theorem joinL_cons (sep p:List Nat) (ps:List (List Nat)):joinL sep (p :: ps) = p ++ (ps.map fun p=>sep ++ p).flatten:=by
  induction ps generalizing p with
  | nil=>simp [joinL]
  | cons q r ih=>simp [joinL,ih q]
theorem glued_eq (sep:List Nat) (ps:List (List Nat)):glued ⟨sep.toArray⟩ (ps.map fun p=>⟨p.toArray⟩) = ⟨(joinL sep ps).toArray⟩:=by
  cases ps with
  | nil=>rfl
  | cons p ps =>
    unfold glued
    have:=glued_fold sep ps p
    simp only [List.map_cons,List.drop_succ_cons,List.drop_zero,List.headD_cons]
    rw [joinL_cons]
    exact congrArg Str.mk this
noncomputable def replC (c:Nat) (y:List Nat) (xs:List Nat):List Nat:=xs.flatMap fun x=>if x = c then y else [x]
theorem join_split (c:Nat) (y:List Nat):∀ xs,joinL y (splitC c xs) = replC c y xs
  | []=>by simp [splitC,joinL,replC]
  | x :: xs=>by
    have ih:=join_split c y xs
    cases hs:splitC c xs with
    | nil=>exact absurd hs (splitC_ne c xs)
    | cons p ps =>
      rw [hs] at ih
      by_cases h:x = c
      · simp only [splitC,h,if_true,hs]
        rw [joinL_cons]
        rw [joinL_cons] at ih
        simp only [replC,List.flatMap_cons,if_true] at ih ⊢
        simp [← ih]
      · simp only [splitC,h,if_false,hs]
        rw [joinL_cons]
        rw [joinL_cons] at ih
        simp only [replC,List.flatMap_cons,h,if_false] at ih ⊢
        simp [← ih]
end
section
open PySem PySem.W PySem.Calls PyProof.Rows
section
variable {S:Sig} {k:Nat} {f:Fi} {Γ Γ':Ctxt} {e l r:Expr} {es:List Expr} {d d₁ d₂:D} {ds:List D} {pos:Pos}
theorem Rds.strs {g:Heap}:∀ (t:Nat) (ps:List (List Nat)),(∀ p ∈ ps,p.length≤sizeLine)→Rds g (strsFrom t (ps.map fun p=>⟨p.toArray⟩)) (ps.map .str)
  | _,[],_=>.nil
  | t,p :: ps,h=>.cons (.str p t (h p (.head _))) (Rds.strs (t + 1) ps fun q hq=>h q (.tail _ hq))
theorem splitC_length (c:Nat):∀ xs,(splitC c xs).length≤xs.length + 1
  | []=>by simp [splitC]
  | x :: xs=>by
    have:=splitC_length c xs
    unfold splitC
    split
    · simp;lia
    · split
      · simp
      · rename_i h;rw [h] at this;simp at this ⊢;lia
theorem splitC_mem (c:Nat):∀ xs,∀ p ∈ splitC c xs,p.length≤xs.length
  | [],p,hp=>by simp [splitC] at hp;simp [hp]
  | x :: xs,p,hp=>by
    have ih:=splitC_mem c xs
    unfold splitC at hp
    split at hp
    · rcases List.mem_cons.mp hp with rfl | hp
      · simp
      · have:=ih p hp;simp;lia
    · split at hp
      · simp at hp;simp [hp]
      · rename_i q qs h
        rw [h] at ih
        rcases List.mem_cons.mp hp with rfl | hp
        · have:=ih q (.head _);simp;lia
        · have:=ih p (.tail _ hp);simp;lia
theorem cutsC_nil (c:Nat):∀ (xs:List Nat) (o:Nat),cutsC c o xs = []→splitC c xs = [xs]
  | [],_,_=>rfl
  | x :: xs,o,h=>by
    by_cases hx:x = c
    · simp [cutsC,hx] at h
    · simp only [cutsC,hx,if_false] at h
      have:=cutsC_nil c xs _ h
      simp [splitC,hx,this]
theorem At.pushT {k:Nat} {A:Around} {g:Heap} {s:Shared} (a:At S k A g s) (o:Obj) (t:Nat) (ht:s.toks≤t) (hf:o.isFreed = false:=by rfl) :
    ∃ g',Tr S (Nw s) g s g' { s with heap:=s.heap.push o,toks:=t }∧g'.get? s.heap.objs.size = some o:=a.push o hf ht
theorem Ops.splitS {xs:List Nat} {c:Nat} (hc:c < 256) (hz:xs.length + 2≤sizeLine):Ops S k (fun vs=>call (.builtin "str.split") vs) [.str xs,.str [c]] (.list ((splitC c xs).map .str)):=by
  intro A g s vs Q E at' rs h
  cases rs using Rds.casesCons with
  | cons r1 r2 =>
    cases r2 using Rds.casesCons with
    | cons r2 r3 =>
      cases r3 using Rds.casesNil;cases r1 using Rd.casesStr;cases r2 using Rd.casesStr
      rename_i t _ u _
      have hk:Builtin.Str.strKind (⟨[c].toArray⟩:Str) = 1:=by simp [Builtin.Str.strKind,hc]
      have hk2:∀ x:Str,¬ Builtin.Str.strKind x < 1:=fun x=>by unfold Builtin.Str.strKind;split <;> (try split) <;> lia
      have one:splitC c xs = [xs]→∀ {g':Heap} {n:Nat},g'.get? s.heap.objs.size = some (listO [.str ⟨xs.toArray⟩ t] n)→Rd g' (.ref s.heap.objs.size) (.list ((splitC c xs).map .str)):=fun e g' n e'=>by
        rw [e]
        exact .list e' (by show 1≤sizeLine;decide) (.cons (.str xs t (by lia)) .nil)
      cases h1:(decide ((⟨xs.toArray⟩:Str).length < (⟨[c].toArray⟩:Str).length) || decide (Builtin.Str.strKind ⟨xs.toArray⟩ < Builtin.Str.strKind ⟨[c].toArray⟩))
      · have h2:((⟨[c].toArray⟩:Str).length == 0) = false:=by simp [Str.length]
        have hocc:Builtin.Str.occurrences ⟨xs.toArray⟩ ⟨[c].toArray⟩ 0 (⟨xs.toArray⟩:Str).length ((⟨xs.toArray⟩:Str).length + 1) = cutsC c 0 xs:=by
          have:=occ_all xs c (xs.length + 1) (by lia)
          simpa [Str.length] using this
        cases hf:(Builtin.Str.occurrences ⟨xs.toArray⟩ ⟨[c].toArray⟩ 0 (⟨xs.toArray⟩:Str).length ((⟨xs.toArray⟩:Str).length + 1)).isEmpty
        · have hp:Builtin.Str.partsBetween ⟨xs.toArray⟩ (Builtin.Str.occurrences ⟨xs.toArray⟩ ⟨[c].toArray⟩ 0 (⟨xs.toArray⟩:Str).length ((⟨xs.toArray⟩:Str).length + 1)) (⟨[c].toArray⟩:Str).length = (splitC c xs).map fun p=>⟨p.toArray⟩:=by
            have:=parts_split c xs (xs.length + 1) (by lia)
            simpa [Str.length] using this
          have hlen:=splitC_length c xs
          refine call_meets PySem.F.slot_str_split (typeIs_str _ _ _) PySem.F.entry_str_split (PySem.F.args_str_split_2 _ _) (meets_str_split_sep _ _ t u h1 h2 hf (by simp [Str.length];lia) (by rw [hp];simp;lia)) ?_
          rw [hp]
          refine e1_2 (at'.pushT (listO (strsFrom s.toks ((splitC c xs).map fun p=>⟨p.toArray⟩)) 0) (s.toks + ((splitC c xs).map fun p=>(⟨p.toArray⟩:Str)).length) (by lia)) (fun g' t' e'=>?_)
          refine h _ g' _ t' (.list e' ?_ (Rds.strs _ _ fun p hp=>?_))
          · rw [strsFrom_length];simp;lia
          · have:=splitC_mem c xs p hp;lia
        · have hn:splitC c xs = [xs]:=cutsC_nil c xs 0 (by rw [hocc] at hf;simpa using hf)
          refine call_meets PySem.F.slot_str_split (typeIs_str _ _ _) PySem.F.entry_str_split (PySem.F.args_str_split_2 _ _) (meets_str_split_not_found _ _ t u h1 h2 hf) ?_
          refine e1_2 (at'.pushT (listO [.str ⟨xs.toArray⟩ t] 0) s.toks (Nat.le_refl _)) (fun g' t' e'=>?_)
          exact h _ g' _ t' (one hn e')
      · have hn:splitC c xs = [xs]:=by
          rw [hk] at h1
          simp [Str.length,hk2] at h1
          subst h1;rfl
        refine call_meets PySem.F.slot_str_split (typeIs_str _ _ _) PySem.F.entry_str_split (PySem.F.args_str_split_2 _ _) (meets_str_split_cannot_occur _ _ t u h1) ?_
        refine e1_2 (at'.pushT (listO [.str ⟨xs.toArray⟩ t] 0) s.toks (Nat.le_refl _)) (fun g' t' e'=>?_)
        exact h _ g' _ t' (one hn e')
theorem Rds.toStrs {g:Heap} {vs:List Value} {ps:List (List Nat)} (h:Rds g vs (ps.map .str)):∃ l:List (Str × Tok),vs = strValues l∧l.map (·.1) = ps.map fun p=>⟨p.toArray⟩:=by
  induction ps generalizing vs with
  | nil=>cases h using Rds.casesNil;exact ⟨[],rfl,rfl⟩
  | cons p ps ih =>
    cases h using Rds.casesCons with
    | cons a b =>
      cases a using Rd.casesStr with
      | str t hs =>
        (refine e1_2 (ih b) (fun l q1q e=>?_);subst q1q)
        exact ⟨(⟨p.toArray⟩,t) :: l,rfl,by rw [List.map_cons,e];rfl⟩
theorem joinL_len (sep:List Nat):∀ ps:List (List Nat),(joinL sep ps).length≤(ps.map fun p=>p.length + sep.length).sum
  | []=>by simp [joinL]
  | [p]=>by simp [joinL]
  | p :: q :: r=>by
    have:=joinL_len sep (q :: r)
    simp [joinL] at this ⊢;lia
theorem foldl_len (n:Nat):∀ (l:List Str) (a:Nat),l.foldl (fun (x:Nat) (p:Str)=>x + p.length + n) a = a + (l.map fun p=>p.length + n).sum
  | [],a=>by simp
  | p :: l,a=>by rw [List.foldl_cons,foldl_len n l];simp;lia
theorem Ops.joinS {sep:List Nat} {ps:List (List Nat)} (hz:(ps.map fun p=>p.length + sep.length).sum≤sizeLine):Ops S k (fun vs=>call (.builtin "str.join") vs) [.str sep,.list (ps.map .str)] (.str (joinL sep ps)):=by
  intro A g s vs Q E at' rs h
  cases rs using Rds.casesCons with
  | cons r1 r2 =>
    cases r2 using Rds.casesCons with
    | cons r2 r3 =>
      cases r3 using Rds.casesNil
      cases r1 using Rd.casesStr with
      | str t hs0 =>
      cases r2 using Rd.casesList with
      | list e hl rs =>
        rename_i a ws n
        (refine e1_2 (rs.toStrs) (fun l q2q el=>?_);subst q2q)
        have hlong:Builtin.Str.tooLong ((l.map (·.1)).toArray.foldl (· + ·.length + (⟨sep.toArray⟩:Str).length) 0) = false:=by
          rw [el]
          simp only [List.foldl_toArray]
          rw [foldl_len]
          simp [Builtin.Str.tooLong,Str.length]
          simpa [Function.comp_def] using hz
        have hj:=joinL_len sep ps
        refine call_meets PySem.F.slot_str_join (typeIs_str _ _ _) PySem.F.entry_str_join (PySem.F.args_str_join_2 _ _) (meets_str_join_list _ t a l hlong) ⟨⟨_,at'.keep _ _ e,rfl,n,rfl⟩,?_⟩
        have gen:l.length ≠ 1→(joinMade ⟨sep.toArray⟩ l).post (fun v s'=>wants Q E (.ok (.ret v)) s') s:=fun hne=>by
          have em:joinMade ⟨sep.toArray⟩ l = .str (Builtin.Str.glued ⟨sep.toArray⟩ (l.map (·.1))):=by
            cases l with
            | nil=>rfl
            | cons p r=>cases r with
              | nil=>exact absurd rfl hne
              | cons q r=>rfl
          rw [em,el,glued_eq]
          refine ⟨by show (joinL sep ps).toArray.size≤_;simp;lia,?_⟩
          exact h _ g _ (at'.tick _ (Nat.le_succ _)) (.str _ _ (by lia))
        rcases l with _ | ⟨p,_ | ⟨q,r⟩⟩
        · exact gen (by simp)
        · rcases ps with _ | ⟨q,_ | ⟨q',r⟩⟩
          · simp at el
          · simp at el
            obtain ⟨x,u⟩:=p
            simp at el
            subst el
            have hq:q.length≤sizeLine:=by simp at hz;lia
            exact h _ g _ (at'.refl _) (.str q u hq)
          · simp at el
        · exact gen (by simp)
end
end
section
open PySem PySem.W PySem.Calls PyProof.Rows
structure Nm (f:Fi) (x:Str) (i:Nat) (kd:NameKind):Prop where
  hx:f.vars[i]? = some x
  hk:f.kinds[i]? = some kd
  d1:(x == ("__debug__":Str)) = false
  d2:(x == ("__classdict__":Str)) = false
noncomputable def Raw (S:Sig) (f:Fi) (x:Str) (v:Value):Prop:=∀ k Γ pos,EV S k f Γ (.Name x pos) (.raw v)
noncomputable def Cs (x:Str) (cs:List Nat):Prop:=x.cps.toList = cs
section
variable {S:Sig} {k:Nat} {f:Fi} {Γ Γ' Γ₁ Γ₂:Ctxt} {e l r:Expr} {es:List Expr} {d d₁ d₂:D} {ds:List D} {pos p':Pos} {sts body orelse:List Stmt} {res:Res} {b c:Bool} {x:Str} {kd:NameKind} {i:Nat} {v:Value}
theorem EV.nm (n:Nm f x i kd) (hl:Γ[i]? = some (some (.val d))):EV S k f Γ (.Name x pos) d:=.name i n.hx hl n.d1 n.d2
theorem EV.nmC (n:Nm f x i kd) (hl:Γ[i]? = some (some (.cell (some d)))):EV S k f Γ (.Name x pos) d:=.nameC i n.hx hl n.d1
theorem Raw.ev (n:Raw S f x v):EV S k f Γ (.Name x pos) (.raw v):=n k Γ pos
theorem EV.cS {cs:List Nat} {kk:Nat} (h:Cs x cs) (hl:cs.length≤sizeLine:=by decide):EV S k f Γ (.Constant (.str x) kk pos) (.str cs):=.cStr h hl
theorem AS.nm (n:Nm f x i .local):AS S k f Γ (.Name x pos) d (Γ.set i (some (.val d))):=.name i n.hx n.hk
theorem AS.nmC {od:Option D} (n:Nm f x i .cell) (hl:Γ[i]? = some (some (.cell od))):AS S k f Γ (.Name x pos) d (Γ.set i (some (.cell (some d)))):=.cell i n.hx hl
theorem TV.is (h:TV S k f Γ e b) (hb:b = c):TV S k f Γ e c:=hb ▸ h
theorem ATV.andT (h1:TV S k f Γ e true) (h2:ATV S k f Γ .And es c):ATV S k f Γ .And (e :: es) c:=by
  have:=ATV.and h1 fun _=>h2
  simpa using this
theorem ATV.andF (h1:TV S k f Γ e false):ATV S k f Γ .And (e :: es) false:=by
  have:=ATV.and (c:=false) (es:=es) h1 (by nofun)
  simpa using this
theorem ATV.orT (h1:TV S k f Γ e true):ATV S k f Γ .Or (e :: es) true:=by
  have:=ATV.or (c:=true) (es:=es) h1 (by nofun)
  simpa using this
theorem ATV.orF (h1:TV S k f Γ e false) (h2:ATV S k f Γ .Or es c):ATV S k f Γ .Or (e :: es) c:=by
  have:=ATV.or h1 fun _=>h2
  simpa using this
theorem EX.ifT {cnd:Expr} (h1:TV S k f Γ cnd true) (h2:EXs S k f Γ body res):EX S k f Γ (.If cnd body orelse pos) res:=.if h1 (fun _=>h2) (by nofun)
theorem EX.ifF {cnd:Expr} (h1:TV S k f Γ cnd false) (h2:EXs S k f Γ orelse res):EX S k f Γ (.If cnd body orelse pos) res:=.if h1 (by nofun) (fun _=>h2)
theorem EV.ifT {cnd:Expr} (h1:TV S k f Γ cnd true) (h2:EV S k f Γ l d):EV S k f Γ (.IfExp cnd l r pos) d:=.ifExp h1 (fun _=>h2) (by nofun)
theorem EV.ifF {cnd:Expr} (h1:TV S k f Γ cnd false) (h2:EV S k f Γ r d):EV S k f Γ (.IfExp cnd l r pos) d:=.ifExp h1 (by nofun) (fun _=>h2)
theorem BV.orStop {e':Expr} (h1:EV S k f Γ e d) (h2:OpT S k d true):BV S k f Γ .Or (e :: e' :: es) d:=.cons h1 h2 (fun _=>rfl) (by nofun)
theorem BV.orGo {e':Expr} (h1:EV S k f Γ e d₁) (h2:OpT S k d₁ false) (h3:BV S k f Γ .Or (e' :: es) d):BV S k f Γ .Or (e :: e' :: es) d:=.cons h1 h2 (by nofun) (fun _=>h3)
theorem BV.andStop {e':Expr} (h1:EV S k f Γ e d) (h2:OpT S k d false):BV S k f Γ .And (e :: e' :: es) d:=.cons h1 h2 (fun _=>rfl) (by nofun)
theorem BV.andGo {e':Expr} (h1:EV S k f Γ e d₁) (h2:OpT S k d₁ true) (h3:BV S k f Γ .And (e' :: es) d):BV S k f Γ .And (e :: e' :: es) d:=.cons h1 h2 (by nofun) (fun _=>h3)
noncomputable def Tested (e:Expr):Prop:=∀ env w,isTrue e env w = (do let v ← w;standAt e.pos;holding [v] (truthy v))
theorem tested_Name {x:Str}:Tested (.Name x pos):=fun _ _=>rfl
theorem tested_Call {fn:Expr} {kw:List Keyword}:Tested (.Call fn es kw pos):=fun _ _=>rfl
theorem tested_Const {cc:Const} {n:Nat}:Tested (.Constant cc n pos):=fun _ _=>rfl
theorem Ops.lenL {xs:List D}:Ops S k (fun vs=>call (.builtin "len") vs) [.list xs] (.int xs.length):=by
  intro A g s vs Q E at' rs h
  cases rs using Rds.casesCons with
  | cons r1 r2 =>
    cases r2 using Rds.casesNil
    cases r1 using Rd.casesList with
    | list e hl rs =>
      rename_i a ws n
      have hlen:=rs.length
      have hz:=sizeLine_eq
      refine PySem.Calls.call_len_list (items:=ws.toArray) ⟨_,at'.keep _ _ e,rfl,n,rfl⟩ (by simp only [List.size_toArray];lia) ?_
      refine h _ g _ (at'.tick _ (by lia)) ?_
      have:=Rd.int (g:=g) (xs.length:Int) (s.toks + 1)
      simpa [hlen] using this
theorem Op2.itemL {xs:List D} {i:Int} (hd:xs[idx xs.length i]? = some d) (h0:-(xs.length:Int)≤i):Op2 S k getItem (.list xs) (.int i) d:=by
  intro A g s v₁ v₂ Q E at' r1 r2 h
  cases r2 using Rd.casesInt
  cases r1 using Rd.casesList with
  | list e hl rs =>
    rename_i u a ws n
    have hlen:=rs.length
    refine e1_2 (rs.get _ hd) (fun v hv hr=>?_)
    have hi:idx xs.length i < xs.length:=(List.getElem?_eq_some_iff.mp hd).1
    refine wp_getAt a (at'.keep _ _ e) hl (by rw [hlen];exact h0) ?_ (by rw [hlen];exact hv) (h v g s (at'.refl _) hr)
    rw [hlen];exact idx_lt hi
theorem Op2.addL {xs ys:List D} (hz:xs.length + ys.length≤sizeLine):Op2 S k (binaryOp .Add) (.list xs) (.list ys) (.list (xs ++ ys)):=by
  intro A g s v₁ v₂ Q E at' r1 r2 h
  cases r1 using Rd.casesList with
  | list e hl rs =>
  cases r2 using Rd.casesList with
  | list e' hl' rs' =>
    rename_i a ws n b us m
    have l1:=rs.length
    have l2:=rs'.length
    refine P.add_list (n:=n) (n2:=m) (at'.keep _ _ e) (at'.keep _ _ e') ?_ (by simp;lia)
    refine e1_2 (at'.pushT (listO (ws ++ us) 0) s.toks (Nat.le_refl _)) (fun g' t' e''=>?_)
    have key:=h _ g' _ t' (.list e'' (by simp;lia) ((rs.append rs').mono t'.mono))
    simpa using key
theorem EV.sliceL {xs:List D} {lo hi:Option Expr} {i j:Option Int} {p:Pos} (h1:EV S k f Γ e (.list xs)) (h2:PV S k f Γ lo i) (h3:PV S k f Γ hi j) (ht:∀ o r,letTemporaryGo e o r = pure ():=by intro _ _;rfl) :
    EV S k f Γ (.Subscript e (.Slice lo hi none p) pos) (.list (pick i j xs)):=by
  intro A g W env s Q E R st hQ
  refine wpAny_Subscript_list_slice (h1 A g W env s _ E R st fun v g1 s1 t1 r1=>h2.run A g1 W env s1 _ E R (st.move t1) fun p2 g2 s2 t2 e2=>h3.run A g2 W env s2 _ E R ((st.move t1).move t2) fun p3 g3 s3 t3 e3=>?_) ht
  have a3:=(((st.move t1).move t2).move t3).at R
  have T:=(t1.then t2).then t3
  have r3:=r1.mono (t2.mono.trans t3.mono)
  have part:∀ {p:Option (Int × Tok)} {i:Option Int},p.map Prod.fst = i→IsPart (partValue p) i:=fun {p i} e=>by
    cases p with
    | none=>simp at e;subst e;exact .none
    | some q=>simp at e;subst e;exact .int _ _
  cases r3 using Rd.casesList with
  | list e hl rs =>
    rename_i a ws n
    refine ⟨a,ws.toArray,i,j,rfl,⟨_,t3.keep _ _ e,rfl,n,rfl⟩,by simpa using hl,part e2,part e3,?_⟩
    rw [kms_pick_eq]
    refine e1_2 (a3.push { cls:=.type "slice",data:=.fields #[partValue p2,partValue p3,.none] } (t:=s3.toks)) (fun g4 t4 _=>?_)
    refine e1_2 ((t4.at R).push (listO (pick i j ws) 0) (t:=s3.toks) (ht:=Nat.le_refl _)) (fun g5 t5 e5=>?_)
    rw [Heap.size_push] at e5
    exact hQ _ g5 _ ((T.then t4).then t5) (.list e5 (Nat.le_trans (pick_length_le _ _ _) hl) ((rs.mono (t4.mono.trans t5.mono)).pick i j))
theorem At.pushR {A:Around} {g:Heap} {s:Shared} (a:At S k A g s) (b c d:Int) (t u v:Tok) (tk:Nat) (ht:s.toks≤tk) :
    ∃ g',Tr S (Nw s) g s g' { s with heap:=s.heap.push { cls:=.type "range",data:=.fields #[.int b t,.int c u,.int d v] },toks:=tk }∧Rd g' (.ref s.heap.objs.size) (.rng b c d):=by
  refine e1_2 (a.push { cls:=.type "range",data:=.fields #[.int b t,.int c u,.int d v] } (t:=tk) (ht:=ht)) (fun g' t' e'=>?_)
  exact ⟨g',t',.rng e'⟩
theorem Ops.range1 {n:Int}:Ops S k (fun vs=>call (.type "range") vs) [.int n] (.rng 0 n 1):=by
  intro A g s vs Q E at' rs h
  cases rs using Rds.casesCons with
  | cons r1 r2 =>
    cases r2 using Rds.casesNil;cases r1 using Rd.casesInt
    rename_i t
    refine call_range_1 ?_
    refine e1_2 (at'.pushR 0 n 1 s.toks t (s.toks + 1) (s.toks + 1 + 1) (by lia)) (fun g' t' r'=>?_)
    exact h _ g' _ t' r'
theorem Ops.range2 {m n:Int}:Ops S k (fun vs=>call (.type "range") vs) [.int m,.int n] (.rng m n 1):=by
  intro A g s vs Q E at' rs h
  cases rs using Rds.casesCons with
  | cons r1 r2 =>
    cases r2 using Rds.casesCons with
    | cons r2 r3 =>
      cases r3 using Rds.casesNil;cases r1 using Rd.casesInt;cases r2 using Rd.casesInt
      rename_i t u
      refine call_range_2 ?_
      refine e1_2 (at'.pushR m n 1 t u s.toks (s.toks + 1) (by lia)) (fun g' t' r'=>?_)
      exact h _ g' _ t' r'
theorem Ops.range3 {m n c:Int} (hc:c ≠ 0) (hs:c.natAbs.log2 < 9000:=by decide +kernel):Ops S k (fun vs=>call (.type "range") vs) [.int m,.int n,.int c] (.rng m n c):=by
  intro A g s vs Q E at' rs h
  cases rs using Rds.casesCons with
  | cons r1 r2 =>
    cases r2 using Rds.casesCons with
    | cons r2 r3 =>
      cases r3 using Rds.casesCons with
      | cons r3 r4 =>
        cases r4 using Rds.casesNil;cases r1 using Rd.casesInt;cases r2 using Rd.casesInt;cases r3 using Rd.casesInt
        rename_i t u v
        refine call_range_3 hc ?_ (.inl (PyProof.noPylong_of_log2 hs))
        refine e1_2 (at'.pushR m n c t u v s.toks (Nat.le_refl _)) (fun g' t' r'=>?_)
        exact h _ g' _ t' r'
theorem Rds.ints {g:Heap} {a c:Int} (n:Nat):∀ (i:Nat) (vs:List Value),vs.length = n→(∀ j v,vs[j]? = some v→∃ t,v = Value.int (a + ((i + j:Nat):Int) * c) t)→Rds g vs ((List.range n).map fun j=>D.int (a + ((i + j:Nat):Int) * c)):=by
  induction n with
  | zero =>
    intro i vs hl h
    cases vs with
    | nil=>exact .nil
    | cons v vs=>cases hl
  | succ n ih =>
    intro i vs hl h
    cases vs with
    | nil=>cases hl
    | cons v vs =>
      (refine e1_1 (h 0 v rfl) (fun t q2q=>?_);subst q2q)
      have ih:=ih (i + 1) vs (Nat.succ.inj hl) fun j v hj=>by
        have:=h (j + 1) v hj
        rwa [show i + (j + 1) = i + 1 + j by lia] at this
      rw [List.range_succ_eq_map,List.map_cons,List.map_map]
      refine .cons (.int _ t) ?_
      have e:((fun j=>D.int (a + ((i + j:Nat):Int) * c)) ∘ Nat.succ) = fun j=>D.int (a + ((i + 1 + j:Nat):Int) * c):=by
        funext j
        show D.int (a + ((i + (j + 1):Nat):Int) * c) = _
        rw [show i + (j + 1) = i + 1 + j by lia]
      rw [e];exact ih
theorem Ops.listRange [Free S] {a b c:Int} {n:Nat} (hsm:Builtin.Range.small a b c = true) (hn:Builtin.Range.rangeSize a b c = (n:Int)) (hlen:n≤2 ^ 24):Ops S k (fun vs=>call (.type "list") vs) [.rng a b c] (.list (intD a c n)):=by
  intro A g s vs Q E at' rs h
  cases rs using Rds.casesCons with
  | cons r1 r2 =>
    cases r2 using Rds.casesNil
    cases r1 using Rd.casesRng with
    | rng e =>
      rename_i r t u v
      refine wpAny_grown (call_list_range (at'.room.handled Free.free) (at'.keep _ _ e) hsm hn hlen fun h' tk acc' c' hk he hit G=>?_)
      refine e1_3 (Tr.grow (s':={ s with heap:=h',toks:=tk }) (fun _=>True) at'.keep at'.base at'.tabs hk G.heap rfl rfl G.toks) (fun g' t' hnew _=>?_)
      have hz:=sizeLine_eq
      have hsz:acc'.size = n:=hit.1
      refine h _ g' _ t' (.list (vs:=acc'.toList) (n:=c') (hnew _ _ (by simpa using he) (Nat.le_refl _) trivial) (by simp only [Array.length_toList];lia) ?_)
      have:=Rds.ints (g:=g') (a:=a) (c:=c) n 0 acc'.toList (by simpa using hsz) fun j v hj=>by
        have:=hit.2 j v (by simpa using hj)
        simpa using this
      simpa [intD] using this
theorem EX.augN {op:Operator} (n:Nm f x i .local) (hl:Γ[i]? = some (some (.val d₁))) (h1:EV S k f Γ e d₂) (h2:Op2 S k (inplaceOp op) d₁ d₂ d):EX S k f Γ (.AugAssign (.Name x p') op e pos) (.next (Γ.set i (some (.val d)))):=.aug i n.hx n.hk hl h1 h2
theorem Ops.typeS {a:List Nat}:Ops S k (fun vs=>call (.type "type") vs) [.str a] (.raw (.type "str")):=Ops.typeOf rfl
inductive Rest (S:Sig) (k:Nat) (f:Fi) (sts:List Stmt) (res:Res):Res→Prop where
  | next {Γ:Ctxt}:EXs S k f Γ sts res→Rest S k f sts res (.next Γ)
  | stop {r:Res}:r = res→res.leaves = true→Rest S k f sts res r
theorem EXs.seq {st:Stmt} {r:Res} (h1:EX S k f Γ st r) (h2:Rest S k f sts res r):EXs S k f Γ (st :: sts) res:=by
  cases h2 with
  | next h=>exact .cons h1 h
  | stop e h=>subst e;exact .stop h1 h
theorem EXs.to {r:Res} (h:EXs S k f Γ sts r) (e:r = res):EXs S k f Γ sts res:=e ▸ h
theorem EX.ifB {cnd:Expr} {r:Res} (h1:TV S k f Γ cnd b) (h2:(b = true∧EXs S k f Γ body r) ∨ (b = false∧EXs S k f Γ orelse r)):EX S k f Γ (.If cnd body orelse pos) r:=by
  rcases h2 with ⟨rfl,h⟩ | ⟨rfl,h⟩
  · exact .ifT h1 h
  · exact .ifF h1 h
theorem EV.ifB {cnd:Expr} (h1:TV S k f Γ cnd b) (h2:(b = true∧EV S k f Γ l d) ∨ (b = false∧EV S k f Γ r d)):EV S k f Γ (.IfExp cnd l r pos) d:=by
  rcases h2 with ⟨rfl,h⟩ | ⟨rfl,h⟩
  · exact .ifT h1 h
  · exact .ifF h1 h
theorem ATV.andB (h1:TV S k f Γ e b) (h2:(b = true∧ATV S k f Γ .And es c) ∨ (b = false∧c = false)):ATV S k f Γ .And (e :: es) c:=by
  rcases h2 with ⟨rfl,h⟩ | ⟨rfl,rfl⟩
  · exact .andT h1 h
  · exact .andF h1
theorem ATV.orB (h1:TV S k f Γ e b) (h2:(b = true∧c = true) ∨ (b = false∧ATV S k f Γ .Or es c)):ATV S k f Γ .Or (e :: es) c:=by
  rcases h2 with ⟨rfl,rfl⟩ | ⟨rfl,h⟩
  · exact .orT h1
  · exact .orF h1 h
theorem BV.orB {e':Expr} (h1:EV S k f Γ e d₁) (h2:OpT S k d₁ b) (h3:(b = true∧d = d₁) ∨ (b = false∧BV S k f Γ .Or (e' :: es) d)):BV S k f Γ .Or (e :: e' :: es) d:=by
  rcases h3 with ⟨rfl,rfl⟩ | ⟨rfl,h⟩
  · exact .orStop h1 h2
  · exact .orGo h1 h2 h
theorem BV.andB {e':Expr} (h1:EV S k f Γ e d₁) (h2:OpT S k d₁ b) (h3:(b = true∧BV S k f Γ .And (e' :: es) d) ∨ (b = false∧d = d₁)):BV S k f Γ .And (e :: e' :: es) d:=by
  rcases h3 with ⟨rfl,h⟩ | ⟨rfl,rfl⟩
  · exact .andGo h1 h2 h
  · exact .andStop h1 h2
end
end
section
open PySem PySem.W PySem.Calls PyProof.Rows
inductive OwnV (f:Fi) (i:Nat):Prop where
  | intro:OwnV f i
section
variable {S:Sig} {k:Nat} {f:Fi} {Γ Γ' Γ₁ Γ₂:Ctxt} {e l r:Expr} {es:List Expr} {d d₁ d₂:D} {ds xs:List D} {pos p' npos apos:Pos} {sts body orelse:List Stmt} {res:Res} {b c:Bool} {x y:Str} {kd:NameKind} {i j:Nat} {v:Value} {op:Operator}
theorem Nm.lt (n:Nm f x i kd):i < f.vars.length:=(List.getElem?_eq_some_iff.mp n.hx).1
theorem EXs.freezeN (n:Nm f x j kd) (hj:Γ[j]? = some (some (.own xs))) (h:EXs S k f (Γ.set j (some (.val (.list xs)))) sts res):EXs S k f Γ sts res:=.freeze j hj h n.lt
theorem EV.borrowN (n:Nm f x j kd) (o:OwnV f j) (hj:Γ[j]? = some (some (.own xs))) (h:EV S k f (Γ.set j (some (.val (.list xs)))) e d) (hd:d.flat = true):EV S k f Γ e d:=.borrow j hj h hd n.lt
theorem TV.borrowN (n:Nm f x j kd) (o:OwnV f j) (hj:Γ[j]? = some (some (.own xs))) (h:TV S k f (Γ.set j (some (.val (.list xs)))) e b):TV S k f Γ e b:=.borrow j hj h n.lt
theorem EX.ownN (n:Nm f x i .local) (o:OwnV f i) (h:EVs S k f Γ es ds)
    (hna:(Γ.all fun b=>match b with | some (.app q)=>q != i | _=>true) = true) (hl:ds.length≤sizeLine) (hΓ:Γ.length≤f.vars.length)
    (hs:∀ env,swapsWithSole [.Name x npos] (.List es pos) p'.line env = pure false) (hw:∀ env,swappedStores [.Name x npos] (.List es pos) env = pure none) :
    EX S k f Γ (.Assign [.Name x npos] (.List es pos) p') (.next (Γ.set i (some (.own ds)))):=.ownNew i n.hx n.hk h hna hl hs hw (fun _ _=>rfl) hΓ
theorem EX.appendN (n:Nm f x j .local) (hj:Γ[j]? = some (some (.own xs))) (h:EV S k f Γ e d) (hz:xs.length < sizeLine)
    (hse:∀ env,starEach [e] env = (false,eval e env) :: starEach [] env) (hline:(apos.endLine == pos.line) = true)
    (hs:∀ env,swapsWith (.Call (.Attribute (.Name x npos) "append" apos) [e] [] pos) none p'.line env = pure false) :
    EX S k f Γ (.Expr (.Call (.Attribute (.Name x npos) "append" apos) [e] [] pos) p') (.next (Γ.set j (some (.own (xs ++ [d]))))) :=
  .ownMeth j PySem.F.slot_list_append PySem.F.type_list_append n.hx hj (EVs.cons h .nil hse) (OwnOp.append hz) n.d1 hline (fun env=>by rw [hse];rfl) hs
theorem EX.popN {ys:List D} (n:Nm f x j .local) (hj:Γ[j]? = some (some (.own ys))) (hy:ys = xs ++ [d]) (hline:(apos.endLine == pos.line) = true)
    (hs:∀ env,swapsWith (.Call (.Attribute (.Name x npos) "pop" apos) [] [] pos) none p'.line env = pure false) :
    EX S k f Γ (.Expr (.Call (.Attribute (.Name x npos) "pop" apos) [] [] pos) p') (.next (Γ.set j (some (.own xs)))) :=
  .ownMeth j PySem.F.slot_list_pop PySem.F.type_list_pop n.hx (hy ▸ hj) .nil OwnOp.pop n.d1 hline (fun env=>rfl) hs
theorem EX.appBindN (n:Nm f x j .local) (m:Nm f y i .local) (hj:Γ[j]? = some (some (.own xs))) (hij:i ≠ j)
    (hna:(Γ.all fun b=>match b with | some (.app q)=>q != i | _=>true) = true)
    (hs:∀ env,swapsWithSole [.Name y npos] (.Attribute (.Name x apos) "append" pos) p'.line env = pure false) (hw:∀ env,swappedStores [.Name y npos] (.Attribute (.Name x apos) "append" pos) env = pure none) :
    EX S k f Γ (.Assign [.Name y npos] (.Attribute (.Name x apos) "append" pos) p') (.next (Γ.set i (some (.app j)))):=.appBind i j n.hx hj m.hx m.hk hij n.d1 hna hs hw (fun _ _=>rfl)
theorem EX.appCallN (n:Nm f y i .local) (hi:Γ[i]? = some (some (.app j))) (hj:Γ[j]? = some (some (.own xs))) (h2:EV S k f Γ e d) (hz:xs.length < sizeLine) (hjl:Nm f x j kd)
    (hse:∀ env,starEach [e] env = [(false,eval e env)])
    (hs:∀ env,swapsWith (.Call (.Name y npos) [e] [] pos) none p'.line env = pure false) :
    EX S k f Γ (.Expr (.Call (.Name y npos) [e] [] pos) p') (.next (Γ.set j (some (.own (xs ++ [d]))))):=.appCall i j n.hx hi hj h2 hz hjl.lt n.d1 (fun _=>rfl) hse hs
theorem AS.itemN {i:Int} (n:Nm f x j .local) (hj:Γ[j]? = some (some (.own xs))) (h2:EV S k f Γ e (.int i)) (h0:-(xs.length:Int)≤i) (h1:i < xs.length) :
    AS S k f Γ (.Subscript (.Name x npos) e pos) d (Γ.set j (some (.own (xs.set (idx xs.length i) d)))):=.item j n.hx hj h2 h0 h1 n.d1
theorem EX.delItemN {i:Int} (n:Nm f x j .local) (hj:Γ[j]? = some (some (.own xs))) (h2:EV S k f Γ e (.int i)) (h0:0≤i) (h1:i < xs.length) :
    EX S k f Γ (.Delete [.Subscript (.Name x npos) e pos] p') (.next (Γ.set j (some (.own (xs.eraseIdx i.toNat))))):=.delItem j n.hx hj h2 h0 h1 n.d1
theorem FL.fold {σ τ α:Type} {tg:Expr} (G:σ→τ→Ctxt) (it:α→D) (step:σ→α→σ) (I:Nat→σ→Prop) (all:List α)
    (hb:∀ n s t a,a ∈ all→I (n + 1) s→I n (step s a)∧∃ Γ₁ t',AS S k f (G s t) tg (it a) Γ₁∧(EXs S k f Γ₁ body (.next (G (step s a) t')) ∨ EXs S k f Γ₁ body (.cont (G (step s a) t')))) :
    ∀ (as:List α) (s:σ) (t:τ),(∀ a ∈ as,a ∈ all)→I as.length s→I 0 (as.foldl step s)∧∃ t',FL S k f tg body (G s t) (as.map it) (.next (G (as.foldl step s) t'))
  | [],s,t,_,h=>⟨h,t,.nil⟩
  | a :: as,s,t,hm,h=>by
    obtain ⟨h1,Γ₁,t',h2,h3⟩:=hb as.length s t a (hm a (.head _)) h
    obtain ⟨h4,t'',h5⟩:=FL.fold G it step I all hb as (step s a) t' (fun b hb'=>hm b (.tail _ hb')) h1
    refine ⟨h4,t'',?_⟩
    rcases h3 with h3 | h3
    · exact .next h2 h3 h5
    · exact .cont h2 h3 h5
theorem EXs.forFold {σ τ α:Type} {iter tg:Expr} (G:σ→τ→Ctxt) (it:α→D) (step:σ→α→σ) (I:Nat→σ→Prop) (as:List α) (s:σ) (t:τ) (hΓ:Γ = G s t)
    (h1:EV S k f Γ iter d) (h2:It S k d tg (as.map it)) (hI:I as.length s)
    (hb:∀ n s t a,a ∈ as→I (n + 1) s→I n (step s a)∧∃ Γ₁ t',AS S k f (G s t) tg (it a) Γ₁∧(EXs S k f Γ₁ body (.next (G (step s a) t')) ∨ EXs S k f Γ₁ body (.cont (G (step s a) t'))))
    (hr:∀ t',I 0 (as.foldl step s)→EXs S k f (G (as.foldl step s) t') sts res) (hs:∀ env x,foldedSetIterable iter env x = pure x:=by intro _ _;rfl) :
    EXs S k f Γ (.For tg iter body [] pos :: sts) res:=by
  subst hΓ
  obtain ⟨h3,t',h4⟩:=FL.fold (S:=S) (k:=k) (f:=f) (tg:=tg) (body:=body) G it step I as hb as s t (fun _ h=>h) hI
  exact .cons (EX.for h1 h2 h4 hs) (hr t' h3)
end
theorem last_item (xs:List D) (d:D):(xs ++ [d])[idx (xs ++ [d]).length (-1)]? = some d:=by
  have:idx (xs ++ [d]).length (-1) = xs.length:=by simp [idx];lia
  rw [this];simp
theorem nil_or_snoc {α:Type} (xs:List α):xs = [] ∨ ∃ ini last,xs = ini ++ [last]:=by
  rcases List.eq_nil_or_concat xs with h | ⟨i,l,h⟩
  · exact .inl h
  · exact .inr ⟨i,l,by rw [h,List.concat_eq_append]⟩
theorem dec_nil (xs:List D) (h:xs = []):decide (xs ≠ []) = false:=by simp [h]
theorem dec_nil' (xs:List D) (h:xs = []):(!decide (xs ≠ [])) = true:=by simp [h]
theorem dec_snoc (xs:List D) (h:xs ≠ []):decide (xs ≠ []) = true:=by simp [h]
theorem dec_snoc' (xs:List D) (h:xs ≠ []):(!decide (xs ≠ [])) = false:=by simp [h]
theorem pick_to {α:Type} (l:List α) (n:Nat):pick none (some (n:Int)) l = l.take n:=by
  unfold pick kms_lo kms_hi
  simp only [List.drop_zero,Nat.sub_zero]
  rw [if_neg (by lia),Int.toNat_natCast,kmk_take_min]
theorem pick_from {α:Type} (l:List α) (n:Nat):pick (some (n:Int)) none l = l.drop n:=by
  unfold pick kms_lo kms_hi
  simp
  rw [if_neg (Int.not_lt.mpr (Int.natCast_nonneg n))]
  rw [kmk_drop_min,List.take_of_length_le]
  rw [List.length_drop];exact Nat.sub_le_sub_left (Nat.min_le_left ..) _
theorem pick_mid {α:Type} (l:List α) (m n:Nat):pick (some (m:Int)) (some (n:Int)) l = (l.take n).drop m:=by
  unfold pick kms_lo kms_hi
  simp only []
  rw [if_neg (by lia),if_neg (by lia)]
  simp only [Int.toNat_natCast]
  rw [kmk_drop_min,List.drop_take]
  by_cases h:n≤l.length
  · by_cases h2:m≤l.length
    · rw [Nat.min_eq_left h,Nat.min_eq_left h2]
    · rw [List.drop_of_length_le (by lia)];simp
  · by_cases h2:m≤l.length
    · rw [Nat.min_eq_right (by lia),Nat.min_eq_left h2,List.take_of_length_le (by simp),List.take_of_length_le (by simp;lia)]
    · rw [List.drop_of_length_le (by lia)];simp
theorem splitC_sum (c:Nat):∀ xs,((splitC c xs).map fun p=>p.length + 1).sum = xs.length + 1
  | []=>rfl
  | x :: xs=>by
    have ih:=splitC_sum c xs
    unfold splitC
    split
    · simp [ih];lia
    · split
      · rename_i h;exact absurd h (splitC_ne c xs)
      · rename_i h;rw [h] at ih;simp at ih ⊢;lia
noncomputable def lens (ps:List (List Nat)):Nat:=(ps.map fun p=>p.length + 1).sum
theorem lens_append (a b:List (List Nat)):lens (a ++ b) = lens a + lens b:=by simp [lens]
theorem lens_dropLast (a:List (List Nat)):lens a.dropLast≤lens a:=by
  rcases nil_or_snoc a with rfl | ⟨i,l,rfl⟩
  · simp
  · rw [List.dropLast_concat,lens_append];lia
theorem lens_length (a:List (List Nat)):a.length≤lens a:=by
  induction a with
  | nil=>simp
  | cons x xs ih=>simp [lens] at ih ⊢;lia
end
section
open PySem PySem.W PySem.Calls PyProof.Rows
section
variable {S:Sig} {k:Nat} {f fc:Fi} {Γ Γ' Γ₁ Γ₂ Γc:Ctxt} {e elt iter tg:Expr} {ifs:List Expr} {d d₁ d₂:D} {ds outs:List D} {pos p':Pos} {scope:Scope} {b:Bool}
noncomputable def Ts (S:Sig) (k:Nat) (f:Fi) (Γ:Ctxt) (ifs:List Expr) (b:Bool):Prop :=
  ∀ (A:Around) (g:Heap) (W:Addr→Prop) (env:Env) (s:Shared) (Q:Bool→Shared→Prop) (E:Value→Shared→Prop),Room S k A→St S f Γ g W env s →
    (∀ g' s',Tr S (Nw s) g s g' s'→Q b s')→wpAny S.M A (forIn ifs true fun c r=>if r = true then do let ok ← isTrue c env (eval c env);pure (ForInStep.yield ok) else pure (ForInStep.yield r)) Q E s
theorem Ts.nil:Ts S k f Γ [] true:=fun A g W env s Q E R st h=>wpAny_tests_nil (h g s ((st.at R).refl _))
theorem Ts.one (h1:TV S k f Γ e b):Ts S k f Γ [e] b:=fun A g W env s Q E R st h=>wpAny_tests_one (h1 A g W env s Q E R st h)
inductive CL (S:Sig) (k:Nat) (f:Fi) (tg elt:Expr) (ifs:List Expr):Ctxt→List D→List D→Prop where
  | nil {Γ:Ctxt}:CL S k f tg elt ifs Γ [] []
  | take {Γ Γ₁:Ctxt} {d d':D} {ds outs:List D}:AS S k f Γ tg d Γ₁→Ts S k f Γ₁ ifs true→EV S k f Γ₁ elt d'→CL S k f tg elt ifs Γ₁ ds outs→CL S k f tg elt ifs Γ (d :: ds) (d' :: outs)
  | skip {Γ Γ₁:Ctxt} {d:D} {ds outs:List D}:AS S k f Γ tg d Γ₁→Ts S k f Γ₁ ifs false→CL S k f tg elt ifs Γ₁ ds outs→CL S k f tg elt ifs Γ (d :: ds) outs
theorem under_comp (A:Around) (elt:Expr) (gs:List Comprehension) (sc:Scope) (p:Pos) (it acc:Value) (env:Env):A.under (.compLoop (.ListComp elt gs sc p) 0 it acc env) = A:=Around.under_of_weight rfl
theorem compTurn_ok {A:Around} {c:Expr} {it acc:Value} {env:Env} {Q:PySem.Fin→Shared→Prop} {s:Shared}
    (h:wpAny S.M A (compTurn c 0 it acc env) Q (fun _ _=>False) s) {E:Value→Shared→Prop}:wpAny S.M A ((compTurn c 0 it acc env).onRaise (fun x=>do noteFrame x env;theTreesLotGoes x)) Q E s :=
  wpAny_onRaise (wpAny_mono h (fun _ _ x=>x) fun _ _ x=>x.elim)
structure AccAt (F W:Addr→Prop) (g:Heap) (env:Env) (s:Shared) (ax:Addr) (xs:List D):Prop where
  ex:∃ ws n,s.heap.get? ax = some (listO ws n)∧Rds g ws xs
  out:g.get? ax = Option.none
  nF:¬ F ax
  nW:¬ W ax
  nc:∀ x c,env.cells.lookup x = some c→c ≠ ax
theorem AccAt.move {F W V:Addr→Prop} {g g':Heap} {env:Env} {s s':Shared} {a:Addr} {xs:List D} (x:AccAt F W g env s a xs) (t:Tr S V g s g' s') (T:Tabs S g s) (hV:¬ V a):AccAt F W g' env s' a xs:=by
  exact ⟨e2_2 x.ex fun ws n e rs=>⟨ws,n,t.listO T e hV,rs.mono t.mono⟩,t.none x.out hV,x.nF,x.nW,x.nc⟩
theorem AccAt.old {F W:Addr→Prop} {g:Heap} {env:Env} {s:Shared} {a:Addr} {xs:List D} (x:AccAt F W g env s a xs):¬ Nw s a:=fun q=>e2_1 x.ex fun ws n e=>absurd (Heap.lt_size e.1) (Nat.not_lt.mpr q)
theorem CL.code {I:Addr} {F:Addr→Prop} {scope:Scope} {ax:Addr} (cl:CL S k f tg elt ifs Γ ds outs):∀ (A:Around) (g:Heap) (W:Addr→Prop) (env:Env) (s:Shared) (R:Result→Shared→Prop) (xs:List D),Room S k A→St S f Γ g W env s→(∀ a,F a→¬ W a)→(∀ x c,env.cells.lookup x = some c→¬ F c)→(∀ a,F a→g.get? a = none)→(∀ a,F a→¬ S.T a) →
    AccAt F W g env s ax xs→xs.length + ds.length≤sizeLine→Yl S k F I tg ds g s →
    (∀ g' s',Tr S (fun a=>(W a ∨ F a) ∨ a = ax) g s g' s'→(∃ Γ',St S f Γ' g' W env s')→AccAt F W g' env s' ax (xs ++ outs)→R (.ok .next) s')→codeAny S.M A (.compLoop (.ListComp elt [⟨tg,iter,ifs,0⟩] scope pos) 0 (.ref I) (.ref ax) env) R s:=by
  induction cl with
  | nil =>
    intro A g W env s R xs Rm st hW hc hg hT ac hz y hR
    refine codeAny_of_tree ?_
    rw [under_comp]
    refine compTurn_ok ?_
    rw [compTurn_list]
    refine wpAny_bind (wpAny_standAt (wpAny_bind ?_))
    refine y A g s _ _ (st.at Rm) (.refl g) (.refl F s) hg fun g₁ s₁ t₁=>?_
    have nV:¬ (Nw s ax ∨ F ax):=fun q=>q.elim ac.old ac.nF
    refine wpAny_pure (hR g₁ s₁ (t₁.weak fun a q=>.inl (q.imp (st.new a) id)) ⟨_,st.moveF t₁ hW hc⟩ ?_)
    rw [List.append_nil]
    exact ac.move t₁ st.tabs nV
  | take has hts hel _ ih =>
    intro A g W env s R xs Rm st hW hc hg hT ac hz y hR
    refine codeAny_of_tree ?_
    rw [under_comp]
    refine compTurn_ok ?_
    rw [compTurn_list]
    refine wpAny_bind (wpAny_standAt (wpAny_bind ?_))
    refine y A g s _ _ (st.at Rm) (.refl g) (.refl F s) hg fun v g₁ s₁ t₁ hg₁ hass=>?_
    have ac₁:=ac.move t₁ st.tabs fun q=>q.elim (ac.old) ac.nF
    have st₁:=st.moveF t₁ hW hc
    dsimp only
    refine bind_assoc' (hass f _ _ W env _ _ has st₁ hW hc fun g₂ s₂ t₂ hg₂ hfr st₂ y₂=>?_)
    have ac₂:=ac₁.move t₂ st₁.tabs fun q=>q.elim ac.nW ac.nF
    refine wpAny_bind (hts A g₂ W env s₂ _ _ Rm st₂ fun g₃ s₃ t₃=>?_)
    have st₃:=st₂.move t₃
    have ac₃:=ac₂.move t₃ st₂.tabs (ac₂.old)
    refine wp_ifT rfl ?_
    refine wpAny_bind (wpAny_bind (hel A g₃ W env s₃ _ _ Rm st₃ fun x g₄ s₄ t₄ r₄=>?_))
    have st₄:=st₃.move t₄
    have ac₄:=ac₃.move t₄ st₃.tabs (ac₃.old)
    refine e2_2 ac₄.ex fun ws n e rs=>?_
    have hlen:=rs.length
    simp only [List.length_cons] at hz
    refine wpAny_bind (wpAny_list_append_plain ⟨n,e⟩ (fun h' hp hs=>?_) (by simp only [List.size_toArray];lia))
    refine e1_1 (hp) (fun n' e'=>?_)
    have t₅:Tr S (fun a=>a = ax) g₄ s₄ g₄ { s₄ with heap:=h',toks:=s₄.toks }:=Tr.set st₄.keep st₄.base st₄.tabs hs rfl ac₄.out (st₄.tabs.notT e nofun) (Nat.le_refl _)
    have st₅:St S f _ g₄ W env { s₄ with heap:=h' }:=st₄.moveF (F:=fun a=>a = ax) (t₅.weak fun _=>.inr) (fun a q w=>ac₄.nW (q ▸ w)) (fun x c q=>ac₄.nc x c q)
    have ac₅:AccAt F W g₄ env { s₄ with heap:=h' } ax (xs ++ [_]):=⟨⟨ws ++ [x],n',by simpa using e',rs.append (.cons r₄ .nil)⟩,ac₄.out,ac₄.nF,ac₄.nW,ac₄.nc⟩
    have sm:Same F s₂ { s₄ with heap:=h' }:=by
      have a:=(t₃.then t₄).keepF st₂.tabs (F:=F) fun a o h e=>⟨fun q=>hW a h (st₂.new a q),fun _ _=>hT a h,hfr a o h e⟩
      exact a.trans fun a o h e=>(hs.2 a fun q=>ac₄.nF (q ▸ h)).trans e
    refine wpAny_pure (wpAny_pure ⟨rfl,ih A g₄ W env _ R (xs ++ [_]) Rm st₅ hW hc (fun a h=>t₄.none (t₃.none (hg₂ a h) fun q=>hW a h (st₂.new a q)) fun q=>hW a h (st₃.new a q)) hT ac₅ (by simp;lia) (y₂.mono (t₃.mono.trans t₄.mono) sm) fun g₆ s₆ t₆ st₆ ac₆=>?_⟩)
    refine hR g₆ s₆ ((((((t₁.weak fun a q=>.inl (q.imp (st.new a) id)).trans t₂ fun a q=>.inl q).trans t₃ fun a q=>.inl (.inl (st₂.new a q))).trans t₄ fun a q=>.inl (.inl (st₃.new a q))).trans t₅ fun a q=>.inr q).trans t₆ fun a q=>q) st₆ (by simpa using ac₆)
  | skip has hts _ ih =>
    intro A g W env s R xs Rm st hW hc hg hT ac hz y hR
    refine codeAny_of_tree ?_
    rw [under_comp]
    refine compTurn_ok ?_
    rw [compTurn_list]
    refine wpAny_bind (wpAny_standAt (wpAny_bind ?_))
    refine y A g s _ _ (st.at Rm) (.refl g) (.refl F s) hg fun v g₁ s₁ t₁ hg₁ hass=>?_
    have ac₁:=ac.move t₁ st.tabs fun q=>q.elim (ac.old) ac.nF
    have st₁:=st.moveF t₁ hW hc
    dsimp only
    refine bind_assoc' (hass f _ _ W env _ _ has st₁ hW hc fun g₂ s₂ t₂ hg₂ hfr st₂ y₂=>?_)
    have ac₂:=ac₁.move t₂ st₁.tabs fun q=>q.elim ac.nW ac.nF
    refine wpAny_bind (hts A g₂ W env s₂ _ _ Rm st₂ fun g₃ s₃ t₃=>?_)
    have st₃:=st₂.move t₃
    have ac₃:=ac₂.move t₃ st₂.tabs (ac₂.old)
    refine wp_ifF Bool.false_ne_true ?_
    have sm:Same F s₂ s₃:=t₃.keepF st₂.tabs fun a o h e=>⟨fun q=>hW a h (st₂.new a q),fun _ _=>hT a h,hfr a o h e⟩
    simp only [List.length_cons] at hz
    refine wpAny_pure ⟨rfl,ih A g₃ W env _ R xs Rm st₃ hW hc (fun a h=>t₃.none (hg₂ a h) fun q=>hW a h (st₂.new a q)) hT ac₃ (by lia) (y₂.mono t₃.mono sm) fun g₆ s₆ t₆ st₆ ac₆=>?_⟩
    exact hR g₆ s₆ ((((t₁.weak fun a q=>.inl (q.imp (st.new a) id)).trans t₂ fun a q=>.inl q).trans t₃ fun a q=>.inl (.inl (st₂.new a q))).trans t₆ fun a q=>q) st₆ ac₆
noncomputable def relabelS (scope outer:Scope):Scope :=
  { scope with names:=scope.names.map fun (n,k)=>if (k == .free && outer.kind == .function && outer.names.lookup n == some .cell) then (n,.cell) else (n,k) }
noncomputable def clOf (cells:List (Str × Addr)):List (Str × NameKind)→List (Str × Addr)→List (Str × Addr)
  | [],acc=>acc
  | (n,k) :: r,acc=>clOf cells r (if k == .free then (n,(cells.lookup n).getD 0) :: acc else acc)
theorem closureFor_eq {scope:Scope} {env:Env} (h:∀ x ∈ scope.names,x.2 = .free→∃ c,env.cells.lookup x.1 = some c):closureFor scope env = pure (clOf env.cells scope.names []):=by
  have key:∀ (names:List (Str × NameKind)) (acc:List (Str × Addr)),(∀ x ∈ names,x.2 = .free→∃ c,env.cells.lookup x.1 = some c) →
      (forIn names acc fun (p:Str × NameKind) (cs:List (Str × Addr))=>(if p.2 == NameKind.free then (do let c ← cellOf env p.1;pure (ForInStep.yield ((p.1,c) :: cs))) else pure (ForInStep.yield cs):Sem (ForInStep (List (Str × Addr))))) = pure (clOf env.cells names acc):=by
    intro names
    induction names with
    | nil=>intro acc _;rfl
    | cons x r ih =>
      intro acc hx
      obtain ⟨n,kk⟩:=x
      rw [List.forIn_cons]
      by_cases hk:kk = .free
      · subst hk
        refine e1_1 (hx (n,.free) (.head _) rfl) (fun c hc=>?_)
        have e:cellOf env n = pure c:=by unfold cellOf;rw [hc]
        have e2:clOf env.cells ((n,.free) :: r) acc = clOf env.cells r ((n,c) :: acc):=by show clOf env.cells r ((n,(env.cells.lookup n).getD 0) :: acc) = _;rw [hc];rfl
        rw [e2]
        simp only [beq_self_eq_true,if_true,e]
        exact ih _ fun y hy=>hx y (.tail _ hy)
      · have hb:(kk == NameKind.free) = false:=by simpa using hk
        have e2:clOf env.cells ((n,kk) :: r) acc = clOf env.cells r acc:=congrArg (clOf env.cells r) (if_neg (by rw [hb];exact Bool.false_ne_true))
        rw [e2]
        simp only [hb,Bool.false_eq_true,if_false]
        exact ih _ fun y hy=>hx y (.tail _ hy)
  unfold closureFor
  have:=key scope.names [] h
  exact (congrArg (fun m:Sem (List (Str × Addr))=>m >>= fun s=>pure s) this).trans rfl
theorem clOf_mem (cells:List (Str × Addr)):∀ (names:List (Str × NameKind)) (acc:List (Str × Addr)) (p:Str × Addr),p ∈ clOf cells names acc→p ∈ acc ∨ ((p.1,NameKind.free) ∈ names∧p.2 = (cells.lookup p.1).getD 0)
  | [],acc,p,h=>.inl h
  | (n,k) :: r,acc,p,h=>by
    rcases clOf_mem cells r _ p h with h' | h'
    · split at h'
      · rename_i hk
        have hk:k = .free:=by simpa using hk
        subst hk
        rcases List.mem_cons.mp h' with rfl | h'
        · exact .inr ⟨.head _,rfl⟩
        · exact .inl h'
      · exact .inl h'
    · exact .inr ⟨.tail _ h'.1,h'.2⟩
theorem clOf_keeps (cells:List (Str × Addr)):∀ (names:List (Str × NameKind)) (acc:List (Str × Addr)) (p:Str × Addr),p ∈ acc→p ∈ clOf cells names acc
  | [],acc,p,h=>h
  | (n,k) :: r,acc,p,h=>clOf_keeps cells r _ p (by split;exact .tail _ h;exact h)
theorem clOf_has (cells:List (Str × Addr)) {y:Str}:∀ (names:List (Str × NameKind)) (acc:List (Str × Addr)),(y,NameKind.free) ∈ names→∃ c,(y,c) ∈ clOf cells names acc
  | (n,k) :: r,acc,h=>by
    rcases List.mem_cons.mp h with e | h
    · cases e
      exact ⟨(cells.lookup y).getD 0,clOf_keeps cells r _ _ (by simp)⟩
    · exact clOf_has cells r _ h
theorem lookup_of_mem {y:Str} {c:Addr}:∀ {l:List (Str × Addr)},(y,c) ∈ l→∃ c',l.lookup y = some c'
  | (n,a) :: r,h=>by
    rw [List.lookup_cons]
    cases hb:y == n with
    | true=>exact ⟨a,rfl⟩
    | false =>
      rcases List.mem_cons.mp h with e | h
      · cases e;simp at hb
      · exact lookup_of_mem h
theorem clOf_lookup {cells:List (Str × Addr)} {names:List (Str × NameKind)} {y:Str} {c:Addr} (h:(y,NameKind.free) ∈ names) (hc:cells.lookup y = some c):(clOf cells names []).lookup y = some c:=by
  refine e1_1 (clOf_has cells names [] h) (fun c' h'=>?_)
  refine e1_1 (lookup_of_mem h') (fun c₂ h₂=>?_)
  rcases clOf_mem cells names [] _ (mem_of_lookup h₂) with q | q
  · cases q
  · have q:=q.2
    simp only [hc,Option.getD_some] at q
    rw [h₂,q]
inductive Cap (f:Fi) (Γ:Ctxt) (y:Str) (d:D):Prop where
  | cell (o:Nat):f.vars[o]? = some y→Γ[o]? = some (some (.cell (some d)))→Cap f Γ y d
  | val (o:Nat) (kd:NameKind):f.vars[o]? = some y→Γ[o]? = some (some (.val d))→f.kinds[o]? = some kd→(kd = .cell ∨ kd = .free)→Cap f Γ y d
theorem St.cap {g:Heap} {W:Addr→Prop} {env:Env} {s:Shared} {y:Str} (st:St S f Γ g W env s) (c:Cap f Γ y d):∃ c v,env.cells.lookup y = some c∧s.heap.IsCell c (some v)∧Rd g v d:=by
  refine e2_5 (st.vars) (fun m ad hns hb hg hH hI=>?_)
  cases c with
  | cell o h1 h2 =>
    refine (hH o y _ h1 h2).cellC fun _ c ov a1 a2 _ _ _ a3=>?_
    (refine e1_2 (a3 d rfl) (fun v q6q r=>?_);subst q6q)
    exact ⟨c,v,a1,a2,r⟩
  | val o kd h1 h2 h3 h4 =>
    refine e1_2 (hH o y _ h1 h2) (fun v hv r=>?_)
    have hk:env.kindOf y = some kd:=(kindOf_eq st.envIs y).trans (f.kind h1 h3)
    unfold Var at hv
    rw [hk] at hv
    rcases h4 with rfl | rfl
    · refine e1_2 (hv) (fun c a1 a2=>?_);exact ⟨c,v,a1,a2,r⟩
    · refine e1_2 (hv) (fun c a1 a2=>?_);exact ⟨c,v,a1,a2,r⟩
inductive AllCap (f:Fi) (Γ:Ctxt):List (Str × NameKind)→Prop where
  | nil:AllCap f Γ []
  | free {y:Str} {d:D} {r:List (Str × NameKind)}:Cap f Γ y d→AllCap f Γ r→AllCap f Γ ((y,.free) :: r)
  | other {y:Str} {kd:NameKind} {r:List (Str × NameKind)}:(kd == .free) = false→(kd == .cell) = false→AllCap f Γ r→AllCap f Γ ((y,kd) :: r)
theorem AllCap.free' {r:List (Str × NameKind)} (h:AllCap f Γ r):∀ x ∈ r,x.2 = .free→∃ d,Cap f Γ x.1 d:=by
  induction h with
  | nil=>intro x hx;cases hx
  | free c _ ih =>
    intro x hx e
    rcases List.mem_cons.mp hx with rfl | hx
    · exact ⟨_,c⟩
    · exact ih x hx e
  | other a _ _ ih =>
    intro x hx e
    rcases List.mem_cons.mp hx with rfl | hx
    · simp at e;subst e;simp at a
    · exact ih x hx e
theorem AllCap.noCell {r:List (Str × NameKind)} (h:AllCap f Γ r):∀ x ∈ r,x.2 ≠ .cell:=by
  induction h with
  | nil=>intro x hx;cases hx
  | free c _ ih =>
    intro x hx
    rcases List.mem_cons.mp hx with rfl | hx
    · simp
    · exact ih x hx
  | other _ a _ ih =>
    intro x hx
    rcases List.mem_cons.mp hx with rfl | hx
    · intro e;simp at e;subst e;simp at a
    · exact ih x hx
inductive CapL (f:Fi) (Γ:Ctxt) (sc:Scope) (names:List (Str × NameKind)):List Str→Ctxt→Prop where
  | nil:CapL f Γ sc names [] []
  | skip {y:Str} {vs:List Str} {Γc:Ctxt}:CapL f Γ sc names vs Γc→CapL f Γ sc names (y :: vs) (none :: Γc)
  | cap {y:Str} {d:D} {vs:List Str} {Γc:Ctxt}:(names.any fun x=>x.1 == y && x.2 == .free) = true→(sc.names.lookup y == some .cell || sc.names.lookup y == some .free) = true→Cap f Γ y d→CapL f Γ sc names vs Γc→CapL f Γ sc names (y :: vs) (some (.val d) :: Γc)
theorem CapL.get {sc:Scope} {names:List (Str × NameKind)} {vs:List Str} {Γc:Ctxt} (h:CapL f Γ sc names vs Γc):∀ (i:Nat) (y:Str) (b:B),vs[i]? = some y→Γc[i]? = some (some b) →
    (y,NameKind.free) ∈ names∧(sc.names.lookup y = some .cell ∨ sc.names.lookup y = some .free)∧∃ d,b = .val d∧Cap f Γ y d:=by
  induction h with
  | nil=>exact fun i y b e _=>by cases e
  | skip _ ih =>
    intro i y b e1 e2
    cases i with
    | zero=>cases e2
    | succ i=>exact ih i y b e1 e2
  | cap a1 a2 c _ ih =>
    intro i y b e1 e2
    cases i with
    | succ i=>exact ih i y b e1 e2
    | zero =>
      cases e1
      cases e2
      refine ⟨?_,?_,_,rfl,c⟩
      · (refine e1_2 (List.any_eq_true.mp a1) (fun q7q hx hy=>?_);obtain ⟨n,kk⟩:=q7q)
        rw [Bool.and_eq_true,beq_iff_eq,beq_iff_eq] at hy
        (refine e0_2 (hy) (fun q8q q9q=>?_);subst q8q;subst q9q)
        exact hx
      · rw [Bool.or_eq_true,beq_iff_eq,beq_iff_eq] at a2;exact a2
theorem CapL.len {sc:Scope} {names:List (Str × NameKind)} {vs:List Str} {Γc:Ctxt} (h:CapL f Γ sc names vs Γc):Γc.length = vs.length:=by
  induction h with
  | nil=>rfl
  | skip _ ih=>simp [ih]
  | cap _ _ _ _ ih=>simp [ih]
theorem CL.le (h:CL S k f tg elt ifs Γ ds outs):outs.length≤ds.length:=by
  induction h with
  | nil=>simp
  | take _ _ _ _ ih=>simp;exact ih
  | skip _ _ _ ih=>simp;lia
noncomputable def ItE (S:Sig) (k:Nat) (f:Fi) (Γ:Ctxt) (iter tg:Expr) (ds:List D):Prop :=
  ∀ (A:Around) (g:Heap) (W:Addr→Prop) (env:Env) (s:Shared) (Q:Value→Shared→Prop) (E:Value→Shared→Prop),Room S k A→St S f Γ g W env s →
    (∀ I F g₁ s₁ g₂ s₂,Tr S (Nw s) g s g₁ s₁→Tr S (Nw s₁) g₁ s₁ g₂ s₂→(∀ a,F a→Nw s₁ a∧g₂.get? a = Option.none∧a < s₂.heap.objs.size)→Self S k F I g₂ s₂→Yl S k F I tg ds g₂ s₂→Q (.ref I) s₂) →
      wpAny S.M A (eval iter env) (fun v s'=>wpAny S.M A (pyIter v) Q E s') E s
theorem ItE.of {S:Sig} {k:Nat} {f:Fi} {Γ:Ctxt} {iter tg:Expr} {d:D} {ds:List D} (h1:EV S k f Γ iter d) (h2:It S k d tg ds):ItE S k f Γ iter tg ds:=by
  intro A g W env s Q E R st hQ
  exact h1 A g W env s _ E R st fun v g₁ s₁ t₁ r₁=>h2 A g₁ s₁ v _ E (t₁.at R) r₁ fun I F g₂ s₂ t₂ hF slf y=>hQ I F g₁ s₁ g₂ s₂ t₁ t₂ hF slf y
theorem comp_loop {fc:Fi} {F:Addr→Prop} {I C ax:Addr} {env1:Env} {use:Option (Value→Sem Unit)} {A:Around} {g g₁ g₂ g₄:Heap} {s s₁ s₂ s₄:Shared} {Q:Value→Shared→Prop} {E:Value→Shared→Prop}
    (h3:CL S k fc tg elt ifs Γc ds outs) (hz:ds.length≤sizeLine) (R:Room S k A) (T₁:Tabs S g₁ s₁) (t₁:Tr S (Nw s) g s g₁ s₁) (t₂:Tr S (Nw s₁) g₁ s₁ g₂ s₂) (t₄:Tr S (Nw s₂) g₂ s₂ g₄ s₄)
    (hF:∀ a,F a→Nw s₁ a∧g₂.get? a = Option.none∧a < s₂.heap.objs.size) (slf:Self S k F I g₂ s₂) (y:Yl S k F I tg ds g₂ s₂) (lax:ax = s₂.heap.objs.size) (lC:C = ax + 1) (hloc:env1.locals = C)
    (stc:St S fc Γc g₄ (Ab C) env1 s₄) (hc:∀ x c,env1.cells.lookup x = some c→c < s₁.heap.objs.size ∨ C < c) (noax:g₄.get? ax = Option.none) (getax:s₄.heap.get? ax = some (listO [] 0)) (old:Keep s₂.heap s₄.heap)
    (hpost:∀ (ax C:Addr) g' s',Tr S (Nw s) g s g' s'→Rd g' (.ref ax) (.list outs)→(∃ m,s'.heap.Ns C m)→g'.get? C = none→s.heap.objs.size≤C→compPost S.M A E use Q (.ref ax) C (.ok .next) s') :
    codeAny S.M A (.compStart (.ListComp elt [⟨tg,iter,ifs,0⟩] scope pos) 0 (.ref I) (.ref ax) env1) (compPost S.M A E use Q (.ref ax) C) s₄:=by
  have lt:ax < C:=by rw [lC];exact Nat.lt_succ_self _
  have hFx:∀ a,F a→a < ax:=fun a h=>by rw [lax];exact (hF a h).2.2
  have l₁₂:s₁.heap.objs.size≤ax:=by rw [lax];exact t₂.size
  have big:s.heap.objs.size≤ax:=Nat.le_trans t₁.size l₁₂
  have sm:Same F s₂ s₄:=fun a o _ e=>old a o e
  have loop:codeAny S.M A (.compLoop (.ListComp elt [⟨tg,iter,ifs,0⟩] scope pos) 0 (.ref I) (.ref ax) env1) (compPost S.M A E use Q (.ref ax) C) s₄:=by
    refine h3.code (F:=F) A g₄ (Ab C) _ _ _ [] R stc (fun a h q=>absurd (Nat.lt_trans (hFx a h) lt) (Nat.not_lt.mpr q)) (fun x c e h=>(hc x c e).elim (fun q=>absurd q (Nat.not_lt.mpr (hF c h).1)) fun q=>absurd (Nat.lt_trans (hFx c h) lt) (Nat.lt_asymm q))
      (fun a h=>t₄.none (hF a h).2.1 (Nat.not_le.mpr (hF a h).2.2)) (fun a h=>T₁.newT (hF a h).1) ⟨⟨[],0,getax,.nil⟩,noax,fun h=>absurd (hFx _ h) (Nat.lt_irrefl _),fun q=>absurd lt (Nat.not_lt.mpr q),fun x c e=>(hc x c e).elim (fun q=>Nat.ne_of_lt (Nat.lt_of_lt_of_le q l₁₂)) fun q=>Nat.ne_of_gt (Nat.lt_trans lt q)⟩ (by simpa using hz) (y.mono t₄.mono sm) fun g₅ s₅ t₅ st₅ ac₅=>e1_1 st₅ fun Γ' st₅=>?_
    refine e2_2 ac₅.ex fun ws n e5 rs=>?_
    rw [List.nil_append] at rs
    refine e1_3 (Tr.take (W:=fun a=>a = ax) st₅.keep st₅.base st₅.tabs e5 (st₅.tabs.notT e5 nofun) rfl) (fun g₆ t₆ in6 off6=>?_)
    refine e2_4 (st₅.vars) (fun m5 _ ns5 _ no5 _=>?_)
    rw [hloc] at ns5 no5
    refine hpost ax C g₆ s₅ ((((t₁.then t₂).then t₄).trans t₅ fun a q=>?_).trans t₆ fun a q=>by rw [q];exact big) (.list in6 (by rw [rs.length];exact Nat.le_trans h3.le hz) (rs.mono t₆.mono)) ⟨m5,ns5⟩ (by rw [off6 _ (Nat.ne_of_gt lt)];exact no5) (Nat.le_trans big (Nat.le_of_lt lt))
    exact q.elim (fun q=>q.elim (fun q=>Nat.le_trans big (Nat.le_trans (Nat.le_of_lt lt) q)) fun q=>Nat.le_trans t₁.size (hF a q).1) fun q=>by rw [q];exact big
  exact codeAny_compStart_list loop (slf A g₄ _ _ _ (t₄.at R) t₄.mono sm loop)
theorem comp_core {vars:List Str} {kinds:List NameKind} {use:Option (Value→Sem Unit)} (hnd:vars.Nodup) (hok:((vars.zip kinds).all fun p=>(relabelS scope f.scope).names.lookup p.1 == some p.2) = true)
    (hkind:scope.kind = .function) (hloc:∀ x ∈ scope.names,x.2 = .local→scope.names.lookup x.1 = some .local) (hfr:AllCap f Γ scope.names) (hcap:CapL f Γ (relabelS scope f.scope) scope.names vars Γc)
    (h1:ItE S k f Γ iter tg ds) (hz:ds.length≤sizeLine)
    (h3:∀ fc:Fi,fc.scope = relabelS scope f.scope→fc.vars = vars→fc.kinds = kinds→CL S k fc tg elt ifs Γc ds outs) (hs:∀ env x,foldedSetIterable iter env x = pure x)
    {A:Around} {g:Heap} {W:Addr→Prop} {env:Env} {s:Shared} {Q:Value→Shared→Prop} {E:Value→Shared→Prop} (R:Room S k A) (st:St S f Γ g W env s)
    (hpost:∀ (ax C:Addr) g' s',Tr S (Nw s) g s g' s'→Rd g' (.ref ax) (.list outs)→(∃ m,s'.heap.Ns C m)→g'.get? C = none→s.heap.objs.size≤C→compPost S.M A E use Q (.ref ax) C (.ok .next) s') :
    wpAny S.M A (comprehension (.ListComp elt [⟨tg,iter,ifs,0⟩] scope pos) scope env p' (newList []) false (eval iter env) use) Q E s:=by
  have hfree:∀ x ∈ scope.names,x.2 = .free→∃ c,env.cells.lookup x.1 = some c:=fun x hx e=>by
    refine e1_1 (hfr.free' x hx e) (fun d c=>?_)
    refine e2_2 (st.cap c) (fun c _ h _=>?_)
    exact ⟨c,h⟩
  refine wpAny_comprehension_free (g:=⟨tg,iter,ifs,0⟩) (gs:=[]) rfl (hs env) (closureFor_eq hfree) hkind hloc ?_
  refine h1 A g W env s _ E R st fun I F g₁ s₁ g₂ s₂ t₁ t₂ hF slf y=>?_
  have st₂:=(st.move t₁).move t₂
  refine wpAny_newObj_type (hd:=by size_fits) ?_
  have a₂:=t₂.at R
  refine e1_3 (Tr.grow (s':={ s₂ with heap:=s₂.heap.push (listO [] 0) }) (fun _=>False) a₂.keep a₂.base a₂.tabs (fun b x e=>Heap.get?_push_of_some _ e) (by simp) rfl rfl (Nat.le_refl _)) (fun g₃ t₃ _ hno₃=>?_)
  have st₃:=st₂.move t₃
  refine wpAny_grown (wpAny_newFunctionEnv hfr.noCell (by intro y hy;simp at hy) (fun h₁ hns hsb G=>?_) hkind)
  have hsz₃:({ s₂ with heap:=s₂.heap.push (listO [] 0) }:Shared).heap.objs.size = s₂.heap.objs.size + 1:=by simp
  have old:Keep ({ s₂ with heap:=s₂.heap.push (listO [] 0) }:Shared).heap h₁:=fun b o e=>hsb.extBut b o (Nat.ne_of_lt (Heap.lt_size e)) (Heap.get?_push_of_some _ e)
  have a₃:=t₃.at R
  refine e1_3 (Tr.grow (s':={ s₂ with heap:=h₁,toks:=s₂.toks + ([]:List (Str × Value)).length }) (fun _=>False) a₃.keep a₃.base a₃.tabs old G.heap rfl rfl G.toks) (fun g₄ t₄ _ hno₄=>?_)
  have st₄:=st₃.move t₄
  have sc:relabel scope env = relabelS scope f.scope:=by
    show relabelS scope env.scope = _
    rw [st.envIs.scope]
  generalize hC:({ s₂ with heap:=s₂.heap.push (listO [] 0) }:Shared).heap.objs.size = C at *
  have hC':C = s₂.heap.objs.size + 1:=by rw [← hC];simp
  have lt₂:s₂.heap.objs.size < C:=by lia
  have eI:EnvIs (⟨relabelS scope f.scope,f.qual,f.code,vars,kinds,hnd,hok⟩:Fi) { newEnv scope C env.globals (clOf env.cells scope.names []) env.qual none .none (some env) builtinsNs with scope:=relabel scope env } :=
    ⟨sc,st.envIs.qual,st.envIs.code,st.envIs.globals,st.envIs.builtins,by show (relabel scope env).kind = _;exact hkind⟩
  have cells:∀ x c,(clOf env.cells scope.names []).lookup x = some c→env.cells.lookup x = some c:=fun x c e=>by
    rcases clOf_mem env.cells scope.names [] _ (mem_of_lookup e) with q | q
    · cases q
    · refine e1_1 (hfree _ q.1 rfl) (fun c' hc'=>?_)
      have q:=q.2
      simp only at q hc'
      rw [hc'] at q
      rw [hc',q];rfl
  have cellLt:∀ x c,env.cells.lookup x = some c→c < s₁.heap.objs.size:=fun x c e=>(st.move t₁).clt x c e
  have s₁₂:s₁.heap.objs.size≤s₂.heap.objs.size:=t₂.size
  have szC:C≤h₁.objs.size:=by have:=t₄.size;rw [hC] at this;exact this
  have stc:St S (⟨relabelS scope f.scope,f.qual,f.code,vars,kinds,hnd,hok⟩:Fi) Γc g₄ (Ab C) { newEnv scope C env.globals (clOf env.cells scope.names []) env.qual none .none (some env) builtinsNs with scope:=relabel scope env } { s₂ with heap:=h₁,toks:=s₂.toks + ([]:List (Str × Value)).length }:=by
    refine ⟨t₄.keep,t₄.base,t₄.now,eI,fun a l=>Nat.le_trans szC l,fun x c e=>Nat.lt_of_lt_of_le (cellLt x c (cells x c e)) (Nat.le_trans s₁₂ (Nat.le_trans t₃.size t₄.size)),_,fun _=>0,hns,Nat.le_refl _,hno₄ C (Nat.le_refl _) id,fun i y b hy hb=>?_,fun i j xs ys e1 e2 _=>?_⟩
    · obtain ⟨q1,q2,d',rfl,cp⟩:=hcap.get i y b hy hb
      refine e2_3 (st₄.cap cp) (fun c v a1 a2 a3=>?_)
      have hl:=clOf_lookup q1 a1
      refine ⟨v,?_,a3⟩
      unfold Var
      rw [kindOf_eq eI]
      show match (relabelS scope f.scope).names.lookup y with | some .local=>_ | some .cell=>_ | some .free=>_ | _=>False
      rcases q2 with q2 | q2
      · rw [q2];exact ⟨c,hl,a2⟩
      · rw [q2];exact ⟨c,hl,a2⟩
    · exfalso
      have hi:i < vars.length:=by rw [← hcap.len];exact (List.getElem?_eq_some_iff.mp e1).1
      obtain ⟨_,_,d',q,_⟩:=hcap.get i _ _ (List.getElem?_eq_getElem hi) e1
      cases q
  exact comp_loop (h3 ⟨relabelS scope f.scope,f.qual,f.code,vars,kinds,hnd,hok⟩ rfl rfl rfl) hz R (st.move t₁).tabs t₁ t₂ (t₃.then t₄) hF slf y rfl hC' rfl stc (fun x c e=>.inl (cellLt x c (cells x c e))) (t₄.none (hno₃ _ (Nat.le_refl _) id) fun q=>by rw [Nw,hC] at q;exact absurd lt₂ (Nat.not_lt.mpr q)) (old _ _ (Heap.get?_push_size _ rfl)) (fun a o e=>old a o (Heap.get?_push_of_some _ e)) hpost
theorem EV.compE (vars:List Str) (kinds:List NameKind) (hnd:vars.Nodup) (hok:((vars.zip kinds).all fun p=>(relabelS scope f.scope).names.lookup p.1 == some p.2) = true)
    (hkind:scope.kind = .function) (hloc:∀ x ∈ scope.names,x.2 = .local→scope.names.lookup x.1 = some .local) (hfr:AllCap f Γ scope.names) (hcap:CapL f Γ (relabelS scope f.scope) scope.names vars Γc)
    (h1:ItE S k f Γ iter tg ds) (hz:ds.length≤sizeLine)
    (h3:∀ fc:Fi,fc.scope = relabelS scope f.scope→fc.vars = vars→fc.kinds = kinds→CL S k fc tg elt ifs Γc ds outs) (hs:∀ env x,foldedSetIterable iter env x = pure x) :
    EV S k f Γ (.ListComp elt [⟨tg,iter,ifs,0⟩] scope pos) (.list outs):=by
  intro A g W env s Q E R st hQ
  rw [eval_ListComp]
  show wpAny S.M A (comprehension _ scope env _ (newList []) false (eval iter env)) Q E s
  refine comp_core hnd hok hkind hloc hfr hcap h1 hz h3 hs R st fun ax C g' s' t r hns hC hge=>?_
  refine e1_1 (hns) (fun m hns=>?_)
  refine ⟨m,hns,fun h' hsb=>?_⟩
  have nT:¬ S.T C:=by refine e3_3 (hns) (fun o es ep e hd _=>?_);exact t.now.notT e (by rw [hd];nofun)
  have t₂:Tr S (fun a=>a = C) g' s' g' { s' with heap:=h',toks:=s'.toks }:=Tr.set t.keep t.base t.now hsb rfl hC nT (Nat.le_refl _)
  exact hQ _ g' _ (t.trans t₂ fun a q=>by rw [q];exact hge) r
theorem EV.comp (vars:List Str) (kinds:List NameKind) (hnd:vars.Nodup) (hok:((vars.zip kinds).all fun p=>(relabelS scope f.scope).names.lookup p.1 == some p.2) = true)
    (hkind:scope.kind = .function) (hloc:∀ x ∈ scope.names,x.2 = .local→scope.names.lookup x.1 = some .local) (hfr:AllCap f Γ scope.names) (hcap:CapL f Γ (relabelS scope f.scope) scope.names vars Γc)
    (h1:EV S k f Γ iter d) (h2:It S k d tg ds) (hz:ds.length≤sizeLine)
    (h3:∀ fc:Fi,fc.scope = relabelS scope f.scope→fc.vars = vars→fc.kinds = kinds→CL S k fc tg elt ifs Γc ds outs) (hs:∀ env x,foldedSetIterable iter env x = pure x) :
    EV S k f Γ (.ListComp elt [⟨tg,iter,ifs,0⟩] scope pos) (.list outs) :=
  .compE vars kinds hnd hok hkind hloc hfr hcap (.of h1 h2) hz h3 hs
theorem EX.assignCompE {x:Str} {np:Pos} (vars:List Str) (kinds:List NameKind) (hnd:vars.Nodup) (hok:((vars.zip kinds).all fun p=>(relabelS scope f.scope).names.lookup p.1 == some p.2) = true)
    (hkind:scope.kind = .function) (hloc:∀ x ∈ scope.names,x.2 = .local→scope.names.lookup x.1 = some .local) (hfr:AllCap f Γ scope.names) (hcap:CapL f Γ (relabelS scope f.scope) scope.names vars Γc)
    (h1:ItE S k f Γ iter tg ds) (hz:ds.length≤sizeLine)
    (h3:∀ fc:Fi,fc.scope = relabelS scope f.scope→fc.vars = vars→fc.kinds = kinds→CL S k fc tg elt ifs Γc ds outs) (hs:∀ env x,foldedSetIterable iter env x = pure x)
    (h4:AS S k f Γ (.Name x np) (.list outs) Γ₁) (hsw:∀ env,∃ b,swapsWithSole [.Name x np] (.ListComp elt [⟨tg,iter,ifs,0⟩] scope pos) p'.line env = pure b) (hw:∀ env,swappedStores [.Name x np] (.ListComp elt [⟨tg,iter,ifs,0⟩] scope pos) env = pure none) :
    EX S k f Γ (.Assign [.Name x np] (.ListComp elt [⟨tg,iter,ifs,0⟩] scope pos) p') (.next Γ₁):=by
  intro A g W env s Q E R st hQ
  refine e1_1 (hsw env) (fun b hb=>?_)
  have ha:∀ v,assignAll v ((assignEach [.Name x np] env).map (·.2)) = PySem.assign (.Name x np) env v:=fun _=>rfl
  cases b with
  | false =>
    refine wpAny_Assign_stores (EV.compE vars kinds hnd hok hkind hloc hfr hcap h1 hz h3 hs A g W env s _ E R st fun v g1 s1 t1 r1=>?_) hb (hw env)
    rw [ha]
    exact h4 A g1 W env s1 v _ E R (st.move t1) r1 fun g2 s2 t2 st2=>hQ _ g2 s2 ((t1.weak st.new).trans t2 (fun _ q=>q)) ⟨rfl,st2⟩
  | true =>
    rw [exec_Assign_arm]
    refine wpAny_bind (wpAny_standAt ?_)
    rw [hb]
    refine wpAny_bind (wpAny_pure ?_)
    refine wp_ifT rfl ?_
    refine wpAny_bind ?_
    show wpAny S.M A (do let _ ← comprehension _ scope env _ (newList []) false (eval iter env) (some fun v=>assignAll v ((assignEach [.Name x np] env).map (·.2)))) _ _ _
    refine wpAny_bind (comp_core hnd hok hkind hloc hfr hcap h1 hz h3 hs R st fun ax C g' s' t r hns hC hge=>?_)
    refine e1_1 (hns) (fun m hns=>?_)
    show wpAny S.M A (assignAll (.ref ax) _) _ E s'
    rw [ha]
    have st':=st.without (F:=fun a=>a = C) t fun a q=>by rw [q];exact ⟨hge,hns.lt⟩
    refine h4 A g' _ env s' (.ref ax) _ E R st' r fun g2 s2 t2 st2=>?_
    have hns2:=t2.ns t.now hns fun q=>q.2 rfl
    refine ⟨m,hns2,fun h' hsb=>wpAny_pure (wpAny_pure ?_)⟩
    have nT:¬ S.T C:=by refine e3_3 (hns2) (fun o es ep e hd _=>?_);exact t2.now.notT e (by rw [hd];nofun)
    have hC2:=t2.none hC fun q=>q.2 rfl
    have t3:Tr S (fun a=>a = C) g2 s2 g2 { s2 with heap:=h',toks:=s2.toks }:=Tr.set t2.keep t2.base t2.now hsb rfl hC2 nT (Nat.le_refl _)
    have st3:St S f Γ₁ g2 _ env { s2 with heap:=h' }:=st2.moveF (F:=fun a=>a = C) (t3.weak fun _=>.inr) (fun a q w=>w.2 q) (fun x c e q=>by
      have:=st.clt x c e
      rw [q] at this
      exact absurd this (Nat.not_lt.mpr hge))
    exact hQ _ g2 _ (((t.weak st.new).trans t2 fun _ q=>q.1).trans t3 fun a q=>by rw [q];exact st.wide _ hge) ⟨rfl,st3.widen fun _=>And.left⟩
theorem EX.assignComp {x:Str} {np:Pos} (vars:List Str) (kinds:List NameKind) (hnd:vars.Nodup) (hok:((vars.zip kinds).all fun p=>(relabelS scope f.scope).names.lookup p.1 == some p.2) = true)
    (hkind:scope.kind = .function) (hloc:∀ x ∈ scope.names,x.2 = .local→scope.names.lookup x.1 = some .local) (hfr:AllCap f Γ scope.names) (hcap:CapL f Γ (relabelS scope f.scope) scope.names vars Γc)
    (h1:EV S k f Γ iter d) (h2:It S k d tg ds) (hz:ds.length≤sizeLine)
    (h3:∀ fc:Fi,fc.scope = relabelS scope f.scope→fc.vars = vars→fc.kinds = kinds→CL S k fc tg elt ifs Γc ds outs) (hs:∀ env x,foldedSetIterable iter env x = pure x)
    (h4:AS S k f Γ (.Name x np) (.list outs) Γ₁) (hsw:∀ env,∃ b,swapsWithSole [.Name x np] (.ListComp elt [⟨tg,iter,ifs,0⟩] scope pos) p'.line env = pure b) (hw:∀ env,swappedStores [.Name x np] (.ListComp elt [⟨tg,iter,ifs,0⟩] scope pos) env = pure none) :
    EX S k f Γ (.Assign [.Name x np] (.ListComp elt [⟨tg,iter,ifs,0⟩] scope pos) p') (.next Γ₁) :=
  .assignCompE vars kinds hnd hok hkind hloc hfr hcap (.of h1 h2) hz h3 hs h4 hsw hw
end
end
section
open PySem PySem.W PySem.Calls PyProof.Rows
section
variable {S:Sig} {k:Nat} {f:Fi} {Γ Γ' Γ₁ Γ₂:Ctxt} {e e₁ e₂:Expr} {es:List Expr} {d d₁ d₂:D} {ds:List D} {pos p' p'':Pos} {x y:Str} {i j:Nat} {v:Value}
theorem dups2 (h:(y == x) = false):[x,y].eraseDups = [x,y]:=by
  simp [List.eraseDups,List.eraseDupsBy,List.eraseDupsBy.loop,h]
theorem fm2 {α β:Type} {F:α→Option β} {a b:α} {x y:β} (h1:F a = some x) (h2:F b = some y):List.filterMap F [a,b] = [x,y]:=by rw [List.filterMap_cons_some h1,List.filterMap_cons_some h2,List.filterMap_nil]
theorem fm1 {α β:Type} {F:α→Option β} {a b:α} {x:β} (h1:F a = some x) (h2:F b = none):List.filterMap F [a,b] = [x]:=by rw [List.filterMap_cons_some h1,List.filterMap_cons_none h2,List.filterMap_nil]
theorem boolF {b:Bool} (h:b = false):¬ b = true:=fun q=>absurd (h.symm.trans q) Bool.false_ne_true
theorem swapped2 {env:Env} {px py tp vp:Pos} {kt kv:Nat} (hx:env.kindOf x = some .local) (hy:env.kindOf y = some .local) (hb:env.blockKind = .function) (hl:(py.line == px.line) = true) (hne:(y == x) = false)
    (hs:([e₁,e₂].any fun | .Starred ..=>true | _=>false) = false) (h1:[e₁,e₂].all (foldedForSure 8) = false) (h2:[e₁,e₂].all (constantsAlone 8) = false) :
    swappedStores [.Tuple [.Name x px,.Name y py] kt tp] (.Tuple [e₁,e₂] kv vp) env = pure (some [x,y]):=by
  unfold swappedStores
  refine (if_neg (by rw [hb];exact Bool.false_ne_true)).trans ((if_neg (boolF hs)).trans ?_)
  dsimp only
  generalize hn:List.filterMap _ [Expr.Name x px,Expr.Name y py] = names
  obtain rfl:names = [x,y]:=by
    refine hn.symm.trans (fm2 ?_ ?_)
    · exact if_pos (by rw [hx];exact beq_self_eq_true px.line)
    · exact if_pos (by rw [hy];exact hl)
  exact (if_neg (by rw [dups2 hne];exact Bool.false_ne_true)).trans ((if_neg (boolF h1)).trans (if_neg (boolF h2)))
theorem EX.assign2 [Free S] {px py tp vp:Pos} {kt kv:Nat} {kx ky:Nat} (nx:f.vars[i]? = some x) (kx:f.kinds[i]? = some .local) (ny:f.vars[j]? = some y) (ky:f.kinds[j]? = some .local) (hv:EV S k f Γ (.Tuple [e₁,e₂] kv vp) (.tup [d₁,d₂]))
    (hl:(py.line == px.line) = true) (hne:(y == x) = false) (hs:([e₁,e₂].any fun | .Starred ..=>true | _=>false) = false) (h1:[e₁,e₂].all (foldedForSure 8) = false) (h2:[e₁,e₂].all (constantsAlone 8) = false)
    (hsw:∀ env,swapsWithSole [.Tuple [.Name x px,.Name y py] kt tp] (.Tuple [e₁,e₂] kv vp) p'.line env = pure false) :
    EX S k f Γ (.Assign [.Tuple [.Name x px,.Name y py] kt tp] (.Tuple [e₁,e₂] kv vp) p') (.next ((Γ.set j (some (.val d₂))).set i (some (.val d₁)))):=by
  intro A g W env s Q E R st hQ
  have hkx:env.kindOf x = some .local:=(kindOf_eq st.envIs x).trans (f.kind nx kx)
  have hky:env.kindOf y = some .local:=(kindOf_eq st.envIs y).trans (f.kind ny ky)
  have hb:env.blockKind = .function:=by unfold Env.blockKind;rw [st.envIs.kind];rfl
  rw [exec_Assign_arm]
  refine wpAny_bind (wpAny_standAt ?_)
  rw [hsw]
  refine wpAny_bind (wpAny_pure ?_)
  refine wp_ifF (by decide) ?_
  refine wpAny_bind (hv A g W env s _ E R st fun v g1 s1 t1 r1=>?_)
  rw [swapped2 hkx hky hb hl hne hs h1 h2]
  refine wpAny_bind (wpAny_pure ?_)
  have st1:=st.move t1
  cases r1 using Rd.casesTup with
  | tup e hz rs =>
    rename_i a vs n
    have ht:s1.heap.IsTuple a vs.toArray:=⟨_,st1.keep _ _ e,rfl,n,rfl⟩
    have hlen:=rs.length
    simp at hlen
    show wpAny S.M A (do rule "assign.swapped-stores";let items ← unpackItems (.ref a) 2 none;assignInOrder [bindName env y,bindName env x] items.reverse;pure .next) Q E s1
    refine wpAny_bind (wpAny_rule (wpAny_bind (wpAny_grown ?_)))
    rw [show (2:Nat) = vs.toArray.size by simp [hlen]]
    refine wpAny_unpackItems_tuple (R.handled Free.free) ht fun h' hx G=>?_
    have old:Keep s1.heap h':=fun b o e=>hx b o (Nat.ne_of_lt (Heap.lt_size e)) e
    obtain ⟨g2,t2,_⟩:=Tr.grow (s':={ s1 with heap:=h' }) (fun _=>False) st1.keep st1.base st1.tabs old G.heap rfl rfl (Nat.le_refl _)
    have st2:=st1.move t2
    cases rs using Rds.casesCons with
    | cons r1 rs =>
      cases rs using Rds.casesCons with
      | cons r2 rs =>
        cases rs using Rds.casesNil
        rename_i v1 v2
        show wpAny S.M A (do (do holding [v1] (bindName env y v2);holding [] (bindName env x v1);pure ());pure .next) Q E _
        refine wpAny_bind (wpAny_bind (wpAny_holding (wpAny_bindName (wp_storeVal ny ky st2 (r2.mono t2.mono) fun g3 s3 t3 st3=>wpAny_bind (wpAny_holding (wpAny_bindName (wp_storeVal nx kx st3 (r1.mono (t2.mono.trans t3.mono)) fun g4 s4 t4 st4=>wpAny_pure (wpAny_pure ?_))))))))
        exact hQ _ g4 s4 ((((t1.then t2).weak st.new).trans t3 fun _ q=>q).trans t4 fun _ q=>q) ⟨rfl,st4⟩
theorem Op2.inS {c:Nat} {xs:List Nat}:Op2 S k (compareOp .In) (.str [c]) (.str xs) (.bool (decide (c ∈ xs))):=by
  intro A g s v₁ v₂ Q E at' r1 r2 h
  cases r1 using Rd.casesStr;cases r2 using Rd.casesStr
  refine P.in_str ?_
  have e:=StrLaws.found_one ⟨xs.toArray⟩ c
  have e':(!(Builtin.Str.occurrences ⟨xs.toArray⟩ ⟨[c].toArray⟩ 0 (⟨xs.toArray⟩:Str).length 1).isEmpty) = decide (c ∈ xs):=by simpa using e
  rw [e']
  exact h _ g _ (at'.refl _) (.raw _)
theorem Op2.notInS {c:Nat} {xs:List Nat}:Op2 S k (compareOp .NotIn) (.str [c]) (.str xs) (.bool (!decide (c ∈ xs))):=by
  intro A g s v₁ v₂ Q E at' r1 r2 h
  cases r1 using Rd.casesStr;cases r2 using Rd.casesStr
  refine P.notIn_str ?_
  have e:=StrLaws.found_one ⟨xs.toArray⟩ c
  have e':(!(Builtin.Str.occurrences ⟨xs.toArray⟩ ⟨[c].toArray⟩ 0 (⟨xs.toArray⟩:Str).length 1).isEmpty) = decide (c ∈ xs):=by simpa using e
  rw [e']
  exact h _ g _ (at'.refl _) (.raw _)
noncomputable def solid:Value→Bool
  | .none=>true
  | .bool _=>true
  | .ref _=>true
  | _=>false
theorem Op2.isNotSelf {v:Value} (hv:solid v = true):Op2 S k (compareOp .IsNot) (.raw v) (.raw v) (.bool false):=by
  intro A g s v₁ v₂ Q E at' r1 r2 h
  cases r1 using Rd.casesRaw;cases r2 using Rd.casesRaw
  have fin:=h _ g _ (at'.refl _) (.raw _)
  cases v <;> first | (cases hv;done) | exact wpAny_isNot_self rfl fin | exact wpAny_isNot_ref_self fin
theorem Op2.isNotOtherS {v:Value} {xs:List Nat} (hv:solid v = true):Op2 S k (compareOp .IsNot) (.str xs) (.raw v) (.bool true):=by
  intro A g s v₁ v₂ Q E at' r1 r2 h
  cases r1 using Rd.casesStr;cases r2 using Rd.casesRaw
  have fin:=h _ g _ (at'.refl _) (.raw _)
  cases v <;> first | (cases hv;done) | exact wpAny_isNot_other rfl (by simp) fin
theorem replC_none (c:Nat) (y:List Nat):∀ (xs:List Nat) (o:Nat),cutsC c o xs = []→replC c y xs = xs
  | [],_,_=>rfl
  | x :: xs,o,h=>by
    by_cases hx:x = c
    · simp [cutsC,hx] at h
    · simp only [cutsC,hx,if_false] at h
      have:=replC_none c y xs _ h
      simp only [replC,List.flatMap_cons,hx,if_false] at this ⊢
      simp [this]
theorem cutsC_len (c:Nat):∀ (xs:List Nat) (o:Nat),(cutsC c o xs).length≤xs.length
  | [],_=>by simp [cutsC]
  | x :: xs,o=>by
    have:=cutsC_len c xs (o + 1)
    unfold cutsC;split <;> simp <;> lia
theorem replC_len (c:Nat) (y:List Nat):∀ xs:List Nat,(replC c y xs).length≤xs.length * (y.length + 1)
  | []=>by simp [replC]
  | x :: xs=>by
    have:=replC_len c y xs
    have e:replC c y (x :: xs) = (if x = c then y else [x]) ++ replC c y xs:=rfl
    rw [e,List.length_append,List.length_cons,Nat.add_mul]
    split <;> (try simp only [List.length_cons,List.length_nil]) <;> lia
theorem wp_replace {A:Around} {E:Value→Shared→Prop} {s:Shared} {Q:Value→Shared→Prop} {xs y:List Nat} {c:Nat} {c1 y1:Str} {t u w:Tok} (hc1:Cs c1 [c]) (hy1:Cs y1 y) (hne:(c1 == y1) = false) (hz:xs.length * (y.length + 1)≤sizeLine) (hu:u ≠ 0) (hw:w ≠ 0) (huw:u ≠ w)
    (h:∀ t' tk,Q (.str ⟨(replC c y xs).toArray⟩ t') { s with toks:=tk }):wpAny S.M A (call (.builtin "str.replace") [.str ⟨xs.toArray⟩ t,.str c1 u,.str y1 w]) Q E s:=by
  have ec:c1 = ⟨#[c]⟩:=by
    obtain ⟨a⟩:=c1;unfold Cs at hc1
    have:a = #[c]:=Array.toList_inj.mp (by simpa using hc1)
    rw [this]
  have ey:y1 = ⟨y.toArray⟩:=by
    obtain ⟨a⟩:=y1;unfold Cs at hy1
    have:a = y.toArray:=Array.toList_inj.mp (by simpa using hy1)
    rw [this]
  subst ec ey
  have hl:(⟨xs.toArray⟩:Str).length = xs.length:=by simp [Str.length]
  have hocc:Builtin.Str.occurrences ⟨xs.toArray⟩ ⟨#[c]⟩ 0 (⟨xs.toArray⟩:Str).length ((⟨xs.toArray⟩:Str).length + 1) = cutsC c 0 xs:=by rw [hl];exact occ_all xs c (xs.length + 1) (by lia)
  have hcl:=cutsC_len c xs 0
  have h1:((⟨#[c]⟩:Str).length == 0) = false:=by simp [Str.length]
  have hmul:xs.length + xs.length * y.length = xs.length * (y.length + 1):=by rw [Nat.mul_add,Nat.mul_one];lia
  refine call_gives PySem.F.slot_str_replace (typeIs_str _ _ _) PySem.F.entry_str_replace (PySem.F.args_str_replace_3 _ _ _) (gives_str_replace _ _ _ t u w fun _=>⟨by simp [hu,hw],by simp [huw],by simpa using hne,?_⟩) ?_
  · rw [hocc,hl]
    have:(cutsC c 0 xs).length * y.length≤xs.length * y.length:=Nat.mul_le_mul_right _ hcl
    simp [Builtin.Str.tooLong,Str.length]
    lia
  · rw [hocc,h1,Bool.false_and,Bool.or_false]
    cases hn:(cutsC c 0 xs).isEmpty
    · rw [if_neg (by simp)]
      have hp:Builtin.Str.partsBetween ⟨xs.toArray⟩ (cutsC c 0 xs) (⟨#[c]⟩:Str).length = (splitC c xs).map fun p=>⟨p.toArray⟩:=by
        have:=parts_split c xs (xs.length + 1) (by lia)
        rw [occ_all xs c (xs.length + 1) (by lia)] at this
        exact this
      rw [hp,glued_eq,join_split]
      have:=replC_len c y xs
      exact ⟨by show (replC c y xs).toArray.size≤_;simp;lia,h _ _⟩
    · rw [if_pos rfl]
      have:=h t s.toks
      rw [replC_none c y xs 0 (by simpa using hn)] at this
      exact this
theorem EV.replaceC {o:Expr} {apos p1 p2:Pos} {k1 k2:Nat} {c1 y1:Str} {xs y:List Nat} {c:Nat} (h1:EV S k f Γ o (.str xs)) (hc1:Cs c1 [c]) (hy1:Cs y1 y) (hne:(c1 == y1) = false) (hz:xs.length * (y.length + 1)≤sizeLine)
    (hbase:∀ env,attributeBase o "replace" env (eval o env) = eval o env) (hline:(apos.endLine == pos.line) = true) :
    EV S k f Γ (.Call (.Attribute o "replace" apos) [.Constant (.str c1) k1 p1,.Constant (.str y1) k2 p2] [] pos) (.str (replC c y xs)):=by
  intro A g W env s Q E R st hQ
  refine wpAny_Call_method (T:="str") (id:="str.replace") (hbase env) (by rfl) hline PySem.F.plainAttrs_str PySem.F.slot_str_replace PySem.F.type_str_replace ?_
  refine h1 A g W env s _ E R st fun ov g1 s1 t1 r1=>?_
  cases r1 using Rd.casesStr
  rename_i t hs0
  refine ⟨typeIs_str _ _ _,nofun,?_⟩
  refine callWith_of (P:=fun h=>S.K.In h) (by rfl) (Callee.builtin (S:=S)) ?_
  refine evalArgs_any (by rfl) ?_
  show wpAny S.M A (spliced [(false,eval (.Constant (.str c1) k1 p1) env),(false,eval (.Constant (.str y1) k2 p2) env)]) _ _ _
  refine spliced_cons (Constant_str (spliced_cons (Constant_str (spliced_nil ?_))))
  have hpos:=t1.now.pos
  refine ⟨t1.base.kin.keeps t1.keep,?_⟩
  refine wpAny_grown (wp_replace hc1 hy1 hne hz (Nat.ne_of_gt hpos) (Nat.succ_ne_zero _) (Nat.ne_of_lt (Nat.lt_succ_self _)) fun t' tk G=>?_)
  have a1:=t1.at R
  refine hQ _ g1 _ (t1.then (a1.tick _ (t:=tk) ?_)) (.str _ t' (Nat.le_trans (replC_len c y xs) hz))
  have:=G.toks
  simp only at this
  lia
theorem EV.fstr3 {a b:Str} {as bs xs:List Nat} {k1 k2:Nat} {p1 p2 p3:Pos} (ha:Cs a as) (hb:Cs b bs) (h1:EV S k f Γ e (.str xs)) (hz:as.length + xs.length + bs.length≤sizeLine) :
    EV S k f Γ (.JoinedStr [.Constant (.str a) k1 p1,.FormattedValue e (-1) none p2,.Constant (.str b) k2 p3] pos) (.str (as ++ xs ++ bs)):=by
  intro A g W env s Q E R st hQ
  have ea:a = ⟨as.toArray⟩:=by
    obtain ⟨z⟩:=a;unfold Cs at ha
    have:z = as.toArray:=Array.toList_inj.mp (by simpa using ha)
    rw [this]
  have eb:b = ⟨bs.toArray⟩:=by
    obtain ⟨z⟩:=b;unfold Cs at hb
    have:z = bs.toArray:=Array.toList_inj.mp (by simpa using hb)
    rw [this]
  subst ea eb
  refine JoinedStr_many (joinParts_cons (Constant_str ?_))
  have e1:(Str.empty:Str) ++ ⟨as.toArray⟩ = ⟨as.toArray⟩:=strApp [] as
  show (Str.empty ++ ⟨as.toArray⟩:Str).length≤sizeLine∧wpAny S.M A (joinParts (Str.empty ++ ⟨as.toArray⟩) _) Q E _
  rw [e1]
  refine ⟨by simp [Str.length];lia,joinParts_cons ?_⟩
  have st1:St S f Γ g W env { s with toks:=s.toks + 1 }:=st.move ((st.at R).tick _ (Nat.le_succ _))
  refine FormattedValue_plain (h1 A g W env _ _ E R st1 fun v g1 s1 t1 r1=>?_)
  cases r1 using Rd.casesStr
  rename_i t hs0
  refine wpAny_grown (formatField_str (fun t' tk G=>?_) (by simp [Str.length];lia))
  show ((⟨as.toArray⟩:Str) ++ ⟨xs.toArray⟩:Str).length≤sizeLine∧wpAny S.M A (joinParts (⟨as.toArray⟩ ++ ⟨xs.toArray⟩) _) Q E _
  rw [strApp]
  refine ⟨by simp [Str.length];lia,joinParts_cons (Constant_str ?_)⟩
  show ((⟨(as ++ xs).toArray⟩:Str) ++ ⟨bs.toArray⟩:Str).length≤sizeLine∧wpAny S.M A (joinParts (⟨(as ++ xs).toArray⟩ ++ ⟨bs.toArray⟩) _) Q E _
  rw [strApp]
  refine ⟨by simp [Str.length];lia,joinParts_nil ?_ (by simp [Str.length];lia)⟩
  have a1:=t1.at R
  have T:Tr S (Nw s) g s g1 s1:=((st.at R).tick _ (t:=s.toks + 1) (Nat.le_succ _)).then t1
  refine hQ _ g1 _ (T.then (a1.tick _ (t:=tk + 1 + 1) ?_)) (.str _ _ (by simp;lia))
  have:=G.toks
  simp only at this
  lia
end
end
section
open PySem PySem.W PySem.Calls PyProof.Rows
theorem wp_forIn1 {α β γ:Type} {M:Model} {A:Around} {c:α} {init:β} {body:α→β→Sem (ForInStep β)} {k:β→Sem γ} {Q:γ→Shared→Prop} {E:Value→Shared→Prop} {s:Shared} (h:wpAny M A (body c init) (fun r s'=>wpAny M A (k (match r with | .done b=>b | .yield b=>b)) Q E s') E s) :
    wpAny M A (forIn #[c] init body >>= k) Q E s:=by
  rw [← Array.forIn_toList]
  show wpAny _ _ (forIn [c] _ _ >>= _) _ _ _
  rw [List.forIn_cons]
  exact wpAny_bind (wpAny_bind (wpAny_mono h (fun r s' h=>by cases r <;> exact wpAny_pure h) fun _ _ h=>h))
section
variable {prog:Program} {w:World} {A:Around} {E:Value→Shared→Prop} {s:Shared} {d:Addr} {f:Int→Option Value}
theorem tl_hit {c:Nat} {y:Str} {u:Tok} {Q:Builtin.Str.Mapped→Shared→Prop} (hm:s.heap.MapOf (intKind prog w) d f) (hf:f c = some (.str y u)) (h:Q (.text y) { s with toks:=s.toks + 1 + 1 }):wpAny (model prog w) A (Builtin.Str.tableLookup (.ref d) c) Q E s:=by
  unfold Builtin.Str.tableLookup
  refine wpAny_bind (wpAny_attempt (wpAny_bind (wpAny_mkInt ?_)))
  refine wpAny_getItem_of (knd:=intKind prog w) (f:=f) (k:=(c:Int)) (by simp [intKind,Value.isInt]) hm hf ?_
  dsimp only
  refine wpAny_bind (wpAny_of_eq (a:=none) rfl ?_)
  refine wpAny_bind (wpAny_of_eq (a:=some y) rfl ?_)
  exact wpAny_pure h
theorem tl_miss {c:Nat} {Q:Builtin.Str.Mapped→Shared→Prop} (hh:A.handled = none) (hd:(d == sysModules) = false) (hm:s.heap.MapOf (intKind prog w) d f) (hf:f c = none) (h:∀ h' tk,(∀ b o,s.heap.get? b = some o→h'.get? b = some o)→Q .keep { s with heap:=h',toks:=tk }):wpAny (model prog w) A (Builtin.Str.tableLookup (.ref d) c) Q E s:=by
  unfold Builtin.Str.tableLookup
  refine wpAny_bind (wpAny_attempt (wpAny_bind (wpAny_mkInt ?_)))
  refine wpAny_getItem_missing_of (knd:=intKind prog w) (f:=f) (k:=(c:Int)) (by simp [intKind,Value.isInt]) hd hh hm hf fun h' e x=>?_
  dsimp only
  refine e2_3 (x.there) (fun ob t e1 e2 _=>?_)
  refine wpAny_bind (wpAny_isInstance (T:="KeyError") (b:=true) ⟨ob,e1,e2⟩ (by rw [isSubtype_type];kernel_rfl) ?_)
  rw [if_pos rfl]
  exact wpAny_bind (wpAny_rule (wpAny_pure (h h' _ x.keeps)))
theorem translate1 {c:Nat} {t:Tok} {y:List Nat} {m:Builtin.Str.Mapped} {R:Shared→Prop} {Q:Value→Shared→Prop} (hm:(m = .text ⟨y.toArray⟩∧y.length = 2∧∀ s Q',R s→(∀ s',R s'→Q' m s')→wpAny (model prog w) A.in1 (Builtin.Str.tableLookup (.ref d) c) Q' E s) ∨ m = .keep∧y = [c])
    (tl:∀ Q',(∀ s',R s'→Q' m s')→wpAny (model prog w) A.in1 (Builtin.Str.tableLookup (.ref d) c) Q' E s) (h:∀ t' s',R s'→Q (.str ⟨y.toArray⟩ t') { s' with toks:=s'.toks + 1 }) :
    wpAny (model prog w) A (call (.builtin "str.translate") [.str ⟨#[c]⟩ t,.ref d]) Q E s:=by
  refine wpAny_call_entry PySem.F.slot_str_translate (typeIs_str _ _ _) PySem.F.entry_str_translate ?_ (PySem.F.args_str_translate_2 _ _)
  unfold Builtin.«str.translate»
  refine wpAny_bind (wpAny_of_eq (a:=(.str ⟨#[c]⟩ t,⟨#[c]⟩,.ref d)) (by first | rfl | kernel_rfl) ?_)
  refine wp_ifF (by simp [Str.length]) (wp_forIn1 (wp_ifF (show ¬ Builtin.Str.tooLong 0 = true by decide) ?_))
  have yl:y.length = 1 ∨ y.length = 2:=hm.elim (fun h=>.inr h.2.1) fun h=>.inl (by rw [h.2];rfl)
  have tail:∀ (n:Nat) (s':Shared),R s'→n≤2 →
      wpAny (model prog w) A.in1 (if Builtin.Str.tooLong n = true then (do unsupported "str.translate:memory";let r ← mkStr ⟨[(⟨y.toArray⟩:Str)].reverse.foldl (fun acc p=>acc ++ p.cps) #[]⟩;ret r) else (do let r ← mkStr ⟨[(⟨y.toArray⟩:Str)].reverse.foldl (fun acc p=>acc ++ p.cps) #[]⟩;ret r)) (fun fin s'=>∃ v,fin = PySem.Fin.done (.ret v)∧Q v s') E s':=by
    intro n s' hs hn
    have e:([(⟨y.toArray⟩:Str)].reverse.foldl (fun acc p=>acc ++ p.cps) #[]) = y.toArray:=by simp
    rw [e]
    refine wp_ifF (fun q=>?_) (wpAny_bind (wpAny_mkStr (wpAny_pure ⟨_,rfl,h _ _ hs⟩) (by simp [Str.length];rcases yl with e | e <;> rw [e] <;> decide)))
    rcases (by omega:n = 0 ∨ n = 1 ∨ n = 2) with rfl | rfl | rfl <;> exact absurd q (by decide)
  by_cases hc:(#[c].all fun x=>decide (x < 128)) = true
  · refine wp_ifT hc ?_
    refine wpAny_bind (tl _ fun s' hs=>?_)
    rcases hm with ⟨rfl,hl,tl2⟩ | ⟨rfl,rfl⟩
    · have e2:(Str.length ⟨y.toArray⟩ == 1) = false:=by simp [Str.length,hl]
      simp only [e2,Bool.false_and,Bool.false_eq_true,if_false]
      refine wpAny_bind (wpAny_pure (wpAny_bind (wpAny_rule (wpAny_bind (tl2 _ _ hs fun s' hs=>?_)))))
      exact wpAny_pure (tail _ _ hs (by show 0 + y.length≤2;omega))
    · exact wpAny_bind (wpAny_pure (wpAny_pure (tail _ _ hs (show 0 + 1≤2 by decide))))
  · refine wp_ifF hc (wp_ifF Bool.false_ne_true ?_)
    refine wpAny_bind (tl _ fun s' hs=>?_)
    rcases hm with ⟨rfl,hl,tl2⟩ | ⟨rfl,rfl⟩
    · exact wpAny_pure (tail _ _ hs (by show 0 + y.length≤2;omega))
    · exact wpAny_pure (tail _ _ hs (show 0 + 1≤2 by decide))
theorem translate1_hit {c:Nat} {y:List Nat} {t u:Tok} {Q:Value→Shared→Prop} (hm:s.heap.MapOf (intKind prog w) d f) (hf:f c = some (.str ⟨y.toArray⟩ u)) (hl:y.length = 2) (h:∀ t' tk,Q (.str ⟨y.toArray⟩ t') { s with toks:=tk }) :
    wpAny (model prog w) A (call (.builtin "str.translate") [.str ⟨#[c]⟩ t,.ref d]) Q E s :=
  translate1 (R:=fun s'=>∃ tk,s' = { s with toks:=tk }) (m:=.text ⟨y.toArray⟩) (.inl ⟨rfl,hl,fun s₁ Q' e k=>by
    refine e1_1 e fun tk e=>?_;subst e;exact tl_hit hm hf (k _ ⟨_,rfl⟩)⟩) (fun Q' k=>tl_hit hm hf (k _ ⟨_,rfl⟩)) fun t' s' e=>e1_1 e fun tk e=>by subst e;exact h t' _
theorem translate1_miss {c:Nat} {t:Tok} {Q:Value→Shared→Prop} (hh:A.handled = none) (hd:(d == sysModules) = false) (hm:s.heap.MapOf (intKind prog w) d f) (hf:f c = none) (h:∀ h' t' tk,(∀ b o,s.heap.get? b = some o→h'.get? b = some o)→Q (.str ⟨#[c]⟩ t') { s with heap:=h',toks:=tk }) :
    wpAny (model prog w) A (call (.builtin "str.translate") [.str ⟨#[c]⟩ t,.ref d]) Q E s :=
  translate1 (R:=fun s'=>∃ h' tk,(∀ b o,s.heap.get? b = some o→h'.get? b = some o)∧s' = { s with heap:=h',toks:=tk }) (m:=.keep) (y:=[c]) (.inr ⟨rfl,rfl⟩) (fun Q' k=>tl_miss hh hd hm hf fun h' tk hk=>k _ ⟨h',tk,hk,rfl⟩) fun t' s' e=>e2_2 e fun h' tk hk e=>by subst e;exact h h' t' _ hk
end
inductive EscAll:List DictEntry→List Nat→Prop where
  | nil:EscAll [] []
  | cons {h:Int} {c:Nat} {t u:Tok} {x:Str} {l:List DictEntry} {cs:List Nat}:x = ⟨#[92,c]⟩→h = hashInt c→EscAll l cs→EscAll (⟨h,.int c t,.str x u⟩ :: l) (c :: cs)
theorem EscAll.find {l:List DictEntry} {cs:List Nat} (h:EscAll l cs) (c:Nat):(c ∈ cs∧∃ u,(l.find? fun e=>Value.isInt c e.key).map (·.val) = some (.str ⟨([92,c]:List Nat).toArray⟩ u)) ∨ (c ∉ cs∧(l.find? fun e=>Value.isInt c e.key).map (·.val) = none):=by
  induction h with
  | nil=>exact .inr ⟨by simp,rfl⟩
  | @cons hh c' t u x l cs e _ _ ih =>
    by_cases hc:c = c'
    · subst hc
      subst e
      exact .inl ⟨by simp,u,by simp [Value.isInt]⟩
    · have hb:Value.isInt (c:Int) (.int (c':Int) t) = false:=by simp [Value.isInt];lia
      rw [List.find?_cons]
      simp only [hb]
      rcases ih with ⟨a,b⟩ | ⟨a,b⟩
      · exact .inl ⟨.tail _ a,b⟩
      · exact .inr ⟨by simp [hc,a],b⟩
theorem EscAll.keys {prog:Program} {w:World} {l:List DictEntry} {cs:List Nat} (h:EscAll l cs):∀ e ∈ l,∃ k,(intKind prog w).is k e.key = true∧e.hash = (intKind prog w).hash k:=by
  induction h with
  | nil=>intro e he;cases he
  | @cons _ c' _ _ _ _ _ _ hh _ ih =>
    intro e he
    rcases List.mem_cons.mp he with rfl | he
    · exact ⟨(c':Int),by simp [intKind,Value.isInt],hh⟩
    · exact ih e he
noncomputable def escC (cs:List Nat) (c:Nat):List Nat:=if c ∈ cs then [92,c] else [c]
theorem Ops.translate {S:Sig} [Free S] {k:Nat} {d:Addr} {es:List DictEntry} {n:Nat} {cs:List Nat} (hK:S.K.lookup d = some { cls:=.type "dict",data:=.dict es.toArray n }) (he:EscAll es cs) (hd:(d == sysModules) = false) {c:Nat} :
    Ops S k (fun vs=>call (.builtin "str.translate") vs) [.str [c],.raw (.ref d)] (.str (escC cs c)):=by
  intro A g s vs Q E at' rs h
  cases rs using Rds.casesCons with
  | cons r1 r2 =>
    cases r2 using Rds.casesCons with
    | cons r2 r3 =>
      cases r3 using Rds.casesNil;cases r2 using Rd.casesRaw
      cases r1 using Rd.casesStr with
      | str t hs0 =>
      have hz:=sizeLine_eq
      have hg:s.heap.get? d = some { cls:=.type "dict",data:=.dict es.toArray n }:=at'.keep _ _ (at'.base.kin _ _ hK)
      have hm:s.heap.MapOf (intKind S.prog S.w) d (findBy (intKind S.prog S.w).is es.toArray):=⟨_,_,n,hg,⟨rfl,rfl,rfl⟩,rfl,fun e h=>he.keys e (by simpa using h),fun _=>rfl⟩
      have hf:findBy (intKind S.prog S.w).is es.toArray (c:Int) = (es.find? fun e=>Value.isInt c e.key).map (·.val):=by simp [findBy,intKind]
      rcases he.find c with ⟨hin,u,hu⟩ | ⟨hin,hu⟩
      · refine wpAny_grown (translate1_hit (y:=[92,c]) hm (hf.trans hu) rfl fun t' tk G=>?_)
        refine h _ g _ (at'.tick _ G.toks) ?_
        unfold escC;rw [if_pos hin]
        exact .str _ t' (by show 2≤sizeLine;lia)
      · refine wpAny_grown (translate1_miss (at'.room.handled Free.free) hd hm (hf.trans hu) fun h' t' tk hk G=>?_)
        refine e1_2 (Tr.grow (s':={ s with heap:=h',toks:=tk }) (fun _=>False) at'.keep at'.base at'.tabs hk G.heap rfl rfl G.toks) (fun g' t _=>?_)
        refine h _ g' _ t ?_
        unfold escC;rw [if_neg hin]
        exact .str [c] t' (by show 1≤sizeLine;lia)
theorem EX.assign2N {S:Sig} [Free S] {k:Nat} {f:Fi} {Γ:Ctxt} {e₁ e₂:Expr} {d₁ d₂:D} {x y:Str} {i j:Nat} {px py tp vp p':Pos} {kt kv:Nat} (nx:Nm f x i .local) (ny:Nm f y j .local) (hv:EV S k f Γ (.Tuple [e₁,e₂] kv vp) (.tup [d₁,d₂]))
    (hl:(py.line == px.line) = true) (hne:(y == x) = false) (hs:([e₁,e₂].any fun | .Starred ..=>true | _=>false) = false) (h1:[e₁,e₂].all (foldedForSure 8) = false) (h2:[e₁,e₂].all (constantsAlone 8) = false)
    (hsw:∀ env,swapsWithSole [.Tuple [.Name x px,.Name y py] kt tp] (.Tuple [e₁,e₂] kv vp) p'.line env = pure false) :
    EX S k f Γ (.Assign [.Tuple [.Name x px,.Name y py] kt tp] (.Tuple [e₁,e₂] kv vp) p') (.next ((Γ.set j (some (.val d₂))).set i (some (.val d₁)))):=EX.assign2 (kx:=0) (ky:=0) nx.hx nx.hk ny.hx ny.hk hv hl hne hs h1 h2 hsw
end
section
open PySem PySem.W PySem.Calls PyProof.Rows
variable {S:Sig} {k:Nat} {f:Fi} {Γ:Ctxt} {res:Res} {sts:List Stmt} {pos:Pos}
noncomputable def looped {σ:Type} (c:σ→Bool) (step:σ→σ):Nat→σ→σ
  | 0,s=>s
  | n + 1,s=>if c s then looped c step n (step s) else s
theorem looped_stop {σ:Type} {c:σ→Bool} {step:σ→σ} {s:σ} (h:c s = false):∀ n,looped c step n s = s
  | 0=>rfl
  | n + 1=>by simp [looped,h]
theorem WL.run {σ τ:Type} {test:Expr} {body:List Stmt} (G:σ→τ→Ctxt) (c:σ→Bool) (step:σ→σ) (I:σ→Prop) (μ:σ→Nat)
    (ht:∀ s t,I s→TV S k f (G s t) test (c s))
    (hb:∀ s t,I s→c s = true→I (step s)∧μ (step s) < μ s∧∃ t',EXs S k f (G s t) body (.next (G (step s) t')) ∨ EXs S k f (G s t) body (.cont (G (step s) t'))) :
    ∀ (n:Nat) (s:σ) (t:τ),μ s≤n→I s→c (looped c step n s) = false∧I (looped c step n s)∧∃ t',WL S k f test body (G s t) (.next (G (looped c step n s) t')):=by
  intro n
  induction n with
  | zero =>
    intro s t hn hI
    have h0:c s = false:=by
      cases hc:c s
      · rfl
      · have:=(hb s t hI hc).2.1;lia
    exact ⟨h0,hI,t,.stop (h0 ▸ ht s t hI)⟩
  | succ n ih =>
    intro s t hn hI
    cases hc:c s
    · rw [looped_stop hc]
      exact ⟨hc,hI,t,.stop (hc ▸ ht s t hI)⟩
    · obtain ⟨h1,h2,t',h3⟩:=hb s t hI hc
      obtain ⟨h4,h5,t'',h6⟩:=ih (step s) t' (by lia) h1
      have h7:looped c step (n + 1) s = looped c step n (step s):=by simp [looped,hc]
      rw [h7]
      refine ⟨h4,h5,t'',?_⟩
      rcases h3 with h3 | h3
      · exact .next (hc ▸ ht s t hI) h3 h6
      · exact .cont (hc ▸ ht s t hI) h3 h6
theorem EXs.whileRun {σ τ:Type} {test:Expr} {body:List Stmt} (G:σ→τ→Ctxt) (c:σ→Bool) (step:σ→σ) (I:σ→Prop) (μ:σ→Nat) (n:Nat) (s:σ) (t:τ) (hΓ:Γ = G s t) (hn:μ s≤n) (hI:I s)
    (ht:∀ s t,I s→TV S k f (G s t) test (c s))
    (hb:∀ s t,I s→c s = true→I (step s)∧μ (step s) < μ s∧∃ t',EXs S k f (G s t) body (.next (G (step s) t')) ∨ EXs S k f (G s t) body (.cont (G (step s) t')))
    (hr:∀ t',c (looped c step n s) = false→I (looped c step n s)→EXs S k f (G (looped c step n s) t') sts res) :
    EXs S k f Γ (.While test body [] pos :: sts) res:=by
  subst hΓ
  obtain ⟨h1,h2,t',h3⟩:=WL.run G c step I μ ht hb n s t hn hI
  exact .cons (EX.while h3) (hr t' h1 h2)
end
section
open PySem PySem.W PySem.Calls PyProof.Rows
theorem rangeSz {a:Nat} {b:Nat}:Builtin.Range.rangeSize (a:Int) (b:Int) 1 = ((b - a:Nat):Int):=by
  unfold Builtin.Range.rangeSize
  simp only [show (1:Int) > 0 from by lia,if_true]
  by_cases hn:(a:Int) < b
  · rw [if_pos hn];lia
  · rw [if_neg hn];lia
theorem small2 {a b:Nat} (h:b≤1000000000) (h':a≤1000000000):Builtin.Range.small (a:Int) (b:Int) 1 = true:=by
  unfold Builtin.Range.small
  rw [rangeSz]
  simp [Builtin.Range.rangeFitsLong]
  lia
variable {S:Sig} {k:Nat} {f:Fi} {Γ:Ctxt} {res:Res} {sts:List Stmt} {pos:Pos} {tg:Expr}
theorem It.range0 [Free S] {n:Nat} (hsm:Builtin.Range.small 0 (n:Int) 1 = true):It S k (.rng 0 (n:Int) 1) tg ((List.range n).map fun i:Nat=>D.int (i:Int)):=by
  have h:intD 0 1 n = (List.range n).map fun i:Nat=>D.int (i:Int):=by
    unfold intD
    refine List.map_congr_left fun i _=>?_
    show D.int (0 + (i:Int) * 1) = D.int (i:Int)
    rw [Int.mul_one,Int.zero_add]
  rw [← h]
  refine It.range hsm ?_
  exact rangeSz (a:=0)
theorem ok_strs {m:Bool} {xs:List (List Nat)} (h:∀ x ∈ xs,okC x = true):D.ok m 8 (.list (xs.map .str)) = true:=by
  exact D.okMap fun x hx=>h x hx
theorem bool_any {P:Bool→Prop} {p q:Prop} {i:Decidable p} {j:Decidable q} (e:p ↔ q) (h:P (@decide p i)):P (@decide q j):=(decide_eq_decide.mpr e) ▸ h
theorem Op2.eqLS {xs ys:List (List Nat)} (h1:∀ x ∈ xs,okC x = true) (h2:∀ x ∈ ys,okC x = true):Op2 S k (compareOp .Eq) (.list (xs.map .str)) (.list (ys.map .str)) (.bool (decide (xs = ys))):=by
  have h:=Op2.eqD (S:=S) (k:=k) true (ok_strs h1) (ok_strs h2)
  have e:(D.list (xs.map .str) = D.list (ys.map .str)) ↔ xs = ys:=by
    constructor
    · intro q;injection q with q
      exact (List.map_inj_right fun a b hab=>by injection hab).mp q
    · rintro rfl;rfl
  exact bool_any (P:=fun b=>Op2 S k (compareOp .Eq) (.list (xs.map .str)) (.list (ys.map .str)) (.bool b)) e h
theorem pick_map {α β:Type} (g:α→β) (lo hi:Option Int) (l:List α):pick lo hi (l.map g) = (pick lo hi l).map g:=by
  unfold pick;simp
theorem pick_mem {α:Type} {lo hi:Option Int} {l:List α} {x:α} (h:x ∈ pick lo hi l):x ∈ l:=by
  unfold pick at h;exact List.mem_of_mem_drop (List.mem_of_mem_take h)
theorem small0 {n:Nat} (h:n≤1000000000):Builtin.Range.small 0 (n:Int) 1 = true:=by
  exact small2 (a:=0) h (Nat.zero_le _)
end
section
open PySem PySem.W PySem.Calls PyProof.Rows
variable {S:Sig} {k:Nat} {f:Fi} {Γ:Ctxt} {res:Res} {sts:List Stmt} {pos:Pos} {tg:Expr}
theorem Op2.leS {a b:List Nat}:Op2 S k (compareOp .LtE) (.str a) (.str b) (.bool (!decide (b < a))):=by
  intro A g s v₁ v₂ Q E at' r1 r2 h
  cases r1 using Rd.casesStr;cases r2 using Rd.casesStr
  exact P.le_str (h _ g _ (at'.refl _) (.raw _))
theorem le1 (a b:Nat):(!decide ([b] < [a])) = decide (a≤b):=by
  by_cases h:a≤b
  · have:¬ [b] < [a]:=by
      intro q
      cases q with
      | rel h'=>lia
      | cons h'=>cases h'
    simp [h,this]
  · have:[b] < [a]:=List.Lex.rel (by lia)
    simp [h,this]
theorem Op2.leC {a b:Nat}:Op2 S k (compareOp .LtE) (.str [a]) (.str [b]) (.bool (decide (a≤b))):=by
  rw [← le1];exact Op2.leS
theorem Op2.neB {a b:Bool}:Op2 S k (compareOp .NotEq) (D.bool a) (D.bool b) (.bool (a != b)):=by
  have h:=Op2.neD (S:=S) (k:=k) (d₁:=D.bool a) (d₂:=D.bool b) true rfl rfl
  have e:(D.bool a = D.bool b) ↔ a = b:=by
    constructor
    · intro q;injection q with q;injection q
    · rintro rfl;rfl
  have:=bool_any (P:=fun c=>Op2 S k (compareOp .NotEq) (D.bool a) (D.bool b) (.bool (!c))) (j:=instDecidableEqBool a b) e h
  have q:(!decide (a = b)) = (a != b):=by cases a <;> cases b <;> rfl
  rw [← q];exact this
end
section
open PySem PySem.W PySem.Calls PyProof.Rows
variable {S:Sig} {k:Nat} {f fc:Fi} {Γ:Ctxt} {res:Res} {sts:List Stmt} {pos:Pos} {tg elt:Expr} {ifs:List Expr}
theorem CL.filter {α τ:Type} (it out:α→D) (keep:α→Bool) (G:τ→Ctxt) :
    ∀ (as:List α) (t:τ),(∀ a ∈ as,∀ t,∃ t',AS S k fc (G t) tg (it a) (G t')∧Ts S k fc (G t') ifs (keep a)∧(keep a = true→EV S k fc (G t') elt (out a))) →
      CL S k fc tg elt ifs (G t) (as.map it) ((as.filter keep).map out)
  | [],t,_=>.nil
  | a :: as,t,h=>by
    refine e1_3 (h a (List.mem_cons_self ..) t) (fun t' h1 h2 h3=>?_)
    have ih:=CL.filter it out keep G as t' fun b hb=>h b (List.mem_cons_of_mem _ hb)
    cases hk:keep a
    · rw [List.filter_cons_of_neg (by simp [hk])]
      exact .skip h1 (hk ▸ h2) ih
    · rw [List.filter_cons_of_pos hk]
      exact .take h1 (hk ▸ h2) (h3 hk) ih
theorem Nm.of {vars:List Str} {kinds:List NameKind} {x:Str} {i:Nat} {kd:NameKind} (h1:fc.vars = vars) (h2:fc.kinds = kinds) (a:vars[i]? = some x) (b:kinds[i]? = some kd)
    (d1:(x == ("__debug__":Str)) = false:=by decide) (d2:(x == ("__classdict__":Str)) = false:=by decide):Nm fc x i kd:=⟨by rw [h1];exact a,by rw [h2];exact b,d1,d2⟩
theorem Raw.g {sc:Scope} {x:Str} {v:Value} (h:fc.scope = sc) (hk:sc.names.lookup x = some .globalImplicit) (hn:nsIn S.K mainGlobals x = some (some v)) (hd:(x == ("__debug__":Str)) = false:=by decide):Raw S fc x v :=
  fun k Γ pos=>EV.global (by rw [h];exact hk) hn hd
theorem Raw.b {sc:Scope} {x:Str} {v:Value} (h:fc.scope = sc) (hk:sc.names.lookup x = some .globalImplicit) (hn:nsIn S.K mainGlobals x = some none) (hv:bootBuiltins x = some v) (hx:x ≠ "__name__":=by decide) (hd:(x == ("__debug__":Str)) = false:=by decide):Raw S fc x v :=
  fun k Γ pos=>EV.boot (by rw [h];exact hk) hn hv hx hd
theorem intD_eq (a n:Nat):intD (a:Int) 1 n = (List.range' a n).map fun i:Nat=>D.int (i:Int):=by
  unfold intD
  rw [List.range'_eq_map_range,List.map_map]
  refine List.map_congr_left fun i _=>?_
  show D.int ((a:Int) + (i:Int) * 1) = D.int ((a + i:Nat):Int)
  rw [Int.mul_one];rfl
theorem Ops.listFrom [Free S] {a b:Nat} (h:b≤1000000) (h':a≤1000000):Ops S k (fun vs=>call (.type "list") vs) [.rng (a:Int) (b:Int) 1] (.list ((List.range' a (b - a)).map fun i:Nat=>D.int (i:Int))):=by
  rw [← intD_eq]
  exact Ops.listRange (small2 (by lia) (by lia)) rangeSz (by lia)
end
section
open PySem PySem.W PySem.Calls PyProof.Rows
noncomputable def rcode:Array Nat:=#[14,14,4,1,1,9,0,64,0,1342177280,0,0,0,0,0,17,0,13,11,9,0,64,0,1342177280,0,0,0,0,0,17,1,1]
noncomputable def sig (c:Nat):Bool:=c == 38 || c == 124 || c == 126
theorem sig_bit:∀ c:Fin 256,(rcode.getD (5 + (1 + c.val / 32)) 0).testBit (c.val % 32) = sig c.val:=by decide
theorem inSet_r (c:Nat) (seen:Sre.Seen):Sre.inSet rcode c 32 5 true seen = .ok (sig c,if sig c then seen.add 9 else (seen.add 9).add 0):=by
  by_cases h:c < 256
  · have hb:=sig_bit ⟨c,h⟩
    simp only at hb
    show (if (decide (c < 256) && (rcode.getD (5 + (1 + c / 32)) 0).testBit (c % 32)) = true then Except.ok (true,seen.add 9) else .ok (!true,(seen.add 9).add 0)) = _
    rw [hb,decide_eq_true h,Bool.true_and]
    cases sig c <;> rfl
  · have hs:sig c = false:=by unfold sig;simp;lia
    show (if (decide (c < 256) && (rcode.getD (5 + (1 + c / 32)) 0).testBit (c % 32)) = true then Except.ok (true,seen.add 9) else .ok (!true,(seen.add 9).add 0)) = _
    rw [hs,decide_eq_false h,Bool.false_and];rfl
theorem admitted_none {m:Sre.M} (hm:m.code = rcode):∀ (fuel s:Nat) (seen:Sre.Seen),(∀ i,s≤i→i < m.lim→sig (m.text.getD i 0) = false)→∃ seen',Sre.M.admitted m fuel s seen = .ok (none,seen')
  | 0,s,seen,_=>⟨seen,rfl⟩
  | fuel + 1,s,seen,h=>by
    unfold Sre.M.admitted
    by_cases hs:s ≥ m.lim
    · rw [if_pos hs];exact ⟨seen,rfl⟩
    · rw [if_neg hs,hm]
      have e:=inSet_r (m.text.getD s 0) seen
      have e2:rcode.size = 32:=rfl
      rw [e2,e,h s (Nat.le_refl _) (by lia)]
      exact admitted_none hm fuel (s + 1) _ fun i h1 h2=>h i (by lia) h2
noncomputable def Dead (m:Sre.M):Prop:=m.outcome = none∧m.answer = some false∧m.frames = []
theorem attempt_none {m:Sre.M} {s:Nat} {first:Bool} (hm:m.code = rcode) (ho:m.outcome = none) (hf:m.frames = []) (h:∀ i,s≤i→i < m.lim→sig (m.text.getD i 0) = false):Dead (m.attemptFrom s first):=by
  have hq:m.hasFirstSet = true:=by unfold Sre.M.hasFirstSet;rw [hm];rfl
  obtain ⟨seen',h2⟩:=admitted_none hm (m.lim + 1 - s) s m.seen h
  unfold Sre.M.attemptFrom
  rw [hq,h2]
  exact ⟨ho,rfl,hf⟩
theorem search_none {text:Array Nat} {pos lim:Nat} {must:Bool} (h:∀ i,pos≤i→i < lim→sig (text.getD i 0) = false):Dead (Sre.forSearch rcode text 1 pos lim must):=by
  unfold Sre.forSearch
  by_cases c:(decide (pos > lim) || decide (lim - pos < (Sre.header rcode).1)) = true
  · simp only [c,if_true];exact ⟨rfl,rfl,rfl⟩
  · show Dead (if _ then _ else _)
    rw [if_neg c]
    exact attempt_none rfl rfl rfl h
theorem run_failed {m:Sre.M} (h1:m.outcome = none) (h2:m.answer = some false) (h3:m.frames = []):∃ m',m.runFor 4 = m'∧m'.outcome = some .failed:=by
  refine ⟨_,rfl,?_⟩
  have hs:m.step = { m with outcome:=some .failed }:=by
    unfold Sre.M.step
    rw [h1,h2,h3];rfl
  unfold Sre.M.runFor
  rw [h1]
  simp only [Option.isSome_none,Bool.false_eq_true,if_false]
  rw [hs]
  unfold Sre.M.runFor
  rfl
end
section
open PySem PySem.W PySem.Calls PyProof.Rows
variable {S:Sig} {k:Nat} {f:Fi} {Γ:Ctxt} {A:Around} {E:Value→Shared→Prop} {s:Shared}
theorem wp_drive {m:Sre.M} {Q:Sre.M→Shared→Prop} (h:Dead m) (hQ:∀ m':Sre.M,m'.outcome = some .failed→Q m' s):wpAny S.M A (Builtin.Re.reDrive (2 ^ 64) m) Q E s:=by
  refine e1_2 (run_failed h.1 h.2.1 h.2.2) (fun m' h1 h2=>?_)
  have e:(2:Nat) ^ 64 = (2 ^ 64 - 1) + 1:=by decide
  rw [e]
  show wpAny S.M A (if (m.runFor 4).outcome.isSome then pure (m.runFor 4) else _) Q E s
  rw [h1,h2]
  exact wpAny_pure (hQ m' h2)
theorem wp_rerun {m:Sre.M} {Q:Option Sre.M→Shared→Prop} (h:Dead m) (hQ:Q none s):wpAny S.M A (Builtin.Re.reRunToEnd m) Q E s:=by
  unfold Builtin.Re.reRunToEnd
  refine wpAny_bind (wp_drive h fun m' h'=>?_)
  refine wpAny_bind (wpAny_forIn_list _ (fun _ _ s'=>s' = s) _ ?_ ?_ _ _ rfl)
  · rintro x rest b s' rfl
    by_cases c:m'.seen.has x = true
    · simp only [c,if_true]
      exact wpAny_bind (wpAny_rule (wpAny_pure rfl))
    · simp only [c,if_false]
      exact wpAny_pure rfl
  · rintro b s' rfl
    rw [h']
    exact wpAny_pure hQ
end
section
open PySem PySem.W PySem.Calls PyProof.Rows
variable {S:Sig} {k:Nat} {f:Fi} {Γ:Ctxt} {A:Around} {E:Value→Shared→Prop} {s:Shared}
noncomputable def rvals:Array Value:=#[.int 14 0,.int 14 0,.int 4 0,.int 1 0,.int 1 0,.int 9 0,.int 0 0,.int 64 0,.int 0 0,.int 1342177280 0,.int 0 0,.int 0 0,.int 0 0,.int 0 0,.int 0 0,.int 17 0,.int 0 0,.int 13 0,.int 11 0,.int 9 0,.int 0 0,.int 64 0,.int 0 0,.int 1342177280 0,.int 0 0,.int 0 0,.int 0 0,.int 0 0,.int 0 0,.int 17 0,.int 1 0,.int 1 0]
structure RePat (h:Heap) (a b:Addr):Prop where
  pat:∃ o p0 t,h.get? a = some o∧o.data = .fields #[p0,.int 32 t,.int 1 0,.none,.none,.ref b,.int 0 0]
  code:∃ o n,h.get? b = some o∧o.data = .seq rvals n
theorem wp_whole {a b:Addr} {cs:List Nat} {t:Tok} {Q:Builtin.Re.ReTarget→Shared→Prop} (hp:RePat s.heap a b)
    (hQ:Q { pattern:=.ref a,string:=.str ⟨cs.toArray⟩ t,code:=rcode,text:=cs.toArray,kind:=0,groups:=1,pos:=0,lim:=cs.toArray.size } s) :
    wpAny S.M A (Builtin.Re.reWholeTarget (.ref a) (.str ⟨cs.toArray⟩ t)) Q E s:=by
  refine e3_2 (hp.pat) (fun o p0 t0 h1 h2=>?_)
  refine e2_2 (hp.code) (fun o' n h3 h4=>?_)
  unfold Builtin.Re.reWholeTarget
  refine wpAny_bind (wpAny_fieldsOf h1 h2 ?_)
  have e:Builtin.Re.reTextOf (.str ⟨cs.toArray⟩ t) = pure (cs.toArray,0):=rfl
  rw [e]
  refine wpAny_bind (wpAny_pure ?_)
  show wpAny S.M A (do let x ← Builtin.Re.reRawItems (.ref b);pure (Builtin.Re.ReTarget.mk (.ref a) (.str ⟨cs.toArray⟩ t) (x.map (·.toNat)) cs.toArray 0 1 0 cs.toArray.size)) Q E s
  refine wpAny_bind ?_
  unfold Builtin.Re.reRawItems
  refine wpAny_bind (wpAny_seqItems h3 h4 (wpAny_pure (wpAny_pure ?_)))
  have ec:Array.map (fun x:Int=>x.toNat) (Array.map Builtin.Re.reRawOf ((some rvals).getD #[])) = rcode:=by
    apply Array.ext'
    simp only [Array.toList_map,Option.getD_some]
    rfl
  rw [ec]
  exact hQ
end
section
open PySem PySem.W PySem.Calls PyProof.Rows
variable {S:Sig} {k:Nat} {f:Fi} {Γ:Ctxt} {A:Around} {E:Value→Shared→Prop} {s:Shared}
theorem wp_subloop {a b l:Addr} {cs:List Nat} {t:Tok} {repl:Value} {o:Obj} {n:Nat} {Q:PySem.Fin→Shared→Prop} (hp:RePat s.heap a b) (hl:s.heap.get? l = some o) (hcl:o.cls = .type "list") (hd:o.data = .seq #[] n) (hno:∀ c ∈ cs,sig c = false) (hz:cs.length≤sizeLine)
    (hQ:∀ h' t' u,Heap.SameBut l s.heap h'→s.toks≤t'→u < t'→Q (.done (.ret (.str ⟨cs.toArray⟩ u))) { s with heap:=h',toks:=t' }) :
    wpAny S.M A (Builtin.«re.Pattern.sub.loop» ⟨[.ref a,.str ⟨cs.toArray⟩ t,repl,rawInt 1,rawInt 0,rawInt 0,rawInt 0,rawInt 0,.bool false,.ref l,.bool false],[]⟩) Q E s:=by
  obtain ⟨oc,od,oda,osl⟩:=o
  simp only at hcl hd
  subst hcl hd
  have hd:(⟨.type "list",od,.seq #[] n,osl⟩:Obj).data = .seq #[] n:=rfl
  unfold Builtin.«re.Pattern.sub.loop»
  have hs:Dead (Sre.forSearch rcode cs.toArray 1 0 cs.toArray.size false):=search_none fun i _ hi=>by
    have hi':i < cs.length:=by simpa using hi
    have:cs.toArray.getD i 0 = cs[i]:=by simp [Array.getD,hi']
    rw [this];exact hno _ (List.getElem_mem hi')
  refine wpAny_bind (wp_whole hp (wp_ifF (by decide) (wpAny_bind (wp_ifF (by decide) (wp_rerun hs ?_)))))
  by_cases h0:cs = []
  · subst h0
    refine wp_ifF (Nat.lt_irrefl 0) (wpAny_bind (show wpAny S.M A (mkStr ⟨(#[]:Array Nat).extract 0 0⟩) _ _ _ from wpAny_mkStr (wpAny_bind (wpAny_seqItems hl hd (wp_ifT (by rfl) (wpAny_bind (wpAny_pure (wpAny_pure ?_)))))) (by simp [Str.length])))
    exact hQ s.heap (s.toks + 1) s.toks (Heap.SameBut.refl _ _) (Nat.le_succ _) (Nat.lt_succ_self _)
  · have hlen:0 < cs.length:=List.length_pos_iff.mpr h0
    have hx:(cs.toArray.extract 0 cs.length) = cs.toArray:=by simp
    refine wp_ifT (by simpa using hlen) (wpAny_bind (show wpAny S.M A (mkStr ⟨cs.toArray.extract 0 cs.length⟩) _ _ _ from ?_))
    rw [hx]
    refine wpAny_mkStr (wpAny_bind (wpAny_updateSeq hl hd ?_ (by simp) (by simp))) (by simpa [Str.length] using hz)
    have hl2:=Heap.get?_update_self (Obj.mapSeq fun x=>x.push (.str ⟨cs.toArray⟩ s.toks)) hl rfl
    refine wpAny_bind (show wpAny S.M A (mkStr ⟨cs.toArray.extract 0 0⟩) _ _ _ from wpAny_mkStr (wpAny_bind (wpAny_seqItems hl2 rfl (wp_ifF (by intro h;cases h) (wpAny_bind ?_)))) (by simp [Str.length]))
    refine show wpAny S.M A (call (.builtin "str.join") [.str ⟨cs.toArray.extract 0 0⟩ _,.ref l]) _ _ _ from ?_
    refine call_meets PySem.F.slot_str_join (typeIs_str _ _ _) PySem.F.entry_str_join (PySem.F.args_str_join_2 _ _) (meets_str_join_list _ _ l [(⟨cs.toArray⟩,s.toks)] ?_) ⟨⟨_,hl2,rfl,_,rfl⟩,wpAny_pure ?_⟩
    · simp [Builtin.Str.tooLong,Str.length];lia
    · exact hQ _ (s.toks + 2) s.toks (Heap.SameBut.update ..) (Nat.le_add_right _ 2) (Nat.lt_add_of_pos_right (by decide))
end
section
open PySem PySem.W PySem.Calls PyProof.Rows
theorem plainAttrs_pat:PlainAttrs "re.Pattern" :=
  ⟨⟨"object.__getattribute__",by rw [typeLookup_type,builtinLookup_eq_fast];kernel_rfl,by decide +kernel⟩,by rw [typeLookup_type,builtinLookup_eq_fast];kernel_rfl⟩
theorem slot_pat_sub:Slot "re.Pattern" "sub" "re.Pattern.sub" :=
  .of (owner:="re.Pattern") (n:="sub") (by rw [typeLookup_type,builtinLookup_eq_fast];kernel_rfl) (by decide +kernel) (by decide +kernel) (by decide +kernel)
    (by first | exact .inl (by decide +kernel) | exact .inr (by decide +kernel)) (by rw [isSubtype_type];kernel_rfl)
theorem type_pat_sub:typeOf (.builtin "re.Pattern.sub") = pure (.type "method_descriptor"):=by show builtinType _ = _;rw [builtinType_eq_fast];kernel_rfl
theorem entry_pat_sub:entryFor table "re.Pattern.sub" = some Builtin.«re.Pattern.sub»:=entryFor_of_tree (by kernel_rfl)
theorem entry_pat_loop:entryFor table "re.Pattern.sub.loop" = some Builtin.«re.Pattern.sub.loop»:=entryFor_of_tree (by kernel_rfl)
theorem owner_pat:Manifest.owners.lookup (String.ofList ['n','r','e','t','t','a','P','.','e','r'].reverse) = some Manifest.sig_re_Pattern:=by kernel_rfl
theorem args_pat_sub (a b c:Value):argsOk "re.Pattern.sub" ⟨[a,b,c],[]⟩:=by
  unfold argsOk;rw [signature?_of (id:="re.Pattern.sub") (n:=['b','u','s']) (o:=['n','r','e','t','t','a','P','.','e','r']) (by kernel_rfl) owner_pat];kernel_rfl
theorem look_fn_call:∃ v,typeLookup (.type "function") "__call__" = pure (some v):=⟨.builtin "function.__call__",by rw [typeLookup_type,builtinLookup_eq_fast];kernel_rfl⟩
theorem pat_loop_plain:plainId "re.Pattern.sub.loop" = true:=by decide +kernel
theorem codeAmong_app {pos pos':Pos} {c:Value}:∀ (l:List Value) (_:TriplesOk l),∀ cv,codeAmong pos' (l ++ [rawInt pos.line,rawInt pos.col,c]) = some cv→codeAmong pos' l = some cv ∨ (pos'.line = pos.line∧pos'.col = pos.col∧cv = c):=by
  intro l h
  fun_induction TriplesOk l with
  | case1 =>
    intro cv e
    simp only [List.nil_append,codeAmong,rawInt] at e
    split at e
    · rename_i q
      cases e
      simp at q
      exact .inr ⟨by lia,by lia,rfl⟩
    · cases e
  | case2 a t b u x rest ih =>
    intro cv e
    simp only [List.cons_append,codeAmong] at e ⊢
    split at e
    · rename_i hc;rw [if_pos hc];exact .inl e
    · rename_i hc;rw [if_neg hc];exact ih h cv e
  | case3 l h1 h2=>exact h.elim
theorem Tr.growT {S:Sig} {g:Heap} {s s':Shared} {c P:Addr} {ps:Array Value} {line col:Int} {cv:Value} (k:Keep g s.heap) (B:Base S g) (T:Tabs S g s) (hq:(c,P) ∈ S.tabs) (hP:s.heap.get? P = some (tabObj ps)) {lpos:Pos}
    (old:∀ b o,b ≠ P→s.heap.get? b = some o→s'.heap.get? b = some o) (hP':s'.heap.get? P = some (tabObj (ps ++ #[rawInt lpos.line,rawInt lpos.col,cv])))
    (hrec:∀ p':Pos,p'.line = lpos.line→p'.col = lpos.col→s'.heap.CodeRec cv (S.qualAt p')) (hnew:∀ a,cv = .ref a→s.heap.objs.size≤a)
    (hz:s.heap.objs.size≤s'.heap.objs.size) (hos:s'.os = s.os) (hg:s'.gens = s.gens) (ht:s.toks≤s'.toks) :
    ∃ g',Tr S (Nw s) g s g' s'∧(∀ b o,s'.heap.get? b = some o→s.heap.objs.size≤b→g'.get? b = some o):=by
  have nP:∀ {b o},g.get? b = some o→b ≠ P:=fun {b o} e q=>by rw [q,(B.heads _ hq).2] at e;cases e
  refine e1_4 (world_of s.heap.objs.size (fun _=>True) fun b o e=>old b o (nP e) (k b o e)) fun g' mono keep fr' inN=>?_
  have fr:∀ a o,g'.get? a = some o→g.get? a = some o ∨ s.heap.objs.size≤a:=fun a o e=>(fr' a o e).imp id And.left
  refine ⟨g',?_,fun b o e l=>inN b o e l trivial⟩
  exact {
    mono:=mono
    keep:=keep
    same:=fun a o h nT e=>⟨o,old a o (fun q=>nT (q ▸ List.mem_map_of_mem (f:=(·.2)) hq)) e,.refl o⟩
    fresh:=fun a o e=>fr a o e
    size:=hz
    tabs:=fun q hq' ps' e=>by
      by_cases hb:q.2 = P
      · rw [hb,hP] at e;cases e
        exact ⟨_,by rw [hb];exact hP'⟩
      · exact ⟨#[],by rw [old _ _ hb e,Array.append_empty]⟩
    base:=B.mono mono (T.noneT B fr)
    now:=⟨Nat.lt_of_lt_of_le T.pos ht,fun q hq'=>by
      refine e1_3 (T.all q hq') (fun ps' e1 e2 e3=>?_)
      by_cases hb:q.2 = P
      · rw [hb,hP] at e1;cases e1
        have hl:(ps ++ #[rawInt lpos.line,rawInt lpos.col,cv]).toList = ps.toList ++ [rawInt lpos.line,rawInt lpos.col,cv]:=by simp
        refine ⟨_,by rw [hb];exact hP',by rw [hl];exact TriplesOk_snoc _ _ _ _ e2,fun p' cv' e=>?_⟩
        rw [hl] at e
        rcases codeAmong_app _ e2 _ e with h | ⟨h1,h2,rfl⟩
        · exact (e3 p' cv' h).keeps mono
        · exact e4_3 (hrec p' h1 h2) fun c' oc vs t e1 e2 r=>⟨c',oc,vs,t,e1,inN _ _ e2 (hnew c' e1) trivial,r⟩
      · exact ⟨ps',old _ _ hb e1,e2,fun p' cv' e=>(e3 p' cv' e).keeps mono⟩⟩
    os:=hos
    bare:=fun h=>by rw [hg];exact h
    gens:=by rw [hg];exact Nat.le_refl _
    toks:=ht }
noncomputable abbrev lamO (name qual:Str) (params:Arguments) (body:Expr) (scope:Scope) (pm cv ctv:Value):Obj:={ cls:=.type "function",data:=.func (kla_fn name qual params body scope [] pm cv ctv) }
section
variable {S:Sig} {k:Nat} {f:Fi} {Γ:Ctxt} {pos lpos:Pos}
theorem wp_lambda {params:Arguments} {body:Expr} {scope:Scope} {c P:Addr} (hc:f.code = .ref c) (hq:(c,P) ∈ S.tabs) (hqual:∀ p':Pos,p'.line = lpos.line→p'.col = lpos.col→S.qualAt p' = f.qual ++ "<lambda>")
    (hdef:∀ env,defaultsOf params env = ([],[]):=by intro _;rfl) (hcl:∀ env,closureFor scope env = pure []:=by intro _;rfl)
    {A:Around} {g:Heap} {W:Addr→Prop} {env:Env} {s:Shared} {Q:Value→Shared→Prop} {E:Value→Shared→Prop} (R:Room S k A) (st:St S f Γ g W env s)
    (h:∀ fa cv ctv pm g' s',Tr S (Nw s) g s g' s'→g'.get? fa = some (lamO "<lambda>" (f.qual ++ "<lambda>") params body scope pm cv ctv)→g'.CodeRec cv (f.qual ++ "<lambda>")→Q (.ref fa) s') :
    wpAny S.M A (eval (.Lambda params body scope lpos) env) Q E s:=by
  have T:=st.tabs
  have K:=st.keep
  have B:=st.base
  refine e2_6 (B.bmain) (fun bm ob hbm1 hbm2 hbm3 hbm4 hbm5 hbm6=>?_)
  refine e0_2 (B.heads _ hq) (fun CH gP=>?_)
  refine e1_3 (T.all _ hq) (fun ps hP hok hrec=>?_)
  simp only at hP gP CH
  have hqu:env.qual = f.qual:=st.envIs.qual
  have hbG:bm ≠ mainGlobals:=fun q=>by
    refine e3_3 (B.glob) (fun o es ep e hd _=>?_)
    rw [q,e] at hbm3;cases hbm3;rw [hd] at hbm6;cases hbm6
  have hbP:bm ≠ P:=fun q=>by rw [q,gP] at hbm3;cases hbm3
  have hgP:mainGlobals ≠ P:=fun q=>by
    refine e3_3 (B.glob) (fun o es ep e hd _=>?_)
    rw [q,gP] at e;cases e
  have BA:s.heap.BuiltinsAt S.mg P:=⟨bm,ob,hbm1,hbm2,hbG,hbP,K _ _ hbm3,hbm4,hbm5,hbm6⟩
  refine kla_eval (hdef env) ?_
  rw [hqu]
  refine wpAny_grown ?_
  cases hf:codeAmong lpos ps.toList with
  | some cv =>
    refine kla_makeFunctionHit (mg:=S.mg) (hcl env) st.envIs.globals (B.glob.keeps K) (st.envIs.code.trans hc) (CH.keeps K) hP hok hf BA fun ctv h' tk hk hsz G=>?_
    obtain ⟨g',t,hn,_⟩:=Tr.grow (s':={ s with heap:=h'.push (lamO "<lambda>" (f.qual ++ "<lambda>") params body scope ((S.mg "__name__").getD .none) cv ctv),toks:=tk }) (fun _=>True) K B T (fun b o e=>Heap.get?_push_of_some _ (hk b o e)) (by simp;lia) rfl rfl G.toks
    have hr:=hrec lpos cv hf
    rw [hqual lpos rfl rfl] at hr
    exact h _ cv ctv _ g' _ t (hn _ _ (Heap.get?_push_size _ rfl) hsz trivial) (hr.keeps t.mono)
  | none =>
    refine kla_makeFunction (mg:=S.mg) (hcl env) st.envIs.globals (B.glob.keeps K) (st.envIs.code.trans hc) (CH.keeps K) hP hok hf hgP BA fun c' ctv h' tk hx hge hlt hr htb G=>?_
    obtain ⟨g',t,hn⟩:=Tr.growT (s':={ s with heap:=h'.push (lamO "<lambda>" (f.qual ++ "<lambda>") params body scope ((S.mg "__name__").getD .none) (.ref c') ctv),toks:=tk }) (lpos:=lpos) (cv:=.ref c') (line:=0) (col:=0) K B T hq hP
      (fun b o hb e=>Heap.get?_push_of_some _ (hx b o hb e)) (Heap.get?_push_of_some _ htb) (fun p' h1 h2=>by rw [hqual p' h1 h2];exact hr.keeps fun b o e=>Heap.get?_push_of_some _ e) (fun a e=>by cases e;exact hge) (by simp;lia) rfl rfl G.toks
    refine e4_4 (hr) (fun c2 oc vs tt e1 e2 e3 e4=>?_)
    cases e1
    exact h _ (.ref c') ctv _ g' _ t (hn _ _ (Heap.get?_push_size _ rfl) (by lia)) ⟨c',oc,vs,tt,rfl,hn _ _ (Heap.get?_push_of_some _ e2) hge,e3,e4⟩
end
end
section
open PySem PySem.W PySem.Calls PyProof.Rows
theorem reNamed2 (r s:Value):Builtin.Re.reNamed "re.Pattern.sub" "sub" ["repl","string","count"] 2 [r,s] [] = pure [some r,some s,none]:=rfl
section
variable {S:Sig} {k:Nat} {f:Fi} {Γ:Ctxt} {A:Around} {E:Value→Shared→Prop} {s:Shared}
theorem wp_notHeld {x:Str} {t:Tok} {id:String} {Q:Unit→Shared→Prop} (h:Q () s):wpAny S.M A (Builtin.Re.reNotHeld id (.str x t)) Q E s:=by
  unfold Builtin.Re.reNotHeld
  refine wpAny_bind (wpAny_isInstance (U:="bytearray") (b:=false) (typeIs_str _ _ _) (by rw [isSubtype_type];kernel_rfl) ?_)
  exact wpAny_pure h
theorem wp_patsub {a b fa:Addr} {cs:List Nat} {t:Tok} {fd:FuncData} {op:Obj} {Q:Value→Shared→Prop} (hp:RePat s.heap a b) (ha:s.heap.get? a = some op) (hcls:op.cls = .type "re.Pattern") (hf:s.heap.get? fa = some { cls:=.type "function",data:=.func fd }) (hno:∀ c ∈ cs,sig c = false) (hz:cs.length≤sizeLine)
    (hQ:∀ h' t' u,(∀ b o,s.heap.get? b = some o→h'.get? b = some o)→s.heap.objs.size≤h'.objs.size→s.toks≤t'→u < t'→Q (.str ⟨cs.toArray⟩ u) { s with heap:=h',toks:=t' }) :
    wpAny S.M A (call (.builtin "re.Pattern.sub") [.ref a,.ref fa,.str ⟨cs.toArray⟩ t]) Q E s:=by
  refine wpAny_call (codeAny_call_builtin slot_pat_sub.plain entry_pat_sub (slot_pat_sub.check _ _ _ _ _ _ _ _ ⟨op,ha,hcls⟩ (args_pat_sub _ _ _) ?_))
  unfold Builtin.«re.Pattern.sub» Builtin.Re.reSubstitute
  have hT:s.TypeIs (.ref fa) "function":=⟨_,hf,rfl⟩
  refine e1_1 look_fn_call fun cv hcv=>?_
  refine wpAny_bind (wpAny_of_eq (reNamed2 _ _) (wpAny_bind (wpAny_pure (wpAny_bind (show wpAny S.M A.in1 (do typeLookup (← typeOf (.ref fa)) "__call__") _ _ s from wpAny_bind (wpAny_typeOf hT (wpAny_of_eq hcv ?_)))))))
  refine wpAny_bind (wpAny_pure (wpAny_bind (wpAny_pure (wpAny_bind (wpAny_holding (wp_whole hp ?_))))))
  refine wp_ifT ?_ (wpAny_bind (wp_notHeld (wpAny_bind (wpAny_newList (items:=[]) ?_))))
  · rfl
  refine wpAny_pure ⟨plainId_quiet pat_loop_plain _,codeAny_builtin entry_pat_loop ?_⟩
  rw [Around.under_plainId pat_loop_plain]
  have hp':RePat (s.heap.push { cls:=.type "list",data:=.seq [].toArray }) a b:=by
    exact ⟨e3_2 hp.1 fun o p0 t0 h1 h2=>⟨o,p0,t0,Heap.get?_push_of_some _ h1,h2⟩,e2_2 hp.2 fun o' n h3 h4=>⟨o',n,Heap.get?_push_of_some _ h3,h4⟩⟩
  refine wp_subloop (s:={ s with heap:=s.heap.push { cls:=.type "list",data:=.seq [].toArray } }) hp' (Heap.get?_push_size _ rfl) rfl rfl hno hz fun h' t' u hs ht hu=>?_
  refine hQ h' t' u (fun b' o e=>(hs.2 b' (Nat.ne_of_lt (Heap.lt_size e))).trans (Heap.get?_push_of_some _ e)) ?_ ht hu
  have:=hs.1
  simp only [Heap.size_push] at this
  lia
structure PatAt (S:Sig) (a b:Addr):Prop where
  pat:∃ o p0 t,S.K.lookup a = some o∧o.cls = .type "re.Pattern"∧o.dict = none∧o.data = .fields #[p0,.int 32 t,.int 1 0,.none,.none,.ref b,.int 0 0]
  code:∃ o n,S.K.lookup b = some o∧o.data = .seq rvals n
theorem EV.subLam {x:Str} {a b c P:Addr} {cs:List Nat} {params:Arguments} {body:Expr} {scope:Scope} {arg:Expr} {p0 apos lpos pos:Pos} (hx:Raw S f x (.ref a)) (hp:PatAt S a b) (hc:f.code = .ref c) (hq:(c,P) ∈ S.tabs)
    (hqual:∀ p':Pos,p'.line = lpos.line→p'.col = lpos.col→S.qualAt p' = f.qual ++ "<lambda>") (h1:EV S k f Γ arg (.str cs)) (hno:∀ c ∈ cs,sig c = false) (hz:cs.length≤sizeLine)
    (hdef:∀ env,defaultsOf params env = ([],[]):=by intro _;rfl) (hcl:∀ env,closureFor scope env = pure []:=by intro _;rfl)
    (hbase:∀ env,attributeBase (.Name x p0) "sub" env (eval (.Name x p0) env) = eval (.Name x p0) env:=by intro _;rfl)
    (hline:(apos.endLine == pos.line) = true:=by rfl)
    (htr:∀ env,backTo pos (starEach [.Lambda params body scope lpos,arg] env) = [(false,eval (.Lambda params body scope lpos) env),(false,eval arg env)]:=by intro _;rfl) :
    EV S k f Γ (.Call (.Attribute (.Name x p0) "sub" apos) [.Lambda params body scope lpos,arg] [] pos) (.str cs):=by
  intro A g W env s Q E R st hQ
  refine wpAny_Call_method (T:="re.Pattern") (id:="re.Pattern.sub") (hbase env) (by rw [htr];rfl) hline plainAttrs_pat slot_pat_sub type_pat_sub ?_
  refine hx k Γ p0 A g W env s _ E R st fun ov g1 s1 t1 r1=>?_
  cases r1 using Rd.casesRaw
  obtain ⟨⟨o,q0,t0,hl,hcls,hdict,hdata⟩,⟨o',n',hl',hd'⟩⟩:=hp
  have K1:=t1.base.kin.keeps t1.keep
  refine ⟨⟨o,K1 _ _ hl,hcls⟩,fun a' q=>by cases q;exact ⟨o,K1 _ _ hl,hdict⟩,?_⟩
  rw [htr]
  refine callWith_of (P:=fun h=>S.K.In h) (by rfl) (Callee.builtin (S:=S)) ?_
  refine evalArgs_any (by rfl) ?_
  refine spliced_cons (wp_lambda hc hq hqual hdef hcl R (st.move t1) fun fa cv ctv pm g2 s2 t2 hfa _=>?_)
  refine spliced_cons (h1 A g2 W env s2 _ E R ((st.move t1).move t2) fun v3 g3 s3 t3 r3=>spliced_nil ?_)
  have K3:=t3.base.kin.keeps t3.keep
  refine ⟨K3,?_⟩
  cases r3 using Rd.casesStr with
  | str tk hs =>
    refine wpAny_grown (wp_patsub (op:=o) ⟨⟨o,q0,t0,K3 _ _ hl,hdata⟩,⟨o',n',K3 _ _ hl',hd'⟩⟩ (K3 _ _ hl) hcls (t3.keep _ _ (t3.mono _ _ hfa)) hno hz fun h' t' u hk hsz ht hu G=>?_)
    obtain ⟨g4,t4,_⟩:=Tr.grow (s':={ s3 with heap:=h',toks:=t' }) (fun _=>False) t3.keep t3.base t3.now hk hsz rfl rfl ht
    exact hQ _ g4 _ (((t1.then t2).then t3).then t4) (.str _ u hz)
end
end
section
open PySem PySem.W PySem.Calls PyProof.Rows
section
variable {S:Sig} {k:Nat} {f:Fi} {Γ:Ctxt} {res:Res} {sts:List Stmt} {pos p' npos:Pos} {x:Str} {i:Nat} {es:List Expr} {ds:List D} {e:Expr}
noncomputable def places (lo hi:Option Int) (st:Int) (n:Nat):List Nat:=sliceRange (sliceBounds lo hi (some st) n).1 (sliceBounds lo hi (some st) n).2.1 (sliceBounds lo hi (some st) n).2.2
noncomputable def pickBy {α:Type} (idxs:List Nat) (xs:List α):List α:=idxs.filterMap (xs[·]?)
theorem Rds.pickBy {g:Heap} {vs:List Value} {ds:List D} (h:Rds g vs ds):∀ idxs:List Nat,Rds g (Mine.pickBy idxs vs) (Mine.pickBy idxs ds)
  | []=>.nil
  | j :: js=>by
    have ih:=h.pickBy js
    unfold Mine.pickBy at ih ⊢
    rw [List.filterMap_cons,List.filterMap_cons]
    cases hd:ds[j]? with
    | none =>
      have:vs[j]? = none:=by
        rw [List.getElem?_eq_none_iff] at hd ⊢
        rw [h.length];exact hd
      rw [this];exact ih
    | some d =>
      refine e1_2 (h.get j hd) (fun v hv hr=>?_)
      rw [hv];exact .cons hr ih
end
end
section
open PySem PySem.W PySem.Calls PyProof.Rows
section
variable {S:Sig} {k:Nat} {f:Fi} {Γ:Ctxt} {res:Res} {sts body:List Stmt} {pos:Pos} {d:D} {tg iter:Expr}
end
end
section
open PySem PySem.W PySem.Calls PyProof.Rows
section
variable {S:Sig} {k:Nat} {f:Fi} {Γ Γ₁ Γ₂:Ctxt} {res:Res} {sts:List Stmt}
inductive Le:Ctxt→Ctxt→Prop where
  | nil {Γ:Ctxt}:Le [] Γ
  | none {o:Option B} {Γ Δ:Ctxt}:Le Γ Δ→Le (.none :: Γ) (o :: Δ)
  | same {o:Option B} {Γ Δ:Ctxt}:Le Γ Δ→Le (o :: Γ) (o :: Δ)
  | cell {od:Option D} {Γ Δ:Ctxt}:Le Γ Δ→Le (some (.cell .none) :: Γ) (some (.cell od) :: Δ)
theorem Le.get {Γ Δ:Ctxt} (h:Le Γ Δ):∀ (i:Nat) (b:B),Γ[i]? = some (some b)→Δ[i]? = some (some b) ∨ (b = .cell .none∧∃ od,Δ[i]? = some (some (.cell od))):=by
  induction h with
  | nil=>intro i b e;simp at e
  | none h ih =>
    intro i b e
    cases i with
    | zero=>simp at e
    | succ i=>exact ih i b (by simpa using e)
  | same h ih =>
    intro i b e
    cases i with
    | zero=>exact .inl e
    | succ i=>exact ih i b (by simpa using e)
  | cell h ih =>
    intro i b e
    cases i with
    | zero=>simp at e;subst e;exact .inr ⟨rfl,_,rfl⟩
    | succ i=>exact ih i b (by simpa using e)
theorem St.le {g:Heap} {W:Addr→Prop} {env:Env} {s:Shared} (h:Le Γ₂ Γ₁) (st:St S f Γ₁ g W env s):St S f Γ₂ g W env s:=by
  refine ⟨st.keep,st.base,st.tabs,st.envIs,st.wide,st.clt,?_⟩
  refine e2_5 (st.vars) (fun m ad h1 h2 h3 h4 h5=>?_)
  refine ⟨m,ad,h1,h2,h3,fun i x b e e'=>?_,fun i j xs ys e1 e2=>?_⟩
  · rcases h.get i b e' with q | ⟨rfl,od,q⟩
    · exact h4 i x b e q
    · exact (h4 i x _ e q).cellC fun h1 c ov h2 h3 h4 h5 h6 h7=>⟨h1,c,ov,h2,h3,h4,h5,h6,nofun⟩
  · rcases h.get i _ e1 with q1 | ⟨q,_⟩
    · rcases h.get j _ e2 with q2 | ⟨q,_⟩
      · exact h5 i j xs ys q1 q2
      · cases q
    · cases q
end
end
section
open PySem PySem.W PySem.Calls PyProof.Rows
noncomputable def EXsF (S:Sig) (k:Nat) (f:Fi) (Γ:Ctxt) (sts:List Stmt) (r:Res):Prop :=
  ∀ (A:Around) (g:Heap) (W:Addr→Prop) (env:Env) (s:Shared) (Q:Flow→Shared→Prop) (E:Value→Shared→Prop),Room S k A→A.frames = some [env]→env.frame = some env.locals→S.z≤env.locals→St S f Γ g W env s →
    (∀ fl g' s',Tr S W g s g' s'→Post S f r g' W env fl s'→Q fl s')→wpAny S.M A (execs sts env) Q E s
theorem execs_app (more:List Stmt) (env:Env):∀ sts:List Stmt,execs (sts ++ more) env = (do
    match ← execs sts env with
    | .next=>execs more env
    | f=>pure f)
  | []=>by rw [List.nil_append,arm_execs_nil,pure_bind]
  | a :: sts=>by
    rw [List.cons_append,arm_execs_cons,arm_execs_cons,bind_assoc]
    refine congrArg _ (funext fun f=>?_)
    cases f with
    | next=>exact execs_app more env sts
    | _=>exact (pure_bind _ _).symm
theorem EXsF.app {S:Sig} {k:Nat} {f:Fi} {Γ Γ₁:Ctxt} {r:Res} {sts more:List Stmt} (h1:EXs S k f Γ sts (.next Γ₁)) (h2:EXsF S k f Γ₁ more r):EXsF S k f Γ (sts ++ more) r:=by
  intro A g W env s Q E R h3 h4 h5 st hQ
  rw [execs_app]
  refine wpAny_bind (h1 A g W env s _ E R st fun fl g1 s1 t1 p1=>?_)
  (refine e0_2 (p1) (fun q1q st1=>?_);subst q1q)
  exact h2 A g1 W env s1 Q E R h3 h4 h5 st1 fun fl g2 s2 t2 p2=>hQ fl g2 s2 (t1.trans t2 fun _ q=>q) p2
noncomputable def Tabs0 (S:Sig) (g:Heap) (s:Shared):Prop:=∀ q ∈ S.tabs,∃ ps,s.heap.get? q.2 = some (tabObj ps)∧TriplesOk ps.toList∧∀ pos cv,codeAmong pos ps.toList = some cv→g.CodeRec cv (S.qualAt pos)
noncomputable abbrev tick (s:Shared):Shared:={ s with toks:=s.toks + 1 }
noncomputable def Ops0 (S:Sig) (k:Nat) (t:Value→Sem Value) (d₁ d:D):Prop :=
  ∀ (A:Around) (g:Heap) (s:Shared) (v:Value) (Q:Value→Shared→Prop) (E:Value→Shared→Prop),Room S k A→A.frames = some []→S.z≤s.heap.objs.size→Keep g s.heap→Base S g→Tabs0 S g s→Rd g v d₁ →
    (∀ v g' s',Tr S (Nw s) g (tick s) g' s'→Rd g' v d→Q v s')→wpAny S.M A (t v) Q E s
theorem newEnv1 {M:Model} {A:Around} {E:Value→Shared→Prop} {s:Shared} {scope:Scope} {globals:Addr} {x:Str} {v:Value} {qual:Str} {func:Option Addr} {code:Value} {builtins:Addr} {Q:Env→Shared→Prop}
    (hk:scope.kind = .function) (hl:scope.names.lookup x = some .local)
    (hQ:∀ env,env = newEnv scope s.heap.objs.size globals (cellsFrom (s.heap.objs.size + 1) scope.names []) qual func code none builtins →
      ∀ s',InCallC s env.locals (bindL env.kindOf [(x,v)] fun _=>none) env.cells (bindC env.kindOf [(x,v)] fun _=>none) s'→s.toks + 1≤s'.toks→Q env s') :
    wpAny M A (newFunctionEnv scope globals [] [(x,v)] qual func code none builtins) Q E s:=by
  unfold newFunctionEnv
  refine wpAny_bind (show wpAny M A (alloc { cls:=.type "frame",data:=.dict #[] }) _ _ _ from wpAny_alloc ?_)
  refine wpAny_bind (wpAny_layCells _ (fun name kind cells=>by cases hkc:kind == NameKind.cell <;> simp [hkc]) _ _ _ _ ?_)
  have ok:=cellsFrom_ok scope.names (s.heap.push { cls:=.type "frame",data:=.dict #[] }) (s.heap.objs.size + 1) [] ⟨fun _ _ hm=>(nomatch hm),List.Pairwise.nil⟩ (by rw [Heap.size_push];exact Nat.le_refl _)
  rw [Heap.size_push] at ok
  rw [show ({ s with heap:=s.heap.push { cls:=.type "frame",data:=.dict #[] } }:Shared).heap.objs.size = s.heap.objs.size + 1 from Heap.size_push ..]
  have X:InCallC s (newEnv scope s.heap.objs.size globals (cellsFrom (s.heap.objs.size + 1) scope.names []) qual func code none builtins).locals (fun _=>none) (newEnv scope s.heap.objs.size globals (cellsFrom (s.heap.objs.size + 1) scope.names []) qual func code none builtins).cells (fun _=>none) { s with heap:=pushCells (s.heap.push { cls:=.type "frame",data:=.dict #[] }) scope.names } :=
    ⟨⟨⟨_,_,rfl⟩,(Heap.Ns.new s.heap (.type "frame")).keeps (pushCells_keeps _ _),fun b o e=>pushCells_keeps _ _ b o (Heap.get?_push_of_some _ e),Nat.le_refl _⟩,
      fun n c hc=>(ok.empty n c (mem_of_lookup hc)).1,ok.apart,fun n c hm=>(ok.empty n c hm).2⟩
  show wpAny M A (forIn [(x,v)] _ _ >>= _) _ _ _
  rw [List.forIn_cons]
  have hl':(newEnv scope s.heap.objs.size globals (cellsFrom (s.heap.objs.size + 1) scope.names []) qual func code none builtins).kindOf x = some .local:=hl
  refine wpAny_bind (wpAny_bind (wpAny_bind (wpAny_storeName_local hl' X.toInCall.ns (fun h' hn' hs'=>?_) (by show (scope.kind == _ || _) = false;rw [hk];rfl))))
  refine wpAny_pure ?_
  refine wpAny_pure (wpAny_pure (hQ _ rfl _ ?_ (Nat.le_refl _)))
  refine ⟨⟨⟨h',_,rfl⟩,?_,fun b o e=>?_,X.toInCall.fresh⟩,fun k c hc=>?_,X.apart,X.above⟩
  · unfold bindL bindL;rw [if_pos hl'];exact hn'
  · exact hs'.extBut b o (Nat.ne_of_lt (Nat.lt_of_lt_of_le (Heap.lt_size e) X.toInCall.fresh)) (X.toInCall.keep b o e)
  · unfold bindC bindC;rw [if_pos hl'];exact (X.cell k c hc).sameBut hs' (Nat.ne_of_gt (X.above k c (mem_of_lookup hc)))
theorem Fn.intro0 {S:Sig} {k:Nat} {a:Addr} {f:Fi} {x:Str} {body:List Stmt} {d₁ d:D} (F:FnAt S a f [x] body) (hk0:f.kinds[0]? = some .local) (hb:EXsF S k f (ctx0 f.kinds [d₁]) body (.ret d)):Ops0 S (k + 1) (fun v=>call (.ref a) [v]) d₁ d:=by
  intro A g s v Q E Rm Hfr Hz Kp Bs T0 rv hQ
  have at':At S (k + 1) A g (tick s):=⟨Rm,Kp,Bs,⟨Nat.succ_pos _,T0⟩⟩
  have rs:Rds g [v] [d₁]:=.cons rv .nil
  have hx0:f.vars[0]? = some x:=by
    have h:(f.vars.take 1)[0]? = some x:=by rw [show f.vars.take 1 = [x] from F.pre];rfl
    rwa [List.getElem?_take,if_pos (by lia)] at h
  refine Fn.callGo F (R:=fun s'=>s.toks + 1≤s'.toks) rfl (Bs.kin.keeps Kp) (by have:=Rm.depth;lia) (Bs.nolimit.keeps Kp) (newEnv1 F.kind (f.kind hx0 hk0)) fun env s' N ht G Q' E' hq=>?_
  refine e1_2 (Fn.core F rfl Kp Bs at'.tabs rs N G.heap ht) fun g' t st=>?_
  exact hb (A.deeper env) g' (Nw s) env s' Q' E' Rm.under (Around.frames_deeper Hfr) N.frame (by rw [N.loc];exact Hz) st fun fl g₂ s₂ t₂ p₂=>e1_2 p₂ fun v q r=>by subst q;exact hq v s₂ (hQ v g₂ s₂ (t.trans t₂ fun _ l=>l) r)
theorem law_done {S:Sig} {c:ClaimW} {cl:Str→Option Addr} {mean:ExcName→Option Value} {mean':ExcName→Option Value} {args:List WData} {s₁:Shared} {a fa l:Addr} {ns:List Int} {vs:List Value} {p:Program} {loose:List Str} {P:Params} {dd:WData} {x:Str} {E:Value→Shared→Prop} {k:Nat}
    (C:Ops0 S k (fun v=>call (.ref a) [v]) (.list (ns.map .int)) (.bool true)) (hk:304 + k < recursionLimit∧104 + 40 * k < cLine) (hT:TabsAt S.tabs s₁.heap) (K:S.K.In s₁.heap) (hKn:noTabs S.K = true)
    (T:Top p loose mean' S.mg S.mb s₁.heap) (hz:S.z = s₁.heap.objs.size) (hg:s₁.gens = #[]) (hmg:S.mg x = some (.ref fa)) (hx:nsIn S.K mainGlobals x = some (some (.ref a)))
    (hL:s₁.heap.IsList l vs.toArray) (hw:Well P s₁.heap (.ref l) dd) (hdd:∃ ys,dd = .list ys) (hI:IntsAre vs ns) (hn:vs.length≤sizeLine)
    (hr:∀ cls,c.raises args cls = false) (hpost:c.post args (.bool true) args = true) :
    wpAny S.M callerA (call (.ref fa) [.ref l]) (fun v s'=>GoodWG c cl mean args s₁ (.ok (.ret v)) s') E s₁:=by
  have ho:∃ n,s₁.heap.get? l = some (listO vs n):=by
    have key:∀ d,Well P s₁.heap (.ref l) d→(∃ ys,d = .list ys)→∃ ws:List Value,s₁.heap.get? l = some { cls:=.type "list",data:=.seq ws.toArray }:=by
      rintro d w ⟨ys,rfl⟩
      cases w with
      | list e _=>exact ⟨_,e⟩
    refine e1_1 (key dd hw hdd) (fun ws e=>?_)
    obtain ⟨o,e2,_,n,e3⟩:=hL
    rw [e] at e2;cases e2
    simp at e3
    refine e0_2 (e3) (fun e3 e4=>?_)
    exact ⟨_,by rw [e,e3]⟩
  obtain ⟨n,ho⟩:=ho
  have gl:=fun {b o}=>ghost_get (b:=b) (o:=o) hT
  have TT:=ghost_top hT T
  have B:Base S (ghostOf s₁.heap S.tabs):=⟨ghost_K hT K hKn,TT.g,TT.b,TT.nolimit,TT.builtins,TT.bmain,fun q hq=>⟨by
    obtain ⟨o,vs,file,tf,flags,tg,inF,text,tt,e1,r1,r2,r3,r4,r5,r6,r7,r8,hne⟩:=(hT q hq).1
    exact ⟨o,vs,file,tf,flags,tg,inF,text,tt,ghost_get hT e1 (fun q=>by rw [q] at r1;cases r1),r1,r2,r3,r4,r5,r6,r7,r8,hne⟩,hideAll_none _ (List.mem_map_of_mem hq)⟩⟩
  have hfa:fa = a:=by
    have:=mg_of B.kin B.glob hx
    rw [hmg] at this;cases this;rfl
  subst hfa
  have hrd:Rds (ghostOf s₁.heap S.tabs) vs (ns.map .int):=by
    clear hL ho hn C
    induction hI with
    | nil=>exact .nil
    | cons _ _ _ ih=>exact .cons (.int _ _) ih
  refine C callerA (ghostOf s₁.heap S.tabs) s₁ (.ref l) _ E ⟨fun _=>rfl,?_,?_⟩ rfl (Nat.le_of_eq hz) (fun b o e=>of_hideAll _ e) B (fun q hq=>⟨#[],(hT q hq).2,trivial,nofun⟩) (.list (gl ho (by intro h;cases h)) hn hrd) fun v g' s' t r=>?_
  · show 1 + claimMargin + k < _;have:=hk.1;unfold claimMargin;lia
  · show 4 + 40 * k + 100 < _;have:=hk.2;lia
  cases r using Rd.casesRaw
  refine ⟨.inl ⟨_,.bool true,[],rfl,hr,.bool true,hpost,fun _=>⟨.nil,nofun⟩⟩,⟨fun b o e=>?_,fun b o e=>?_⟩,t.os,t.bare (.of_eq hg)⟩
  · by_cases hb:b ∈ S.tabs.map (·.2)
    · (refine e1_2 (List.mem_map.mp hb) (fun q hq q5q=>?_);subst q5q)
      have e2:=(hT q hq).2
      rw [e] at e2;cases e2
      refine e1_1 (t.tabs q hq #[] (hT q hq).2) (fun more hm=>?_)
      exact .inr (.inl ⟨((hT q hq).1.tab (hT q hq).2).isCodeTable,rfl,#[],more,rfl,hm⟩)
    · refine e1_2 (t.same b o (fun h=>absurd (Heap.lt_size e) (Nat.not_lt.mpr h)) hb e) (fun o' e' k=>?_)
      rcases k with rfl | ⟨h,_⟩
      · exact .inl e'
      · rw [hz] at h;exact absurd (Heap.lt_size e) (Nat.not_lt.mpr h)
  · by_cases hb:b ∈ S.tabs.map (·.2)
    · (refine e1_2 (List.mem_map.mp hb) (fun q hq q6q=>?_);subst q6q)
      refine e1_1 (t.tabs q hq #[] (hT q hq).2) (fun more hm=>?_)
      exact ⟨_,hm⟩
    · refine e1_2 (t.same b o (fun h=>absurd (Heap.lt_size e) (Nat.not_lt.mpr h)) hb e) (fun o' e' k=>?_)
      exact ⟨o',e'⟩
end
section
open PySem PySem.W PySem.Calls PyProof.Rows
section
variable {S:Sig} {k:Nat} {f:Fi} {Γ:Ctxt} {A:Around} {E:Value→Shared→Prop} {s:Shared}
theorem Ops.gives2 {name:Str} {id:String} {B:Builtin} {xs ys:List Nat} {d:D} (slot:Slot "str" name id) (entry:entryFor table id = some B) (args:∀ a b:Value,argsOk id ⟨[a,b],[]⟩)
    (g:∀ t u,∃ m:Made,Gives (B ⟨[.str ⟨xs.toArray⟩ t,.str ⟨ys.toArray⟩ u],[]⟩) m∧∀ (g:Heap) (s:Shared) (Q:Value→Shared→Prop),Keep g s.heap→(∀ v tk,s.toks≤tk→Rd g v d→Q v { s with toks:=tk })→m.post Q s) :
    Ops S k (fun vs=>call (.builtin id) vs) [.str xs,.str ys] d:=by
  intro A g0 s vs Q E at' rs h
  cases rs using Rds.casesCons with
  | cons r1 r2 =>
    cases r2 using Rds.casesCons with
    | cons r2 r3 =>
      cases r3 using Rds.casesNil
      cases r1 using Rd.casesStr with
      | str t hx =>
        cases r2 using Rd.casesStr with
        | str u hy =>
          refine e1_2 (g t u) (fun m hg hm=>?_)
          refine call_gives slot (typeIs_str _ _ _) entry (args _ _) hg (hm g0 s _ at'.keep fun v tk ht r=>?_)
          exact h v g0 _ (at'.tick _ ht) r
noncomputable def lastC (c:Nat):List Nat→Option Nat
  | []=>none
  | x :: xs=>match lastC c xs with
    | some i=>some (i + 1)
    | none=>if x = c then some 0 else none
theorem lastC_spec (c:Nat):∀ xs:List Nat,(lastC c xs = none∧∀ i:Nat,xs[i]? ≠ some c) ∨ ∃ i:Nat,lastC c xs = some i∧xs[i]? = some c∧∀ j:Nat,i < j→xs[j]? ≠ some c
  | []=>.inl ⟨rfl,fun i=>by simp⟩
  | x :: xs=>by
    rcases lastC_spec c xs with ⟨h1,h2⟩ | ⟨i,h1,h2,h3⟩
    · by_cases hx:x = c
      · refine .inr ⟨0,by rw [lastC,h1];simp [hx],by simp [hx],fun j hj=>?_⟩
        obtain ⟨m,rfl⟩:∃ m,j = m + 1:=⟨j - 1,by lia⟩
        simpa using h2 m
      · refine .inl ⟨by rw [lastC,h1];simp [hx],fun i=>?_⟩
        cases i with
        | zero=>simpa using hx
        | succ i=>simpa using h2 i
    · refine .inr ⟨i + 1,by rw [lastC,h1],by simpa using h2,fun j hj=>?_⟩
      obtain ⟨m,rfl⟩:∃ m,j = m + 1:=⟨j - 1,by lia⟩
      simpa using h3 m (by lia)
theorem last_eq1 (c:Nat) (xs:List Nat):Builtin.Str.lastOccurrence ⟨xs.toArray⟩ ⟨#[c]⟩ 0 (⟨xs.toArray⟩:Str).length = lastC c xs:=by
  have at_:∀ i,StrLaws.At ⟨xs.toArray⟩ ⟨#[c]⟩ (⟨xs.toArray⟩:Str).length i ↔ xs[i]? = some c:=fun i=>by
    have:=StrLaws.subAt_one ⟨xs.toArray⟩ c i
    simp only at this
    exact this
  rcases StrLaws.last_spec ⟨xs.toArray⟩ ⟨#[c]⟩ with ⟨h1,h2⟩ | ⟨i,h1,h2,h3⟩
  · rw [h1]
    rcases lastC_spec c xs with ⟨h4,_⟩ | ⟨j,_,h5,_⟩
    · exact h4.symm
    · exact absurd ((at_ j).mpr h5) (h2 j)
  · rw [h1]
    have h2':=(at_ i).mp h2
    rcases lastC_spec c xs with ⟨_,h5⟩ | ⟨j,h4,h5,h6⟩
    · exact absurd h2' (h5 i)
    · rw [h4]
      rcases Nat.lt_trichotomy i j with h | h | h
      · exact absurd ((at_ j).mpr h5) (h3 j h)
      · rw [h]
      · exact absurd h2' (h6 i h)
noncomputable def rfindI (c:Nat) (xs:List Nat):Int:=match lastC c xs with | some i=>(i:Int) | none=>-1
theorem Ops.rfindC {xs:List Nat} {c:Nat}:Ops S k (fun vs=>call (.builtin "str.rfind") vs) [.str xs,.str [c]] (.int (rfindI c xs)):=by
  refine Ops.gives2 PySem.F.slot_str_rfind PySem.F.entry_str_rfind PySem.F.args_str_rfind_2 fun t u=>⟨_,gives_str_rfind _ _ t u,fun g s Q kp h=>?_⟩
  have e:=last_eq1 c xs
  show Q (.int _ s.toks) { s with toks:=s.toks + 1 }
  refine h _ _ (Nat.le_succ _) ?_
  rw [e]
  unfold rfindI
  cases lastC c xs <;> exact .int _ _
noncomputable def rstripC (c:Nat) (xs:List Nat):List Nat:=xs.take (xs.length - (xs.reverse.takeWhile (· == c)).length)
theorem strip_eq (c:Nat) (xs:List Nat):PySem.stripped (⟨#[c]⟩:Str).cps.contains false true ⟨xs.toArray⟩ = ⟨(rstripC c xs).toArray⟩∧(stripSame (⟨#[c]⟩:Str).cps.contains false true ⟨xs.toArray⟩ = true→rstripC c xs = xs):=by
  have e:(⟨#[c]⟩:Str).cps.contains = fun x=>x == c:=by funext x;simp;rfl
  have hl:(⟨xs.toArray⟩:Str).length = xs.length:=by simp [Str.length]
  have hh:stripHi (fun x=>x == c) true ⟨xs.toArray⟩ 0 = xs.length - (xs.reverse.takeWhile (· == c)).length:=by
    unfold stripHi
    rw [if_pos rfl,hl];simp
  rw [e]
  have h0:stripLo (fun x=>x == c) false ⟨xs.toArray⟩ = 0:=rfl
  refine ⟨?_,fun h=>?_⟩
  · unfold PySem.stripped
    rw [h0,hh]
    unfold Builtin.Str.strSub rstripC
    simp
  · unfold stripSame at h
    rw [h0,hh,hl] at h
    simp only [Bool.and_eq_true,beq_iff_eq] at h
    unfold rstripC
    rw [h.2,List.take_length]
theorem Ops.rstripC {xs:List Nat} {c:Nat}:Ops S k (fun vs=>call (.builtin "str.rstrip") vs) [.str xs,.str [c]] (.str (rstripC c xs)):=by
  intro A g0 s vs Q E at' rs h
  cases rs using Rds.casesCons with
  | cons r1 r2 =>
    cases r2 using Rds.casesCons with
    | cons r2 r3 =>
      cases r3 using Rds.casesNil
      cases r1 using Rd.casesStr with
      | str t hx =>
        cases r2 using Rd.casesStr with
        | str u hy =>
          refine call_gives PySem.F.slot_str_rstrip (typeIs_str _ _ _) PySem.F.entry_str_rstrip (PySem.F.args_str_rstrip_2 _ _) (gives_str_rstrip_chars _ _ t u) ?_
          refine e0_2 (strip_eq c xs) (fun e1 e2=>?_)
          split
          · rename_i hs
            have:=e2 hs
            refine h _ g0 _ (at'.refl _) ?_
            rw [this];exact .str _ t hx
          · show (PySem.stripped _ false true _:Str).length≤sizeLine∧_
            have hl:(Mine.rstripC c xs).length≤sizeLine:=by unfold Mine.rstripC;simp;lia
            rw [e1]
            exact ⟨by simpa [Str.length] using hl,h _ g0 _ (at'.tick _ (Nat.le_succ _)) (.str _ _ hl)⟩
theorem rep_fold (c:Nat):∀ (n:Nat) (acc:Array Nat),(List.replicate n (#[c]:Array Nat)).foldl (· ++ ·) acc = acc ++ (List.replicate n c).toArray
  | 0,acc=>by simp
  | n + 1,acc=>by
    rw [List.replicate_succ,List.foldl_cons,rep_fold c n,List.replicate_succ]
    apply Array.toList_inj.mp
    simp
theorem Op2.mulC {c n:Nat} (hn:n≤100000):Op2 S k (binaryOp .Mult) (.str [c]) (.int (n:Int)) (.str (List.replicate n c)):=by
  intro A g s v₁ v₂ Q E at' r1 r2 h
  have hz:=sizeLine_eq
  cases r1 using Rd.casesStr with
  | str t hx =>
    cases r2 using Rd.casesInt with
    | int u =>
      have hl:(⟨([c]:List Nat).toArray⟩:Str).length = 1:=rfl
      have fin:∀ (v:Value) tk,s.toks≤tk→Rd g v (.str (List.replicate n c))→Q v { s with toks:=tk }:=fun v tk ht r=>h v g _ (at'.tick _ ht) r
      refine P.mul_str (by
        have h1:¬ (n:Int) < -(2 ^ 63):=by lia
        have h2:¬ (n:Int) ≥ 2 ^ 63:=by lia
        rw [decide_eq_false h1,decide_eq_false h2];rfl) (fun h1 _=>?_) (fun h1 _=>?_) ?_
      · rw [hl]
        have:1≤(2 ^ 63 - 1) / (n:Int):=Int.le_ediv_of_mul_le (by lia) (by lia)
        lia
      · rw [hl];simp [Builtin.Str.tooLong];lia
      · by_cases h1:(n:Int) < 1
        · rw [if_pos h1]
          have:n = 0:=by lia
          subst this
          exact ⟨by decide,fin _ _ (Nat.le_succ _) (Rd.str (g:=g) [] s.toks (by simp))⟩
        · rw [if_neg h1]
          by_cases h2:(n:Int) = 1
          · have:n = 1:=by lia
            subst this
            rw [if_pos (by rfl)]
            exact fin _ s.toks (Nat.le_refl _) (by simpa using Rd.str (g:=g) [c] t hx)
          · rw [if_neg (by rw [hl];simpa using h2)]
            have e:(List.replicate (n:Int).toNat (⟨([c]:List Nat).toArray⟩:Str).cps).foldl (· ++ ·) #[] = (List.replicate n c).toArray:=by
              have:=rep_fold c n #[]
              simpa using this
            rw [e]
            exact ⟨by simp [Str.length];lia,fin _ _ (Nat.le_succ _) (.str _ _ (by simp;lia))⟩
end
end
section
open PySem PySem.W PySem.Calls PyProof.Rows
section
variable {S:Sig} {k:Nat} {f:Fi} {Γ:Ctxt} {A:Around} {E:Value→Shared→Prop} {s:Shared}
theorem OwnOp.insert0 {xs:List D} {d:D} (hz:xs.length < sizeLine):OwnOp S k (fun o vs=>PySem.call (.builtin "list.insert") (o :: vs)) xs [.int 0,d] (d :: xs) .none:=by
  intro A g s a vs n args Q E at' ho hl rs ra hQ
  cases ra using Rds.casesCons with
  | cons r1 r2 =>
    cases r2 using Rds.casesCons with
    | cons r2 r3 =>
      cases r3 using Rds.casesNil
      cases r1 using Rd.casesInt with
      | int u =>
        rename_i v
        have hlen:=rs.length
        refine call_meets PySem.F.slot_list_insert ⟨_,ho,rfl⟩ PySem.F.entry_list_insert (PySem.F.args_list_insert_3 _ _ _) (PySem.AutoSeq1.list_insert_list_int_val_1 a vs.toArray n 0 u v (by decide) (by simpa using hl)) ⟨ho,?_⟩
        have q:=PySem.IsL.update (n:=n) ho (fun xs=>((xs.extract 0 (if (0:Int) < 0 then ((0:Int) + xs.size).toNat else min (0:Int).toNat xs.size)).push v ++ xs.extract (if (0:Int) < 0 then ((0:Int) + xs.size).toNat else min (0:Int).toNat xs.size) xs.size))
        have e:((vs.toArray.extract 0 (if (0:Int) < 0 then ((0:Int) + vs.toArray.size).toNat else min (0:Int).toNat vs.toArray.size)).push v ++ vs.toArray.extract (if (0:Int) < 0 then ((0:Int) + vs.toArray.size).toNat else min (0:Int).toNat vs.toArray.size) vs.toArray.size) = (v :: vs).toArray:=by
          apply Array.toList_inj.mp
          simp
        rw [e] at q
        exact hQ .none _ (v :: vs) _ s.toks q (Heap.SameBut.update ..) (by simp;lia) (.cons r2 rs) (Nat.le_refl _) (.raw _)
theorem EX.insert0N {x:Str} {j:Nat} {xs:List D} {d:D} {e0 e:Expr} {npos apos pos p':Pos} (n:Nm f x j .local) (hj:Γ[j]? = some (some (.own xs))) (h2:EVs S k f Γ [e0,e] [.int 0,d]) (hz:xs.length < sizeLine)
    (hfew:∀ env,((backTo pos (starEach [e0,e] env)).all (fun x=>!x.1) && (backToKw pos (keywordEach [] env)).all (fun x=>x.1.isSome)
      && decide ([e0,e].length + ([]:List Keyword).length + (if ([]:List Keyword).isEmpty then 0 else 1) < 30)) = true) (hline:(apos.endLine == pos.line) = true)
    (hs:∀ env,swapsWith (.Call (.Attribute (.Name x npos) "insert" apos) [e0,e] [] pos) none p'.line env = pure false) :
    EX S k f Γ (.Expr (.Call (.Attribute (.Name x npos) "insert" apos) [e0,e] [] pos) p') (.next (Γ.set j (some (.own (d :: xs))))) :=
  .ownMeth j PySem.F.slot_list_insert PySem.F.type_list_insert n.hx hj h2 (OwnOp.insert0 hz) n.d1 hline hfew hs
end
end
section
open PySem PySem.W PySem.Calls PyProof.Rows
section
variable {S:Sig} {k:Nat} {f:Fi} {Γ:Ctxt} {e e₂:Expr} {es:List Expr} {d d₂:D} {ds:List D} {pos p':Pos} {x y:Str} {i j:Nat}
theorem wp_storeOwn {A:Around} {g:Heap} {W:Addr→Prop} {env:Env} {s:Shared} {a:Addr} {xs:List D} {Q:Unit→Shared→Prop} {E:Value→Shared→Prop} (hx:f.vars[i]? = some x) (hk:f.kinds[i]? = some .local)
    (st:St S f Γ g (fun b=>W b∧¬ b = a) env s) (wide:∀ b,s.heap.objs.size≤b→W b) (ho:OwnList g s.heap W a xs) (hna:(Γ.all fun b=>match b with | some (.app q)=>q != i | _=>true) = true) (hΓ:Γ.length≤f.vars.length)
    (h:∀ g' s',Tr S W g s g' s'→St S f (Γ.set i (some (.own xs))) g' W env s'→Q () s'):wpAny S.M A (storeName env x (.ref a)) Q E s:=by
  have st':St S f Γ g W env s:=st.widen fun _ q=>q.1
  refine e2_5 (st.vars) (fun m ad hns hb hg hH hI=>?_)
  have ne:∀ {p ys},Γ[p]? = some (some (.own ys))→ad p ≠ a:=fun {p ys} e=>by
    have hj:p < f.vars.length:=Nat.lt_of_lt_of_le (List.getElem?_eq_some_iff.mp e).1 hΓ
    exact (hH p _ _ (List.getElem?_eq_getElem hj) e).ownC fun _ _ _ _ _ _ _ _ w=>w.2
  refine e2_5 (ho) (fun vs n o1 o2 o3 o4 o5=>?_)
  have hla:env.locals ≠ a:=hb.2
  refine wp_storeL (b:=.own xs) (ad:=ad) (ad':=fun p=>if p = i then a else ad p) st'.keep st'.base st'.tabs st'.envIs wide st'.clt hx hk hns hb.1 hg (fun i x b e e'=>(hH i x b e e').go (fun _ _ e=>e) (fun _ e=>e) (fun _ _ _ h=>h) (fun _ _=>⟨rfl,fun _ _ e1 e2 e3=>⟨e1,e2,e3.1⟩⟩) (fun _ _=>rfl) fun _ _ _ _ h4 h5=>⟨h4,h5.1⟩) (inj_if (fun j ys e=>ne e) hI) (fun h' m' hn hv hs' hki=>?_) (fun j xs hj _=>by simp [hj]) (fun j q hj hq=>by simp [app_ne hna hq]) h
  refine ⟨hki,by simpa using hv,vs,n,?_,o2,o3,by simpa using o4,by simpa using o5⟩
  simp only [if_true]
  exact (hs'.2 _ fun q=>hla q.symm).trans o1
theorem EX.assign2Own [Free S] {px py tp vp lp:Pos} {kt kv:Nat} (nx:Nm f x i .local) (ny:Nm f y j .local) (h2:EV S k f Γ e₂ d₂)
    (hl:(py.line == px.line) = true) (hne:(y == x) = false) (hs:([Expr.List [] lp,e₂].any fun | .Starred ..=>true | _=>false) = false) (h1:[Expr.List [] lp,e₂].all (foldedForSure 8) = false) (h3:[Expr.List [] lp,e₂].all (constantsAlone 8) = false)
    (hsw:∀ env,swapsWithSole [.Tuple [.Name x px,.Name y py] kt tp] (.Tuple [.List [] lp,e₂] kv vp) p'.line env = pure false)
    (hst:∀ env,starEach [Expr.List [] lp,e₂] env = [(false,eval (.List [] lp) env),(false,eval e₂ env)])
    (hna:(Γ.all fun b=>match b with | some (.app q)=>q != i | _=>true) = true:=by rfl) (hΓ:Γ.length≤f.vars.length:=by decide) :
    EX S k f Γ (.Assign [.Tuple [.Name x px,.Name y py] kt tp] (.Tuple [.List [] lp,e₂] kv vp) p') (.next ((Γ.set j (some (.val d₂))).set i (some (.own [])))):=by
  intro A g W env s Q E R st hQ
  have hkx:env.kindOf x = some .local:=(kindOf_eq st.envIs x).trans (f.kind nx.hx nx.hk)
  have hky:env.kindOf y = some .local:=(kindOf_eq st.envIs y).trans (f.kind ny.hx ny.hk)
  have hb:env.blockKind = .function:=by unfold Env.blockKind;rw [st.envIs.kind];rfl
  rw [exec_Assign_arm]
  refine wpAny_bind (wpAny_standAt ?_)
  rw [hsw]
  refine wpAny_bind (wpAny_pure ?_)
  refine wp_ifF (by decide) ?_
  refine wpAny_bind (wpAny_Tuple_spliced ?_)
  rw [hst]
  show wpAny S.M A (spliced ((false,eval (.List [] lp) env) :: (false,eval e₂ env) :: [])) _ E s
  refine spliced_cons (wpAny_List_spliced (spliced_nil ⟨by decide,?_⟩))
  have old:Keep s.heap (s.heap.push (listO [] 0)):=fun b o e=>Heap.get?_push_of_some _ e
  refine e1_3 (Tr.grow (s':={ s with heap:=s.heap.push (listO [] 0) }) (fun _=>False) st.keep st.base st.tabs old (by simp) rfl rfl (Nat.le_refl _)) (fun g1 t1 _ hno=>?_)
  have ha:s.heap.objs.size < (s.heap.push (listO [] 0)).objs.size:=by simp
  have st1:=st.without (F:=fun b=>b = s.heap.objs.size) t1 fun b q=>by subst q;exact ⟨Nat.le_refl _,ha⟩
  have e1:(s.heap.push (listO [] 0)).get? s.heap.objs.size = some (listO [] 0):=Heap.get?_push_size _ rfl
  refine spliced_cons (h2 A g1 _ env _ _ E R st1 fun v g2 s2 t2 r2=>spliced_nil ⟨Nat.le_of_ble_eq_true rfl,?_⟩)
  have e2:s2.heap.get? s.heap.objs.size = some (listO [] 0):=by
    have hnT:¬ S.T s.heap.objs.size:=t1.now.notT e1 (by nofun)
    refine e1_2 (t2.same _ _ (Nat.not_le.mpr ha) hnT e1) (fun o' q1 q2=>?_)
    rw [q2.eq notNs_list] at q1;exact q1
  have st2:=st1.move t2
  have n2:g2.get? s.heap.objs.size = Option.none:=t2.none (hno _ (Nat.le_refl _) id) (Nat.not_le.mpr ha)
  rw [swapped2 hkx hky hb hl hne hs h1 h3]
  clear hs h1 h3 hst hsw
  refine wpAny_bind (wpAny_pure ?_)
  refine e1_2 ((st2.at R).push { cls:=.type "tuple",data:=.seq #[.ref s.heap.objs.size,v] } (t:=s2.toks)) (fun g3 t3 et=>?_)
  have st3:=st2.move t3
  have ht:(s2.heap.push (tupO [.ref s.heap.objs.size,v] 0)).IsTuple s2.heap.objs.size #[.ref s.heap.objs.size,v]:=⟨_,t3.keep _ _ et,rfl,0,rfl⟩
  show wpAny S.M A (do rule "assign.swapped-stores";let items ← unpackItems (.ref s2.heap.objs.size) 2 none;assignInOrder [bindName env y,bindName env x] items.reverse;pure .next) Q E _
  refine wpAny_bind (wpAny_rule (wpAny_bind (wpAny_grown ?_)))
  rw [show (2:Nat) = (#[.ref s.heap.objs.size,v]:Array Value).size by simp]
  refine wpAny_unpackItems_tuple (R.handled Free.free) ht fun h' hx G=>?_
  have old':Keep (s2.heap.push (tupO [.ref s.heap.objs.size,v] 0)) h':=fun b o e=>hx b o (Nat.ne_of_lt (Heap.lt_size e)) e
  refine e1_2 (Tr.grow (s':={ s2 with heap:=h' }) (fun _=>False) st3.keep st3.base st3.tabs old' G.heap rfl rfl (Nat.le_refl _)) (fun g4 t4 _=>?_)
  have st4:=st3.move t4
  show wpAny S.M A (do (do holding [.ref s.heap.objs.size] (bindName env y v);holding [] (bindName env x (.ref s.heap.objs.size));pure ());pure .next) Q E _
  refine wpAny_bind (wpAny_bind (wpAny_holding (wpAny_bindName (wp_storeVal ny.hx ny.hk st4 (r2.mono (t3.mono.trans t4.mono)) fun g5 s5 t5 st5=>wpAny_bind (wpAny_holding (wpAny_bindName ?_))))))
  have l2:s.heap.objs.size < s2.heap.objs.size:=Nat.lt_of_lt_of_le ha t2.size
  have e4:h'.get? s.heap.objs.size = some (listO [] 0):=old' _ _ (Heap.get?_push_of_some _ e2)
  have l4:s.heap.objs.size < h'.objs.size:=Heap.lt_size e4
  have e5:s5.heap.get? s.heap.objs.size = some (listO [] 0):=by
    have hnT:¬ S.T s.heap.objs.size:=t4.now.notT e4 (by nofun)
    refine e1_2 (t5.same _ _ (fun q=>q.2 rfl) hnT e4) (fun o' q1 q2=>?_)
    rw [q2.eq notNs_list] at q1;exact q1
  have n4:g4.get? s.heap.objs.size = Option.none:=t4.none (t3.none n2 (Nat.not_le.mpr l2)) (Nat.not_le.mpr (by simp;omega))
  have n5:g5.get? s.heap.objs.size = Option.none:=t5.none n4 fun q=>q.2 rfl
  have w0:∀ b,s.heap.objs.size≤b→W b:=st.wide
  have z5:s.heap.objs.size≤s5.heap.objs.size:=Nat.le_trans (Nat.le_of_lt l4) t5.size
  refine wp_storeOwn nx.hx nx.hk st5 (fun b q=>w0 b (Nat.le_trans z5 q)) ⟨[],0,e5,Nat.zero_le _,.nil,n5,w0 _ (Nat.le_refl _)⟩ (List.all_eq_true.mpr fun b hb=>(List.mem_or_eq_of_mem_set hb).elim (List.all_eq_true.mp hna b) fun q=>q ▸ rfl) (by simpa using hΓ) fun g6 s6 t6 st6=>wpAny_pure (wpAny_pure ?_)
  exact hQ _ g6 s6 ((((((t1.then t2).then t3).then t4).weak st.new).trans (t5.weak (W:=W) fun a q=>q.1) fun _ q=>q).trans t6 fun _ q=>q) ⟨rfl,st6⟩
end
end
section
open PySem PySem.W PySem.Calls PyProof.Rows
section
variable {S:Sig} {k:Nat} {f:Fi} {Γ:Ctxt} {l m r:Expr} {d₁ d₂ d₃:D} {pos:Pos} {b₁ b₂:Bool}
theorem EV.cmp2 {o₁ o₂:CmpOp} (h1:EV S k f Γ l d₁) (h2:EV S k f Γ m d₂) (h3:EV S k f Γ r d₃) (h4:Op2 S k (compareOp o₁) d₁ d₂ (.bool b₁)) (h5:Op2 S k (compareOp o₂) d₂ d₃ (.bool b₂)) (hm:lastMarks [o₁,o₂] [m,r] = false:=by rfl) :
    EV S k f Γ (.Compare l [o₁,o₂] [m,r] pos) (.bool (b₁ && b₂)):=by
  intro A g W env s Q E R st hQ
  rw [arm_eval_Compare,markedEach_of_false _ _ _ hm]
  refine wpAny_bind (h1 A g W env s _ E R st fun v1 g1 s1 t1 r1=>?_)
  show wpAny S.M A (do let rv ← holding [v1] (eval m env);standAt pos;let c ← holding [v1,rv] (compareOp o₁ v1 rv);release [v1,rv] [c];if ← holding [c,rv] (truthy c) then compareChain pos rv [o₂] [eval r env] else pure c) Q E s1
  have st1:=st.move t1
  refine wpAny_bind (wpAny_holding (h2 A g1 W env s1 _ E R st1 fun v2 g2 s2 t2 r2=>wpAny_bind (wpAny_standAt (wpAny_bind (wpAny_holding (h4 A g2 s2 v1 v2 _ E (t2.at R) (r1.mono t2.mono) r2 fun c g3 s3 t3 r3=>wpAny_bind (wpAny_release' ?_)))))))
  cases r3 using Rd.casesRaw
  refine wpAny_bind (wpAny_holding (wpAny_truthy_bool ?_))
  have st3:=(st1.move t2).move t3
  cases b₁ with
  | false=>rw [if_neg (by decide)];exact wpAny_pure (hQ _ g3 s3 ((t1.then t2).then t3) (.raw _))
  | true =>
    refine wp_ifT rfl ?_
    show wpAny S.M A (do let rv ← holding [v2] (eval r env);standAt pos;operate [v2,rv] (compareOp o₂ v2 rv)) Q E s3
    exact wpAny_bind (wpAny_holding (h3 A g3 W env s3 _ E R st3 fun v4 g4 s4 t4 r4=>wpAny_bind (wpAny_standAt (wpAny_operate' (h5 A g4 s4 v2 v4 Q E (t4.at R) (r2.mono (t3.mono.trans t4.mono)) r4 fun v g5 s5 t5 r5=>hQ v g5 s5 ((((t1.then t2).then t3).then t4).then t5) r5)))))
theorem Op2.inTS {x:List Nat} {ys:List (List Nat)} (h1:okC x = true) (h2:∀ y ∈ ys,okC y = true):Op2 S k (compareOp .In) (.str x) (.tup (ys.map .str)) (.bool (decide (x ∈ ys))):=by
  have h:=Op2.inT (S:=S) (k:=k) (d:=.str x) (ds:=ys.map .str) false h1 (by intro e he;(refine e1_2 (List.mem_map.mp he) (fun y hy q1q=>?_);subst q1q);exact h2 y hy)
  refine bool_any (P:=fun b=>Op2 S k (compareOp .In) (.str x) (.tup (ys.map .str)) (.bool b)) ?_ h
  simp
end
end
section
open PySem PySem.W PySem.Calls PyProof.Rows
section
variable {S:Sig} {k:Nat}
theorem Rds.intsAre {g:Heap} {vs:List Value} {ns:List Int} (h:Rds g vs (ns.map .int)):IntsAre vs ns:=by
  induction ns generalizing vs with
  | nil=>cases h using Rds.casesNil;exact .nil
  | cons n ns ih =>
    cases h using Rds.casesCons with
    | cons r rs=>cases r using Rd.casesInt with | int t=>exact .cons n t (ih rs)
theorem Rds.strsAre {g:Heap} {vs:List Value} {ps:List (List Nat)} (h:Rds g vs (ps.map .str)):StrsAre vs (ps.map fun p=>⟨p.toArray⟩):=by
  induction ps generalizing vs with
  | nil=>cases h using Rds.casesNil;exact .nil
  | cons n ns ih =>
    cases h using Rds.casesCons with
    | cons r rs=>cases r using Rd.casesStr with | str t=>exact .cons _ t (ih rs)
theorem Rds.ofStrs {g:Heap} {vs:List Value} {ss:List Str} (r:StrsAre vs ss) (h:∀ x ∈ ss,x.cps.toList.length≤sizeLine):Rds g vs (ss.map fun x=>.str x.cps.toList):=by
  induction r with
  | nil=>exact .nil
  | cons x t r ih=>exact .cons (Rd.str (g:=g) x.cps.toList t (h x (.head _))) (ih fun y hy=>h y (.tail _ hy))
theorem Ops.minI [Free S] {ns:List Int} {M:Int} (h1:M ∈ ns) (h2:∀ a ∈ ns,M≤a):Ops S k (fun vs=>call (.builtin "min") vs) [.list (ns.map .int)] (.int M):=by
  intro A g s vs Q E at' rs h
  cases rs using Rds.casesCons with
  | cons r1 r2 =>
    cases r2 using Rds.casesNil
    cases r1 using Rd.casesList with
    | list e hl rs =>
      rename_i a ws n
      have hi:=rs.intsAre
      refine e1_1 (hi.allInts.items) (fun xs ex=>?_)
      have hns:ns = xs.toList.map (·.1):=by rw [← hi.numsOf,← nums_intItems,← ex]
      have hsz:0 < xs.size:=by
        have h3:=List.length_pos_of_mem h1
        rw [hns,List.length_map,Array.length_toList] at h3;exact h3
      have hL:s.heap.IsList a (intItems xs):=by rw [← ex];exact ⟨_,at'.keep _ _ e,rfl,n,rfl⟩
      refine wpAny_grown (min_intList (at'.room.handled Free.free) hL hsz fun v h' tk hv hk G=>?_)
      (refine e1_1 (intItems_at hv) (fun t q1q=>?_);subst q1q)
      refine e0_2 (argBest_lt (numAt xs) (xs.size - 1)) (fun q1 q2=>?_)
      have hM:numAt xs (argBest (fun i j=>decide (numAt xs i < numAt xs j)) (xs.size - 1)) = M:=by
        refine Int.le_antisymm ?_ (h2 _ ?_)
        · have h1':=h1
          rw [hns] at h1'
          refine e1_2 (mem_getD h1') (fun j hj ej=>?_)
          rw [List.length_map,Array.length_toList] at hj
          rw [← ej,← numAt_eq];exact q2 j (by omega)
        · rw [hns,numAt_eq];exact getD_mem (by rw [List.length_map,Array.length_toList];omega)
      rw [hM]
      refine e1_2 (Tr.grow (s':={ s with heap:=h',toks:=tk }) (fun _=>False) at'.keep at'.base at'.tabs hk G.heap rfl rfl G.toks) (fun g1 t1 _=>?_)
      exact h _ g1 _ t1 (.int _ _)
theorem Ops.maxI [Free S] {ns:List Int} {M:Int} (h1:M ∈ ns) (h2:∀ a ∈ ns,a≤M):Ops S k (fun vs=>call (.builtin "max") vs) [.list (ns.map .int)] (.int M):=by
  intro A g s vs Q E at' rs h
  cases rs using Rds.casesCons with
  | cons r1 r2 =>
    cases r2 using Rds.casesNil
    cases r1 using Rd.casesList with
    | list e hl rs =>
      rename_i a ws n
      have hi:=rs.intsAre
      refine e1_1 (hi.allInts.items) (fun xs ex=>?_)
      have hns:ns = xs.toList.map (·.1):=by rw [← hi.numsOf,← nums_intItems,← ex]
      have hsz:0 < xs.size:=by
        have h3:=List.length_pos_of_mem h1
        rw [hns,List.length_map,Array.length_toList] at h3;exact h3
      have hL:s.heap.IsList a (intItems xs):=by rw [← ex];exact ⟨_,at'.keep _ _ e,rfl,n,rfl⟩
      refine wpAny_grown (max_intList (at'.room.handled Free.free) hL hsz fun v h' tk hv hk G=>?_)
      (refine e1_1 (intItems_at hv) (fun t q2q=>?_);subst q2q)
      refine e0_2 (argBest_gt (numAt xs) (xs.size - 1)) (fun q1 q2=>?_)
      have hM:numAt xs (argBest (fun i j=>decide (numAt xs i > numAt xs j)) (xs.size - 1)) = M:=by
        refine Int.le_antisymm (h2 _ ?_) ?_
        · rw [hns,numAt_eq];exact getD_mem (by rw [List.length_map,Array.length_toList];omega)
        · have h1':=h1
          rw [hns] at h1'
          refine e1_2 (mem_getD h1') (fun j hj ej=>?_)
          rw [List.length_map,Array.length_toList] at hj
          rw [← ej,← numAt_eq];exact q2 j (by omega)
      rw [hM]
      refine e1_2 (Tr.grow (s':={ s with heap:=h',toks:=tk }) (fun _=>False) at'.keep at'.base at'.tabs hk G.heap rfl rfl G.toks) (fun g1 t1 _=>?_)
      exact h _ g1 _ t1 (.int _ _)
noncomputable def sortL (ps:List (List Nat)):List (List Nat):=ps.mergeSort fun a b=>decide (¬ b < a)
theorem sortL_perm (ps:List (List Nat)):(sortL ps).Perm ps:=List.mergeSort_perm ps _
theorem sortL_sorted (ps:List (List Nat)):(sortL ps).Pairwise fun a b=>¬ b < a:=by
  have h:=List.pairwise_mergeSort (le:=fun (a b:List Nat)=>decide (¬ b < a)) (fun a b c h1 h2=>by
    simp only [decide_eq_true_eq] at *
    exact List.not_lt.mpr (List.le_trans (List.not_lt.mp h1) (List.not_lt.mp h2))) (fun a b=>by
    simp only [Bool.or_eq_true,decide_eq_true_eq]
    exact (List.le_total a b).imp List.not_lt.mpr List.not_lt.mpr) ps
  exact h.imp fun h=>by simpa using h
theorem sorted_unique:∀ {a b:List (List Nat)},a.Perm b→a.Pairwise (fun x y=>¬ y < x)→b.Pairwise (fun x y=>¬ y < x)→a = b
  | [],b,p,_,_=>(List.nil_perm.mp p).symm
  | x :: a,[],p,_,_=>absurd p.length_eq (by simp)
  | x :: a,y :: b,p,h1,h2=>by
    have e:x = y:=by
      have hx:x ∈ y :: b:=p.mem_iff.mp (.head _)
      have hy:y ∈ x :: a:=p.mem_iff.mpr (.head _)
      rcases List.mem_cons.mp hx with e | hx
      · exact e
      · rcases List.mem_cons.mp hy with e | hy
        · exact e.symm
        · exact List.le_antisymm (List.not_lt.mp ((List.pairwise_cons.mp h1).1 y hy)) (List.not_lt.mp ((List.pairwise_cons.mp h2).1 x hx))
    subst e
    rw [sorted_unique (List.Perm.cons_inv p) (List.pairwise_cons.mp h1).2 (List.pairwise_cons.mp h2).2]
theorem rising_all:∀ (l:List Str) (p:Str),risingS p l = true→(∀ x ∈ l,¬ x.cps.toList < p.cps.toList)∧(l.map fun x=>x.cps.toList).Pairwise fun a b=>¬ b < a
  | [],p,_=>⟨nofun,.nil⟩
  | x :: r,p,h=>by
    have h':(!PySem.Spec.ltCps x.cps.toList p.cps.toList && risingS x r) = true:=h
    simp only [Bool.and_eq_true,Bool.not_eq_true',ltCps_eq,decide_eq_false_iff_not] at h'
    refine e0_2 (rising_all r x h'.2) (fun i1 i2=>?_)
    refine ⟨fun y hy=>?_,?_⟩
    · rcases List.mem_cons.mp hy with rfl | hy
      · exact h'.1
      · exact List.not_lt.mpr (List.le_trans (List.not_lt.mp h'.1) (List.not_lt.mp (i1 y hy)))
    · rw [List.map_cons]
      refine List.pairwise_cons.mpr ⟨fun a ha=>?_,i2⟩
      (refine e1_2 (List.mem_map.mp ha) (fun y hy q3q=>?_);subst q3q)
      exact i1 y hy
theorem Ops.sortedS {ps:List (List Nat)} (hn:ps.length < 64) (hl:∀ p ∈ ps,p.length≤sizeLine):Ops S k (fun vs=>call (.builtin "sorted") vs) [.list (ps.map .str)] (.list ((sortL ps).map .str)):=by
  intro A g s vs Q E at' rs h
  cases rs using Rds.casesCons with
  | cons r1 r2 =>
    cases r2 using Rds.casesNil
    cases r1 using Rd.casesList with
    | list e hz rs =>
      rename_i a ws n
      have hlen:ws.length = ps.length:=by rw [rs.length];simp
      have hL:s.heap.IsList a ws.toArray:=⟨_,at'.keep _ _ e,rfl,n,rfl⟩
      refine wpAny_grown (sorted_strs hL rs.strsAre (by omega) fun out ss' a1 a2 a3 G=>?_)
      have em:(ss'.map fun x=>x.cps.toList) = sortL ps:=by
        refine sorted_unique ((a2.map _).trans ?_) ?_ (sortL_sorted ps)
        · rw [List.map_map]
          have:(ps.map ((fun x:Str=>x.cps.toList) ∘ fun p=>⟨p.toArray⟩)) = ps:=by simp [Function.comp_def]
          rw [this];exact (sortL_perm ps).symm
        · cases ss' with
          | nil=>exact .nil
          | cons x r =>
            refine e0_2 (rising_all r x a3) (fun i1 i2=>?_)
            rw [List.map_cons]
            refine List.pairwise_cons.mpr ⟨fun b hb=>?_,i2⟩
            (refine e1_2 (List.mem_map.mp hb) (fun y hy q4q=>?_);subst q4q)
            exact i1 y hy
      have hmem:∀ x ∈ ss',x.cps.toList.length≤sizeLine:=fun x hx=>by
        have:x.cps.toList ∈ sortL ps:=by rw [← em];exact List.mem_map_of_mem hx
        exact hl _ ((sortL_perm ps).mem_iff.mp this)
      have hol:out.toList.length≤sizeLine:=by
        have q:=(Rds.ofStrs (g:=g) a1 hmem).length
        rw [List.length_map,a2.length_eq,List.length_map] at q
        have:=sizeLine_eq
        omega
      refine e1_1 (sortedAll_at s.heap ws out) (fun c hc=>?_)
      refine e1_3 (Tr.grow (s':={ s with heap:=sortedAll s.heap ws out }) (fun _=>True) at'.keep at'.base at'.tabs (fun b o e=>sortedAll_old e) G.heap rfl rfl (Nat.le_refl _)) (fun g1 t1 hn1 _=>?_)
      have e1:g1.get? (s.heap.objs.size + 1) = some (listO out.toList c):=by
        refine hn1 _ _ ?_ (Nat.le_succ _) trivial
        rw [hc]
      refine h _ g1 _ t1 ?_
      rw [← em,List.map_map]
      exact .list e1 hol (Rds.ofStrs a1 hmem)
end
end
section
open PySem PySem.W PySem.Calls PyProof.Rows
inductive CP:List (Option Expr)→List Expr→List (Str × Str)→Prop where
  | nil:CP [] [] []
  | cons {x y:Str} {k1 k2:Nat} {p1 p2:Pos} {ks:List (Option Expr)} {vs:List Expr} {ps:List (Str × Str)}:CP ks vs ps→CP (some (.Constant (.str x) k1 p1) :: ks) (.Constant (.str y) k2 p2 :: vs) ((x,y) :: ps)
inductive KV:List (Str × Value)→List (Str × Str)→Prop where
  | nil:KV [] []
  | cons {x y:Str} {t:Tok} {kvs:List (Str × Value)} {ps:List (Str × Str)}:KV kvs ps→KV ((x,.str y t) :: kvs) ((x,y) :: ps)
theorem KV.keys {kvs:List (Str × Value)} {ps:List (Str × Str)} (h:KV kvs ps):kvs.map (·.1) = ps.map (·.1):=by
  induction h with
  | nil=>rfl
  | cons h ih=>exact congrArg (_ :: ·) ih
theorem KV.at {kvs:List (Str × Value)} {ps:List (Str × Str)} (x:Str) (h:KV kvs ps):(valueAt kvs x = Option.none∧(ps.find? fun p=>p.1 = x) = Option.none) ∨ ∃ y t,valueAt kvs x = some (.str y t)∧∃ z,(ps.find? fun p=>p.1 = x) = some (z,y):=by
  induction h with
  | nil=>exact .inl ⟨rfl,rfl⟩
  | @cons z y t kvs ps h ih =>
    by_cases e:z = x
    · refine .inr ⟨y,t,?_,z,?_⟩
      · unfold valueAt;rw [List.find?_cons_of_pos (by simpa using e)];rfl
      · rw [List.find?_cons_of_pos (by simpa using e)]
    · have e1:valueAt ((z,Value.str y t) :: kvs) x = valueAt kvs x:=by unfold valueAt;rw [List.find?_cons_of_neg (by simpa using e)]
      rw [e1,List.find?_cons_of_neg (by simpa using e)]
      exact ih
theorem CP.lens {ks:List (Option Expr)} {vs:List Expr} {ps:List (Str × Str)} (h:CP ks vs ps):ks.all (·.isSome) = true∧ks.length = vs.length∧ks.length = ps.length:=by
  induction h with
  | nil=>exact ⟨rfl,rfl,rfl⟩
  | cons h ih=>exact ⟨ih.1,congrArg (· + 1) ih.2.1,congrArg (· + 1) ih.2.2⟩
section
variable {S:Sig} {k:Nat} {f:Fi} {Γ:Ctxt} {res:Res} {sts:List Stmt} {pos p' npos:Pos} {x:Str} {i:Nat} {d:D}
theorem pairs_run {A:Around} {env:Env} {E:Value→Shared→Prop} {ks:List (Option Expr)} {vs:List Expr} {ps:List (Str × Str)} (h:CP ks vs ps) (s:Shared) (Q:List (Value × Value)→Shared→Prop)
    (hQ:∀ out kvs tk,s.toks≤tk→Carries (PySem.strKind S.prog S.w) out kvs→KV kvs ps→Q out { s with toks:=tk }):wpAny S.M A (evalPairs (pairTrees ks vs env pos)) Q E s:=by
  induction h generalizing s Q with
  | nil=>exact wpAny_pure (hQ [] [] s.toks (Nat.le_refl _) trivial .nil)
  | @cons x y k1 k2 p1 p2 ks vs ps h ih =>
    show wpAny S.M A (do let kv ← eval (.Constant (.str x) k1 p1) env;let vv ← holding [kv] (do let x ← eval (.Constant (.str y) k2 p2) env;standAt pos;pure x);return (kv,vv) :: (← holding [kv,vv] (evalPairs (pairTrees ks vs env pos)))) Q E s
    refine wpAny_bind (Constant_str (wpAny_bind (wpAny_holding (wpAny_bind (Constant_str (wpAny_bind (wpAny_standAt (wpAny_pure (wpAny_bind (wpAny_holding ?_))))))))))
    refine ih _ _ fun out kvs tk ht hc hk=>?_
    refine wpAny_pure ?_
    exact hQ _ ((x,.str y (s.toks + 1)) :: kvs) tk (Nat.le_trans (Nat.le_trans (Nat.le_succ _) (Nat.le_succ _)) ht) ⟨by simp [PySem.strKind,Value.isStrOf],rfl,hc⟩ (.cons hk)
noncomputable def DicS (S:Sig) (o:Obj) (ps:List (Str × Str)):Prop:=(o.cls = .type "dict"∧o.dict = Option.none)∧∃ kvs,o.IsDictOf (PySem.strKind S.prog S.w) kvs∧KV kvs ps
theorem EXs.dictS {keys:List (Option Expr)} {values:List Expr} {ps:List (Str × Str)} (hc:CP keys values ps) (h0:keys ≠ []) (hn:(ps.map (·.1)).Nodup) (hl:ps.length≤15) (hA:∀ (a:Addr) (o:Obj),AS S k f Γ (.Name x npos) (.obj a o) (Γ.set i (some (.val (.obj a o)))))
    (hr:∀ (a:Addr) (o:Obj),(a == sysModules) = false→DicS S o ps→EXs S k f (Γ.set i (some (.val (.obj a o)))) sts res)
    (hs:∀ env,swapsWithSole [.Name x npos] (.Dict keys values pos) p'.line env = pure false:=by intro _;rfl) (hw:∀ env,swappedStores [.Name x npos] (.Dict keys values pos) env = pure none:=by intro _;rfl)
    (ha:∀ env v,assignAll v ((assignEach [.Name x npos] env).map (·.2)) = PySem.assign (.Name x npos) env v:=by intro _ _;rfl) :
    EXs S k f Γ (.Assign [.Name x npos] (.Dict keys values pos) p' :: sts) res:=by
  intro A g W env s Q E R st hQ
  refine wpAny_execs_cons (wpAny_Assign_stores ?_ (hs env) (hw env))
  refine e0_3 (hc.lens) (fun l1 l2 l3=>?_)
  refine wpAny_grown (wpAny_Dict_walk (knd:=strKind S.prog S.w) l1 l2 h0 (by lia) ?_)
  refine pairs_run hc _ _ fun out kvs tk ht hca hk=>?_
  refine ⟨kvs,hca,⟨_,#[],0,Heap.get?_push_size _ rfl,⟨rfl,rfl,rfl⟩,rfl,?_,?_,by simp⟩,fun h' hd hsb G=>?_⟩
  · intro e he;simp at he
  · exact .nil
  rw [merged_nil_of_nodup kvs (by rw [hk.keys];exact hn)] at hd
  refine e1_2 (Heap.dictOf_iff.mp hd) (fun o ho hdo=>?_)
  have old:Keep s.heap h':=fun b x e=>(hsb.2 b (Nat.ne_of_lt (Heap.lt_size e))).trans (Heap.get?_push_of_some _ e)
  refine e1_3 (Tr.grow (s':={ s with heap:=h',toks:=tk + out.length }) (fun _=>True) st.keep st.base st.tabs old G.heap rfl rfl (Nat.le_trans ht (Nat.le_add_right _ _))) (fun g1 t1 hn1 _=>?_)
  have e1:g1.get? s.heap.objs.size = some o:=hn1 _ _ ho (Nat.le_refl _) trivial
  have hd0:(s.heap.objs.size == sysModules) = false:=beq_eq_false_iff_ne.mpr (Nat.ne_of_gt (modules_low (st.base.nolimit.keeps st.keep)))
  rw [ha env]
  refine hA s.heap.objs.size o A g1 W env _ _ _ E R (st.move t1) (.obj e1) fun g3 s3 t3 st3=>?_
  have hds:DicS S o ps:=⟨by refine e2_2 (hdo) (fun _ _ x _=>?_);exact ⟨x.1,x.2.1⟩,kvs,hdo,hk⟩
  exact hr s.heap.objs.size o hd0 hds A g3 W env s3 Q E R st3 fun fl g4 s4 t4 p4=>hQ fl g4 s4 (((t1.weak st.new).trans t3 fun _ q=>q).trans t4 fun _ q=>q) p4
noncomputable def dicGet (ps:List (Str × Str)) (key other:List Nat):List Nat:=match ps.find? fun p=>p.1 = (⟨key.toArray⟩:Str) with
  | some p=>p.2.cps.toList
  | none=>other
theorem Ops.dictGet {a:Addr} {o:Obj} {ps:List (Str × Str)} {key other:List Nat} (hd0:(a == sysModules) = false) (hd:DicS S o ps) (hl:∀ p ∈ ps,p.2.cps.toList.length≤sizeLine) :
    Ops S k (fun vs=>call (.builtin "dict.get") vs) [.obj a o,.str key,.str other] (.str (dicGet ps key other)):=by
  intro A g s vs Q E at' rs h
  cases rs using Rds.casesCons with
  | cons r1 rs =>
    cases rs using Rds.casesCons with
    | cons r2 rs =>
      cases rs using Rds.casesCons with
      | cons r3 rs =>
        cases rs using Rds.casesNil
        cases r1 using Rd.casesObj with
        | obj e =>
          cases r2 using Rd.casesStr with
          | str t ht =>
            cases r3 using Rd.casesStr with
            | str u hu =>
              obtain ⟨⟨c1,c2⟩,kvs,hdo,hk⟩:=hd
              have hdd:s.heap.DictOf (PySem.strKind S.prog S.w) a kvs:=Heap.dictOf_iff.mpr ⟨o,at'.keep _ _ e,hdo⟩
              refine call_meetsIn F.slot_dict_get ⟨o,at'.keep _ _ e,c1⟩ F.entry_dict_get (F.args_dict_get_3 _ _ _) (meets_dict_get_default (PySem.strKind S.prog S.w) (k:=⟨key.toArray⟩) a (by simp [PySem.strKind,Value.isStrOf]) hd0 (.str ⟨other.toArray⟩ u)) ⟨valueAt kvs,hdd.mapOf,?_⟩
              have fin:∀ v,Rd g v (.str (dicGet ps key other))→Q v { s with toks:=s.toks + 1 }:=fun v hv=>h v g _ (at'.tick _ (Nat.le_succ _)) hv
              show Q _ _
              unfold dicGet at fin
              rcases hk.at ⟨key.toArray⟩ with ⟨q1,q2⟩ | ⟨y,t',q1,z,q2⟩
              · rw [q1];rw [q2] at fin
                exact fin _ (.str _ u hu)
              · rw [q1];rw [q2] at fin
                refine fin _ ?_
                have:=Rd.str (g:=g) y.cps.toList t' (hl _ (List.mem_of_find?_eq_some q2))
                simpa using this
end
end
section
open PySem PySem.W PySem.Calls PyProof.Rows
theorem take_range {α:Type} (ys:List α):∀ m:Nat,(List.range m).filterMap (ys[·]?) = ys.take m
  | 0=>by simp
  | m + 1=>by
    rw [List.range_succ,List.filterMap_append,take_range ys m,List.take_add_one]
    cases h:ys[m]? <;> simp [List.filterMap_cons,h]
theorem fmap_congr {α β:Type} {f g:α→Option β}:∀ {l:List α},(∀ x ∈ l,f x = g x)→l.filterMap f = l.filterMap g
  | [],_=>rfl
  | x :: l,h=>by rw [List.filterMap_cons,List.filterMap_cons,h x (.head _),fmap_congr fun y hy=>h y (.tail _ hy)]
theorem places_rev (n:Nat):places Option.none Option.none (-1) n = (List.range n).map fun k=>n - 1 - k:=by
  unfold places sliceBounds sliceRange
  have h1:¬ ((-1:Int) > 0):=by lia
  simp only [Option.getD_some,h1,if_false]
  have h2:(if (n:Int) - 1 > -1 then ((n:Int) - 1 - -1 - -1 - 1) / (- -1) else 0).toNat = n:=by
    split
    · have:((n:Int) - 1 - -1 - -1 - 1) / (- -1) = (n:Int):=by
        have e:(n:Int) - 1 - -1 - -1 - 1 = n:=by lia
        rw [e];exact Int.ediv_one _
      rw [this];simp
    · lia
  rw [h2]
  refine List.map_congr_left fun k hk=>?_
  have:=List.mem_range.mp hk
  lia
theorem pick_rev {α:Type} (xs:List α):pickBy (places Option.none Option.none (-1) xs.length) xs = xs.reverse:=by
  unfold pickBy
  rw [places_rev,List.filterMap_map]
  have e:(List.range xs.length).filterMap ((fun x=>xs[x]?) ∘ fun k=>xs.length - 1 - k) = (List.range xs.length).filterMap fun k=>xs.reverse[k]?:=by
    refine fmap_congr fun k hk=>?_
    have hk:=List.mem_range.mp hk
    show xs[xs.length - 1 - k]? = _
    rw [List.getElem?_reverse hk]
  rw [e,take_range,List.take_of_length_le (by simp)]
section
variable {S:Sig} {k:Nat} {f:Fi} {Γ:Ctxt}
theorem rep_flat (v:Value):∀ n:Nat,List.foldl (fun x1 x2:Array Value=>x1 ++ x2) #[] (List.replicate n #[v]) = (List.replicate n v).toArray:=by
  have key:∀ (n:Nat) (a:List Value),List.foldl (fun x1 x2:Array Value=>x1 ++ x2) a.toArray (List.replicate n #[v]) = (a ++ List.replicate n v).toArray:=by
    intro n
    induction n with
    | zero=>intro a;simp
    | succ n ih =>
      intro a
      rw [List.replicate_succ,List.foldl_cons]
      have:=ih (a ++ [v])
      rw [show a.toArray ++ #[v] = (a ++ [v]).toArray by simp]
      rw [this];simp [List.replicate_succ]
  intro n
  simpa using key n []
theorem Rds.replicate {g:Heap} {v:Value} {d:D} (h:Rd g v d):∀ n:Nat,Rds g (List.replicate n v) (List.replicate n d)
  | 0=>.nil
  | n + 1=>.cons h (Rds.replicate h n)
theorem wp_mulList {A:Around} {E:Value→Shared→Prop} {s:Shared} {l:Addr} {items:Array Value} {m:Nat} {x:Int} {u:Tok} {Q:Value→Shared→Prop}
    (hl:s.heap.get? l = some { cls:=.type "list",dict:=Option.none,data:=.seq items m,slots:=#[] })
    (h1:¬(!Builtin.List.listFitsIndex x) = true) (h2:¬items.size * x.toNat > (2 ^ 63 - 1) / 8) (h3:¬Builtin.List.listTooLong (items.size * x.toNat) = true)
    (h:Q (.ref s.heap.objs.size) { s with heap:=s.heap.push { cls:=.type "list",data:=.seq (List.foldl (fun x1 x2=>x1 ++ x2) #[] (List.replicate (if items.isEmpty = true then 0 else x.toNat) items)) } }) :
    wpAny S.M A (binaryOp .Mult (.ref l) (.int x u)) Q E s :=
  wpAny_binaryOp_repeat_ref (T:="list") (U:="int") (by decide) ⟨_,hl,rfl⟩ (fun s'=>typeIs_int s' x u) noFill_list_mul F.fills_int_mul F.slot_int_rmul repeat_list F.slot_int_index.lookup
    (call_meets F.slot_int_rmul (typeIs_int s x u) F.entry_int_rmul (F.args_int_rmul_2 _ _) (int___rmul___int_list x u l items m)
      ⟨hl,rfl,⟨_,hl,rfl⟩,call_meets F.slot_list_mul ⟨_,hl,rfl⟩ F.entry_list_mul (F.args_list_mul_2 _ _)
        (AutoListH.list___mul___list_int_3 l items m x u h1 h2 h3) ⟨hl,h⟩⟩)
theorem Op2.mulL {d:D} {n:Nat} (hn:n≤100000):Op2 S k (binaryOp .Mult) (.list [d]) (.int (n:Int)) (.list (List.replicate n d)):=by
  intro A g s v₁ v₂ Q E at' r1 r2 h
  have hz:=sizeLine_eq
  cases r2 using Rd.casesInt with
  | int u =>
    cases r1 using Rd.casesList with
    | list e hl rs =>
      rename_i a vs m
      cases rs using Rds.casesCons with
      | cons r rs =>
        cases rs using Rds.casesNil
        rename_i v
        have hl:=at'.keep _ _ e
        have f1:¬(!Builtin.List.listFitsIndex (n:Int)) = true:=by
          have:Builtin.List.listFitsIndex (n:Int) = true:=by
            unfold Builtin.List.listFitsIndex
            rw [decide_eq_true (by lia),decide_eq_true (by lia)];rfl
          rw [this];decide
        have f0:([v]:List Value).toArray.size * (n:Int).toNat = n:=by
          show 1 * (n:Int).toNat = n
          rw [Nat.one_mul];exact Int.toNat_natCast n
        have f2:¬([v]:List Value).toArray.size * (n:Int).toNat > (2 ^ 63 - 1) / 8:=by rw [f0];lia
        have f3:¬Builtin.List.listTooLong (([v]:List Value).toArray.size * (n:Int).toNat) = true:=by
          rw [f0];unfold Builtin.List.listTooLong
          rw [decide_eq_false (by lia)];decide
        have e1:(List.foldl (fun x1 x2:Array Value=>x1 ++ x2) #[] (List.replicate (if ([v]:List Value).toArray.isEmpty = true then 0 else (n:Int).toNat) ([v]:List Value).toArray)) = (List.replicate n v).toArray:=by
          rw [if_neg (by simp)]
          exact rep_flat v n
        refine e1_2 (at'.push (listO (List.replicate n v) 0) (t:=s.toks) (ht:=Nat.le_refl _)) (fun g1 t1 e2=>?_)
        have fin:=h _ g1 _ t1 (.list e2 (by simp;lia) (Rds.replicate (r.mono t1.mono) n))
        refine wp_mulList hl f1 f2 f3 ?_
        rw [e1]
        exact fin
theorem OwnOp.extend {xs ys:List D} (hz:xs.length + ys.length≤100000):OwnOp S k (fun o vs=>PySem.call (.builtin "list.extend") (o :: vs)) xs [.list ys] (xs ++ ys) .none:=by
  intro A g s a vs n args Q E at' ho hl rs ra hQ
  have hsz:=sizeLine_eq
  cases ra using Rds.casesCons with
  | cons r1 r2 =>
    cases r2 using Rds.casesNil
    cases r1 using Rd.casesList with
    | list e hl2 rs2 =>
      rename_i b ws m
      have l1:=rs.length
      have l2:=rs2.length
      refine call_meets PySem.F.slot_list_extend ⟨_,ho,rfl⟩ PySem.F.entry_list_extend (PySem.F.args_list_extend_2 _ _) (PySem.AutoSeq1.list_extend_list_list_0 a vs.toArray n b ws.toArray m (by simp [Builtin.List.listTooLong];lia) (by simpa using hl) (by simp;lia)) ⟨ho,at'.keep _ _ e,?_⟩
      have q:=PySem.IsL.update (n:=n) ho (fun x=>x ++ ws.toArray)
      rw [show vs.toArray ++ ws.toArray = (vs ++ ws).toArray by simp] at q
      exact hQ .none _ (vs ++ ws) _ s.toks q (Heap.SameBut.update ..) (by simp;lia) (rs.append rs2) (Nat.le_refl _) (.raw _)
end
end
section
open PySem PySem.W PySem.Calls PyProof.Rows
noncomputable abbrev Gh:=List (Addr × List D)
noncomputable def Off (G:Gh) (b:Addr):Prop:=∀ p ∈ G,p.1 ≠ b
structure GSt (S:Sig) (f:Fi) (Γ:Ctxt) (G:Gh) (g:Heap) (W:Addr→Prop) (env:Env) (s:Shared):Prop where
  st:St S f Γ g (fun b=>W b∧Off G b) env s
  own:∀ p ∈ G,OwnList g s.heap W p.1 p.2
  nd:(G.map Prod.fst).Nodup
inductive GRes where
  | next (P:Ctxt→Gh→Prop)
  | ret (d:D)
noncomputable def GPost (S:Sig) (f:Fi) (r:GRes) (g:Heap) (W:Addr→Prop) (env:Env) (fl:Flow) (s:Shared):Prop :=
  match r with
  | .next P=>fl = .next∧∃ Γ G,P Γ G∧GSt S f Γ G g W env s
  | .ret d=>∃ v,fl = .ret v∧Rd g v d
noncomputable def GX (S:Sig) (k:Nat) (f:Fi) (Γ:Ctxt) (G:Gh) (st:Stmt) (r:GRes):Prop :=
  ∀ (A:Around) (g:Heap) (W:Addr→Prop) (env:Env) (s:Shared) (Q:Flow→Shared→Prop) (E:Value→Shared→Prop),Room S k A→GSt S f Γ G g W env s →
    (∀ fl g' s',Tr S W g s g' s'→GPost S f r g' W env fl s'→Q fl s')→wpAny S.M A (exec st env) Q E s
noncomputable def GXs (S:Sig) (k:Nat) (f:Fi) (Γ:Ctxt) (G:Gh) (sts:List Stmt) (r:GRes):Prop :=
  ∀ (A:Around) (g:Heap) (W:Addr→Prop) (env:Env) (s:Shared) (Q:Flow→Shared→Prop) (E:Value→Shared→Prop),Room S k A→GSt S f Γ G g W env s →
    (∀ fl g' s',Tr S W g s g' s'→GPost S f r g' W env fl s'→Q fl s')→wpAny S.M A (execs sts env) Q E s
noncomputable def GE (S:Sig) (k:Nat) (f:Fi) (Γ:Ctxt) (G:Gh) (e:Expr) (a:Addr):Prop :=
  ∀ (A:Around) (g:Heap) (W:Addr→Prop) (env:Env) (s:Shared) (Q:Value→Shared→Prop) (E:Value→Shared→Prop),Room S k A→GSt S f Γ G g W env s →
    (∀ g' s',Tr S (Nw s) g s g' s'→Q (.ref a) s')→wpAny S.M A (eval e env) Q E s
noncomputable def setG (a:Addr) (xs:List D) (G:Gh):Gh:=G.map fun p=>if p.1 = a then (a,xs) else p
theorem setG_fst (a:Addr) (xs:List D) (G:Gh):(setG a xs G).map Prod.fst = G.map Prod.fst:=by
  unfold setG
  rw [List.map_map]
  refine List.map_congr_left fun p _=>?_
  by_cases h:p.1 = a <;> simp [h]
theorem Off.of_fst {G G':Gh} {b:Addr} (h:Off G b) (e:∀ x,x ∈ G'.map Prod.fst→x ∈ G.map Prod.fst):Off G' b:=fun p hp q=>by
  refine e1_2 (List.mem_map.mp (e _ (List.mem_map_of_mem hp))) (fun p' hp' e'=>?_)
  exact h p' hp' (e'.trans q)
section
variable {S:Sig} {k:Nat} {f:Fi} {Γ Γ':Ctxt} {G G':Gh} {g g':Heap} {W V:Addr→Prop} {env:Env} {s s':Shared} {P:Ctxt→Gh→Prop} {r:GRes} {st:Stmt} {sts body orelse:List Stmt} {pos p':Pos} {e:Expr} {es:List Expr} {d:D} {ds:List D}
theorem GSt.new (h:GSt S f Γ G g W env s):∀ a,Nw s a→W a:=fun a q=>(h.st.wide a q).1
theorem GSt.move (h:GSt S f Γ G g W env s) (t:Tr S (Nw s) g s g' s'):GSt S f Γ G g' W env s' :=
  ⟨h.st.move t,fun p hp=>t.ownList h.st.tabs (h.own p hp) (Nat.not_le.mpr (h.own p hp).lt),h.nd⟩
theorem GSt.step (h:GSt S f Γ G g W env s) (t:Tr S (fun b=>W b∧Off G b) g s g' s') (st':St S f Γ' g' (fun b=>W b∧Off G b) env s'):GSt S f Γ' G g' W env s' :=
  ⟨st',fun p hp=>t.ownList h.st.tabs (h.own p hp) (fun q=>q.2 p hp rfl),h.nd⟩
theorem GSt.perm (h:GSt S f Γ G g W env s) (p:G'.Perm G):GSt S f Γ G' g W env s :=
  ⟨h.st.widen fun b q=>⟨q.1,fun x hx=>q.2 x (p.mem_iff.mp hx)⟩,fun x hx=>h.own x (p.mem_iff.mp hx),(p.map _).nodup_iff.mpr h.nd⟩
theorem GX.lift (h:EX S k f Γ st (.next Γ')) (hP:P Γ' G):GX S k f Γ G st (.next P):=by
  intro A g W env s Q E R gs hQ
  refine h A g _ env s Q E R gs.st fun fl g' s' t p=>?_
  (refine e0_2 (p) (fun q1q st'=>?_);subst q1q)
  exact hQ _ g' s' (t.weak fun a q=>q.1) ⟨rfl,Γ',G,hP,gs.step t st'⟩
theorem GXs.nil (hP:P Γ G):GXs S k f Γ G [] (.next P):=by
  intro A g W env s Q E R gs hQ
  exact wpAny_execs_nil (hQ _ g s ((gs.st.at R).refl _) ⟨rfl,Γ,G,hP,gs⟩)
theorem GXs.cons (h1:GX S k f Γ G st (.next P)) (h2:∀ Γ' G',P Γ' G'→GXs S k f Γ' G' sts r):GXs S k f Γ G (st :: sts) r:=by
  intro A g W env s Q E R gs hQ
  refine wpAny_execs_cons (h1 A g W env s _ E R gs fun fl g1 s1 t1 p1=>?_)
  obtain ⟨rfl,Γ',G',hP,gs1⟩:=p1
  exact h2 Γ' G' hP A g1 W env s1 Q E R gs1 fun fl g2 s2 t2 p2=>hQ fl g2 s2 (t1.trans t2 (fun _ q=>q)) p2
theorem GXs.seq (h1:EX S k f Γ st (.next Γ')) (h2:GXs S k f Γ' G sts r):GXs S k f Γ G (st :: sts) r :=
  .cons (P:=fun a b=>a = Γ'∧b = G) (.lift h1 ⟨rfl,rfl⟩) fun _ _ h=>by (refine e0_2 (h) (fun q3q q4q=>?_);subst q3q;subst q4q);exact h2
theorem GX.ifB {c:Expr} {b:Bool} (h1:TV S k f Γ c b) (h2:(b = true∧GXs S k f Γ G body r) ∨ (b = false∧GXs S k f Γ G orelse r)):GX S k f Γ G (.If c body orelse pos) r:=by
  intro A g W env s Q E R gs hQ
  refine wpAny_If (h1 A g _ env s _ E R gs.st fun g1 s1 t1=>?_)
  rcases h2 with ⟨rfl,h⟩ | ⟨rfl,h⟩
  · exact h A g1 W env s1 Q E R (gs.move t1) fun fl g2 s2 t2 p2=>hQ fl g2 s2 ((t1.weak gs.new).trans t2 (fun _ q=>q)) p2
  · exact h A g1 W env s1 Q E R (gs.move t1) fun fl g2 s2 t2 p2=>hQ fl g2 s2 ((t1.weak gs.new).trans t2 (fun _ q=>q)) p2
theorem FG.code {tg:Expr} {I:Addr} {F:Addr→Prop} (P:List D→Ctxt→Gh→Prop)
    (hb:∀ d ds Γ G,P (d :: ds) Γ G→∃ Γ₁,AS S k f Γ tg d Γ₁∧GXs S k f Γ₁ G body (.next (P ds))) :
    ∀ (ds:List D) (Γ:Ctxt) (G:Gh),P ds Γ G→∀ (A:Around) (g:Heap) (W:Addr→Prop) (env:Env) (s:Shared) (R:Result→Shared→Prop),Room S k A→GSt S f Γ G g W env s→(∀ a,F a→¬ W a)→(∀ x c,env.cells.lookup x = some c→¬ F c)→(∀ a,F a→g.get? a = Option.none)→(∀ a,F a→¬ S.T a) →
      Yl S k F I tg ds g s→(∀ r g' s',Tr S (fun a=>W a ∨ F a) g s g' s'→GPost S f (.next (P [])) g' W env r s'→R (.ok r) s')→codeAny S.M A (.forLoop tg (.ref I) body [] env) R s:=by
  intro ds
  induction ds with
  | nil =>
    intro Γ G hP A g W env s R Rm gs hW hc hg hT y hR
    refine codeAny_of_tree ?_
    rw [under_for]
    refine forTurn_ok ?_
    unfold forTurn
    refine wpAny_bind (wpAny_standAt (wpAny_bind (wpAny_onRaise ?_)))
    refine y A g s _ _ (gs.st.at Rm) (.refl g) (.refl F s) hg fun g₁ s₁ t₁=>?_
    refine wpAny_pure ⟨rfl,codeAny_block (wpAny_execs_nil ?_)⟩
    refine hR _ g₁ s₁ (t₁.weak fun a=>Or.imp (gs.new a) id) ⟨rfl,Γ,G,hP,gs.st.moveF t₁ (fun a h q=>hW a h q.1) hc,fun p hp=>t₁.ownList gs.st.tabs (gs.own p hp) fun q=>q.elim (Nat.not_le.mpr (gs.own p hp).lt) fun q=>?_,gs.nd⟩
    refine e2_5 (gs.own p hp) (fun _ _ _ _ _ _ w=>?_)
    exact hW _ q w
  | cons d ds ih =>
    intro Γ G hP A g W env s R Rm gs hW hc hg hT y hR
    refine e1_2 (hb d ds Γ G hP) (fun Γ₁ has hbd=>?_)
    refine codeAny_of_tree ?_
    rw [under_for]
    refine forTurn_ok ?_
    unfold forTurn
    refine wpAny_bind (wpAny_standAt (wpAny_bind (wpAny_onRaise ?_)))
    have hW':∀ a,F a→¬ (W a∧Off G a):=fun a h q=>hW a h q.1
    refine y A g s _ _ (gs.st.at Rm) (.refl g) (.refl F s) hg fun v g₁ s₁ t₁ hg₁ hass=>?_
    have own₁:∀ p ∈ G,OwnList g₁ s₁.heap W p.1 p.2:=fun p hp=>t₁.ownList gs.st.tabs (gs.own p hp) fun q=>q.elim (Nat.not_le.mpr (gs.own p hp).lt) fun q=>by
      refine e2_5 (gs.own p hp) (fun _ _ _ _ _ _ w=>?_)
      exact hW _ q w
    have st₁:=gs.st.moveF t₁ hW' hc
    dsimp only
    refine bind_assoc' (hass f _ _ _ env _ _ has st₁ hW' hc fun g₂ s₂ t₂ hg₂ hfr st₂ y₂=>?_)
    have own₂:∀ p ∈ G,OwnList g₂ s₂.heap W p.1 p.2:=fun p hp=>t₂.ownList st₁.tabs (own₁ p hp) fun q=>q.elim (fun q=>q.2 p hp rfl) fun q=>by
      refine e2_5 (own₁ p hp) (fun _ _ _ _ _ _ w=>?_)
      exact hW _ q w
    refine wpAny_bind (hbd A g₂ W env s₂ _ _ Rm ⟨st₂,own₂,gs.nd⟩ fun fl g₃ s₃ t₃ p₃=>?_)
    obtain ⟨rfl,Γ₃,G₃,hP₃,gs₃⟩:=p₃
    have sm:Same F s₂ s₃:=t₃.keepF st₂.tabs fun a o h e=>⟨hW a h,fun _ _=>hT a h,hfr a o h e⟩
    refine wpAny_pure ⟨rfl,ih Γ₃ G₃ hP₃ A g₃ W env s₃ R Rm gs₃ hW hc (fun a h=>t₃.none (hg₂ a h) (hW a h)) hT (y₂.mono t₃.mono sm) fun r g₄ s₄ t₄ p₄=>?_⟩
    refine hR r g₄ s₄ (((t₁.weak fun a=>Or.imp (gs.new a) id).trans t₂ fun _ q=>q.imp And.left id).trans t₃ (fun _=>.inl) |>.trans t₄ fun _ q=>q) p₄
theorem GX.for {iter tg:Expr} (P:List D→Ctxt→Gh→Prop) (h1:EV S k f Γ iter d) (h2:It S k d tg ds) (hP:P ds Γ G)
    (hb:∀ d ds Γ G,P (d :: ds) Γ G→∃ Γ₁,AS S k f Γ tg d Γ₁∧GXs S k f Γ₁ G body (.next (P ds))) (hs:∀ env x,foldedSetIterable iter env x = pure x:=by intro _ _;rfl):GX S k f Γ G (.For tg iter body [] pos) (.next (P [])):=by
  intro A g W env s Q E R gs hQ
  refine wpAny_For (h1 A g _ env s _ E R gs.st fun v g₁ s₁ t₁ r₁=>h2 A g₁ s₁ v _ E (t₁.at R) r₁ fun I F g₂ s₂ t₂ hF _ y=>?_) (hs env)
  have gs₁:=gs.move t₁
  have gs₂:=gs₁.move t₂
  have st₂:=gs₁.st.without t₂ fun a h=>⟨(hF a h).1,(hF a h).2.2⟩
  have hc:∀ x c,env.cells.lookup x = some c→¬ F c:=fun x c e h=>absurd (gs₁.st.clt x c e) (Nat.not_lt.mpr (hF c h).1)
  have hT:∀ a,F a→¬ S.T a:=fun a h=>gs₁.st.tabs.newT (hF _ h).1
  have gs₃:GSt S f Γ G g₂ (fun a=>W a∧¬ F a) env s₂:=⟨st₂.widen fun b q=>⟨⟨q.1.1,q.2⟩,q.1.2⟩,fun p hp=>by
    refine e2_5 (gs₂.own p hp) (fun vs n a1 a2 a3 a4 a5=>?_)
    exact ⟨vs,n,a1,a2,a3,a4,a5,fun q=>Nat.not_le.mpr (gs₁.own p hp).lt (hF _ q).1⟩,gs.nd⟩
  refine FG.code P hb ds Γ G hP A g₂ _ env s₂ _ R gs₃ (fun a h q=>q.2 h) hc (fun a h=>(hF a h).2.1) hT y fun r g₃ s₃ t₃ p₃=>?_
  have inW:∀ a,(W a∧¬ F a) ∨ F a→W a:=fun a q=>q.elim And.left fun h=>gs₁.new a (hF a h).1
  refine hQ r g₃ s₃ (((t₁.then t₂).weak gs.new).trans t₃ inW) ?_
  obtain ⟨rfl,Γ₃,G₃,q1,q2⟩:=p₃
  refine ⟨rfl,Γ₃,G₃,q1,q2.st.widen fun b q=>⟨q.1.1,q.2⟩,fun p hp=>?_,q2.nd⟩
  refine e2_5 (q2.own p hp) (fun vs n a1 a2 a3 a4 a5=>?_)
  exact ⟨vs,n,a1,a2,a3,a4,a5.1⟩
theorem St.ghost {a:Addr} {vs:List Value} {n:Nat} (st:St S f Γ g V env s) (ho:s.heap.get? a = some (listO vs n)) (hv:¬ V a) :
    ∃ g',Tr S (fun b=>b = a) g s g' s∧g'.get? a = some (listO vs n)∧(∀ b,b ≠ a→g'.get? b = g.get? b)∧St S f Γ g' V env s:=by
  refine e1_3 (Tr.take (W:=fun b=>b = a) st.keep st.base st.tabs ho (st.tabs.notT ho nofun) rfl) (fun g' t h1 h2=>?_)
  refine e2_5 (st.vars) (fun m ad hns hb hg hH hI=>?_)
  have ne:∀ {b},V b→b ≠ a:=fun h q=>hv (q ▸ h)
  refine ⟨g',t,h1,h2,t.keep,t.base,t.now,st.envIs,st.wide,st.clt,m,ad,hns,hb,by rw [h2 _ (ne hb)];exact hg,fun i x b hy hb'=>?_,hI⟩
  exact (hH i x b hy hb').go t.mono (fun _ e=>e) (fun _ _ _ h=>h) (fun _ _=>⟨rfl,fun _ _ e1 e2 e3=>⟨e1,(h2 _ (ne e3)).trans e2,e3⟩⟩) (fun _ _=>rfl) fun _ _ _ _ h6 h7=>⟨(h2 _ (ne h7)).trans h6,h7⟩
theorem St.retype {j:Nat} {v:Value} (st:St S f Γ g V env s) (hj:Γ[j]? = some (some (.val (.raw v)))) (hr:Rd g v d):St S f (Γ.set j (some (.val d))) g V env s:=by
  refine e2_5 (st.vars) (fun m ad hns hb hg hH hI=>?_)
  refine ⟨st.keep,st.base,st.tabs,st.envIs,st.wide,st.clt,m,ad,hns,hb,hg,fun i x b hy hb'=>?_,inj_set nofun hI⟩
  · rcases get_set hb' with ⟨rfl,rfl⟩ | ⟨hi,hb''⟩
    · refine e1_2 (hH i x _ hy hj) (fun v' hv r=>?_)
      cases r using Rd.casesRaw
      exact ⟨v,hv,hr⟩
    · exact hH i x b hy hb''
theorem GE.name {x:Str} {a:Addr} {j:Nat} (h:EV S k f Γ e (.raw (.ref a))):GE S k f Γ G e a:=by
  intro A g W env s Q E R gs hQ
  refine h A g _ env s Q E R gs.st fun v g' s' t r=>?_
  cases r using Rd.casesRaw
  exact hQ g' s' t
theorem GE.borrow {a b:Addr} {xs:List D} {j:Nat} (hj:Γ[j]? = some (some (.val (.raw (.ref b))))) (hm:(b,xs) ∈ G) (h:EV S k f (Γ.set j (some (.val (.list xs)))) e (.raw (.ref a))):GE S k f Γ G e a:=by
  intro A g W env s Q E R gs hQ
  refine e2_5 (gs.own _ hm) (fun vs n ho hz rs hn hw=>?_)
  refine e1_4 (gs.st.ghost ho fun q=>q.2 _ hm rfl) (fun g' t h1 h2 st'=>?_)
  refine h A g' _ env s Q E R (st'.retype hj (.list h1 hz (rs.mono t.mono))) fun v g₂ s₂ t₂ r₂=>?_
  (refine e1_1 (Tr.drop gs.st.base hn h2 (fun o e=>by rw [h1] at e;cases e;nofun) (by rw [h1];nofun) t₂) (fun g₃ t₃=>?_))
  cases r₂ using Rd.casesRaw
  exact hQ g₃ s₂ t₃
theorem GSt.upd {a:Addr} {xs xs':List D} {h':Heap} {vs':List Value} {n' t:Nat} (gs:GSt S f Γ G g W env s) (hm:(a,xs) ∈ G) (e1:h'.get? a = some (listO vs' n')) (hs:Heap.SameBut a s.heap h') (hz':vs'.length≤sizeLine) (rs':Rds g vs' xs') (ht:s.toks≤t) :
    Tr S W g s g { s with heap:=h',toks:=t }∧GSt S f Γ (setG a xs' G) g W env { s with heap:=h',toks:=t }:=by
  refine e2_5 (gs.own _ hm) (fun vs n ho hz rs hn hw=>?_)
  have T:Tr S W g s g { s with heap:=h',toks:=t }:=Tr.set gs.st.keep gs.st.base gs.st.tabs hs hw hn (gs.st.tabs.notT ho nofun) ht
  have neV:∀ {b},(W b∧Off G b)→b ≠ a:=fun q z=>q.2 _ hm z.symm
  refine ⟨T,St.widen (V:=fun b=>W b∧Off G b) ?_ (fun b q=>⟨q.1,q.2.of_fst fun x hx=>by rwa [setG_fst] at hx⟩),fun p hp=>?_,by rw [setG_fst];exact gs.nd⟩
  · refine e2_5 (gs.st.vars) (fun m ad hns hb hg hH hI=>?_)
    refine ⟨T.keep,gs.st.base,T.now,gs.st.envIs,fun b l=>gs.st.wide b (Nat.le_trans T.size l),fun y c e=>Nat.lt_of_lt_of_le (gs.st.clt y c e) T.size,m,ad,ns_away hns hs ho nofun,hb,hg,fun i y b hy hb'=>?_,hI⟩
    exact (hH i y b hy hb').go (fun _ _ e=>e) (fun _ e=>e) (fun _ _ _ hc=>hc.sameBut hs (e1_1 hc fun o e1=>ne_get ho e1.1 fun q=>by rw [q] at e1;cases e1.2))
      (fun _ _=>⟨rfl,fun _ _ a1 a2 a3=>⟨(hs.2 _ (neV a3)).trans a1,a2,a3⟩⟩) (fun _ _=>rfl) fun _ _ _ _ h4 h5=>⟨h4,h5⟩
  · unfold setG at hp
    (refine e1_2 (List.mem_map.mp hp) (fun q hq q8q=>?_);subst q8q)
    by_cases hqa:q.1 = a
    · rw [if_pos hqa]
      exact ⟨vs',n',e1,hz',rs',hn,hw⟩
    · rw [if_neg hqa]
      refine e2_2 (gs.own q hq) (fun vs₂ n₂ a3 a4=>?_)
      exact ⟨vs₂,n₂,(hs.2 _ hqa).trans a3,a4⟩
theorem GSt.push {vs:List Value} {xs:List D} {t:Nat} (gs:GSt S f Γ G g W env s) (hz:vs.length≤sizeLine) (rs:Rds g vs xs) (ht:s.toks≤t) :
    ∃ g',Tr S (Nw s) g s g' { s with heap:=s.heap.push (listO vs 0),toks:=t }∧GSt S f Γ ((s.heap.objs.size,xs) :: G) g' W env { s with heap:=s.heap.push (listO vs 0),toks:=t }:=by
  have old:Keep s.heap (s.heap.push (listO vs 0)):=fun b o e=>Heap.get?_push_of_some _ e
  refine e1_3 (Tr.grow (s':={ s with heap:=s.heap.push (listO vs 0),toks:=t }) (fun _=>False) gs.st.keep gs.st.base gs.st.tabs old (by simp) rfl rfl ht) (fun g1 t1 _ hno=>?_)
  have ha:s.heap.objs.size < (s.heap.push (listO vs 0)).objs.size:=by simp
  have st1:=gs.st.without (F:=fun b=>b = s.heap.objs.size) t1 fun b q=>by subst q;exact ⟨Nat.le_refl _,ha⟩
  refine ⟨g1,t1,st1.widen fun b q=>⟨q.1.1,fun p hp=>?_⟩,fun p hp=>?_,?_⟩
  · rcases List.mem_cons.mp hp with rfl | hp
    · exact fun z=>q.2 z.symm
    · exact q.1.2 p hp
  · rcases List.mem_cons.mp hp with rfl | hp
    · exact ⟨vs,0,Heap.get?_push_size _ rfl,hz,rs.mono t1.mono,hno _ (Nat.le_refl _) id,gs.new _ (Nat.le_refl _)⟩
    · exact t1.ownList gs.st.tabs (gs.own p hp) (Nat.not_le.mpr (gs.own p hp).lt)
  · rw [List.map_cons,List.nodup_cons]
    refine ⟨fun h=>?_,gs.nd⟩
    refine e1_2 (List.mem_map.mp h) (fun p hp e=>?_)
    exact Nat.ne_of_lt (gs.own p hp).lt e
theorem GX.meth {o:Expr} {name:Str} {apos:Pos} {id:String} {a:Addr} {xs xs':List D} (slot:Slot "list" name id) (hty:typeOf (.builtin id) = pure (.type "method_descriptor")) (h1:GE S k f Γ G o a) (hm:(a,xs) ∈ G)
    (h2:EVs S k f Γ es ds) (h3:OwnOp S k (fun o vs=>PySem.call (.builtin id) (o :: vs)) xs ds xs' d) (hP:(G.map Prod.fst).Nodup→P Γ (setG a xs' G))
    (hbase:∀ env,attributeBase o name env (eval o env) = eval o env:=by intro _;rfl)
    (hline:(apos.endLine == pos.line) = true:=by rfl)
    (hfew:∀ env,((backTo pos (starEach es env)).all (fun x=>!x.1) && (backToKw pos (keywordEach [] env)).all (fun x=>x.1.isSome)
      && decide (es.length + ([]:List Keyword).length + (if ([]:List Keyword).isEmpty then 0 else 1) < 30)) = true:=by intro _;rfl)
    (hs:∀ env,swapsWith (.Call (.Attribute o name apos) es [] pos) none p'.line env = pure false:=by intro _;rfl) :
    GX S k f Γ G (.Expr (.Call (.Attribute o name apos) es [] pos) p') (.next P):=by
  intro A g W env s Q E R gs hQ
  refine wpAny_Expr_any ?_ (not_interactive gs.st.envIs) (hs env)
  refine wpAny_Call_method (T:="list") (id:=id) (hbase env) (hfew env) hline PySem.F.plainAttrs_list slot hty ?_
  refine h1 A g W env s _ E R gs fun g1 s1 t1=>?_
  have gs1:=gs.move t1
  refine e2_5 (gs1.own _ hm) (fun vs n ho hz rs hn hw=>?_)
  refine ⟨⟨_,ho,rfl⟩,fun a' q=>by cases q;exact ⟨_,ho,rfl⟩,?_⟩
  refine callWith_of (P:=fun h=>S.K.In h) (by show ((backTo pos (starEach es env)).any (·.1) || false) = false;rw [h2.plain];rfl) (Callee.builtin (S:=S)) ?_
  refine evalArgs_any (h2.plain _ _) (h2.run pos A g1 _ env s1 _ E R gs1.st fun args g2 s2 t2 r2=>⟨t2.base.kin.keeps t2.keep,?_⟩)
  have gs2:=gs1.move t2
  refine e2_5 (gs2.own _ hm) (fun vs2 n2 ho2 hz2 rs2 hn2 hw2=>?_)
  refine h3 A g2 s2 a _ _ args _ E (t2.at R) ho2 hz2 rs2 r2 fun v h' vs' n' t' e1 e2 e3 e4 e5 _=>?_
  refine e0_2 (gs2.upd hm e1 e2 e3 e4 e5) (fun T gs3=>?_)
  exact hQ _ g2 _ (((t1.then t2).weak gs.new).trans T fun _ q=>q) ⟨rfl,Γ,_,hP gs.nd,gs3⟩
theorem GX.appendNew {o:Expr} {apos lp:Pos} {a:Addr} {xs:List D} (h1:GE S k f Γ G o a) (hm:(a,xs) ∈ G) (hz:xs.length < sizeLine)
    (hP:∀ b,Off G b→(G.map Prod.fst).Nodup→∃ G',G'.Perm (setG a (xs ++ [.raw (.ref b)]) ((b,[]) :: G))∧P Γ G')
    (hbase:∀ env,attributeBase o "append" env (eval o env) = eval o env:=by intro _;rfl)
    (hline:(apos.endLine == pos.line) = true:=by rfl)
    (hfew:∀ env,((backTo pos (starEach [.List [] lp] env)).all (fun x=>!x.1) && (backToKw pos (keywordEach [] env)).all (fun x=>x.1.isSome)
      && decide (([.List [] lp]:List Expr).length + ([]:List Keyword).length + (if ([]:List Keyword).isEmpty then 0 else 1) < 30)) = true:=by intro _;rfl)
    (hst:∀ env,backTo pos (starEach [.List [] lp] env) = [(false,eval (.List [] lp) env)]:=by intro _;rfl)
    (hs:∀ env,swapsWith (.Call (.Attribute o "append" apos) [.List [] lp] [] pos) none p'.line env = pure false:=by intro _;rfl) :
    GX S k f Γ G (.Expr (.Call (.Attribute o "append" apos) [.List [] lp] [] pos) p') (.next P):=by
  intro A g W env s Q E R gs hQ
  refine wpAny_Expr_any ?_ (not_interactive gs.st.envIs) (hs env)
  refine wpAny_Call_method (T:="list") (id:="list.append") (hbase env) (hfew env) hline PySem.F.plainAttrs_list PySem.F.slot_list_append PySem.F.type_list_append ?_
  refine h1 A g W env s _ E R gs fun g1 s1 t1=>?_
  have gs1:=gs.move t1
  refine e2_5 (gs1.own _ hm) (fun vs n ho _ rs hn hw=>?_)
  refine ⟨⟨_,ho,rfl⟩,fun a' q=>by cases q;exact ⟨_,ho,rfl⟩,?_⟩
  refine callWith_of (P:=fun h=>S.K.In h) (by rw [hst];rfl) (Callee.builtin (S:=S)) ?_
  rw [hst]
  refine evalArgs_any rfl (spliced_cons (wpAny_List_spliced (spliced_nil ⟨by decide,spliced_nil ?_⟩)))
  refine e1_2 (gs1.push (vs:=[]) (xs:=[]) (t:=s1.toks) (Nat.zero_le _) .nil (Nat.le_refl _)) (fun g2 t2 gs2=>?_)
  refine ⟨t2.base.kin.keeps t2.keep,?_⟩
  refine e2_5 (gs2.own _ (List.mem_cons_of_mem _ hm)) (fun vs2 n2 ho2 hz2 rs2 hn2 hw2=>?_)
  refine (OwnOp.append (S:=S) (k:=k) (d:=.raw (.ref s1.heap.objs.size)) hz) A g2 _ a _ _ [.ref s1.heap.objs.size] _ E (t2.at R) ho2 hz2 rs2 (.cons (.raw _) .nil) fun v h' vs' n' t' e1 e2 e3 e4 e5 _=>?_
  refine e0_2 (gs2.upd (List.mem_cons_of_mem _ hm) e1 e2 e3 e4 e5) (fun T gs3=>?_)
  refine e1_2 (hP s1.heap.objs.size (fun p hp=>Nat.ne_of_lt (gs1.own p hp).lt) gs.nd) (fun G' hp hP'=>?_)
  exact hQ _ g2 _ (((t1.then t2).weak gs.new).trans T fun _ q=>q) ⟨rfl,Γ,G',hP',gs3.perm hp⟩
end
end
section
open PySem PySem.W PySem.Calls PyProof.Rows
noncomputable def nestG (a:Addr) (inn:Gh):Gh:=(a,inn.map fun p=>D.raw (.ref p.1)) :: inn
section
variable {S:Sig} {k:Nat} {f:Fi} {Γ Γ':Ctxt} {G G':Gh} {g g':Heap} {W V:Addr→Prop} {env:Env} {s s':Shared} {P:Ctxt→Gh→Prop} {r:GRes} {sts:List Stmt} {pos p':Pos} {e:Expr} {d:D} {x y:Str} {i j:Nat}
theorem GSt.store {A:Around} {a:Addr} {Q:Unit→Shared→Prop} {E:Value→Shared→Prop} (hx:f.vars[i]? = some x) (hk:f.kinds[i]? = some .local) (gs:GSt S f Γ G g W env s)
    (h:∀ g' s',Tr S W g s g' s'→GSt S f (Γ.set i (some (.val (.raw (.ref a))))) G g' W env s'→Q () s'):wpAny S.M A (storeName env x (.ref a)) Q E s :=
  wp_storeVal hx hk gs.st (.raw _) fun g' s' t st'=>h g' s' (t.weak fun _ q=>q.1) (gs.step t st')
theorem Tr.w (gs:GSt S f Γ G g W env s) (t:Tr S (Nw s) g s g' s'):Tr S W g s g' s':=t.weak gs.new
theorem GX.alloc1 {npos lp pos:Pos} (n:Nm f x i .local) (hP:∀ a b,P (Γ.set i (some (.val (.raw (.ref a))))) (nestG a [(b,[])] ++ G))
    (hst:∀ env,starEach [.List [] lp] env = [(false,eval (.List [] lp) env)]:=by intro _;rfl)
    (hs:∀ env,swapsWithSole [.Name x npos] (.List [.List [] lp] pos) p'.line env = pure false:=by intro _;rfl) (hw:∀ env,swappedStores [.Name x npos] (.List [.List [] lp] pos) env = pure none:=by intro _;rfl)
    (ha:∀ env v,assignAll v ((assignEach [.Name x npos] env).map (·.2)) = PySem.assign (.Name x npos) env v:=by intro _ _;rfl) :
    GX S k f Γ G (.Assign [.Name x npos] (.List [.List [] lp] pos) p') (.next P):=by
  intro A g W env s Q E R gs hQ
  refine wpAny_Assign_stores ?_ (hs env) (hw env)
  refine wpAny_List_spliced ?_
  rw [hst]
  show wpAny S.M A (spliced ((false,eval (.List [] lp) env) :: [])) _ E s
  refine spliced_cons (wpAny_List_spliced (spliced_nil ⟨Nat.zero_le _,spliced_nil ⟨Nat.le_of_ble_eq_true rfl,?_⟩⟩))
  rw [ha env,arm_assign_Name]
  refine wpAny_bind (wpAny_standAt (wpAny_bindName ?_))
  refine e1_2 (gs.push (vs:=[]) (xs:=[]) (t:=s.toks) (Nat.zero_le _) .nil (Nat.le_refl _)) (fun g1 t1 gs1=>?_)
  refine e1_2 (gs1.push (vs:=[.ref s.heap.objs.size]) (xs:=[.raw (.ref s.heap.objs.size)]) (t:=s.toks) (Nat.le_of_ble_eq_true rfl) (.cons (.raw _) .nil) (Nat.le_refl _)) (fun g2 t2 gs2=>?_)
  refine gs2.store n.hx n.hk fun g3 s3 t3 gs3=>?_
  exact hQ _ g3 s3 (((t1.w gs).trans (t2.w gs1) fun _ q=>q).trans t3 fun _ q=>q) ⟨rfl,_,_,hP _ _,gs3⟩
theorem wp_two {A:Around} {l1 l2 l3:Pos} {Q:Value→Shared→Prop} {E:Value→Shared→Prop} (gs:GSt S f Γ G g W env s)
    (hs1:∀ env,starEach [.List [] l1,.List [] l2] env = [(false,eval (.List [] l1) env),(false,eval (.List [] l2) env)])
    (h:∀ a a1 a2 g' s',Tr S (Nw s) g s g' s'→GSt S f Γ (nestG a [(a1,[]),(a2,[])] ++ G) g' W env s'→Q (.ref a) s'):wpAny S.M A (eval (.List [.List [] l1,.List [] l2] l3) env) Q E s:=by
  refine wpAny_List_spliced ?_
  rw [hs1]
  show wpAny S.M A (spliced ((false,eval (.List [] l1) env) :: (false,eval (.List [] l2) env) :: [])) _ E s
  refine spliced_cons (wpAny_List_spliced (spliced_nil ⟨Nat.zero_le _,?_⟩))
  refine e1_2 (gs.push (vs:=[]) (xs:=[]) (t:=s.toks) (Nat.zero_le _) .nil (Nat.le_refl _)) (fun g1 t1 gs1=>?_)
  generalize hs1':({ s with heap:=s.heap.push (listO [] 0),toks:=s.toks }:Shared) = s1 at t1 gs1
  refine spliced_cons (wpAny_List_spliced (spliced_nil ⟨Nat.zero_le _,spliced_nil ⟨Nat.le_of_ble_eq_true rfl,?_⟩⟩))
  refine e1_2 (gs1.push (vs:=[]) (xs:=[]) (t:=s1.toks) (Nat.zero_le _) .nil (Nat.le_refl _)) (fun g2 t2 gs2=>?_)
  refine e1_2 (gs2.push (vs:=[.ref s.heap.objs.size,.ref s1.heap.objs.size]) (xs:=[.raw (.ref s.heap.objs.size),.raw (.ref s1.heap.objs.size)]) (t:=s1.toks) (Nat.le_of_ble_eq_true rfl) (.cons (.raw _) (.cons (.raw _) .nil)) (Nat.le_refl _)) (fun g3 t3 gs3=>?_)
  refine h _ s.heap.objs.size s1.heap.objs.size g3 _ ((t1.then t2).then t3) (gs3.perm ?_)
  show (((s1.heap.push (listO [] 0)).objs.size,[.raw (.ref s.heap.objs.size),.raw (.ref s1.heap.objs.size)]) :: (s.heap.objs.size,[]) :: (s1.heap.objs.size,[]) :: G:Gh).Perm _
  exact (List.Perm.swap _ _ _).cons _
theorem GSt.takes (inn:Gh) {g:Heap} (gs:GSt S f Γ (inn ++ G) g W env s):∃ g',Tr S W g s g' s∧GSt S f Γ G g' W env s∧∀ p ∈ inn,Rd g' (.ref p.1) (.list p.2):=by
  induction inn generalizing g with
  | nil=>exact ⟨g,Tr.refl _ gs.st.keep gs.st.base gs.st.tabs,gs,nofun⟩
  | cons p inn ih =>
    refine e2_5 (gs.own p (.head _)) (fun vs n ho hz rs hn hw=>?_)
    refine e1_4 (gs.st.ghost ho fun q=>q.2 p (.head _) rfl) (fun g1 t1 h1 h2 st1=>?_)
    have hnd:=gs.nd
    simp only [List.cons_append,List.map_cons,List.nodup_cons] at hnd
    have gs1:GSt S f Γ (inn ++ G) g1 W env s:=⟨st1.widen fun b q=>⟨q.1,fun x hx=>q.2 x (.tail _ hx)⟩,fun x hx=>by
      refine e2_5 (gs.own x (.tail _ hx)) (fun vs' n' a1 a2 a3 a4 a5=>?_)
      refine ⟨vs',n',a1,a2,a3.mono t1.mono,?_,a5⟩
      rw [h2 _ fun q=>hnd.1 (q ▸ List.mem_map_of_mem hx)];exact a4,hnd.2⟩
    refine e1_3 (ih gs1) (fun g2 t2 gs2 h3=>?_)
    refine ⟨g2,(t1.weak fun b q=>by subst q;exact hw).trans t2 fun _ q=>q,gs2,fun x hx=>?_⟩
    rcases List.mem_cons.mp hx with rfl | hx
    · exact (Rd.list h1 hz (rs.mono t1.mono)).mono t2.mono
    · exact h3 x hx
theorem rds_refs {g g':Heap} {inn:Gh} {vs:List Value} (rs:Rds g vs (inn.map fun p=>D.raw (.ref p.1))) (h:∀ p ∈ inn,Rd g' (.ref p.1) (.list p.2)):Rds g' vs (inn.map fun p=>D.list p.2):=by
  induction inn generalizing vs with
  | nil=>cases rs using Rds.casesNil;exact .nil
  | cons p inn ih =>
    cases rs using Rds.casesCons with
    | cons r rs =>
      cases r using Rd.casesRaw
      exact .cons (h p (.head _)) (ih rs fun q hq=>h q (.tail _ hq))
theorem GSt.thaw {a:Addr} {inn:Gh} (gs:GSt S f Γ (nestG a inn ++ G) g W env s) (hj:Γ[j]? = some (some (.val (.raw (.ref a))))) :
    ∃ g',Tr S W g s g' s∧GSt S f (Γ.set j (some (.val (.list (inn.map fun p=>.list p.2))))) G g' W env s:=by
  refine e2_5 (gs.own (a,inn.map fun p=>D.raw (.ref p.1)) (.head _)) (fun vs n ho hz rs hn hw=>?_)
  refine e1_4 (gs.st.ghost ho fun q=>q.2 _ (.head _) rfl) (fun g1 t1 h1 h2 st1=>?_)
  have hnd:=gs.nd
  unfold nestG at hnd
  simp only [List.cons_append,List.map_cons,List.nodup_cons] at hnd
  have gs1:GSt S f Γ (inn ++ G) g1 W env s:=⟨st1.widen fun b q=>⟨q.1,fun x hx=>q.2 x (.tail _ hx)⟩,fun x hx=>by
    refine e2_5 (gs.own x (.tail _ hx)) (fun vs' n' a1 a2 a3 a4 a5=>?_)
    refine ⟨vs',n',a1,a2,a3.mono t1.mono,?_,a5⟩
    rw [h2 _ fun q=>hnd.1 (by have:=List.mem_map_of_mem (f:=Prod.fst) hx;rw [q] at this;exact this)];exact a4,hnd.2⟩
  refine e1_3 (GSt.takes inn gs1) (fun g2 t2 gs2 h3=>?_)
  have hr:Rd g2 (.ref a) (.list (inn.map fun p=>.list p.2)):=.list (t2.mono _ _ h1) hz (rds_refs rs h3)
  exact ⟨g2,(t1.weak fun b q=>by subst q;exact hw).trans t2 fun _ q=>q,gs2.st.retype hj hr,gs2.own,gs2.nd⟩
theorem GXs.thaw {a:Addr} {inn:Gh} (j:Nat) (hj:Γ[j]? = some (some (.val (.raw (.ref a))))) (h:GXs S k f (Γ.set j (some (.val (.list (inn.map fun p=>.list p.2))))) G sts r):GXs S k f Γ (nestG a inn ++ G) sts r:=by
  intro A g W env s Q E R gs hQ
  refine e1_2 (gs.thaw hj) (fun g' t gs'=>?_)
  exact h A g' W env s Q E R gs' fun fl g₂ s₂ t₂ p₂=>hQ fl g₂ s₂ (t.trans t₂ fun _ q=>q) p₂
theorem off_nil (b:Addr):Off [] b:=nofun
end
end
section
open PySem PySem.W PySem.Calls PyProof.Rows
section
variable {S:Sig} {k:Nat} {f:Fi} {Γ:Ctxt} {e:Expr} {pos:Pos}
theorem EV.sliceStepT {xs:List D} {lo hi:Option Expr} {st:Expr} {i j:Option Int} {c:Int} {p:Pos} (h1:EV S k f Γ e (.list xs)) (h2:PV S k f Γ lo i) (h3:PV S k f Γ hi j) (h4:PV S k f Γ (some st) (some c)) (hc:c ≠ 0)
    (hs:∀ o i,subscripted (.Slice lo hi (some st) p) false o i = operate [o,i] (getItem o i)) :
    EV S k f Γ (.Subscript e (.Slice lo hi (some st) p) pos) (.list (pickBy (places i j c xs.length) xs)):=by
  intro A g W env s Q E R stt hQ
  have part:∀ {p:Option (Int × Tok)} {i:Option Int},p.map Prod.fst = i→IsPart (partValue p) i:=fun {p i} e=>by
    cases p with
    | none=>simp at e;subst e;exact .none
    | some q=>simp at e;subst e;exact .int _ _
  refine Subscript_ (h1 A g W env s _ E R stt fun v g1 s1 t1 r1=>wpAny_Slice (h2.run A g1 W env s1 _ E R (stt.move t1) fun p2 g2 s2 t2 e2=>h3.run A g2 W env s2 _ E R ((stt.move t1).move t2) fun p3 g3 s3 t3 e3 =>
    h4.run A g3 W env s3 _ E R (((stt.move t1).move t2).move t3) fun p4 g4 s4 t4 e4=>?_))
  have a4:=((((stt.move t1).move t2).move t3).move t4).at R
  have T:=((t1.then t2).then t3).then t4
  have r4:=r1.mono (t2.mono.trans (t3.mono.trans t4.mono))
  cases r4 using Rd.casesList with
  | list e hl rs =>
    rename_i a ws n
    have hL:s4.heap.IsList a ws.toArray:=⟨_,t4.keep _ _ e,rfl,n,rfl⟩
    refine tail_any (hL.push _).typeIs list_getitem_lookup (wpAny_getItem_list_slice (hL.push _) (Heap.IsSliceOf.new ..) (part e2) (part e3) (part e4) (by simpa using hc) ?_ (by simpa using hl)) (hs _ _)
    refine e1_2 (a4.push { cls:=.type "slice",data:=.fields #[partValue p2,partValue p3,partValue p4] } (t:=s4.toks)) (fun g5 t5 _=>?_)
    have hw:slicePick ws.toArray i j (some c) = (pickBy (places i j c xs.length) ws).toArray:=by
      unfold slicePick pickBy places
      simp only [List.size_toArray,rs.length,List.getElem?_toArray]
    rw [hw]
    refine e1_2 ((t5.at R).push (listO (pickBy (places i j c xs.length) ws) 0) (t:=s4.toks) (ht:=Nat.le_refl _)) (fun g6 t6 e6=>?_)
    refine hQ _ g6 _ ((T.then t5).then t6) (.list e6 ?_ ((rs.mono (t5.mono.trans t6.mono)).pickBy _))
    have hsz:=slicePick_size_le ws.toArray i j (some c)
    rw [hw] at hsz
    simp only [List.size_toArray] at hsz
    lia
end
end
section
open PySem PySem.W PySem.Calls PyProof.Rows
section
variable {S:Sig} {k:Nat} {f:Fi} {Γ:Ctxt} {tg e l r:Expr} {d:D} {ds:List D} {pos:Pos}
theorem Yl.walksT [Free S] {I:Addr} {fp wr:List Addr} {n:Nat} {Pt:Nat→Array Value→Prop} {Stt:Nat→Heap→Prop} {Mid:Nat→Addr→Heap→Prop} {elts:List Expr} {kk:Nat} (htg:tg = .Tuple elts kk pos)
    (Wk:∀ A:Around,A.handled = none→WalksT S.prog S.w A I fp wr n Pt Stt Mid)
    (hit:∀ (A:Around) (i:Nat) (s:Shared) (Q:Option Value→Shared→Prop) (E:Value→Shared→Prop),A.handled = none→i < n→Stt i s.heap →
      (∀ vs h' tk,Pt i vs.toArray→s.toks≤tk→h'.get? s.heap.objs.size = some (tupO vs 0)→Mid i s.heap.objs.size h'→(∀ b o,b ∉ wr→s.heap.get? b = some o→h'.get? b = some o)→Q (some (.ref s.heap.objs.size)) { s with heap:=h',toks:=tk })→wpAny S.M A (pyNext (.ref I)) Q E s)
    (hT:∀ b ∈ wr,¬ S.T b) (hfl:∀ (b:Addr) (o:Obj),b ∈ wr→∀ i h,Stt i h→h.get? b = some o→¬ NsObj o) :
    ∀ (ds:List D) (i:Nat) (g:Heap) (s:Shared),Keep g s.heap→i + ds.length = n→(∀ j d,ds[j]? = some d→∀ g',Keep g g'→∀ vs:List Value,Pt (i + j) vs.toArray→∃ xs,d = .tup xs∧Rds g' vs xs∧vs.length≤sizeLine)→(∀ b ∈ fp,b ∈ wr ∨ ∃ o,g.get? b = some o)→Stt i s.heap→Yl S k (fun a=>a ∈ wr) I tg ds g s:=by
  subst htg
  have step:∀ {g:Heap} {s:Shared} {h':Heap} {tk:Nat} {A:Around} (N:Addr→Prop),At S k A g s→(∀ b o,b ∉ wr→s.heap.get? b = some o→h'.get? b = some o)→(∀ a,a ∈ wr→g.get? a = none)→(∀ a,N a→a ∉ wr)→Grown s { s with heap:=h',toks:=tk } →
      ∃ g',Tr S (fun a=>Nw s a ∨ a ∈ wr) g s g' { s with heap:=h',toks:=tk }∧(∀ a,a ∈ wr→g'.get? a = none)∧∀ b o,h'.get? b = some o→s.heap.objs.size≤b→N b→g'.get? b = some o:=by
    intro g s h' tk A N a hk hg hN G
    refine e1_3 (Tr.growF (s':={ s with heap:=h',toks:=tk }) (fun a=>a ∈ wr) N a.keep a.base a.tabs hk hg hT G.heap rfl rfl G.toks) (fun g' t h1 h2=>?_)
    refine ⟨g',t,fun b hb=>?_,h1⟩
    cases e:g'.get? b with
    | none=>rfl
    | some o=>exact (h2 b (by rw [e];nofun)).elim (fun q=>absurd (hg b hb) q) fun q=>absurd hb (hN b q.2)
  have frame:∀ {i:Nat} {g g':Heap} {s s':Shared},Keep g s.heap→Keep g' s'.heap→Keep g g'→Same (fun a=>a ∈ wr) s s'→(∀ b ∈ fp,b ∈ wr ∨ ∃ o,g.get? b = some o)→Stt i s.heap→Stt i s'.heap:=by
    intro i g g' s s' k1 k2 kg sm hfp hst
    refine (Wk { handled:=none } rfl).frame _ _ _ hst fun b hb o e=>(hfp b hb).elim (fun w=>sm b o w e) fun ⟨o',e'⟩=>?_
    obtain rfl:o = o':=Option.some.inj (e.symm.trans (k1 b o' e'))
    exact k2 _ _ (kg _ _ e')
  intro ds
  induction ds with
  | nil =>
    intro i g s kp hn hP hfp hst A g' s' Q E a kg sm hF hQ
    have fr:Stt n s'.heap:=frame kp a.keep kg sm hfp (by simpa using hn ▸ hst)
    refine wpAny_grown ((Wk A (a.room.handled Free.free)).done s' _ _ fr fun h' tk hk G=>?_)
    refine e1_2 (step (fun _=>False) a hk hF (fun _ h=>h.elim) G) (fun g₁ t _=>?_)
    exact hQ g₁ _ t
  | cons d ds ih =>
    intro i g s kp hn hP hfp hst A g' s' Q E a kg sm hF hQ
    have fr:Stt i s'.heap:=frame kp a.keep kg sm hfp hst
    simp only [List.length_cons] at hn
    refine wpAny_grown (hit A i s' _ _ (a.room.handled Free.free) (by lia) fr fun vs h' tk hPv htk hT' hMid hk G=>?_)
    have ap:=(Wk A (a.room.handled Free.free)).apart i _ h' hMid
    (refine e1_3 (step (fun b=>b = s'.heap.objs.size) a hk hF (fun b q=>by subst q;exact ap) G) (fun g₁ t hF₁ hN₁=>?_))
    have e₁:g₁.get? s'.heap.objs.size = some (tupO vs 0):=hN₁ _ _ hT' (Nat.le_refl _) rfl
    refine hQ _ g₁ _ t hF₁ fun f Γ Γ' W env Q' E' has st hW hc hQ'=>?_
    refine wpAny_bind (wpAny_grown ((Wk A (a.room.handled Free.free)).go elts kk pos i _ { s' with heap:=h',toks:=tk } _ _ hMid fun h'' hst' hk'' G''=>?_))
    refine e1_3 (step (s:={ s' with heap:=h',toks:=tk }) (h':=h'') (tk:=tk) (fun _=>False) (t.at a.room) hk'' hF₁ (fun _ h=>h.elim) G'') (fun g₂ t₂ hF₂ _=>?_)
    have st₂:=st.moveF t₂ hW hc
    (refine e1_3 (hP 0 d rfl g₂ (kg.trans (t.mono.trans t₂.mono)) vs hPv) (fun xs q1q rs hz=>?_);subst q1q)
    refine has A g₂ W env _ _ Q' E' a.room st₂ (.tup (t₂.mono _ _ e₁) hz rs) fun g₃ s₃ t₃ st₃=>?_
    have hF₃:∀ b,b ∈ wr→g₃.get? b = none:=fun b hb=>t₃.none (hF₂ b hb) (hW b hb)
    have sm₃:Same (fun a=>a ∈ wr) { s' with heap:=h'',toks:=tk } s₃:=t₃.keepF t₂.now fun b o hb e=>⟨hW b hb,fun _ _=>hT b hb,hfl b o hb _ _ hst' e⟩
    have hfp':∀ b ∈ fp,b ∈ wr ∨ ∃ o,g₂.get? b = some o:=fun b hb=>(hfp b hb).imp id fun ⟨o,e⟩=>⟨o,t₂.mono _ _ (t.mono _ _ (kg _ _ e))⟩
    have hst₃:Stt (i + 1) s₃.heap:=frame t₂.keep t₃.keep t₃.mono sm₃ hfp' hst'
    have inW:∀ a,Nw ({ s' with heap:=h',toks:=tk }:Shared) a ∨ a ∈ wr→W a ∨ a ∈ wr:=fun a=>Or.imp (st.new a) id
    refine hQ' g₃ s₃ ((t₂.weak inW).trans t₃ fun _=>.inl) hF₃ (fun b o hb e=>hfl b o hb _ _ hst₃ e) st₃ ?_
    refine ih (i + 1) g₃ s₃ t₃.keep (by lia) (fun j d' hj g₄ k₄ vs' hv'=>hP (j + 1) d' (by simpa using hj) g₄ (kg.trans (t.mono.trans (t₂.mono.trans (t₃.mono.trans k₄)))) vs' (by rw [show i + (j + 1) = i + 1 + j by lia];exact hv')) (fun b hb=>(hfp' b hb).imp id fun ⟨o,e⟩=>⟨o,t₃.mono _ _ e⟩) hst₃
theorem Self.walksT [Free S] {I:Addr} {fp wr:List Addr} {n:Nat} {Pt:Nat→Array Value→Prop} {Stt:Nat→Heap→Prop} {Mid:Nat→Addr→Heap→Prop} (Wk:∀ A:Around,A.handled = none→WalksT S.prog S.w A I fp wr n Pt Stt Mid)
    {g:Heap} {s:Shared} (kp:Keep g s.heap) (hfp:∀ b ∈ fp,b ∈ wr ∨ ∃ o,g.get? b = some o) (hst:Stt 0 s.heap):Self S k (fun a=>a ∈ wr) I g s:=by
  intro A g' s' Q E a kg sm hQ
  refine (Wk A (a.room.handled Free.free)).self 0 s' Q E ((Wk A (a.room.handled Free.free)).frame _ _ _ hst fun b hb o e=>(hfp b hb).elim (fun w=>sm b o w e) fun ⟨o',e'⟩=>?_) hQ
  obtain rfl:o = o':=Option.some.inj (e.symm.trans (kp b o' e'))
  exact a.keep _ _ (kg _ _ e')
noncomputable def enumD (xs:List D):List D:=xs.zipIdx.map fun p=>.tup [.int (p.2:Int),p.1]
theorem ItE.enum [Free S] {fn:Expr} {xs:List D} {elts:List Expr} {kk:Nat} {tpos:Pos} (hn:∀ env,eval (.Call fn [e] [] pos) env = (do callWith pos (← eval fn env) [] (backTo pos (starEach [e] env)) (backToKw pos (keywordEach [] env)))) (h1:EV S k f Γ fn (.raw (.type "enumerate"))) (h2:EVs S k f Γ [e] [.list xs]) :
    ItE S k f Γ (.Call fn [e] [] pos) (.Tuple elts kk tpos) (enumD xs):=by
  intro A g W env s Q E R st hQ
  rw [hn]
  refine wpAny_bind (h1 A g W env s _ E R st fun v g1 s1 t1 r1=>?_)
  cases r1 using Rd.casesRaw
  refine callWith_of (P:=fun h=>S.K.In h) (by show ((backTo pos (starEach [e] env)).any (·.1) || false) = false;rw [h2.plain];rfl) (Callee.type (S:=S)) ?_
  refine evalArgs_any (h2.plain _ _) (h2.run pos A g1 W env s1 _ E R (st.move t1) fun vs g2 s2 t2 r2=>⟨t2.base.kin.keeps t2.keep,?_⟩)
  cases r2 using Rds.casesCons with
  | cons r rs =>
    cases rs using Rds.casesNil
    cases r using Rd.casesList with
    | list ee hl rs =>
      rename_i l ws n
      have a2:=t2.at R
      have hL:s2.heap.IsList l ws.toArray:=⟨_,a2.keep _ _ ee,rfl,n,rfl⟩
      have hlt:l < s2.heap.objs.size:=Heap.lt_size (a2.keep _ _ ee)
      refine call_enumerate_list hL fun h' he hi hsz hk=>?_
      (refine e1_3 (Tr.grow (s':={ s2 with heap:=h' }) (fun _=>False) a2.keep a2.base a2.tabs hk (by show _≤h'.objs.size;lia) rfl rfl (Nat.le_refl _)) (fun g3 t3 _ hno=>?_))
      have nT:∀ b,s2.heap.objs.size≤b→¬ S.T b:=fun b hb=>a2.tabs.newT hb
      have hei:s2.heap.objs.size + 1 ≠ s2.heap.objs.size:=by lia
      have hle:l ≠ s2.heap.objs.size + 1:=Nat.ne_of_lt (Nat.lt_succ_of_lt hlt)
      have hli:l ≠ s2.heap.objs.size:=Nat.ne_of_lt hlt
      have Wk:∀ A:Around,A.handled = none→WalksT S.prog S.w A _ _ _ _ _ _ _:=fun A hh=>WalksT.enumerate (prog:=S.prog) (w:=S.w) (A:=A) hh (s2.heap.objs.size + 1) s2.heap.objs.size l hei hle hli ws.toArray
      have hst:(∃ old,IsEnum h' (s2.heap.objs.size + 1) s2.heap.objs.size ((0:Nat):Int) old)∧h'.IsListIter s2.heap.objs.size l 0∧h'.IsList l ws.toArray:=⟨⟨_,he⟩,hi,hL.at fun o x=>hk l o x⟩
      have hfp:∀ b ∈ [s2.heap.objs.size + 1,s2.heap.objs.size,l],b ∈ [s2.heap.objs.size + 1,s2.heap.objs.size] ∨ ∃ o,g3.get? b = some o:=fun b hb=>by
        simp only [List.mem_cons,List.not_mem_nil,or_false] at hb ⊢
        rcases hb with rfl | rfl | rfl
        · exact .inl (.inl rfl)
        · exact .inl (.inr rfl)
        · exact .inr ⟨_,t3.mono _ _ ee⟩
      refine wpAny_pyIter_enum he ?_
      refine hQ (s2.heap.objs.size + 1) (fun a=>a ∈ [s2.heap.objs.size + 1,s2.heap.objs.size]) g2 s2 g3 _ (t1.then t2) t3 (fun a ha=>?_) (Self.walksT Wk t3.keep hfp hst) ?_
      · simp only [List.mem_cons,List.not_mem_nil,or_false] at ha
        rcases ha with rfl | rfl
        · exact ⟨Nat.le_succ _,hno _ (Nat.le_succ _) id,by show _ < h'.objs.size;lia⟩
        · exact ⟨Nat.le_refl _,hno _ (Nat.le_refl _) id,by show _ < h'.objs.size;lia⟩
      · refine Yl.walksT rfl Wk (fun A i s Q E hh hi hst hQ=>?_) (fun b hb=>?_) (fun b o hb i h hst eo=>?_) (enumD xs) 0 g3 _ t3.keep ?_ ?_ hfp hst
        · (refine e0_3 (hst) (fun q3q hit hl=>?_);refine e1_1 (q3q) (fun old he=>?_))
          have hx:ws.toArray[i]? = some ws.toArray[i]:=Array.getElem?_eq_getElem hi
          refine wpAny_pyNext_enum_item he hit hl hx hei fun h' ho hit' hT hsz hk=>?_
          have helt:=Heap.lt_size he
          have hilt:s2.heap.objs.size < s.heap.objs.size:=by refine e1_2 (hit) (fun _ x _=>?_);exact Heap.lt_size x
          exact hQ [.int i s.toks,ws.toArray[i]] h' (s.toks + 1) ⟨_,_,hx,rfl⟩ (Nat.le_succ _) hT ⟨⟨_,ho⟩,hit',hl.at fun o x=>hk l o hle hli x,Nat.ne_of_gt helt,Nat.ne_of_gt hilt⟩
            fun b o hb x=>hk b o (fun e'=>hb (by simp [e'])) (fun e'=>hb (by simp [e'])) x
        · simp only [List.mem_cons,List.not_mem_nil,or_false] at hb
          rcases hb with rfl | rfl
          · exact nT _ (by lia)
          · exact nT _ (Nat.le_refl _)
        · (refine e0_3 (hst) (fun q4q q5q _=>?_);refine e1_1 (q4q) (fun old he=>?_);refine e1_3 (q5q) (fun o' hit hc hd=>?_))
          simp only [List.mem_cons,List.not_mem_nil,or_false] at hb
          rcases hb with rfl | rfl
          · rw [he] at eo;cases eo;exact notNs_fields rfl
          · rw [hit] at eo;cases eo;exact notNs_fields hd
        · simp [enumD,rs.length]
        · intro j d hj g' kg vs hv
          refine e2_2 (hv) (fun t x hx ev=>?_)
          have hvs:vs = [.int ((0 + j:Nat):Int) t,x]:=by
            have:=congrArg Array.toList ev
            simpa using this
          subst hvs
          unfold enumD at hj
          rw [List.getElem?_map] at hj
          simp only [List.getElem?_zipIdx,Option.map_map,Option.map_eq_some_iff] at hj
          (refine e1_2 (hj) (fun y hy q6q=>?_);subst q6q)
          refine e1_2 (rs.get j hy) (fun v' hv' r'=>?_)
          have:x = v':=by
            rw [Nat.zero_add] at hx
            simpa [hv'] using hx.symm
          subst this
          exact ⟨_,rfl,.cons (by simpa using Rd.int (g:=g') ((j:Nat):Int) t) (.cons (r'.mono (t3.mono.trans kg)) .nil),Nat.le_of_ble_eq_true rfl⟩
noncomputable def zipD (xs ys:List D):List D:=(xs.zip ys).map fun p=>.tup [p.1,p.2]
theorem ItE.zip [Free S] {fn e1 e2:Expr} {xs ys:List D} {elts:List Expr} {kk:Nat} {tpos:Pos} (hn:∀ env,eval (.Call fn [e1,e2] [] pos) env = (do callWith pos (← eval fn env) [] (backTo pos (starEach [e1,e2] env)) (backToKw pos (keywordEach [] env)))) (h1:EV S k f Γ fn (.raw (.type "zip"))) (h2:EVs S k f Γ [e1,e2] [.list xs,.list ys]) :
    ItE S k f Γ (.Call fn [e1,e2] [] pos) (.Tuple elts kk tpos) (zipD xs ys):=by
  intro A g W env s Q E R st hQ
  rw [hn]
  refine wpAny_bind (h1 A g W env s _ E R st fun v g1 s1 t1 r1=>?_)
  cases r1 using Rd.casesRaw
  refine callWith_of (P:=fun h=>S.K.In h) (by show ((backTo pos (starEach [e1,e2] env)).any (·.1) || false) = false;rw [h2.plain];rfl) (Callee.type (S:=S)) ?_
  refine evalArgs_any (h2.plain _ _) (h2.run pos A g1 W env s1 _ E R (st.move t1) fun vs g2 s2 t2 r2=>⟨t2.base.kin.keeps t2.keep,?_⟩)
  cases r2 using Rds.casesCons with
  | cons r rs =>
    cases rs using Rds.casesCons with
    | cons r' rs =>
      cases rs using Rds.casesNil
      cases r using Rd.casesList with
      | list ee hl rs =>
        rename_i l1 ws n
        cases r' using Rd.casesList with
        | list ee' hl' rs' =>
          rename_i l2 us n'
          have a2:=t2.at R
          have hL:s2.heap.IsList l1 ws.toArray:=⟨_,a2.keep _ _ ee,rfl,n,rfl⟩
          have hL':s2.heap.IsList l2 us.toArray:=⟨_,a2.keep _ _ ee',rfl,n',rfl⟩
          have hlt:l1 < s2.heap.objs.size:=Heap.lt_size (a2.keep _ _ ee)
          have hlt':l2 < s2.heap.objs.size:=Heap.lt_size (a2.keep _ _ ee')
          have nl:∀ {l:Addr} (c:Nat),l < s2.heap.objs.size→l ≠ s2.heap.objs.size + c:=fun c h=>Nat.ne_of_lt (Nat.lt_of_lt_of_le h (Nat.le_add_right _ _))
          refine call_zip_2 hL hL' fun h' hz hTI hTO hi1 hi2 hsz hk=>?_
          (refine e1_3 (Tr.grow (s':={ s2 with heap:=h' }) (fun b=>b = s2.heap.objs.size + 2) a2.keep a2.base a2.tabs hk (by show _≤h'.objs.size;lia) rfl rfl (Nat.le_refl _)) (fun g3 t3 hin hno=>?_))
          have nT:∀ b,s2.heap.objs.size≤b→¬ S.T b:=fun b hb=>a2.tabs.newT hb
          have nn:∀ (a b:Nat),a ≠ b→s2.heap.objs.size + a ≠ s2.heap.objs.size + b:=fun a b h q=>h (Nat.add_left_cancel q)
          have Dz:ZipApart (s2.heap.objs.size + 4) (s2.heap.objs.size + 2) (s2.heap.objs.size + 3) s2.heap.objs.size (s2.heap.objs.size + 1) l1 l2 :=
            ⟨nn 2 4 (by decide),nn 3 4 (by decide),nn 0 4 (by decide),nn 1 4 (by decide),nn 2 3 (by decide),nn 2 0 (by decide),nn 2 1 (by decide),nn 3 0 (by decide),nn 3 1 (by decide),nn 0 1 (by decide),nl _ hlt,nl _ hlt,nl 0 hlt,nl _ hlt,nl _ hlt',nl _ hlt',nl 0 hlt',nl _ hlt'⟩
          have Wk:∀ A:Around,A.handled = none→WalksT S.prog S.w A _ _ _ _ _ _ _:=fun A hh=>WalksT.zip2 (prog:=S.prog) (w:=S.w) (A:=A) hh _ _ _ _ _ l1 l2 Dz ws.toArray us.toArray
          have gTI:=hin (s2.heap.objs.size + 2) _ hTI (Nat.le_add_right _ _) rfl
          have hst:IsZip h' (s2.heap.objs.size + 4) (s2.heap.objs.size + 2) (s2.heap.objs.size + 3) .none∧IsPair h' (s2.heap.objs.size + 2) (.ref s2.heap.objs.size) (.ref (s2.heap.objs.size + 1))∧(∃ a b,IsPair h' (s2.heap.objs.size + 3) a b)∧h'.IsListIter s2.heap.objs.size l1 0∧h'.IsListIter (s2.heap.objs.size + 1) l2 0∧h'.IsList l1 ws.toArray∧h'.IsList l2 us.toArray :=
            ⟨hz,hTI,⟨_,_,hTO⟩,hi1,hi2,hL.at fun o x=>hk l1 o x,hL'.at fun o x=>hk l2 o x⟩
          have hfp:∀ b ∈ [s2.heap.objs.size + 4,s2.heap.objs.size + 2,s2.heap.objs.size + 3,s2.heap.objs.size,s2.heap.objs.size + 1,l1,l2],b ∈ [s2.heap.objs.size + 4,s2.heap.objs.size + 3,s2.heap.objs.size,s2.heap.objs.size + 1] ∨ ∃ o,g3.get? b = some o:=fun b hb=>by
            simp only [List.mem_cons,List.not_mem_nil,or_false] at hb ⊢
            rcases hb with rfl | rfl | rfl | rfl | rfl | rfl | rfl
            · exact .inl (.inl rfl)
            · exact .inr ⟨_,gTI⟩
            · exact .inl (.inr (.inl rfl))
            · exact .inl (.inr (.inr (.inl rfl)))
            · exact .inl (.inr (.inr (.inr rfl)))
            · exact .inr ⟨_,t3.mono _ _ ee⟩
            · exact .inr ⟨_,t3.mono _ _ ee'⟩
          have newIn:∀ b ∈ [s2.heap.objs.size + 4,s2.heap.objs.size + 3,s2.heap.objs.size,s2.heap.objs.size + 1],s2.heap.objs.size≤b∧b ≠ s2.heap.objs.size + 2∧b < s2.heap.objs.size + 5:=fun b hb=>by
            simp only [List.mem_cons,List.not_mem_nil,or_false] at hb
            rcases hb with rfl | rfl | rfl | rfl
            · exact ⟨Nat.le_add_right _ _,nn 4 2 (by decide),Nat.add_lt_add_left (show 4 < 5 by decide) _⟩
            · exact ⟨Nat.le_add_right _ _,nn 3 2 (by decide),Nat.add_lt_add_left (show 3 < 5 by decide) _⟩
            · exact ⟨Nat.le_refl _,nn 0 2 (by decide),Nat.add_lt_add_left (show 0 < 5 by decide) _⟩
            · exact ⟨Nat.le_add_right _ _,nn 1 2 (by decide),Nat.add_lt_add_left (show 1 < 5 by decide) _⟩
          refine wpAny_pyIter_zip hz ?_
          refine hQ (s2.heap.objs.size + 4) (fun a=>a ∈ [s2.heap.objs.size + 4,s2.heap.objs.size + 3,s2.heap.objs.size,s2.heap.objs.size + 1]) g2 s2 g3 _ (t1.then t2) t3 (fun a ha=>?_) (Self.walksT Wk t3.keep hfp hst) ?_
          · refine e0_3 (newIn a ha) (fun q1 q2 q3=>?_)
            exact ⟨q1,hno a q1 q2,by show a < h'.objs.size;rw [hsz];exact q3⟩
          · refine Yl.walksT rfl Wk (fun A i s Q E hh hi hst hQ=>?_) (fun b hb=>nT b (newIn b hb).1) (fun b o hb i h hst eo=>?_) (zipD xs ys) 0 g3 _ t3.keep ?_ ?_ hfp hst
            · (refine e0_7 (hst) (fun hz hTI q8q h1 h2 hl1 hl2=>?_);refine e2_1 (q8q) (fun a b hTO=>?_))
              have hix:i < ws.toArray.size:=Nat.lt_of_lt_of_le hi (Nat.min_le_left ..)
              have hiy:i < us.toArray.size:=Nat.lt_of_lt_of_le hi (Nat.min_le_right ..)
              refine wpAny_pyNext_zip_item Dz hz hTI hTO h1 h2 hl1 hl2 (Array.getElem?_eq_getElem hix) (Array.getElem?_eq_getElem hiy) fun h' b1 b2 b3 b4 b5 b6 hk=>?_
              have lt:∀ {c o},s.heap.get? c = some o→s.heap.objs.size ≠ c:=fun e=>Nat.ne_of_gt (Heap.lt_size e)
              exact hQ [ws.toArray[i],us.toArray[i]] h' s.toks ⟨_,_,Array.getElem?_eq_getElem hix,Array.getElem?_eq_getElem hiy,rfl⟩ (Nat.le_refl _) b5
                ⟨b1,hk _ _ Dz.TIz Dz.TITO Dz.TIi1 Dz.TIi2 hTI,⟨_,_,b2⟩,b3,b4,hl1.at fun o e=>hk _ o Dz.l1z Dz.l1TO Dz.l1i1 Dz.l1i2 e,hl2.at fun o e=>hk _ o Dz.l2z Dz.l2TO Dz.l2i1 Dz.l2i2 e,
                  lt hz,lt hTO,(by refine e1_2 (h1) (fun _ e _=>?_);exact lt e),(by obtain ⟨_,e,_⟩:=h2;exact lt e)⟩
                fun c o hc e=>hk c o (fun x=>hc (by simp [x])) (fun x=>hc (by simp [x])) (fun x=>hc (by simp [x])) (fun x=>hc (by simp [x])) e
            · (refine e0_7 (hst) (fun hz hTI q9q q10q q11q hl1 hl2=>?_);refine e2_1 (q9q) (fun a b' hTO=>?_);refine e1_3 (q10q) (fun o1 h1 c1 w1=>?_);refine e1_3 (q11q) (fun o2 h2 c2 w2=>?_))
              simp only [List.mem_cons,List.not_mem_nil,or_false] at hb
              rcases hb with rfl | rfl | rfl | rfl
              · rw [hz] at eo;cases eo;exact notNs_fields rfl
              · rw [hTO] at eo;cases eo;(rintro ⟨_,_,q⟩;cases q)
              · rw [h1] at eo;cases eo;exact notNs_fields w1
              · rw [h2] at eo;cases eo;exact notNs_fields w2
            · simp [zipD,rs.length,rs'.length]
            · intro j d hj g' kg vs hv
              refine e2_3 (hv) (fun x y hx hy ev=>?_)
              have hvs:vs = [x,y]:=by
                have:=congrArg Array.toList ev
                simpa using this
              subst hvs
              unfold zipD at hj
              rw [List.getElem?_map] at hj
              simp only [Option.map_eq_some_iff] at hj
              (refine e1_2 (hj) (fun p hp q12q=>?_);subst q12q)
              refine e0_2 (List.getElem?_zip_eq_some.mp hp) (fun hp1 hp2=>?_)
              refine e1_2 (rs.get j hp1) (fun v1 hv1 r1=>?_)
              refine e1_2 (rs'.get j hp2) (fun v2 hv2 r2=>?_)
              rw [Nat.zero_add] at hx hy
              have e1:x = v1:=by simpa [hv1] using hx.symm
              have e2:y = v2:=by simpa [hv2] using hy.symm
              subst e1;subst e2
              exact ⟨_,rfl,.cons (r1.mono (t3.mono.trans kg)) (.cons (r2.mono (t3.mono.trans kg)) .nil),Nat.le_of_ble_eq_true rfl⟩
end
end
section
open PySem PySem.W PySem.Calls PyProof.Rows
theorem cells_no:∀ (l:List (Str × NameKind)) (n:Nat) (acc:List (Str × Addr)) (h:Heap),(∀ x ∈ l,x.2 ≠ .cell)→cellsFrom n l acc = acc∧pushCells h l = h
  | [],_,_,_,_=>⟨rfl,rfl⟩
  | (x,kd) :: l,n,acc,h,hx=>by
    have hk:(kd == NameKind.cell) = false:=by simpa using hx (x,kd) (.head _)
    unfold cellsFrom pushCells
    rw [hk]
    exact cells_no l n acc h fun y hy=>hx y (.tail _ hy)
theorem cells_one (y:Str) (post:List (Str × NameKind)) (hp:∀ x ∈ post,x.2 ≠ .cell):∀ (pre:List (Str × NameKind)) (n:Nat) (acc:List (Str × Addr)) (h:Heap),(∀ x ∈ pre,x.2 ≠ .cell) →
    cellsFrom n (pre ++ (y,.cell) :: post) acc = (y,n) :: acc∧pushCells h (pre ++ (y,.cell) :: post) = h.push { cls:=.type "cell",data:=.cell Option.none }
  | [],n,acc,h,_=>by
    rw [List.nil_append]
    unfold cellsFrom pushCells
    exact cells_no post (n + 1) _ _ hp
  | (x,kd) :: pre,n,acc,h,hx=>by
    have hk:(kd == NameKind.cell) = false:=by simpa using hx (x,kd) (.head _)
    rw [List.cons_append]
    unfold cellsFrom pushCells
    rw [hk]
    exact cells_one y post hp pre n acc h fun z hz=>hx z (.tail _ hz)
theorem wp_newEnv1 {M:Model} {A:Around} {E:Value→Shared→Prop} {s:Shared} {scope:Scope} {y:Str} {pre post:List (Str × NameKind)} {closure:List (Str × Addr)} {outer:Env} {globals:Addr} {qual:Str} {func:Option Addr} {code:Value} {builtins:Addr} {Q:Env→Shared→Prop}
    (hn:scope.names = pre ++ (y,.cell) :: post) (h1:∀ x ∈ pre,x.2 ≠ .cell) (h2:∀ x ∈ post,x.2 ≠ .cell)
    (hQ:∀ h',h'.Ns s.heap.objs.size (fun _=>Option.none)→h'.IsCell (s.heap.objs.size + 1) Option.none→(∀ b o,s.heap.get? b = some o→h'.get? b = some o)→h'.objs.size = s.heap.objs.size + 2 →
      Q (newEnv scope s.heap.objs.size globals ((y,s.heap.objs.size + 1) :: closure) qual func code (some outer) builtins) { s with heap:=h' }) :
    wpAny M A (newFunctionEnv scope globals closure [] qual func code (some outer) builtins) Q E s:=by
  unfold newFunctionEnv
  refine wpAny_bind (show wpAny M A (alloc { cls:=.type "dict",data:=.dict #[] }) _ _ _ from wpAny_alloc ?_)
  refine wpAny_bind (wpAny_layCells _ (fun name kind cells=>by cases hkc:kind == NameKind.cell <;> simp [hkc]) _ _ _ _ ?_)
  have z:({ s with heap:=s.heap.push { cls:=.type "dict",data:=.dict #[] } }:Shared).heap.objs.size = s.heap.objs.size + 1:=Heap.size_push ..
  refine e0_2 (cells_one y post h2 pre (s.heap.objs.size + 1) closure (s.heap.push { cls:=.type "dict",data:=.dict #[] }) h1) (fun e1 e2=>?_)
  rw [z,hn,e1,e2]
  show wpAny M A (forIn [] _ _ >>= _) _ _ _
  rw [List.forIn_nil]
  refine wpAny_bind (wpAny_pure (wpAny_pure ?_))
  refine hQ _ ((Heap.Ns.new s.heap (.type "dict")).keeps fun b o e=>Heap.get?_push_of_some _ e) ⟨{ cls:=.type "cell",data:=.cell Option.none },?_,rfl⟩ (fun b o e=>Heap.get?_push_of_some _ (Heap.get?_push_of_some _ e)) (by rw [Heap.size_push,Heap.size_push])
  have:=Heap.get?_push_size (s.heap.push { cls:=.type "dict",data:=.dict #[] }) (o:={ cls:=.type "cell",data:=.cell Option.none }) rfl
  rwa [Heap.size_push] at this
section
variable {S:Sig} {k:Nat} {f:Fi} {Γ Γ₁ Γc:Ctxt} {e l r iter tg elt:Expr} {ifs:List Expr} {d:D} {ds outs:List D} {pos p':Pos} {scope:Scope}
inductive CapL1 (f:Fi) (Γ:Ctxt) (sc:Scope) (names:List (Str × NameKind)) (y0:Str):List Str→Ctxt→Prop where
  | nil:CapL1 f Γ sc names y0 [] []
  | skip {y:Str} {vs:List Str} {Γc:Ctxt}:CapL1 f Γ sc names y0 vs Γc→CapL1 f Γ sc names y0 (y :: vs) (none :: Γc)
  | own {vs:List Str} {Γc:Ctxt}:CapL1 f Γ sc names y0 vs Γc→CapL1 f Γ sc names y0 (y0 :: vs) (some (.cell none) :: Γc)
  | cap {y:Str} {d:D} {vs:List Str} {Γc:Ctxt}:(names.any fun x=>x.1 == y && x.2 == .free) = true→(sc.names.lookup y == some .cell || sc.names.lookup y == some .free) = true→Cap f Γ y d→CapL1 f Γ sc names y0 vs Γc→CapL1 f Γ sc names y0 (y :: vs) (some (.val d) :: Γc)
theorem CapL1.get {sc:Scope} {names:List (Str × NameKind)} {y0:Str} {vs:List Str} {Γc:Ctxt} (h:CapL1 f Γ sc names y0 vs Γc):∀ (i:Nat) (y:Str) (b:B),vs[i]? = some y→Γc[i]? = some (some b) →
    ((y,NameKind.free) ∈ names∧(sc.names.lookup y = some .cell ∨ sc.names.lookup y = some .free)∧∃ d,b = .val d∧Cap f Γ y d) ∨ (y = y0∧b = .cell none):=by
  induction h with
  | nil=>exact fun i y b e _=>by cases e
  | skip _ ih =>
    intro i y b e1 e2
    cases i with
    | zero=>cases e2
    | succ i=>exact ih i y b e1 e2
  | own _ ih =>
    intro i y b e1 e2
    cases i with
    | zero=>cases e1;cases e2;exact .inr ⟨rfl,rfl⟩
    | succ i=>exact ih i y b e1 e2
  | cap a1 a2 c _ ih =>
    intro i y b e1 e2
    cases i with
    | succ i=>exact ih i y b e1 e2
    | zero =>
      cases e1
      cases e2
      refine .inl ⟨?_,?_,_,rfl,c⟩
      · (refine e1_2 (List.any_eq_true.mp a1) (fun q1q hx hy=>?_);obtain ⟨n,kk⟩:=q1q)
        rw [Bool.and_eq_true,beq_iff_eq,beq_iff_eq] at hy
        (refine e0_2 (hy) (fun q2q q3q=>?_);subst q2q;subst q3q)
        exact hx
      · rw [Bool.or_eq_true,beq_iff_eq,beq_iff_eq] at a2;exact a2
theorem CapL1.len {sc:Scope} {names:List (Str × NameKind)} {y0:Str} {vs:List Str} {Γc:Ctxt} (h:CapL1 f Γ sc names y0 vs Γc):Γc.length = vs.length:=by
  induction h with
  | nil=>rfl
  | skip _ ih=>simp [ih]
  | own _ ih=>simp [ih]
  | cap _ _ _ _ ih=>simp [ih]
theorem comp_core1 {y0:Str} {pre post:List (Str × NameKind)} (hnm:scope.names = pre ++ (y0,.cell) :: post) (hfr1:AllCap f Γ pre) (hfr2:AllCap f Γ post) (hny:∀ x ∈ pre ++ post,x.1 ≠ y0) {vars:List Str} {kinds:List NameKind} {use:Option (Value→Sem Unit)} (hnd:vars.Nodup) (hok:((vars.zip kinds).all fun p=>(relabelS scope f.scope).names.lookup p.1 == some p.2) = true)
    (hkind:scope.kind = .function) (hloc:∀ x ∈ scope.names,x.2 = .local→scope.names.lookup x.1 = some .local) (hcap:CapL1 f Γ (relabelS scope f.scope) scope.names y0 vars Γc) (hrel:(relabelS scope f.scope).names.lookup y0 = some .cell)
    (h1:ItE S k f Γ iter tg ds) (hz:ds.length≤sizeLine)
    (h3:∀ fc:Fi,fc.scope = relabelS scope f.scope→fc.vars = vars→fc.kinds = kinds→CL S k fc tg elt ifs Γc ds outs) (hs:∀ env x,foldedSetIterable iter env x = pure x)
    {A:Around} {g:Heap} {W:Addr→Prop} {env:Env} {s:Shared} {Q:Value→Shared→Prop} {E:Value→Shared→Prop} (R:Room S k A) (st:St S f Γ g W env s)
    (hpost:∀ (ax C:Addr) g' s',Tr S (Nw s) g s g' s'→Rd g' (.ref ax) (.list outs)→(∃ m,s'.heap.Ns C m)→g'.get? C = none→s.heap.objs.size≤C→compPost S.M A E use Q (.ref ax) C (.ok .next) s') :
    wpAny S.M A (comprehension (.ListComp elt [⟨tg,iter,ifs,0⟩] scope pos) scope env p' (newList []) false (eval iter env) use) Q E s:=by
  have hfree:∀ x ∈ scope.names,x.2 = .free→∃ c,env.cells.lookup x.1 = some c:=fun x hx e=>by
    obtain ⟨d,c⟩:∃ d,Cap f Γ x.1 d:=by
      rw [hnm] at hx
      rcases List.mem_append.mp hx with hx | hx
      · exact hfr1.free' x hx e
      · rcases List.mem_cons.mp hx with rfl | hx
        · cases e
        · exact hfr2.free' x hx e
    refine e2_2 (st.cap c) (fun c _ h _=>?_)
    exact ⟨c,h⟩
  refine wpAny_comprehension_free (g:=⟨tg,iter,ifs,0⟩) (gs:=[]) rfl (hs env) (closureFor_eq hfree) hkind hloc ?_
  refine h1 A g W env s _ E R st fun I F g₁ s₁ g₂ s₂ t₁ t₂ hF slf y=>?_
  have st₂:=(st.move t₁).move t₂
  refine wpAny_newObj_type (hd:=by size_fits) ?_
  have a₂:=t₂.at R
  refine e1_3 (Tr.grow (s':={ s₂ with heap:=s₂.heap.push (listO [] 0) }) (fun _=>False) a₂.keep a₂.base a₂.tabs (fun b x e=>Heap.get?_push_of_some _ e) (by simp) rfl rfl (Nat.le_refl _)) (fun g₃ t₃ _ hno₃=>?_)
  have st₃:=st₂.move t₃
  refine wp_newEnv1 hnm hfr1.noCell hfr2.noCell fun h₁ hns hic old hsz₁=>?_
  have hsz₃:({ s₂ with heap:=s₂.heap.push (listO [] 0) }:Shared).heap.objs.size = s₂.heap.objs.size + 1:=by simp
  have a₃:=t₃.at R
  (refine e1_3 (Tr.grow (s':={ s₂ with heap:=h₁ }) (fun _=>False) a₃.keep a₃.base a₃.tabs old (by show _≤h₁.objs.size;rw [hsz₁];exact Nat.le_add_right _ 2) rfl rfl (Nat.le_refl _)) (fun g₄ t₄ _ hno₄=>?_))
  have st₄:=st₃.move t₄
  have sc:relabel scope env = relabelS scope f.scope:=by
    show relabelS scope env.scope = _
    rw [st.envIs.scope]
  generalize hC:({ s₂ with heap:=s₂.heap.push (listO [] 0) }:Shared).heap.objs.size = C at *
  have hC':C = s₂.heap.objs.size + 1:=by rw [← hC];simp
  have lt₂:s₂.heap.objs.size < C:=by omega
  have eI:EnvIs (⟨relabelS scope f.scope,f.qual,f.code,vars,kinds,hnd,hok⟩:Fi) { newEnv scope C env.globals ((y0,C + 1) :: clOf env.cells scope.names []) env.qual none .none (some env) builtinsNs with scope:=relabel scope env } :=
    ⟨sc,st.envIs.qual,st.envIs.code,st.envIs.globals,st.envIs.builtins,by show (relabel scope env).kind = _;exact hkind⟩
  have cells₀:∀ x c,(clOf env.cells scope.names []).lookup x = some c→env.cells.lookup x = some c:=fun x c e=>by
    rcases clOf_mem env.cells scope.names [] _ (mem_of_lookup e) with q | q
    · cases q
    · refine e1_1 (hfree _ q.1 rfl) (fun c' hc'=>?_)
      have q:=q.2
      simp only at q hc'
      rw [hc'] at q
      rw [hc',q];rfl
  have cells:∀ x c,((y0,C + 1) :: clOf env.cells scope.names []).lookup x = some c→(x = y0∧c = C + 1) ∨ env.cells.lookup x = some c:=fun x c e=>by
    rw [List.lookup_cons] at e
    cases hb:x == y0 with
    | true=>rw [hb] at e;simp at e hb;exact .inl ⟨hb,e.symm⟩
    | false=>rw [hb] at e;exact .inr (cells₀ x c e)
  have cellLt:∀ x c,env.cells.lookup x = some c→c < s₁.heap.objs.size:=fun x c e=>(st.move t₁).clt x c e
  have s₁₂:s₁.heap.objs.size≤s₂.heap.objs.size:=t₂.size
  have szC:C≤h₁.objs.size:=by have:=t₄.size;rw [hC] at this;exact this
  have stc:St S (⟨relabelS scope f.scope,f.qual,f.code,vars,kinds,hnd,hok⟩:Fi) Γc g₄ (Ab C) { newEnv scope C env.globals ((y0,C + 1) :: clOf env.cells scope.names []) env.qual none .none (some env) builtinsNs with scope:=relabel scope env } { s₂ with heap:=h₁ }:=by
    refine ⟨t₄.keep,t₄.base,t₄.now,eI,fun a l=>Nat.le_trans szC l,fun x c e=>?_,_,fun _=>0,hns,Nat.le_refl _,hno₄ C (Nat.le_refl _) id,fun i y b hy hb=>?_,fun i j xs ys e1 e2 _=>?_⟩
    · rcases cells x c e with ⟨_,q⟩ | q
      · rw [q];show C + 1 < h₁.objs.size;rw [hsz₁];exact Nat.lt_succ_self _
      · exact Nat.lt_of_lt_of_le (cellLt x c q) (Nat.le_trans s₁₂ (Nat.le_trans t₃.size (by show _≤h₁.objs.size;rw [hC];exact szC)))
    · rcases hcap.get i y b hy hb with ⟨q1,q2,d',rfl,cp⟩ | ⟨rfl,rfl⟩
      · refine e2_3 (st₄.cap cp) (fun c v a1 a2 a3=>?_)
        have hyn:y ≠ y0:=by
          rw [hnm] at q1
          rcases List.mem_append.mp q1 with q1 | q1
          · exact hny (y,.free) (List.mem_append_left _ q1)
          · rcases List.mem_cons.mp q1 with q1 | q1
            · cases q1
            · exact hny (y,.free) (List.mem_append_right _ q1)
        have hl:((y0,C + 1) :: clOf env.cells scope.names []).lookup y = some c:=by
          rw [List.lookup_cons,(show (y == y0) = false by simpa using hyn)]
          exact clOf_lookup q1 a1
        refine ⟨v,?_,a3⟩
        unfold Var
        rw [kindOf_eq eI]
        show match (relabelS scope f.scope).names.lookup y with | some .local=>_ | some .cell=>_ | some .free=>_ | _=>False
        rcases q2 with q2 | q2
        · rw [q2];exact ⟨c,hl,a2⟩
        · rw [q2];exact ⟨c,hl,a2⟩
      · refine ⟨(kindOf_eq eI _).trans hrel,C + 1,Option.none,?_,hic,hno₄ _ (Nat.le_succ _) id,Nat.le_succ _,fun z hz=>?_,nofun⟩
        · show ((y,C + 1) :: clOf env.cells scope.names []).lookup y = _
          rw [List.lookup_cons,beq_self_eq_true]
        · rcases cells z _ hz with ⟨q,_⟩ | q
          · exact q
          · exact absurd (Nat.lt_of_lt_of_le (cellLt z _ q) s₁₂) (Nat.not_lt.mpr (by omega))
    · exfalso
      have hi:i < vars.length:=by rw [← hcap.len];exact (List.getElem?_eq_some_iff.mp e1).1
      rcases hcap.get i _ _ (List.getElem?_eq_getElem hi) e1 with ⟨_,_,d',q,_⟩ | ⟨_,q⟩
      · cases q
      · cases q
  exact comp_loop (h3 ⟨relabelS scope f.scope,f.qual,f.code,vars,kinds,hnd,hok⟩ rfl rfl rfl) hz R (st.move t₁).tabs t₁ t₂ (t₃.then t₄) hF slf y rfl hC' rfl stc (fun x c e=>(cells x c e).elim (fun q=>.inr (by rw [q.2];exact Nat.lt_succ_self _)) fun q=>.inl (cellLt x c q)) (t₄.none (hno₃ _ (Nat.le_refl _) id) fun q=>by rw [Nw,hC] at q;exact absurd lt₂ (Nat.not_lt.mpr q)) (old _ _ (Heap.get?_push_size _ rfl)) (fun a o e=>old a o (Heap.get?_push_of_some _ e)) hpost
theorem EV.comp1 {y0:Str} (pre post:List (Str × NameKind)) (hnm:scope.names = pre ++ (y0,.cell) :: post) (hfr1:AllCap f Γ pre) (hfr2:AllCap f Γ post) (hny:∀ x ∈ pre ++ post,x.1 ≠ y0) (vars:List Str) (kinds:List NameKind) (hnd:vars.Nodup) (hok:((vars.zip kinds).all fun p=>(relabelS scope f.scope).names.lookup p.1 == some p.2) = true)
    (hkind:scope.kind = .function) (hloc:∀ x ∈ scope.names,x.2 = .local→scope.names.lookup x.1 = some .local) (hcap:CapL1 f Γ (relabelS scope f.scope) scope.names y0 vars Γc) (hrel:(relabelS scope f.scope).names.lookup y0 = some .cell)
    (h1:ItE S k f Γ iter tg ds) (hz:ds.length≤sizeLine)
    (h3:∀ fc:Fi,fc.scope = relabelS scope f.scope→fc.vars = vars→fc.kinds = kinds→CL S k fc tg elt ifs Γc ds outs) (hs:∀ env x,foldedSetIterable iter env x = pure x) :
    EV S k f Γ (.ListComp elt [⟨tg,iter,ifs,0⟩] scope pos) (.list outs):=by
  intro A g W env s Q E R st hQ
  rw [eval_ListComp]
  show wpAny S.M A (comprehension _ scope env _ (newList []) false (eval iter env)) Q E s
  refine comp_core1 hnm hfr1 hfr2 hny hnd hok hkind hloc hcap hrel h1 hz h3 hs R st fun ax C g' s' t r hns hC hge=>?_
  refine e1_1 (hns) (fun m hns=>?_)
  refine ⟨m,hns,fun h' hsb=>?_⟩
  have nT:¬ S.T C:=by refine e3_3 (hns) (fun o es ep e hd _=>?_);exact t.now.notT e (by rw [hd];nofun)
  have t₂:Tr S (fun a=>a = C) g' s' g' { s' with heap:=h',toks:=s'.toks }:=Tr.set t.keep t.base t.now hsb rfl hC nT (Nat.le_refl _)
  exact hQ _ g' _ (t.trans t₂ fun a q=>by rw [q];exact hge) r
end
end
section
open PySem PySem.W PySem.Calls PyProof.Rows
section
variable {S:Sig} {k:Nat}
theorem Op2.gtS {a b:List Nat}:Op2 S k (compareOp .Gt) (.str a) (.str b) (.bool (decide (b < a))):=by
  intro A g s v₁ v₂ Q E at' r1 r2 h
  cases r1 using Rd.casesStr;cases r2 using Rd.casesStr
  exact P.gt_str (h _ g _ (at'.refl _) (.raw _))
theorem Op2.neLS {xs ys:List (List Nat)} (h1:∀ x ∈ xs,okC x = true) (h2:∀ x ∈ ys,okC x = true):Op2 S k (compareOp .NotEq) (.list (xs.map .str)) (.list (ys.map .str)) (.bool (!decide (xs = ys))):=by
  have h:=Op2.neD (S:=S) (k:=k) true (ok_strs h1) (ok_strs h2)
  have e:(D.list (xs.map .str) = D.list (ys.map .str)) ↔ xs = ys:=by
    constructor
    · intro q
      injection q with q
      exact (List.map_inj_right fun a b q=>by injection q).mp q
    · rintro rfl;rfl
  exact bool_any (P:=fun c=>Op2 S k (compareOp .NotEq) (.list (xs.map .str)) (.list (ys.map .str)) (.bool (!c))) e h
theorem strs_mem {x:List Nat} {xs:List (List Nat)}:D.str x ∈ xs.map D.str ↔ x ∈ xs:=by
  constructor
  · intro h
    refine e1_2 (List.mem_map.mp h) (fun y hy e=>?_)
    injection e with e
    exact e ▸ hy
  · exact fun h=>List.mem_map_of_mem h
theorem Op2.notInLS {x:List Nat} {xs:List (List Nat)} (h1:okC x = true) (h2:∀ x ∈ xs,okC x = true):Op2 S k (compareOp .NotIn) (.str x) (.list (xs.map .str)) (.bool (!decide (x ∈ xs))) :=
  bool_any (P:=fun c=>Op2 S k (compareOp .NotIn) (.str x) (.list (xs.map .str)) (.bool (!c))) strs_mem (Op2.notInL true (h1) fun e he=>by
    (refine e1_2 (List.mem_map.mp he) (fun y hy q2q=>?_);subst q2q)
    exact h2 y hy)
end
theorem enumD_map {α:Type} (g:α→D) (xs:List α):enumD (xs.map g) = xs.zipIdx.map fun a=>D.tup [.int (a.2:Int),g a.1]:=by
  unfold enumD
  rw [List.zipIdx_map,List.map_map]
  rfl
theorem zipD_map {α β:Type} (g:α→D) (h:β→D) (xs:List α) (ys:List β):zipD (xs.map g) (ys.map h) = (xs.zip ys).map fun a=>D.tup [g a.1,h a.2]:=by
  unfold zipD
  rw [List.zip_map,List.map_map]
  rfl
end
section
open PySem PySem.W PySem.Calls PyProof.Rows
theorem Tr.gensTo {S:Sig} {W:Addr→Prop} {g g':Heap} {s s':Shared} (t:Tr S W g s g' { s' with gens:=s.gens }) (h1:AllBare s.gens→AllBare s'.gens) (h2:s.gens.size≤s'.gens.size):Tr S W g s g' s' :=
  ⟨t.mono,t.keep,t.same,t.fresh,t.size,t.tabs,t.base,⟨t.now.pos,t.now.all⟩,t.os,h1,h2,t.toks⟩
theorem Tr.toksBack {S:Sig} {W:Addr→Prop} {g g':Heap} {s s':Shared} (t:Tr S W g s g' s') (h:0 < s.toks):Tr S W g s g' { s' with toks:=s.toks } :=
  ⟨t.mono,t.keep,t.same,t.fresh,t.size,t.tabs,t.base,⟨h,t.now.all⟩,t.os,t.bare,t.gens,Nat.le_refl _⟩
theorem passing_true (n:Nat):passing (fun _=>true) n 0 = List.range n:=by
  unfold passing;rw [List.drop_zero,List.filter_eq_self.mpr (fun _ _=>rfl)]
theorem codeHd_at {g h:Heap} {c P:Addr} {ts:Array Value} (CH:CodeHd g c P) (k:Keep g h) (hP:h.get? P = some (tabObj ts)) (hok:TriplesOk ts.toList):h.IsCode c P ts∧h.TableAt c P ts:=by
  refine byC fun C hC=>?_
  obtain ⟨o,vs,file,tf,flags,tg,inF,text,tt,e1,r1,r2,r3,r4,r5,r6,r7,r8,hne⟩:=CH
  exact hC ⟨⟨o,vs,file,tf,flags,tg,inF,text,tt,tabObj ts,k _ _ e1,r2,r4,r5,r6,r7,r8,hP,rfl,hok,hne⟩,⟨⟨o,vs,k _ _ e1,r1,r2,r3⟩,hP⟩⟩
section
variable {S:Sig} {k:Nat} {f:Fi} {Γ:Ctxt} {iter elt:Expr} {pos gpos px cp apos:Pos} {scope:Scope} {x sepS:Str} {kk:Nat}
theorem EV.joinGen [Free S] {c P:Addr} {sep:List Nat} {ps:List (List Nat)} {fn:List Nat→List Nat} (hcs:Cs sepS sep) (hsepl:sep.length≤sizeLine) (hc:f.code = .ref c) (hq:(c,P) ∈ S.tabs) (hqual:∀ p':Pos,p'.line = gpos.line→p'.col = gpos.col→S.qualAt p' = f.qual ++ "<genexpr>")
    (h1:EV S k f Γ iter (.list (ps.map .str)))
    (hco:scope.isCoroutine = false) (hclos:∀ env,closureFor scope env = pure []) (hcell:∀ y ∈ scope.names,y.2 ≠ .cell) (h0:scope.names.lookup (".0":Str) = some NameKind.local) (hx:scope.names.lookup x = some .local) (hkind:scope.kind = .function)
    (helt:∀ (env:Env) (C:Addr) (code:Value) (A':Around) (E':Value→Shared→Prop) (a:List Nat) (t:Tok) (s₂:Shared) (m₂:Str→Option Value),a ∈ ps→A'.handled = none→s₂.heap.Ns (genEnv scope [] C code builtinsNs env).locals m₂→m₂ x = some (.str ⟨a.toArray⟩ t) →
      wpAny S.M A' (eval elt (genEnv scope [] C code builtinsNs env)) (fun y s₃=>(∃ u,y = .str ⟨(fn a).toArray⟩ u)∧Keeps s₂ s₃) E' s₂)
    (hz:((ps.map fn).map fun p=>p.length + sep.length).sum≤sizeLine) (hpl:ps.length≤100000)
    (hline:(apos.endLine == pos.line) = true) (hs:∀ env x,genFold iter env x = pure x)
    (hst:∀ env,backTo pos (starEach [.GeneratorExp elt [⟨.Name x px,iter,[],0⟩] scope gpos] env) = [(false,eval (.GeneratorExp elt [⟨.Name x px,iter,[],0⟩] scope gpos) env)])
    (hbase:∀ env,attributeBase (.Constant (.str sepS) kk cp) "join" env (eval (.Constant (.str sepS) kk cp) env) = eval (.Constant (.str sepS) kk cp) env)
    (hfew:∀ env,((backTo pos (starEach [.GeneratorExp elt [⟨.Name x px,iter,[],0⟩] scope gpos] env)).all (fun x=>!x.1) && (backToKw pos (keywordEach [] env)).all (fun x=>x.1.isSome)
      && decide (([.GeneratorExp elt [⟨.Name x px,iter,[],0⟩] scope gpos]:List Expr).length + ([]:List Keyword).length + (if ([]:List Keyword).isEmpty then 0 else 1) < 30)) = true) :
    EV S k f Γ (.Call (.Attribute (.Constant (.str sepS) kk cp) "join" apos) [.GeneratorExp elt [⟨.Name x px,iter,[],0⟩] scope gpos] [] pos) (.str (joinL sep (ps.map fn))):=by
  intro A g W env s Q E R st hQ
  have hsl:=sizeLine_eq
  refine wpAny_Call_method (T:="str") (id:="str.join") (hbase env) (hfew env) hline PySem.F.plainAttrs_str PySem.F.slot_str_join PySem.F.type_str_join ?_
  refine (EV.cS hcs hsepl:EV S k f Γ (.Constant (.str sepS) kk cp) (.str sep)) A g W env s _ E R st fun ov g0 s0 t0 r0=>?_
  cases r0 using Rd.casesStr with
  | str t hsx =>
  refine ⟨typeIs_str _ _ _,nofun,?_⟩
  refine callWith_of (P:=fun h=>S.K.In h) (by rw [hst];rfl) (Callee.builtin (S:=S)) ?_
  rw [hst]
  have st0:=st.move t0
  have hdep:A.depth < recursionLimit:=by have:=R.depth;lia
  have pos0:0 < s0.toks:=st0.tabs.pos
  refine evalArgs_any rfl (spliced_cons (wpAny_grown (wpAny_GeneratorExp_walksQ (R.handled Free.free) hco (hclos env) hcell h0 hx hkind hdep (h1 A g0 W env s0 _ _ R st0 fun v g1 s1 t1 r1=>?_) (hs env))))
  have st1:=st0.move t1
  have B:=st1.base
  have T:=st1.tabs
  have K:=st1.keep
  refine e2_6 (B.bmain) (fun bm ob hbm1 hbm2 hbm3 hbm4 hbm5 hbm6=>?_)
  refine e0_2 (B.heads _ hq) (fun CH gP=>?_)
  refine e1_3 (T.all _ hq) (fun ts hP hok hrec=>?_)
  simp only at hP gP CH
  have hqu:env.qual = f.qual:=st.envIs.qual
  have hgl:env.globals = mainGlobals:=st.envIs.globals
  have hbP:bm ≠ P:=fun q=>by rw [q,gP] at hbm3;cases hbm3
  have hgP:mainGlobals ≠ P:=fun q=>by
    obtain ⟨o,es,ep,e,hd,_⟩:=B.glob
    rw [q,gP] at e;cases e
  cases r1 using Rd.casesList with
  | list e hl rs =>
  rename_i l ws n
  have hwl:ws.length = ps.length:=by rw [rs.length];simp
  have el:=K _ _ e
  have hlt:l < s1.heap.objs.size:=Heap.lt_size el
  have hL:s1.heap.IsList l ws.toArray:=⟨_,el,rfl,n,rfl⟩
  have hlP:l ≠ P:=fun q=>by rw [q,gP] at e;cases e
  have hPlt:P < s1.heap.objs.size:=Heap.lt_size hP
  have hnl:=B.nolimit.keeps K
  have hcs:cStatics ≠ P:=fun q=>by
    refine e1_2 (B.nolimit) (fun _ hns _=>?_)
    refine e3_3 (hns) (fun o es ep ho hd _=>?_)
    rw [q,gP] at ho;cases ho
  have hcslt:cStatics < s1.heap.objs.size:=by refine e1_2 (hnl) (fun _ hns _=>?_);exact hns.lt
  refine wpAny_pyIter_list hL ⟨hnl.push _,?_⟩
  let s2:Shared:={ s1 with heap:=s1.heap.push { cls:=.type "list_iterator",data:=.fields #[.ref l,.int 0 0] } }
  have k12:∀ b o,s1.heap.get? b = some o→s2.heap.get? b = some o:=fun b o e=>Heap.get?_push_of_some _ e
  have z12:s2.heap.objs.size = s1.heap.objs.size + 1:=Heap.size_push ..
  refine e0_2 (codeHd_at CH (fun b o e=>k12 _ _ (K b o e)) (k12 _ _ hP) hok) fun hIC hTA=>?_
  have B':Tabs S g1 { s1 with toks:=s0.toks }:=⟨pos0,T.all⟩
  have hcode:env.code = .ref c:=st.envIs.code.trans hc
  have code:∀ (Q:Value→Shared→Prop) (E:Value→Shared→Prop),(∀ cv s3,(∀ b o,b ≠ P→s2.heap.get? b = some o→s3.heap.get? b = some o)→s2.heap.objs.size≤s3.heap.objs.size→s3.gens = s1.gens→s3.os = s1.os →
      (∀ s':Shared,(∀ b o,b ≠ s1.heap.objs.size→b < s3.heap.objs.size→s3.heap.get? b = some o→s'.heap.get? b = some o)→s0.toks≤s'.toks→s3.heap.objs.size≤s'.heap.objs.size→s'.os = s1.os→s'.gens = s1.gens→∃ g',Tr S (Nw s1) g1 { s1 with toks:=s0.toks } g' s')→Q cv s3) →
      wpAny S.M A (genexprCode env gpos (env.qual ++ "<genexpr>") scope) Q E s2:=by
    intro Q E h
    cases hf:codeAmong gpos ts.toList with
    | some cv =>
      refine wpAny_genexprCode_hit hcode hIC hf (h cv s2 (fun b o _ e=>e) (Nat.le_refl _) rfl rfl fun s' hk ht hz ho hg=>?_)
      obtain ⟨g',t,_⟩:=Tr.grow (s:={ s1 with toks:=s0.toks }) (s':=s') (fun _=>False) K B B' (fun b o e=>hk b o (Nat.ne_of_lt (Heap.lt_size e)) (by rw [z12];exact Nat.lt_succ_of_lt (Heap.lt_size e)) (k12 b o e)) (by rw [z12] at hz;exact Nat.le_of_succ_le hz) ho hg ht
      exact ⟨g',t⟩
    | none =>
      refine wpAny_genexprCodeX hcode hIC hTA hf fun c' h' tk hx hge hlt hcode' hrec' htab _=>?_
      have hz2:s2.heap.objs.size≤h'.objs.size:=Nat.le_trans hge (Nat.le_of_lt hlt)
      refine h (.ref c') { s2 with heap:=h',toks:=tk } (fun b o hb e=>hx b o hb e) hz2 rfl rfl fun s' hk ht hz ho hg=>?_
      have lift:∀ b o,b ≠ s1.heap.objs.size→h'.get? b = some o→s'.heap.get? b = some o:=fun b o hb e=>hk b o hb (Heap.lt_size e) e
      have nI:P ≠ s1.heap.objs.size:=Nat.ne_of_lt hPlt
      have nc':c' ≠ s1.heap.objs.size:=Nat.ne_of_gt (by have:=hge;rw [z12] at this;exact this)
      rw [hqu] at hrec'
      obtain ⟨g',t,_⟩:=Tr.growT (s:={ s1 with toks:=s0.toks }) (s':=s') (lpos:=gpos) (cv:=.ref c') (line:=0) (col:=0) K B B' hq hP
        (fun b o hb e=>lift b o (Nat.ne_of_lt (Heap.lt_size e)) (hx b o hb (k12 b o e))) (lift _ _ nI htab.2)
        (fun p' h1 h2=>by
          rw [hqual p' h1 h2]
          refine e4_3 (hrec') (fun c2 oc vs tt e1 e2 r=>?_)
          cases e1
          exact ⟨c',oc,vs,tt,rfl,lift _ _ nc' e2,r⟩)
        (fun a e=>by cases e;exact Nat.le_trans (by rw [z12];exact Nat.le_succ _) hge) (Nat.le_trans (by rw [z12] at hz2;exact Nat.le_of_succ_le hz2) hz) ho hg ht
      exact ⟨g',t⟩
  refine code _ _ fun cv s3 hk3 hz3 hg3 ho3 mk=>?_
  have k3:∀ b o,b ≠ P→s1.heap.get? b = some o→s3.heap.get? b = some o:=fun b o hb e=>hk3 b o hb (k12 b o e)
  have z3:s1.heap.objs.size < s3.heap.objs.size:=by rw [z12] at hz3;exact hz3
  rw [hgl]
  refine wpAny_builtinsFor (m:=S.mg) ((B.glob.keeps K).extBut (fun b o hb e=>k3 b o hb e) hgP) hbm1 hbm2 (k3 _ _ hbP (K _ _ hbm3)) hbm4 hbm5 hbm6 ?_
  have hL3:s3.heap.IsList l ws.toArray:=hL.at fun o e=>k3 l o hlP e
  have it3:s3.heap.IsListIter s1.heap.objs.size l 0:=⟨_,hk3 _ _ (Nat.ne_of_gt hPlt) (Heap.get?_push_size _ rfl),rfl,rfl⟩
  have hnl3:s3.heap.NoLimit:=hnl.extBut (fun b o hb e=>k3 b o hb e) hcs
  have hne:l ≠ s1.heap.objs.size:=Nat.ne_of_lt hlt
  refine ⟨s1.heap.objs.size,[s1.heap.objs.size,l],[s1.heap.objs.size],ws.toArray.size,_,_,fun _=>true,fun i y=>∃ u,y = .str ⟨(fn (ps.getD i [])).toArray⟩ u,rfl,fun A' hA=>Walks.list hA s1.heap.objs.size l hne ws.toArray,⟨it3,hL3⟩,fun b hb=>?_,hnl3,fun hb=>?_,fun href hhref=>⟨fun A' E' i v s₂ m₂ _ hP hn hm _=>?_,fun A' E' i v s₂ m₂ hA hPv _ hn hm _=>?_⟩,fun a h₅ tk gs hbare hag hsz hk5 Wk hat=>fun G0=>?_⟩
  · rcases List.mem_cons.mp hb with rfl | hb
    · exact z3
    · rcases List.mem_cons.mp hb with rfl | hb
      · exact Nat.lt_trans hlt z3
      · cases hb
  · rcases List.mem_cons.mp hb with q | hb
    · exact Nat.ne_of_lt hcslt q
    · cases hb
  · exact wpAny_pure ⟨rfl,_,_,rfl,fun _ _ e=>e⟩
  · have hv:ws[i]? = some v:=by simpa using hPv
    have hi:i < ps.length:=by rw [← hwl];exact (List.getElem?_eq_some_iff.mp hv).1
    refine e1_2 (rs.get i (d:=.str ps[i]) (by simp [hi])) (fun v' hv' r'=>?_)
    rw [hv] at hv';cases hv'
    cases r' using Rd.casesStr with
    | str u _ =>
      have e:ps.getD i [] = ps[i]:=by simp [List.getD_eq_getElem?_getD,hi]
      rw [e]
      exact helt env _ cv A' E' ps[i] u s₂ m₂ (List.getElem_mem hi) hA hn hm
  · have kg:Keep g1 h₅:=fun b o e=>hk5 b o (k3 b o (fun q=>by rw [q,gP] at e;cases e) (K b o e))
    refine spliced_nil ⟨B.kin.keeps kg,?_⟩
    show wpAny S.M A (PySem.call (.builtin "str.join") [.str ⟨sep.toArray⟩ t,.ref a]) Q E _
    have hnum:(passing (fun _=>true) ws.toArray.size 0).length = ps.length:=by rw [passing_true];simp [hwl]
    have hidx:∀ j i,(passing (fun _=>true) ws.toArray.size 0)[j]? = some i→i = j:=fun j i h=>by
      rw [passing_true] at h
      refine e1_1 (List.getElem?_eq_some_iff.mp h) (fun hj e=>?_)
      simpa using e.symm
    refine wpAny_grown (SC.joinGen Wk.in4_2 (fun i s' st=>st.1.typeIs) hat ?_ List.mem_cons_self (fun j v ⟨i,hi,u,hv⟩=>⟨_,u,hv⟩) (fun s' lt hm hacc=>?_) (by rw [hnum];lia))
    · intro b hb
      show b < h₅.objs.size
      rw [hsz]
      rcases List.mem_cons.mp hb with rfl | hb
      · exact Nat.lt_succ_self _
      · rcases List.mem_cons.mp hb with rfl | hb
        · exact Nat.lt_succ_of_lt hag
        · exact Nat.lt_succ_of_lt (Nat.lt_trans (List.mem_range.mp hb) hag)
    · have hlt':lt.length = ps.length:=by have:=hacc.1;rw [hnum] at this;simpa [strValues] using this
      have el':lt.map (·.1) = (ps.map fn).map fun p=>⟨p.toArray⟩:=by
        apply List.ext_getElem?
        intro j
        by_cases hj:j < ps.length
        · have hj':j < lt.length:=by lia
          obtain ⟨i,hi,u,hv⟩:=hacc.2 j (.str lt[j].1 lt[j].2) (by simp [strValues,List.getElem?_eq_getElem hj'])
          have:=hidx j i hi
          subst this
          injection hv with h1 _
          simp [List.getElem?_eq_getElem hj',hj,h1,List.getD_eq_getElem?_getD]
        · rw [List.getElem?_eq_none (by simp;lia),List.getElem?_eq_none (by simp;lia)]
      have hlen:=joinL_len sep (ps.map fn)
      refine ⟨?_,fun t' kt G1=>?_⟩
      · unfold JoinOk
        rw [el']
        simp only [List.foldl_toArray]
        rw [foldl_len]
        simp [Builtin.Str.tooLong,Str.length]
        simpa [Function.comp_def] using hz
      · have ej:Txt.join ⟨sep.toArray⟩ (lt.map (·.1)) = ⟨(joinL sep (ps.map fn)).toArray⟩:=by
          rw [el'];exact glued_eq sep (ps.map fn)
        rw [ej]
        have hs5:s3.heap.objs.size≤h₅.objs.size:=by rw [hsz];exact Nat.le_of_lt (Nat.lt_succ_of_lt hag)
        have nw:∀ b,b ≠ s1.heap.objs.size→b < s3.heap.objs.size→b ∉ [s3.heap.objs.size,s1.heap.objs.size]:=fun b hb hlt hmem=>by
          rcases List.mem_cons.mp hmem with q | hmem
          · subst q;exact Nat.lt_irrefl _ hlt
          · rcases List.mem_cons.mp hmem with q | hmem
            · exact hb q
            · cases hmem
        refine e1_1 (mk { s' with toks:=kt,gens:=s1.gens } (fun b o hb hlt e=>hm.heap b o (nw b hb hlt) (hk5 b o e)) (Nat.le_trans G0.toks G1.toks) (Nat.le_trans hs5 G1.heap) (hm.os.trans ho3) rfl) (fun g' tm=>?_)
        · have tm':Tr S (Nw s1) g1 { s1 with toks:=s0.toks } g' { s' with toks:=kt }:=tm.gensTo (fun h=>?_) ?_
          · exact hQ _ g' _ ((t0.then (t1.toksBack pos0)).then tm') (.str _ t' (by lia))
          · exact AllBare.moved (g:=s3.gens.size) (by rw [hg3];exact AllBare.push h hbare) hm.gens
          · have e2:=G1.gens
            have:s1.gens.size≤(s3.gens.push gs).size:=by rw [hg3];simp
            exact Nat.le_trans this e2
end
end
section
open PySem PySem.W PySem.Calls PyProof.Rows Builtin
open Builtin.Str in
theorem gives_find4 (x y:Str) (i j:Int) (t u v w:Tok):Gives (Builtin.«str.find» ⟨[.str x t,.str y u,.int i v,.int j w],[]⟩) (.int (match Builtin.Str.occurrences x y (fromIndex x.length i) (min (fromIndex x.length j) x.length) 1 with | k :: _=>(k:Int) | []=>-1)):=by
  show Gives (match Builtin.Str.occurrences x y (fromIndex x.length i) (min (fromIndex x.length j) x.length) 1 with | k :: _=>retInt k | []=>(do rule "str.find.not-found";retInt (-1))) _
  cases Builtin.Str.occurrences x y (fromIndex x.length i) (min (fromIndex x.length j) x.length) 1 with
  | nil=>exact .rule (.of_eq rfl)
  | cons k _=>exact .of_eq rfl
noncomputable def findC (c:Nat) (xs:List Nat) (lo hi:Nat):Option Nat:=((List.range' lo (hi + 1 - lo)).filter fun i=>decide (i < hi∧xs[i]? = some c)).head?
section
variable {S:Sig} {k:Nat} {f:Fi} {Γ:Ctxt}
theorem Ops.findC {xs:List Nat} {c lo hi:Nat} (hh:hi≤xs.length):Ops S k (fun vs=>PySem.call (.builtin "str.find") vs) [.str xs,.str [c],.int (lo:Int),.int (hi:Int)] (.int (match Mine.findC c xs lo hi with | some i=>(i:Int) | none=>-1)):=by
  intro A g0 s vs Q E at' rs h
  cases rs using Rds.casesCons with
  | cons r1 r2 =>
  cases r2 using Rds.casesCons with
  | cons r2 r3 =>
  cases r3 using Rds.casesCons with
  | cons r3 r4 =>
  cases r4 using Rds.casesCons with
  | cons r4 r5 =>
  cases r5 using Rds.casesNil
  cases r1 using Rd.casesStr with
  | str t hx =>
  cases r2 using Rd.casesStr with
  | str u hy =>
  cases r3 using Rd.casesInt with
  | int v =>
  cases r4 using Rd.casesInt with
  | int w =>
  have hl:(⟨xs.toArray⟩:Str).length = xs.length:=by simp [Str.length]
  have fi:∀ n:Nat,fromIndex (⟨xs.toArray⟩:Str).length (n:Int) = n:=fun n=>by unfold fromIndex;rw [if_neg (Int.not_lt.mpr (Int.natCast_nonneg n))];lia
  have f1:=fi lo
  have f2:min (fromIndex (⟨xs.toArray⟩:Str).length (hi:Int)) (⟨xs.toArray⟩:Str).length = hi:=by rw [fi,hl,Nat.min_eq_left hh]
  have g:=gives_find4 (⟨xs.toArray⟩:Str) (⟨[c].toArray⟩:Str) (lo:Int) (hi:Int) t u v w
  rw [f1,f2,show ([c]:List Nat).toArray = #[c] from rfl,occ1 xs c lo hi 1 hh] at g
  refine call_gives PySem.F.slot_str_find (typeIs_str _ _ _) PySem.F.entry_str_find (PySem.F.args_str_find_4 _ _ _ _) g ?_
  refine h _ g0 _ (at'.tick _ (Nat.le_succ _)) ?_
  unfold Mine.findC
  cases ((List.range' lo (hi + 1 - lo)).filter fun i=>decide (i < hi∧xs[i]? = some c)) with
  | nil=>exact .int _ _
  | cons a r=>exact .int _ _
end
theorem findC_some {c:Nat} {xs:List Nat} {lo hi i:Nat} (h1:lo≤i) (h2:i < hi) (h3:xs[i]? = some c) (h4:∀ j,lo≤j→j < i→xs[j]? ≠ some c):findC c xs lo hi = some i:=by
  unfold findC
  have e:List.range' lo (hi + 1 - lo) = List.range' lo (i - lo) ++ i :: List.range' (i + 1) (hi - i):=by
    have:hi + 1 - lo = (i - lo) + ((hi - i) + 1):=by
      refine e1_1 (Nat.exists_eq_add_of_le h1) fun k e=>?_
      subst e
      refine e1_1 (Nat.exists_eq_add_of_lt h2) fun m e=>?_
      subst e
      simp only [Nat.add_assoc,Nat.add_sub_cancel_left,Nat.add_sub_add_left]
    rw [this,← List.range'_append,List.range'_succ]
    simp only [Nat.one_mul]
    have:lo + (i - lo) = i:=Nat.add_sub_of_le h1
    rw [this]
  rw [e,List.filter_append,List.filter_eq_nil_iff.mpr,List.nil_append,List.filter_cons_of_pos (by simp [h2,h3])]
  · rfl
  · intro j hj
    have:=List.mem_range'_1.mp hj
    simp only [decide_eq_true_eq,not_and]
    intro _
    exact h4 j this.1 (by lia)
theorem findC_none {c:Nat} {xs:List Nat} {lo hi:Nat} (h:∀ j,lo≤j→j < hi→xs[j]? ≠ some c):findC c xs lo hi = none:=by
  unfold findC
  rw [List.filter_eq_nil_iff.mpr]
  · rfl
  · intro j hj
    have:=List.mem_range'_1.mp hj
    simp only [decide_eq_true_eq,not_and]
    intro q
    exact h j this.1 q
section
variable {S:Sig} {k:Nat} {f:Fi} {Γ:Ctxt} {st:Stmt} {sts:List Stmt}
theorem St.forget {g:Heap} {W:Addr→Prop} {env:Env} {s:Shared} (j:Nat) (st:St S f Γ g W env s):St S f (Γ.set j none) g W env s:=by
  refine e2_5 (st.vars) (fun m ad hns hb hg hH hI=>?_)
  have got:∀ {i:Nat} {b:B},(Γ.set j none)[i]? = some (some b)→Γ[i]? = some (some b):=fun {i b} e=>by
    by_cases h:j = i
    · subst h
      rw [List.getElem?_set_self'] at e
      cases q:Γ[j]? <;> rw [q] at e <;> simp at e
    · rwa [List.getElem?_set_ne h] at e
  exact ⟨st.keep,st.base,st.tabs,st.envIs,st.wide,st.clt,m,ad,hns,hb,hg,fun i x b hy hb'=>hH i x b hy (got hb'),fun p q xs ys e1 e2=>hI p q xs ys (got e1) (got e2)⟩
theorem EXs.forgetN {Γ':Ctxt} (j:Nat) (h:EXs S k f Γ sts (.next Γ')):EXs S k f Γ sts (.next (Γ'.set j none)):=by
  intro A g W env s Q E R st hQ
  refine h A g W env s Q E R st fun fl g' s' t p=>hQ fl g' s' t ?_
  exact ⟨p.1,p.2.forget j⟩
end
end
section
open PySem PySem.W PySem.Calls PyProof.Rows
section
variable {S:Sig}
theorem wp_replaceNo {A:Around} {E:Value→Shared→Prop} {s:Shared} {Q:Value→Shared→Prop} {xs:List Nat} {c:Nat} {c1 y1:Str} {t u w:Tok} (hc1:Cs c1 [c]) (hn:c ∉ xs)
    (h:Q (.str ⟨xs.toArray⟩ t) s):wpAny S.M A (call (.builtin "str.replace") [.str ⟨xs.toArray⟩ t,.str c1 u,.str y1 w]) Q E s:=by
  have ec:c1 = ⟨#[c]⟩:=by
    obtain ⟨a⟩:=c1;unfold Cs at hc1
    have:a = #[c]:=Array.toList_inj.mp (by simpa using hc1)
    rw [this]
  subst ec
  have hl:(⟨xs.toArray⟩:Str).length = xs.length:=by simp [Str.length]
  have hocc:Builtin.Str.occurrences ⟨xs.toArray⟩ ⟨#[c]⟩ 0 (⟨xs.toArray⟩:Str).length ((⟨xs.toArray⟩:Str).length + 1) = []:=by
    rw [hl,occ1 xs c 0 xs.length (xs.length + 1) (Nat.le_refl _),List.filter_eq_nil_iff.mpr,List.take_nil]
    intro i _
    simp only [decide_eq_true_eq,not_and]
    exact fun _ e=>hn (List.mem_of_getElem? e)
  have g:=gives_str_replace (⟨xs.toArray⟩:Str) (⟨#[c]⟩:Str) y1 t u w (by rw [hocc];intro q;simp at q)
  rw [hocc] at g
  refine call_gives PySem.F.slot_str_replace (typeIs_str _ _ _) PySem.F.entry_str_replace (PySem.F.args_str_replace_3 _ _ _) g ?_
  exact h
theorem wp_elt {A:Around} {E:Value→Shared→Prop} {s:Shared} {env:Env} {x:Str} {p0 ap1 ap2 pos1 pos2 q1 q2 q3 q4:Pos} {k1 k2 k3 k4:Nat} {c1 y1 c2 y2:Str} {u1 u2:Nat} {a:List Nat} {t:Tok} {m:Str→Option Value}
    (hns:s.heap.Ns env.locals m) (hm:m x = some (.str ⟨a.toArray⟩ t)) (hk:env.scope.kind = .function) (hl:env.scope.names.lookup x = some .local) (hd:(x == ("__debug__":Str)) = false)
    (hc1:Cs c1 [u1]) (hc2:Cs c2 [u2]) (h1:u1 ∉ a) (h2:u2 ∉ a) (hl1:(ap1.endLine == pos1.line) = true) (hl2:(ap2.endLine == pos2.line) = true) :
    wpAny S.M A (eval (.Call (.Attribute (.Call (.Attribute (.Name x p0) "replace" ap1) [.Constant (.str c1) k1 q1,.Constant (.str y1) k2 q2] [] pos1) "replace" ap2) [.Constant (.str c2) k3 q3,.Constant (.str y2) k4 q4] [] pos2) env)
      (fun y s₃=>(∃ u,y = .str ⟨a.toArray⟩ u)∧Keeps s s₃) E s:=by
  refine wpAny_Call_method (T:="str") (id:="str.replace") (by rfl) (by rfl) hl2 PySem.F.plainAttrs_str PySem.F.slot_str_replace PySem.F.type_str_replace ?_
  refine wpAny_Call_method (T:="str") (id:="str.replace") (by rfl) (by rfl) hl1 PySem.F.plainAttrs_str PySem.F.slot_str_replace PySem.F.type_str_replace ?_
  refine ldG hns hm ?_ hk hl hd
  refine ⟨typeIs_str _ _ _,nofun,?_⟩
  refine callWith_of (P:=fun _=>True) (by rfl) (fun _ _=>⟨.machine,.inr (.inl rfl),.of_pure rfl⟩) ?_
  refine evalArgs_any (by rfl) ?_
  show wpAny S.M A (spliced [(false,eval (.Constant (.str c1) k1 q1) env),(false,eval (.Constant (.str y1) k2 q2) env)]) _ _ _
  refine spliced_cons (Constant_str (spliced_cons (Constant_str (spliced_nil ⟨trivial,?_⟩))))
  refine wp_replaceNo hc1 h1 ?_
  refine ⟨typeIs_str _ _ _,nofun,?_⟩
  refine callWith_of (P:=fun _=>True) (by rfl) (fun _ _=>⟨.machine,.inr (.inl rfl),.of_pure rfl⟩) ?_
  refine evalArgs_any (by rfl) ?_
  show wpAny S.M A (spliced [(false,eval (.Constant (.str c2) k3 q3) env),(false,eval (.Constant (.str y2) k4 q4) env)]) _ _ _
  refine spliced_cons (Constant_str (spliced_cons (Constant_str (spliced_nil ⟨trivial,?_⟩))))
  refine wp_replaceNo hc2 h2 ?_
  exact ⟨⟨t,rfl⟩,_,_,rfl,fun _ _ e=>e⟩
variable {k:Nat} {f:Fi} {Γ Γ':Ctxt} {st:Stmt} {e:Expr}
theorem EX.forgetN (j:Nat) (h:EX S k f Γ st (.next Γ')):EX S k f Γ st (.next (Γ'.set j none)):=by
  intro A g W env s Q E R st hQ
  refine h A g W env s Q E R st fun fl g' s' t p=>hQ fl g' s' t ?_
  exact ⟨p.1,p.2.forget j⟩
theorem Tr.drop2 {g g' g'':Heap} {s s'':Shared} {V:Addr→Prop} {a:Addr} (B:Base S g) (hg:g.get? a = Option.none) (hoff:∀ b,b ≠ a→g'.get? b = g.get? b) (hd:∀ o,g'.get? a = some o→∀ vs,o.data ≠ .fields vs) (ha:g'.get? a ≠ Option.none) (t:Tr S V g' s g'' s'') :
    ∃ g₃,Tr S V g s g₃ s''∧∀ b,b ≠ a→g₃.get? b = g''.get? b:=by
  have get:∀ b,(cut g'' fun b=>!(b == a)).get? b = if b = a then Option.none else g''.get? b:=fun b=>by
    rw [cut_get];by_cases hb:b = a <;> simp [hb]
  have mono:Keep g (cut g'' fun b=>!(b == a)):=fun b o e=>by
    have hb:b ≠ a:=fun q=>by rw [q,hg] at e;cases e
    rw [get,if_neg hb]
    exact t.mono b o ((hoff b hb).trans e)
  refine ⟨cut g'' fun b=>!(b == a),⟨mono,fun b o e=>?_,t.same,fun b o e=>?_,t.size,t.tabs,B.mono mono fun q hq=>?_,⟨t.now.pos,fun q hq=>?_⟩,t.os,t.bare,t.gens,t.toks⟩,fun b hb=>by rw [get,if_neg hb]⟩
  · rw [get] at e;split at e
    · cases e
    · exact t.keep b o e
  · rw [get] at e;split at e
    · cases e
    · rename_i hb
      exact (t.fresh b o e).imp (fun q=>(hoff b hb).symm.trans q) id
  · rw [get];split
    · rfl
    · exact (t.base.heads q hq).2
  · refine e1_3 (t.now.all q hq) (fun ps e1 e2 e3=>?_)
    refine ⟨ps,e1,e2,fun pos cv e=>?_⟩
    refine e4_4 (e3 pos cv e) (fun c o vs tt h1 h2 h3 h4=>?_)
    refine ⟨c,o,vs,tt,h1,?_,h3,h4⟩
    rw [get,if_neg]
    · exact h2
    · rintro rfl
      cases q':g'.get? c with
      | none=>exact ha q'
      | some o' =>
        have:=t.mono _ _ q'
        rw [h2] at this;cases this
        exact hd _ q' _ h3
theorem EV.borrowR {x:Str} {kd:NameKind} {xs:List D} {a b c:Int} {j:Nat} (n:Nm f x j kd) (hj:Γ[j]? = some (some (.own xs))) (h:EV S k f (Γ.set j (some (.val (.list xs)))) e (.rng a b c)):EV S k f Γ e (.rng a b c):=by
  intro A g W env s Q E R st hQ
  refine e4_5 (st.freeze hj n.lt) (fun ad vs n' g' h1 h2 h3 t st'=>?_)
  refine h A g' W env s Q E R st' fun v g₂ s₂ t₂ r₂=>?_
  (refine e1_2 (Tr.drop2 st.base h1 h3 (fun o e=>by rw [h2] at e;cases e;nofun) (by rw [h2];nofun) t₂) (fun g₃ t₃ off=>?_))
  cases r₂ using Rd.casesRng with
  | rng er =>
    refine hQ _ g₃ s₂ t₃ (.rng ((off _ fun q=>?_).trans er))
    rw [q] at er
    rw [t₂.mono _ _ h2] at er
    exact absurd (congrArg Obj.cls (Option.some.inj er)) (show Value.type "list" ≠ Value.type "range" by decide)
end
end
section
open PySem PySem.W PySem.Calls PyProof.Rows
section
variable {S:Sig} {k:Nat} {f:Fi} {Γ:Ctxt} {e:Expr} {pos:Pos}
theorem EV.sliceST {a:List Nat} {lo hi:Option Expr} {i j:Option Int} {p:Pos} (h1:EV S k f Γ e (.str a)) (h2:PV S k f Γ lo i) (h3:PV S k f Γ hi j) :
    EV S k f Γ (.Subscript e (.Slice lo hi none p) pos) (.str (pick i j a)):=by
  intro A g W env s Q E R st hQ
  refine Subscript_ (h1 A g W env s _ E R st fun v g1 s1 t1 r1=>wpAny_Slice (h2.run A g1 W env s1 _ E R (st.move t1) fun p2 g2 s2 t2 e2=>h3.run A g2 W env s2 _ E R ((st.move t1).move t2) fun p3 g3 s3 t3 e3=>?_))
  rw [evalPart_none]
  refine wpAny_pure ?_
  cases r1 using Rd.casesStr
  rename_i t hsz
  refine tail_any (typeIs_str _ _ t) PySem.F.slot_str_getitem.lookup (wpAny_getItem_str_slice (l:=p2) (u:=p3) (st:=none) ⟨_,Heap.get?_push_size _ rfl,rfl,rfl⟩ rfl ?_) (rfl:_ = operate [_,_] _)
  have a3:=(((st.move t1).move t2).move t3).at R
  have T:=(t1.then t2).then t3
  have hp:=picked_eq (a:=a) (p:=p2) (q:=p3)
  rw [e2,e3] at hp
  unfold sliceMade
  split
  · rename_i hw
    refine e1_2 (a3.push { cls:=.type "slice",data:=.fields #[partValue p2,partValue p3,.none] } (t:=s3.toks)) (fun g4 t4 _=>?_)
    refine hQ _ g4 _ (T.then t4) ?_
    have:(pick i j a) = a:=by
      apply slice_whole
      have hl:=picked_len (a:=a) (p:=p2) (q:=p3)
      rw [e2,e3] at hl
      rw [← hl]
      simpa [Str.length] using hw
    rw [this];exact .str a t hsz
  · refine e1_2 (a3.push { cls:=.type "slice",data:=.fields #[partValue p2,partValue p3,.none] } (t:=s3.toks + 1)) (fun g4 t4 _=>?_)
    rw [hp]
    have hl:=Nat.le_trans (pick_length_le i j a) hsz
    refine ⟨by show (pick i j a).toArray.size≤_;simpa using hl,hQ _ g4 _ (T.then t4) (.str _ _ hl)⟩
theorem EX.toR {st:Stmt} {r r':Res} (h:EX S k f Γ st r) (e:r = r'):EX S k f Γ st r':=e ▸ h
end
end
section
open PySem PySem.W PySem.Calls PyProof.Rows
theorem setG_off {a:Addr} {xs:List D} {G:Gh} (h:∀ p ∈ G,p.1 ≠ a):setG a xs G = G:=by
  unfold setG
  conv=>rhs;rw [← List.map_id G]
  exact List.map_congr_left fun p hp=>by rw [if_neg (h p hp)];rfl
theorem setG_cons {a:Addr} {xs:List D} {p:Addr × List D} {G:Gh}:setG a xs (p :: G) = (if p.1 = a then (a,xs) else p) :: setG a xs G:=rfl
theorem nest_fst {a:Addr} {inn:Gh}:(nestG a inn).map Prod.fst = a :: inn.map Prod.fst:=rfl
theorem nest_apart {a:Addr} {inn:Gh} (h:((nestG a inn).map Prod.fst).Nodup):(∀ p ∈ inn,p.1 ≠ a)∧(inn.map Prod.fst).Nodup:=by
  rw [nest_fst,List.nodup_cons] at h
  exact ⟨fun p hp q=>h.1 (q ▸ List.mem_map_of_mem hp),h.2⟩
theorem setG_outer {a:Addr} {xs:List D} {inn:Gh} (h:∀ p ∈ inn,p.1 ≠ a):setG a xs (nestG a inn) = (a,xs) :: inn:=by
  unfold nestG
  rw [setG_cons,if_pos rfl,setG_off h]
theorem nest_new {a b:Addr} {inn:Gh} (h:((nestG a inn).map Prod.fst).Nodup) (hb:Off (nestG a inn) b) :
    (nestG a (inn ++ [(b,[])])).Perm (setG a (inn.map (fun p=>D.raw (.ref p.1)) ++ [.raw (.ref b)]) ((b,[]) :: nestG a inn)):=by
  have h1:=(nest_apart h).1
  have hba:b ≠ a:=fun q=>hb (a,_) (.head _) q.symm
  rw [setG_cons,if_neg hba,setG_outer h1]
  unfold nestG
  rw [List.map_append]
  refine (List.Perm.trans ?_ (List.Perm.swap _ _ _))
  exact (List.perm_append_comm (l₁:=inn) (l₂:=[(b,[])])).cons _
theorem nest_last {a b:Addr} {ini:Gh} {xs ys:List D} (h:((nestG a (ini ++ [(b,xs)])).map Prod.fst).Nodup) :
    setG b ys (nestG a (ini ++ [(b,xs)])) = nestG a (ini ++ [(b,ys)]):=by
  refine e0_2 (nest_apart h) (fun h1 h2=>?_)
  have hba:a ≠ b:=(h1 (b,xs) (by simp)).symm
  have h3:∀ p ∈ ini,p.1 ≠ b:=by
    rw [List.map_append,List.nodup_append] at h2
    exact fun p hp q=>h2.2.2 p.1 (List.mem_map_of_mem hp) b (by simp) q
  unfold nestG
  rw [setG_cons,if_neg hba]
  have e:setG b ys (ini ++ [(b,xs)]) = ini ++ [(b,ys)]:=by
    have:setG b ys (ini ++ [(b,xs)]) = setG b ys ini ++ setG b ys [(b,xs)]:=by unfold setG;rw [List.map_append]
    rw [this,setG_off h3]
    unfold setG;simp
  rw [e]
  simp
section
variable {S:Sig} {k:Nat} {fc:Fi} {tg elt:Expr}
theorem CL.mapAll {α τ:Type} (it out:α→D) (G:τ→Ctxt):∀ (as:List α) (t:τ),(∀ a ∈ as,∀ t,∃ t',AS S k fc (G t) tg (it a) (G t')∧EV S k fc (G t') elt (out a))→CL S k fc tg elt [] (G t) (as.map it) (as.map out)
  | [],t,_=>.nil
  | a :: as,t,h=>by
    refine e1_2 (h a (List.mem_cons_self ..) t) (fun t' h1 h2=>?_)
    exact .take h1 Ts.nil h2 (CL.mapAll it out G as t' fun b hb=>h b (List.mem_cons_of_mem _ hb))
end
section
variable {S:Sig} {k:Nat} {f:Fi} {Γ Γ₁ Γc:Ctxt} {e l r iter tg elt:Expr} {ifs:List Expr} {d:D} {ds outs:List D} {pos p':Pos} {scope:Scope}
theorem EX.assignComp1 {x:Str} {np:Pos} {y0:Str} (pre post:List (Str × NameKind)) (hnm:scope.names = pre ++ (y0,.cell) :: post) (hfr1:AllCap f Γ pre) (hfr2:AllCap f Γ post) (hny:∀ x ∈ pre ++ post,x.1 ≠ y0) (vars:List Str) (kinds:List NameKind) (hnd:vars.Nodup) (hok:((vars.zip kinds).all fun p=>(relabelS scope f.scope).names.lookup p.1 == some p.2) = true)
    (hkind:scope.kind = .function) (hloc:∀ x ∈ scope.names,x.2 = .local→scope.names.lookup x.1 = some .local) (hcap:CapL1 f Γ (relabelS scope f.scope) scope.names y0 vars Γc) (hrel:(relabelS scope f.scope).names.lookup y0 = some .cell)
    (h1:ItE S k f Γ iter tg ds) (hz:ds.length≤sizeLine)
    (h3:∀ fc:Fi,fc.scope = relabelS scope f.scope→fc.vars = vars→fc.kinds = kinds→CL S k fc tg elt ifs Γc ds outs) (hs:∀ env x,foldedSetIterable iter env x = pure x)
    (h4:AS S k f Γ (.Name x np) (.list outs) Γ₁) (hsw:∀ env,∃ b,swapsWithSole [.Name x np] (.ListComp elt [⟨tg,iter,ifs,0⟩] scope pos) p'.line env = pure b) (hw:∀ env,swappedStores [.Name x np] (.ListComp elt [⟨tg,iter,ifs,0⟩] scope pos) env = pure none) :
    EX S k f Γ (.Assign [.Name x np] (.ListComp elt [⟨tg,iter,ifs,0⟩] scope pos) p') (.next Γ₁):=by
  intro A g W env s Q E R st hQ
  refine e1_1 (hsw env) (fun b hb=>?_)
  have ha:∀ v,assignAll v ((assignEach [.Name x np] env).map (·.2)) = PySem.assign (.Name x np) env v:=fun _=>rfl
  cases b with
  | false =>
    refine wpAny_Assign_stores (EV.comp1 pre post hnm hfr1 hfr2 hny vars kinds hnd hok hkind hloc hcap hrel h1 hz h3 hs A g W env s _ E R st fun v g1 s1 t1 r1=>?_) hb (hw env)
    rw [ha]
    exact h4 A g1 W env s1 v _ E R (st.move t1) r1 fun g2 s2 t2 st2=>hQ _ g2 s2 ((t1.weak st.new).trans t2 (fun _ q=>q)) ⟨rfl,st2⟩
  | true =>
    rw [exec_Assign_arm]
    refine wpAny_bind (wpAny_standAt ?_)
    rw [hb]
    refine wpAny_bind (wpAny_pure ?_)
    rw [if_pos rfl]
    refine wpAny_bind ?_
    show wpAny S.M A (do let _ ← comprehension _ scope env _ (newList []) false (eval iter env) (some fun v=>assignAll v ((assignEach [.Name x np] env).map (·.2)))) _ _ _
    refine wpAny_bind (comp_core1 hnm hfr1 hfr2 hny hnd hok hkind hloc hcap hrel h1 hz h3 hs R st fun ax C g' s' t r hns hC hge=>?_)
    refine e1_1 (hns) (fun m hns=>?_)
    show wpAny S.M A (assignAll (.ref ax) _) _ E s'
    rw [ha]
    have st':=st.without (F:=fun a=>a = C) t fun a q=>by rw [q];exact ⟨hge,hns.lt⟩
    refine h4 A g' _ env s' (.ref ax) _ E R st' r fun g2 s2 t2 st2=>?_
    have hns2:=t2.ns t.now hns fun q=>q.2 rfl
    refine ⟨m,hns2,fun h' hsb=>wpAny_pure (wpAny_pure ?_)⟩
    have nT:¬ S.T C:=by refine e3_3 (hns2) (fun o es ep e hd _=>?_);exact t2.now.notT e (by rw [hd];nofun)
    have hC2:=t2.none hC fun q=>q.2 rfl
    have t3:Tr S (fun a=>a = C) g2 s2 g2 { s2 with heap:=h',toks:=s2.toks }:=Tr.set t2.keep t2.base t2.now hsb rfl hC2 nT (Nat.le_refl _)
    have st3:St S f Γ₁ g2 _ env { s2 with heap:=h' }:=st2.moveF (F:=fun a=>a = C) (t3.weak fun _=>.inr) (fun a q w=>w.2 q) (fun x c e q=>by
      have:=st.clt x c e
      rw [q] at this
      exact absurd this (Nat.not_lt.mpr hge))
    exact hQ _ g2 _ (((t.weak st.new).trans t2 fun _ q=>q.1).trans t3 fun a q=>by rw [q];exact st.wide _ hge) ⟨rfl,st3.widen fun _=>And.left⟩
end
end
section
open PySem PySem.W PySem.Calls PyProof.Rows
section
variable {S:Sig} {k:Nat} {f:Fi} {Γ Γ':Ctxt} {G:Gh} {P:Ctxt→Gh→Prop} {x y:Str} {e₁ e₂:Expr} {tg:List Expr} {p':Pos}
theorem swapped_cell {env:Env} {px py tp vp:Pos} {kt kv:Nat} (hx:env.kindOf x = some .local) (hy:env.kindOf y = some .cell) :
    swappedStores [.Tuple [.Name x px,.Name y py] kt tp] (.Tuple [e₁,e₂] kv vp) env = pure none:=by
  unfold swappedStores
  refine (Decidable.em _).elim (fun c=>if_pos c) fun c=>(if_neg c).trans ((Decidable.em _).elim (fun c=>if_pos c) fun c=>(if_neg c).trans ?_)
  dsimp only
  generalize hn:List.filterMap _ [Expr.Name x px,Expr.Name y py] = names
  obtain rfl:names = [x]:=by
    refine hn.symm.trans (fm1 ?_ ?_)
    · exact if_pos (by rw [hx];exact beq_self_eq_true px.line)
    · exact if_neg (by rw [hy];exact Bool.false_ne_true)
  exact if_pos rfl
theorem GX.allocT {tp vp l1 l2 l3 l4 l5 l6:Pos} {kt kv:Nat} (Γ':Addr→Addr→Ctxt) (hA:∀ a b,AS S k f Γ (.Tuple tg kt tp) (.tup [.raw (.ref a),.raw (.ref b)]) (Γ' a b))
    (hP:∀ a a1 a2 b b1 b2,P (Γ' a b) (nestG b [(b1,[]),(b2,[])] ++ (nestG a [(a1,[]),(a2,[])] ++ G)))
    (hsw:∀ env,swapsWithSole [.Tuple tg kt tp] (.Tuple [.List [.List [] l1,.List [] l2] l3,.List [.List [] l4,.List [] l5] l6] kv vp) p'.line env = pure false)
    (hsp:∀ env,EnvIs f env→swappedStores [.Tuple tg kt tp] (.Tuple [.List [.List [] l1,.List [] l2] l3,.List [.List [] l4,.List [] l5] l6] kv vp) env = pure none)
    (ha:∀ env v,assignAll v ((assignEach [.Tuple tg kt tp] env).map (·.2)) = PySem.assign (.Tuple tg kt tp) env v)
    (hst:∀ env,starEach [.List [.List [] l1,.List [] l2] l3,.List [.List [] l4,.List [] l5] l6] env = [(false,eval (.List [.List [] l1,.List [] l2] l3) env),(false,eval (.List [.List [] l4,.List [] l5] l6) env)])
    (hs1:∀ env,starEach [.List [] l1,.List [] l2] env = [(false,eval (.List [] l1) env),(false,eval (.List [] l2) env)]) (hs2:∀ env,starEach [.List [] l4,.List [] l5] env = [(false,eval (.List [] l4) env),(false,eval (.List [] l5) env)]) :
    GX S k f Γ G (.Assign [.Tuple tg kt tp] (.Tuple [.List [.List [] l1,.List [] l2] l3,.List [.List [] l4,.List [] l5] l6] kv vp) p') (.next P):=by
  intro A g W env s Q E R gs hQ
  refine wpAny_Assign_stores ?_ (hsw env) (hsp env gs.st.envIs)
  refine wpAny_Tuple_spliced ?_
  rw [hst]
  show wpAny S.M A (spliced ((false,eval (.List [.List [] l1,.List [] l2] l3) env) :: (false,eval (.List [.List [] l4,.List [] l5] l6) env) :: [])) _ E s
  refine spliced_cons (wp_two gs hs1 fun a a1 a2 g1 s1 t1 gs1=>spliced_cons (wp_two gs1 hs2 fun b b1 b2 g2 s2 t2 gs2=>spliced_nil ⟨Nat.le_of_ble_eq_true rfl,?_⟩))
  refine e1_2 ((gs2.st.at R).push { cls:=.type "tuple",data:=.seq #[.ref a,.ref b] } (t:=s2.toks)) (fun g3 t3 et=>?_)
  have gs3:=gs2.move t3
  rw [ha env]
  refine hA a b A g3 _ env _ _ _ E R gs3.st (.tup et (Nat.le_of_ble_eq_true rfl) (.cons (.raw _) (.cons (.raw _) .nil))) fun g4 s4 t4 st4=>?_
  have gs4:=gs3.step t4 st4
  exact hQ _ g4 s4 ((((t1.then t2).then t3).weak gs.new).trans (t4.weak fun _ q=>q.1) fun _ q=>q) ⟨rfl,_,_,hP a a1 a2 b b1 b2,gs4⟩
end
end
section
open PySem PySem.W PySem.Calls PyProof.Rows
section
variable {S:Sig} {k:Nat} {f:Fi} {Γ Γ':Ctxt} {G:Gh} {g g':Heap} {W V:Addr→Prop} {env:Env} {s s':Shared} {P:Ctxt→Gh→Prop} {e:Expr} {d:D}
theorem St.retypeC {j:Nat} {v:Value} (st:St S f Γ g V env s) (hj:Γ[j]? = some (some (.cell (some (.raw v))))) (hr:Rd g v d):St S f (Γ.set j (some (.cell (some d)))) g V env s:=by
  refine e2_5 (st.vars) (fun m ad hns hb hg hH hI=>?_)
  refine ⟨st.keep,st.base,st.tabs,st.envIs,st.wide,st.clt,m,ad,hns,hb,hg,fun i x b hy hb'=>?_,inj_set nofun hI⟩
  · rcases get_set hb' with ⟨rfl,rfl⟩ | ⟨hi,hb''⟩
    · refine (hH i x _ hy hj).cellC fun a1 c ov a2 a3 a4 a5 a6 a7=>?_
      refine ⟨a1,c,ov,a2,a3,a4,a5,a6,fun d' e'=>?_⟩
      refine e1_2 (a7 _ rfl) (fun v' e1 r=>?_)
      cases r using Rd.casesRaw
      cases e'
      exact ⟨_,e1,hr⟩
    · exact hH i x b hy hb''
theorem GE.borrowC {a b:Addr} {xs:List D} {j:Nat} (hj:Γ[j]? = some (some (.cell (some (.raw (.ref b)))))) (hm:(b,xs) ∈ G) (h:EV S k f (Γ.set j (some (.cell (some (.list xs))))) e (.raw (.ref a))):GE S k f Γ G e a:=by
  intro A g W env s Q E R gs hQ
  refine e2_5 (gs.own _ hm) (fun vs n ho hz rs hn hw=>?_)
  refine e1_4 (gs.st.ghost ho fun q=>q.2 _ hm rfl) (fun g' t h1 h2 st'=>?_)
  refine h A g' _ env s Q E R (st'.retypeC hj (.list h1 hz (rs.mono t.mono))) fun v g₂ s₂ t₂ r₂=>?_
  (refine e1_1 (Tr.drop gs.st.base hn h2 (fun o e=>by rw [h1] at e;cases e;nofun) (by rw [h1];nofun) t₂) (fun g₃ t₃=>?_))
  cases r₂ using Rd.casesRaw
  exact hQ g₃ s₂ t₃
theorem GXs.mono {sts:List Stmt} {P':Ctxt→Gh→Prop} (h:GXs S k f Γ G sts (.next P)) (hm:∀ Γ' G',P Γ' G'→P' Γ' G'):GXs S k f Γ G sts (.next P'):=by
  intro A g W env s Q E R gs hQ
  refine h A g W env s Q E R gs fun fl g₁ s₁ t₁ p₁=>?_
  obtain ⟨rfl,Γ',G',hP,gs'⟩:=p₁
  exact hQ _ g₁ s₁ t₁ ⟨rfl,Γ',G',hm _ _ hP,gs'⟩
theorem GX.mono {st:Stmt} {P':Ctxt→Gh→Prop} (h:GX S k f Γ G st (.next P)) (hm:∀ Γ' G',P Γ' G'→P' Γ' G'):GX S k f Γ G st (.next P'):=by
  intro A g W env s Q E R gs hQ
  refine h A g W env s Q E R gs fun fl g₁ s₁ t₁ p₁=>?_
  obtain ⟨rfl,Γ',G',hP,gs'⟩:=p₁
  exact hQ _ g₁ s₁ t₁ ⟨rfl,Γ',G',hm _ _ hP,gs'⟩
theorem mem_false {α:Type} (l:List α) (p:α→Bool):D.bool false ∈ l.map (fun a=>D.bool (p a)) ↔ ¬ l.all p = true:=by
  rw [List.mem_map,List.all_eq_true]
  constructor
  · rintro ⟨a,h1,h2⟩ h3
    have:=h3 a h1
    injection h2 with h2
    injection h2 with h2
    rw [this] at h2;cases h2
  · intro h
    have h':∃ x,x ∈ l∧¬ p x = true:=by
      refine Classical.byContradiction fun hc=>h fun x hx=>Classical.byContradiction fun hp=>hc ⟨x,hx,hp⟩
    refine e1_2 (h') (fun x h1 h2=>?_)
    exact ⟨x,h1,by cases hp:p x <;> simp_all⟩
theorem Op2.allB {α:Type} (l:List α) (p:α→Bool):Op2 S k (compareOp .NotIn) (.bool false) (.list (l.map fun a=>D.bool (p a))) (.bool (l.all p)):=by
  have h:=Op2.notInL (S:=S) (k:=k) (d:=.bool false) (ds:=l.map fun a=>D.bool (p a)) true rfl (fun e he=>by (refine e1_2 (List.mem_map.mp he) (fun a _ q3q=>?_);subst q3q);rfl)
  have key:∀ (i:Decidable (D.bool false ∈ l.map fun a=>D.bool (p a))),(!(@decide _ i)) = l.all p:=fun i=>by
    by_cases q:l.all p = true
    · rw [q,@decide_eq_false _ i (fun h=>(mem_false l p).mp h q)];rfl
    · rw [@decide_eq_true _ i ((mem_false l p).mpr q)]
      simpa using q
  rwa [key] at h
end
end
section
open PySem PySem.W PySem.Calls PyProof.Rows
section
variable {S:Sig} {k:Nat} {f:Fi} {Γ Γ' Γ₁ Γ₂:Ctxt} {A:Around} {g g':Heap} {W V:Addr→Prop} {env env0:Env} {s s':Shared} {L L0 e:Addr} {X:List Addr} {c:Value}
structure FrameAt (S:Sig) (env:Env) (L:Addr) (g:Heap) (s:Shared):Prop where
  kind:env.scope.kind ≠ .module
  frame:env.frame = some L
  z:S.z≤L
  g:g.get? L = Option.none
  there:∃ o,s.heap.get? L = some o∧NsObj o
theorem FrameAt.move (h:FrameAt S env L g s) (T:Tabs S g s) (t:Tr S V g s g' s') (hl:¬ V L):FrameAt S env L g' s':=by
  obtain ⟨o,e,es,ep,hd⟩:=h.there
  (refine e1_2 (t.same L o hl (T.notT e (by rw [hd];nofun)) e) (fun o' e' k=>?_))
  exact ⟨h.kind,h.frame,h.z,t.none h.g hl,o',e',es,ep,k.data.trans hd⟩
theorem St.frameAt (st:St S f Γ g W env s) (hf:env.frame = some env.locals) (hz:S.z≤env.locals):FrameAt S env env.locals g s:=by
  (refine e2_4 (st.vars) (fun m ad q1q hb hg _=>?_);refine e3_3 (q1q) (fun o es ep e hd _=>?_))
  exact ⟨by rw [st.envIs.kind];nofun,hf,hz,hg,o,e,es,ep,hd⟩
theorem FrameAt.fun (h1:FrameAt S env L g s) (h0:FrameAt S env0 L0 g s):s.heap.FunFrames g [env,env0]:=by
  obtain ⟨o,e,es,ep,hd⟩:=h1.there
  obtain ⟨o',e',es',ep',hd'⟩:=h0.there
  exact ⟨h1.kind,⟨L,o,h1.frame,h1.g,e,by rw [hd];nofun⟩,h0.kind,⟨L0,o',h0.frame,h0.g,e',by rw [hd'];nofun⟩,trivial⟩
structure XSt (S:Sig) (f:Fi) (Γ:Ctxt) (g:Heap) (W:Addr→Prop) (env:Env) (s:Shared) (X:List Addr):Prop where
  st:St S f Γ g (fun b=>W b∧b ∉ X) env s
  xs:∀ a ∈ X,W a∧g.get? a = Option.none∧¬ S.T a∧(∃ o vs,s.heap.get? a = some o∧o.data = .fields vs)∧∀ x,env.cells.lookup x ≠ some a
theorem XSt.lt (x:XSt S f Γ g W env s X) {a:Addr} (h:a ∈ X):a < s.heap.objs.size:=(x.xs a h).2.2.2.1.elim fun _ h=>h.elim fun _ h=>Heap.lt_size h.1
theorem XSt.of (st:St S f Γ g W env s):XSt S f Γ g W env s []:=⟨st.widen fun a h=>⟨h,nofun⟩,nofun⟩
theorem XSt.base (x:XSt S f Γ g W env s X):St S f Γ g W env s:=x.st.widen fun _ h=>h.1
theorem XSt.new (x:XSt S f Γ g W env s X):∀ a,Nw s a→W a:=fun a q=>(x.st.wide a q).1
theorem keptX {a:Addr} {o:Obj} {vs:Array Value} (t:Tr S V g s g' s') (hv:¬ V a) (hT:¬ S.T a) (e:s.heap.get? a = some o) (hd:o.data = .fields vs):s'.heap.get? a = some o:=by
  refine e1_2 (t.same a o hv hT e) (fun o' e' k=>?_)
  obtain rfl:=k.eq (notNs_fields hd)
  exact e'
theorem XSt.kept (x:XSt S f Γ g W env s X) (t:Tr S V g s g' s') (hV:∀ a ∈ X,¬ V a) {a:Addr} (h:a ∈ X):s'.heap.get? a = s.heap.get? a:=by
  (refine e0_5 (x.xs a h) (fun _ _ h3 q2q _=>?_);refine e2_2 (q2q) (fun o vs e hd=>?_))
  rw [e,keptX t (hV a h) h3 e hd]
theorem XSt.xs' (x:XSt S f Γ g W env s X) (t:Tr S V g s g' s') (hV:∀ a ∈ X,¬ V a):∀ a ∈ X,W a∧g'.get? a = Option.none∧¬ S.T a∧(∃ o vs,s'.heap.get? a = some o∧o.data = .fields vs)∧∀ x,env.cells.lookup x ≠ some a:=fun a h=>by
  (refine e0_5 (x.xs a h) (fun h1 h2 h3 q3q h5=>?_);refine e2_2 (q3q) (fun o vs e hd=>?_))
  exact ⟨h1,t.none h2 (hV a h),h3,⟨o,vs,by rw [x.kept t hV h];exact e,hd⟩,h5⟩
theorem XSt.move (x:XSt S f Γ g W env s X) (t:Tr S (Nw s) g s g' s'):XSt S f Γ g' W env s' X :=
  ⟨x.st.move t,x.xs' t fun a h=>Nat.not_le.mpr (x.lt h)⟩
theorem XSt.step (x:XSt S f Γ g W env s X) (t:Tr S (fun b=>W b∧b ∉ X) g s g' s') (st':St S f Γ' g' (fun b=>W b∧b ∉ X) env s'):XSt S f Γ' g' W env s' X :=
  ⟨st',x.xs' t fun a h q=>q.2 h⟩
theorem XSt.grow {o:Obj} {vs:Array Value} (x:XSt S f Γ g W env s X) (old:Keep s.heap s'.heap) (hz:s.heap.objs.size≤s'.heap.objs.size) (hos:s'.os = s.os) (hg:s'.gens = s.gens) (ht:s.toks≤s'.toks) (he:s.heap.objs.size≤e) (ho:s'.heap.get? e = some o) (hd:o.data = .fields vs) :
    ∃ g',Tr S (Nw s) g s g' s'∧XSt S f Γ g' W env s' (e :: X):=by
  refine e1_3 (Tr.grow (s':=s') (fun _=>False) x.st.keep x.st.base x.st.tabs old hz hos hg ht) (fun g' t _ hno=>?_)
  refine ⟨g',t,(x.st.without (F:=fun b=>b = e) t fun b q=>by subst q;exact ⟨he,Heap.lt_size ho⟩).widen fun a h=>⟨h.1.1,fun q=>(List.mem_cons.mp q).elim h.2 h.1.2⟩,fun a h=>?_⟩
  rcases List.mem_cons.mp h with rfl | h
  · exact ⟨x.new _ he,hno _ he id,x.st.tabs.newT he,⟨o,vs,ho,hd⟩,fun y q=>absurd (x.st.clt y _ q) (Nat.not_lt.mpr he)⟩
  · exact (x.move t).xs a h
theorem XSt.upd {a:Addr} {h':Heap} {o:Obj} {vs:Array Value} (x:XSt S f Γ g W env s X) (ha:a ∈ X) (hs:Heap.SameBut a s.heap h') (ho:h'.get? a = some o) (hd:o.data = .fields vs) :
    Tr S W g s g { s with heap:=h' }∧XSt S f Γ g W env { s with heap:=h' } X:=by
  refine e0_5 (x.xs a ha) (fun h1 h2 h3 h4 h5=>?_)
  have t:Tr S (fun b=>b = a) g s g { s with heap:=h',toks:=s.toks }:=Tr.set x.st.keep x.st.base x.st.tabs hs rfl h2 h3 (Nat.le_refl _)
  refine ⟨t.weak fun b q=>by subst q;exact h1,x.st.moveF (F:=fun b=>b = a) (t.weak fun _ q=>.inr q) (fun b q w=>by subst q;exact w.2 ha) fun y b e q=>by subst q;exact h5 y e,fun b hb=>?_⟩
  by_cases q:b = a
  · subst q;exact ⟨h1,h2,h3,⟨o,vs,ho,hd⟩,h5⟩
  · (refine e0_5 (x.xs b hb) (fun k1 k2 k3 q5q k6=>?_);refine e2_2 (q5q) (fun o' vs' k4 k5=>?_))
    exact ⟨k1,k2,k3,⟨o',vs',(hs.2 b q).trans k4,k5⟩,k6⟩
theorem Tr.slots {h':Heap} (K:Keep g s.heap) (B:Base S g) (T:Tabs S g s) (h1:FrameAt S env L g s) (h0:FrameAt S env0 L0 g s) (hs:Heap.SlotsOnly ([env,env0].filterMap (·.frame)) s.heap h'):Tr S (Nw s) g s g { s with heap:=h' }:=by
  have hm:[env,env0].filterMap (·.frame) = [L,L0]:=by simp [List.filterMap_cons,h1.frame,h0.frame]
  rw [hm] at hs
  refine e0_3 (hs) (fun hz hoff hsl=>?_)
  have off:∀ b o,(∀ es ep,o.data ≠ .dict es ep)→s.heap.get? b = some o→h'.get? b = some o:=fun b o hd e=>by
    refine (hoff b fun q=>?_).trans e
    have key:∀ {L env},FrameAt S env L g s→b ≠ L:=fun h q=>by
      obtain ⟨o',e',es,ep,hd'⟩:=h.there
      rw [q,e'] at e;cases e;exact hd es ep hd'
    simp only [List.mem_cons,List.not_mem_nil,or_false] at q
    exact q.elim (key h1) (key h0)
  have gk:Keep g h':=fun b o e=>by
    refine (hoff b fun q=>?_).trans (K b o e)
    simp only [List.mem_cons,List.not_mem_nil,or_false] at q
    rcases q with rfl | rfl
    · rw [h1.g] at e;cases e
    · rw [h0.g] at e;cases e
  have tb:∀ q ∈ S.tabs,∀ ps,s.heap.get? q.2 = some (tabObj ps)→h'.get? q.2 = some (tabObj ps):=fun q hq ps e=>off _ _ nofun e
  refine ⟨.refl g,gk,fun a o _ _ e=>?_,fun _ _ e=>.inl e,Nat.le_of_eq hz.symm,fun q hq ps e=>⟨#[],by rw [Array.append_empty];exact tb q hq ps e⟩,B,⟨T.pos,fun q hq=>?_⟩,rfl,id,Nat.le_refl _,Nat.le_refl _⟩
  · refine e1_1 (hsl a o e) (fun sl e'=>?_)
    by_cases ha:a ∈ [L,L0]
    · have key:∀ {L env},FrameAt S env L g s→a = L→∃ o',h'.get? a = some o'∧Like S a o o':=fun h q=>by
        refine e1_2 (h.there) (fun o' e2 ns=>?_)
        rw [← q,e] at e2;cases e2
        exact ⟨_,e',.inr ⟨q ▸ h.z,ns,sl,rfl⟩⟩
      simp only [List.mem_cons,List.not_mem_nil,or_false] at ha
      exact ha.elim (key h1) (key h0)
    · exact ⟨o,(hoff a ha).trans e,.refl o⟩
  · refine e1_3 (T.all q hq) (fun ps e1 e2 e3=>?_)
    exact ⟨ps,tb q hq ps e1,e2,e3⟩
noncomputable def ExcAt (h:Heap) (e:Addr) (tb:Option (Addr × Value)) (c:Value):Prop :=
  ∃ oe vs,h.get? e = some oe∧oe.cls = .type "IndexError"∧oe.data = .fields vs∧vs[2]? = some c ∧
    match tb with
    | none=>vs[1]? = some .none
    | some (T,fl)=>vs[1]? = some (.ref T)∧T ≠ e∧∃ oT ts,h.get? T = some oT∧oT.data = .fields ts∧ts[3]? = some fl
theorem ExcAt.same {h h':Heap} {T:Addr} {fl:Value} (x:ExcAt h e (some (T,fl)) c) (h1:h'.get? e = h.get? e) (h2:h'.get? T = h.get? T):ExcAt h' e (some (T,fl)) c:=by
  obtain ⟨oe,vs,e1,r1,r2,r3,r4,r5,oT,ts,e2,r⟩:=x
  exact ⟨oe,vs,h1.trans e1,r1,r2,r3,r4,r5,oT,ts,h2.trans e2,r⟩
theorem ExcAt.typeIs {tb:Option (Addr × Value)} (x:ExcAt s.heap e tb c):s.TypeIs (.ref e) "IndexError":=by
  refine e2_3 (x) (fun oe vs e1 r1 _=>?_)
  exact ⟨oe,e1,r1⟩
section
variable {E:Value→Shared→Prop} {T:Addr} {fl:Value}
theorem wp_note {Q:Unit→Shared→Prop} (hfr:A.frames = some [env,env0]) (h1:FrameAt S env L g s) (h0:FrameAt S env0 L0 g s) (x:XSt S f Γ g W env s X) (he:e ∈ X) (ex:ExcAt s.heap e none c)
    (hQ:∀ g' s' T,Tr S W g s g' s'→XSt S f Γ g' W env s' (T :: X)→ExcAt s'.heap e (some (T,rawInt L)) c→(∀ a ∈ X,a ≠ e→s'.heap.get? a = s.heap.get? a)→Q () s'):wpAny S.M A (noteFrame (.ref e) env) Q E s:=by
  refine e2_5 (ex) (fun oe vs e1 hc hd h2 hv1=>?_)
  have hsz:1 < vs.size:=(Array.getElem?_eq_some_iff.mp hv1).1
  unfold noteFrame
  simp only [h1.frame]
  refine wpAny_bind (wpAny_field e1 hd hv1 ?_)
  refine wp_ifF (by decide) ?_
  refine wpAny_bind (wpAny_frameOf_fun hfr (h1.fun h0) h1.frame fun h₁ hs₁=>?_)
  have t1:=Tr.slots x.st.keep x.st.base x.st.tabs h1 h0 hs₁
  have x1:=x.move t1
  have k1:∀ a ∈ X,h₁.get? a = s.heap.get? a:=fun a h=>x.kept t1 (fun b hb=>Nat.not_le.mpr (x.lt hb)) h
  refine wpAny_bind (wpAny_entryPlaceOf fun pl hpl=>?_)
  unfold EntryCells.newEntry newFields
  refine wpAny_bind (wpAny_newObj_type ?_ (hpl.sizeOk5 _ _ _ _ _))
  have e2:=(k1 e he).trans e1
  refine e1_2 (x1.grow (e:=h₁.objs.size) (s':={ s with heap:=h₁.push { cls:=.type "traceback",dict:=none,data:=.fields ([Value.none,.ref L,.none,rawInt L,.none] ++ (if pl.isEmpty then List.replicate 6 Value.none else pl)).toArray } }) (fun b o e=>Heap.get?_push_of_some _ e) (by simp) rfl rfl (Nat.le_refl _) (Nat.le_refl _) (Heap.get?_push_size _ rfl) rfl) (fun g2 t2 x2=>?_)
  have e3:=Heap.get?_push_of_some (h:=h₁) { cls:=.type "traceback",dict:=none,data:=.fields ([Value.none,.ref L,.none,rawInt L,.none] ++ (if pl.isEmpty then List.replicate 6 Value.none else pl)).toArray } e2
  have hTe:h₁.objs.size ≠ e:=Nat.ne_of_gt (Heap.lt_size e2)
  have hd₃:=Obj.data_mapFields hd (·.setIfInBounds 1 (Value.ref h₁.objs.size))
  have e4:=Heap.get?_update_self (Obj.mapFields (·.setIfInBounds 1 (Value.ref h₁.objs.size))) e3 (Obj.isFreed_of_fields hd₃)
  refine e0_2 (x2.upd (List.mem_cons_of_mem _ he) (Heap.SameBut.update ..) e4 hd₃) (fun t3 x3=>?_)
  refine wpAny_setField e3 hd hsz ?_
  refine hQ g2 _ h₁.objs.size (((t1.then t2).weak x.new).trans t3 fun _ q=>q) x3 ⟨_,_,e4,by rw [Obj.cls_mapFields];exact hc,hd₃,by rw [Array.getElem?_setIfInBounds_ne (by decide)];exact h2,by simp [hsz],hTe,_,_,(Heap.get?_update_other _ _ hTe.symm).trans (Heap.get?_push_size h₁ rfl),rfl,by first | (simp;done) | (rcases hpl with rfl | ⟨_,_,_,_,_,_,_,rfl⟩ <;> simp)⟩ fun a ha hae=>?_
  (refine e0_5 (x.xs a ha) (fun _ _ _ q6q _=>?_);refine e2_2 (q6q) (fun o vs' e5 _=>?_))
  rw [Heap.get?_update_other _ _ hae.symm,e5]
  exact Heap.get?_push_of_some _ ((k1 a ha).trans e5)
theorem wp_noted {Q:Unit→Shared→Prop} (hf:env.frame = some L) (ex:ExcAt s.heap e (some (T,rawInt L)) c) (hQ:Q () s):wpAny S.M A (noteFrame (.ref e) env) Q E s:=by
  obtain ⟨oe,vs,e1,hc,hd,h2,hv1,hTe,oT,ts,e2,hdT,h3⟩:=ex
  exact wpAny_noteFrame_inFlight hf e1 hd hv1 e2 hdT h3 hQ
theorem wp_flight {Q:Unit→Shared→Prop} {fr:Option Addr} (x:XSt S f Γ g W env s X) (hT:T ∈ X) (ex:ExcAt s.heap e (some (T,fl)) c)
    (hQ:∀ s',Tr S W g s g s'→XSt S f Γ g W env s' X→ExcAt s'.heap e (some (T,fr.elim .none fun f=>rawInt f)) c→(∀ a ∈ X,a ≠ T→s'.heap.get? a = s.heap.get? a)→Q () s'):wpAny S.M A (setFlight (.ref e) fr) Q E s:=by
  obtain ⟨oe,vs,e1,hc,hd,h2,hv1,hTe,oT,ts,e2,hdT,h3⟩:=ex
  have hsz:3 < ts.size:=(Array.getElem?_eq_some_iff.mp h3).1
  unfold setFlight
  refine wpAny_bind (wpAny_field e1 hd hv1 ?_)
  refine wp_ifT (show (Value.ref T != Value.none) = true from by simp) ?_
  have hd₃:=Obj.data_mapFields hdT (·.setIfInBounds 3 (fr.elim .none fun f=>rawInt f))
  have e4:=Heap.get?_update_self (Obj.mapFields (·.setIfInBounds 3 (fr.elim .none fun f=>rawInt f))) e2 (Obj.isFreed_of_fields hd₃)
  refine e0_2 (x.upd hT (Heap.SameBut.update ..) e4 hd₃) (fun t3 x3=>?_)
  refine wpAny_setField e2 hdT hsz (hQ _ t3 x3 ⟨oe,vs,(Heap.get?_update_other _ _ hTe).trans e1,hc,hd,h2,hv1,hTe,_,_,e4,hd₃,by simp [hsz]⟩ fun a _ ha=>Heap.get?_update_other _ _ ha.symm)
theorem wp_back {Q:Value→Shared→Prop} (hf:env.frame = some L) (x:XSt S f Γ g W env s X) (hT:T ∈ X) (ex:ExcAt s.heap e (some (T,fl)) c)
    (hQ:∀ s',Tr S W g s g s'→XSt S f Γ g W env s' X→ExcAt s'.heap e (some (T,rawInt L)) c→(∀ a ∈ X,a ≠ T→s'.heap.get? a = s.heap.get? a)→Q (.ref e) s'):cameBackBy S.M A env Q (.ref e) s:=by
  unfold cameBackBy
  refine e2_6 (id ex) (fun oe vs e1 hc hd h2 hv1 r=>?_)
  refine wpAny_bind (wpAny_field e1 hd hv1 ?_)
  refine wp_ifF (show ¬ (Value.ref T == Value.none) = true by simp) ?_
  rw [hf]
  exact wp_flight x hT ex fun s' t x' ex' k=>hQ s' t x' ex' k
end
end
end
section
open PySem PySem.W PySem.Calls PyProof.Rows
theorem entry_unchain:entryFor table "proto.unchain" = some Builtin.«proto.unchain»:=entryFor_of_tree (by kernel_rfl)
noncomputable def Hand (A:Around) (h:Heap):Prop:=A.handled = none ∨ ∃ e o vs,A.handled = some (.ref e)∧h.get? e = some o∧o.data = .fields vs∧vs[2]? = some .none
section
variable {S:Sig} {A:Around} {s:Shared} {E:Value→Shared→Prop} {α:Type} {Q:α→Shared→Prop}
theorem wp_raiseNew {e:Addr} {oe:Obj} {vs:Array Value} (H:Hand A s.heap) (e1:s.heap.get? e = some oe) (hd:oe.data = .fields vs) (hz:2 < vs.size) (hne:A.handled ≠ some (.ref e))
    (hE:∀ h' o' vs' c,Heap.SameBut e s.heap h'→h'.get? e = some o'→o'.cls = oe.cls→o'.data = .fields vs'→(∀ i,i ≠ 2→vs'[i]? = vs[i]?)→vs'[2]? = some c→(A.handled = none→h' = s.heap∧vs' = vs)→E (.ref e) { s with heap:=h' }) (hv2:vs[2]? = some .none):wpAny S.M A (raiseNew (.ref e):Sem α) Q E s:=by
  unfold raiseNew
  refine wpAny_bind (wpAny_handled ?_)
  rcases H with H | ⟨e2,o2,vs2,H,h2,hd2,hv⟩
  · rw [H]
    refine wpAny_bind (wpAny_pure (wpAny_throw ?_))
    exact hE s.heap oe vs .none (.refl ..) e1 rfl hd (fun _ _=>rfl) hv2 fun _=>⟨rfl,rfl⟩
  · rw [H]
    have hne':(Value.ref e2 != Value.ref e) = true:=by
      rw [bne_iff_ne];intro q;exact hne (by rw [H,q])
    simp only [hne',if_true]
    refine wpAny_bind (wpAny_holding (wpAny_runValue (M:=S.M) (codeAny_builtin (prog:=S.prog) (w:=S.w) entry_unchain ?_)))
    show wpAny S.M _ (do
      let context ← field (.ref e2) 2
      if context == .none then return ← ret .none
      _) _ _ s
    refine wpAny_bind (wpAny_field h2 hd2 hv ?_)
    refine wp_ifT (by rfl) ?_
    refine wpAny_pure ?_
    have hd3:=Obj.data_mapFields hd (·.setIfInBounds 2 (Value.ref e2))
    have e4:=Heap.get?_update_self (Obj.mapFields (·.setIfInBounds 2 (Value.ref e2))) e1 (Obj.isFreed_of_fields hd3)
    show wpAny S.M A (do setField (.ref e) 2 (.ref e2);throw (.ref e)) Q E s
    refine wpAny_bind (wpAny_setField e1 hd hz (wpAny_throw ?_))
    refine hE _ _ _ (.ref e2) (Heap.SameBut.update ..) e4 (Obj.cls_mapFields _ _) hd3 (fun i hi=>by rw [Array.getElem?_setIfInBounds_ne (Ne.symm hi)]) (by simp [hz]) fun q=>by rw [H] at q;cases q
theorem wp_raise {msg:String} (H:Hand A s.heap)
    (hE:∀ h' tk e c,Keep s.heap h'→s.heap.objs.size≤e→s.heap.objs.size≤h'.objs.size→s.toks≤tk→ExcAt h' e none c→(A.handled = none→c = .none)→E (.ref e) { s with heap:=h',toks:=tk }) :
    wpAny S.M A (raiseErrorWords "IndexError" msg:Sem α) Q E s:=by
  unfold raiseErrorWords
  refine wpAny_bind (wpAny_mkText (wpAny_bind ?_))
  unfold newExc newTuple
  refine wpAny_bind (wpAny_newObj_type ?_)
  refine wpAny_bind (m:=firstArgMember _ _) (wpAny_of_eq (a:=Value.none) (by simp only [firstArgMember,plainExc_IndexError.first];rfl) ?_)
  rw [plainExc_IndexError.own]
  refine wpAny_newObj_type ?_
  have e1:=Heap.get?_push_size (s.heap.push { cls:=.type "tuple",data:=.seq #[Value.str (msg:Str) s.toks] }) (o:={ cls:=.type "IndexError",data:=.fields (#[.ref s.heap.objs.size,.none,.none,.none,.bool false,.none] ++ #[]) }) rfl
  have old:Keep s.heap ((s.heap.push { cls:=.type "tuple",data:=.seq #[Value.str (msg:Str) s.toks] }).push { cls:=.type "IndexError",data:=.fields (#[.ref s.heap.objs.size,.none,.none,.none,.bool false,.none] ++ #[]) }):=fun b o e=>Heap.get?_push_of_some _ (Heap.get?_push_of_some _ e)
  have H':Hand A ((s.heap.push { cls:=.type "tuple",data:=.seq #[Value.str (msg:Str) s.toks] }).push { cls:=.type "IndexError",data:=.fields (#[.ref s.heap.objs.size,.none,.none,.none,.bool false,.none] ++ #[]) }):=H.imp id fun h=>e3_3 h fun e o vs h1 h2 r=>⟨e,o,vs,h1,old _ _ h2,r⟩
  have hz1:(s.heap.push { cls:=.type "tuple",data:=.seq #[Value.str (msg:Str) s.toks] }).objs.size = s.heap.objs.size + 1:=by simp
  refine wp_raiseNew H' e1 rfl (by simp) ?_ (fun h' o' vs' c hs ho hc hd hi h2 hk=>?_) (by simp)
  · intro q
    rcases H with H | ⟨e,o,vs,h1,h2,_⟩
    · rw [H] at q;cases q
    · rw [h1] at q
      have h3:=Heap.lt_size h2
      have h4:e = s.heap.objs.size + 1:=(Value.ref.inj (Option.some.inj q)).trans hz1
      exact absurd h3 (by rw [h4];exact Nat.not_lt.mpr (Nat.le_succ _))
  · have k1:Keep s.heap h':=fun b o e=>by
      refine (hs.2 b fun q=>?_).trans (old b o e)
      have h3:=Heap.lt_size e
      have h4:b = s.heap.objs.size + 1:=q.trans hz1
      exact absurd h3 (by rw [h4];exact Nat.not_lt.mpr (Nat.le_succ _))
    have hz2:h'.objs.size = s.heap.objs.size + 1 + 1:=hs.1.trans ((Heap.size_push ..).trans (congrArg (· + 1) hz1))
    exact hE h' _ _ c k1 (Nat.le_trans (Nat.le_succ _) (Nat.le_of_eq hz1.symm)) (by rw [hz2];lia) (Nat.le_succ _) ⟨o',vs',ho,hc,hd,h2,by rw [hi 1 (by decide)];simp⟩ fun q=>by rw [(hk q).2] at h2;simpa using h2.symm
theorem wp_itemOut {l:Addr} {items:Array Value} {j:Int} {t:Tok} {Q:Value→Shared→Prop} (H:Hand A s.heap) (hl:s.heap.IsList l items) (hout:(items.size:Int)≤j) (hj:j < 2 ^ 63)
    (hE:∀ h' tk e c,Keep s.heap h'→s.heap.objs.size≤e→s.heap.objs.size≤h'.objs.size→s.toks≤tk→ExcAt h' e none c→(A.handled = none→c = .none)→E (.ref e) { s with heap:=h',toks:=tk }) :
    wpAny S.M A (getItem (.ref l) (.int j t)) Q E s:=by
  obtain ⟨o,ho,hc,ne,hd⟩:=id hl
  unfold getItem
  refine wpAny_holding ?_
  refine wpAny_bind (wpAny_sequenceKey hl.typeIs (by decide) ?_)
  refine wpAny_bind (wpAny_callSpecial?_slot (name:=Str.ofString "__getitem__") hl.typeIs PySem.slot_list_getitem
    (wpAny_call_entry PySem.slot_list_getitem hl.typeIs PySem.entry_list_getitem ?_ (PySem.args_list_getitem _ _)))
  show wpAny _ _ (Builtin.List.listSubscript? (.int j t) >>= _) _ _ s
  refine wpAny_bind (wpAny_listSubscript_int (fitsIndex_both (by lia) hj) ?_)
  clear hj
  cases j with
  | negSucc j=>exact absurd hout (by have:=Int.negSucc_lt_zero j;lia)
  | ofNat j =>
    have hx:items[j]? = none:=Array.getElem?_eq_none (by have:(items.size:Int)≤(j:Int):=hout;lia)
    show wpAny _ _ ((seqItemAt l j >>= fun r=>pure (r.map (j,·))) >>= _) _ _ s
    refine wpAny_bind (wpAny_bind (wpAny_seqItemAt ho hd (wpAny_pure ?_)))
    rw [hx]
    exact wpAny_bind (wpAny_rule (wpAny_bind (wp_raise (S:=S) (A:=A.in1) H hE)))
end
end
section
open PySem PySem.W PySem.Calls PyProof.Rows
noncomputable abbrev Sig.off (S:Sig):Sig:={ S with hd:=false }
section
variable {S:Sig} {k:Nat} {f:Fi} {Γ Γ' Γ₁ Γ₂:Ctxt} {A:Around} {g g':Heap} {W V:Addr→Prop} {env env0:Env} {s s':Shared} {L L0 e:Addr} {X:List Addr} {c:Value} {n:Bool} {v:Value}
theorem Base.off (h:Base S g):Base S.off g:=⟨h.kin,h.glob,h.blt,h.nolimit,h.boot,h.bmain,h.heads⟩
theorem Base.on (h:Base S.off g):Base S g:=⟨h.kin,h.glob,h.blt,h.nolimit,h.boot,h.bmain,h.heads⟩
theorem St.off (h:St S f Γ g W env s):St S.off f Γ g W env s:=⟨h.keep,h.base.off,⟨h.tabs.pos,h.tabs.all⟩,h.envIs,h.wide,h.clt,h.vars⟩
theorem St.on (h:St S.off f Γ g W env s):St S f Γ g W env s:=⟨h.keep,h.base.on,⟨h.tabs.pos,h.tabs.all⟩,h.envIs,h.wide,h.clt,h.vars⟩
theorem Tr.on (t:Tr S.off V g s g' s'):Tr S V g s g' s':=⟨t.mono,t.keep,t.same,t.fresh,t.size,t.tabs,t.base.on,⟨t.now.pos,t.now.all⟩,t.os,t.bare,t.gens,t.toks⟩
theorem XSt.off (h:XSt S f Γ g W env s X):XSt S.off f Γ g W env s X:=⟨h.st.off,h.xs⟩
theorem XSt.on (h:XSt S.off f Γ g W env s X):XSt S f Γ g W env s X:=⟨h.st.on,h.xs⟩
theorem FrameAt.off (h:FrameAt S env L g s):FrameAt S.off env L g s:=⟨h.kind,h.frame,h.z,h.g,h.there⟩
structure XAt (S:Sig) (k:Nat) (f:Fi) (Γ:Ctxt) (A:Around) (env0:Env) (L0:Addr) (g:Heap) (W:Addr→Prop) (env:Env) (s:Shared) (X:List Addr):Prop where
  room:Room S k A
  hand:A.handled = none ∨ ∃ e ∈ X,A.handled = some (.ref e)∧∃ o vs,s.heap.get? e = some o∧o.data = .fields vs∧vs[2]? = some .none
  frames:A.frames = some [env,env0]
  fl:env.frame = some env.locals
  z:S.z≤env.locals
  at0:FrameAt S env0 L0 g s
  out:¬ W L0
  x:XSt S f Γ g W env s X
theorem XAt.step (a:XAt S k f Γ A env0 L0 g W env s X) (t:Tr S V g s g' s') (hV:∀ b,V b→W b) (hX:∀ b ∈ X,¬ V b) (x':XSt S f Γ' g' W env s' X):XAt S k f Γ' A env0 L0 g' W env s' X :=
  ⟨a.room,a.hand.imp id fun h=>e1_3 h fun e he h1 h=>e2_2 h fun o vs h2 r=>⟨e,he,h1,o,vs,by rw [a.x.kept t hX he];exact h2,r⟩,a.frames,a.fl,a.z,a.at0.move a.x.st.tabs t fun q=>a.out (hV _ q),a.out,x'⟩
theorem XAt.hand' (a:XAt S k f Γ A env0 L0 g W env s X):Hand A s.heap:=a.hand.imp id fun h=>e1_3 h fun e _ h1 h=>e2_2 h fun o vs h2 r=>⟨e,o,vs,h1,h2,r⟩
theorem XAt.move (a:XAt S k f Γ A env0 L0 g W env s X) (t:Tr S (Nw s) g s g' s'):XAt S k f Γ A env0 L0 g' W env s' X:=a.step t a.x.new (fun b hb=>Nat.not_le.mpr (a.x.lt hb)) (a.x.move t)
noncomputable def Flies (S:Sig) (f:Fi) (Γ:Ctxt) (W:Addr→Prop) (env:Env) (g:Heap) (s:Shared) (n:Bool) (v:Value):Prop :=
  ∃ e X c,v = .ref e∧XSt S f Γ g W env s X∧e ∈ X∧(n = true→c = .none)∧(ExcAt s.heap e none c ∨ ∃ T ∈ X,ExcAt s.heap e (some (T,rawInt env.locals)) c)
noncomputable def Noted (S:Sig) (f:Fi) (Γ:Ctxt) (W:Addr→Prop) (env:Env) (g:Heap) (s:Shared) (n:Bool) (v:Value):Prop :=
  ∃ e X c T,v = .ref e∧XSt S f Γ g W env s X∧e ∈ X∧T ∈ X∧(n = true→c = .none)∧ExcAt s.heap e (some (T,rawInt env.locals)) c
theorem Noted.flies (h:Noted S f Γ W env g s n v):Flies S f Γ W env g s n v:=e4_6 h fun e X c T h1 h2 h3 h4 h5 h6=>⟨e,X,c,h1,h2,h3,h5,.inr ⟨T,h4,h6⟩⟩
theorem Flies.on (h:Flies S.off f Γ W env g s n v):Flies S f Γ W env g s n v:=e3_3 h fun e X c h1 h2 r=>⟨e,X,c,h1,h2.on,r⟩
theorem wp_noteF {E:Value→Shared→Prop} {Q:Unit→Shared→Prop} (hfr:A.frames = some [env,env0]) (hfl:env.frame = some env.locals) (hz:S.z≤env.locals) (h0:FrameAt S env0 L0 g s) (hout:¬ W L0) (h:Flies S f Γ W env g s n v)
    (hQ:∀ g' s',Tr S W g s g' s'→Noted S f Γ W env g' s' n v→FrameAt S env0 L0 g' s'→Q () s'):wpAny S.M A (noteFrame v env) Q E s:=by
  obtain ⟨e,X,c,rfl,x,he,hn,h | ⟨T,hT,h⟩⟩:=h
  · exact wp_note hfr (x.base.frameAt hfl hz) h0 x he h fun g' s' T t x' ex _=>hQ g' s' t ⟨e,_,c,T,rfl,x',.tail _ he,.head _,hn,ex⟩ (h0.move x.st.tabs t hout)
  · exact wp_noted hfl h (hQ g s (Tr.refl _ x.st.keep x.st.base x.st.tabs) ⟨e,X,c,T,rfl,x,he,hT,hn,h⟩ h0)
theorem wp_backF {Q:Value→Shared→Prop} (hfl:env.frame = some env.locals) (h:Noted S f Γ W env g s n v) (hQ:∀ s',Tr S W g s g s'→Noted S f Γ W env g s' n v→Q v s'):cameBackBy S.M A env Q v s:=by
  obtain ⟨e,X,c,T,rfl,x,he,hT,hn,h⟩:=h
  exact wp_back hfl x hT h fun s' t x' ex _=>hQ s' t ⟨e,X,c,T,rfl,x',he,hT,hn,ex⟩
noncomputable def RE (S:Sig) (k:Nat) (f:Fi) (Γ:Ctxt) (x:Expr) (n:Bool):Prop :=
  ∀ (A:Around) (env0:Env) (L0:Addr) (g:Heap) (W:Addr→Prop) (env:Env) (s:Shared) (X:List Addr) (Q:Value→Shared→Prop) (E:Value→Shared→Prop),XAt S k f Γ A env0 L0 g W env s X →
    (∀ v g' s',Tr S W g s g' s'→Flies S f Γ W env g' s' n v→E v s')→wpAny S.M A (eval x env) Q E s
noncomputable def RT (S:Sig) (k:Nat) (f:Fi) (Γ:Ctxt) (x:Expr) (n:Bool):Prop :=
  ∀ (A:Around) (env0:Env) (L0:Addr) (g:Heap) (W:Addr→Prop) (env:Env) (s:Shared) (X:List Addr) (Q:Bool→Shared→Prop) (E:Value→Shared→Prop),XAt S k f Γ A env0 L0 g W env s X →
    (∀ v g' s',Tr S W g s g' s'→Flies S f Γ W env g' s' n v→E v s')→wpAny S.M A (isTrue x env (eval x env)) Q E s
noncomputable def RX (S:Sig) (k:Nat) (f:Fi) (Γ:Ctxt) (st:Stmt) (Γ':Ctxt) (n:Bool):Prop :=
  ∀ (A:Around) (env0:Env) (L0:Addr) (g:Heap) (W:Addr→Prop) (env:Env) (s:Shared) (X:List Addr) (Q:Flow→Shared→Prop) (E:Value→Shared→Prop),XAt S k f Γ A env0 L0 g W env s X →
    (∀ v g' s',Tr S W g s g' s'→Flies S f Γ' W env g' s' n v→E v s')→wpAny S.M A (exec st env) Q E s
noncomputable def RXs (S:Sig) (k:Nat) (f:Fi) (Γ:Ctxt) (sts:List Stmt) (Γ':Ctxt) (n:Bool):Prop :=
  ∀ (A:Around) (env0:Env) (L0:Addr) (g:Heap) (W:Addr→Prop) (env:Env) (s:Shared) (X:List Addr) (Q:Flow→Shared→Prop) (E:Value→Shared→Prop),XAt S k f Γ A env0 L0 g W env s X →
    (∀ v g' s',Tr S W g s g' s'→Flies S f Γ' W env g' s' n v→E v s')→wpAny S.M A (execs sts env) Q E s
section
variable {l r x:Expr} {st:Stmt} {sts body orelse:List Stmt} {pos p':Pos} {xs:List D} {j:Int} {test:Expr}
theorem RE.item (hn:n = true→S.hd = true) (h1:EV S k f Γ l (.list xs)) (h2:EV S k f Γ r (.int j)) (hout:(xs.length:Int)≤j) (hj:j < 2 ^ 63)
    (hs:∀ o i,subscripted r false o i = operate [o,i] (getItem o i):=by intro _ _;with_unfolding_all rfl):RE S k f Γ (.Subscript l r pos) n:=by
  intro A env0 L0 g W env s X Q E a hQ
  refine Subscript_ (h1 A g _ env s _ E a.room a.x.st fun v1 g1 s1 t1 r1=>h2 A g1 _ env s1 _ E a.room (a.x.st.move t1) fun v2 g2 s2 t2 r2=>?_)
  have t:=t1.then t2
  have a2:=a.move t
  cases r2 using Rd.casesInt
  have r1':=r1.mono t2.mono
  cases r1' using Rd.casesList with
  | list ho hl rs =>
    have ho':=t2.keep _ _ ho
    refine tail_any (T:="list") ⟨_,ho',rfl⟩ list_getitem_lookup (wp_itemOut a2.hand' ⟨_,ho',rfl,_,rfl⟩ (by rw [List.size_toArray,rs.length];exact hout) hj fun h' tk e c old he hz ht ex hc=>?_) (hs _ _)
    refine e2_4 (id ex) (fun oe vs e1 _ hd _=>?_)
    refine e1_2 (a2.x.grow (s':={ s2 with heap:=h',toks:=tk }) old hz rfl rfl ht he e1 hd) (fun g3 t3 x3=>?_)
    exact hQ _ g3 _ ((t.then t3).weak a.x.new) ⟨e,_,c,rfl,x3,.head _,fun q=>hc (a.room.handled (hn q)),.inl ex⟩
theorem RT.cmp {op:CmpOp} (h:RE S k f Γ l n) (hm:behindInMarks op r = false:=by rfl):RT S k f Γ (.Compare l [op] [r] pos) n:=by
  intro A env0 L0 g W env s X Q E a hQ
  exact wpAny_isTrue_Compare1 (h A env0 L0 g W env s X _ E a hQ) hm
theorem RX.assign {t:Expr} (h:RE S k f Γ x n) (hs:∀ env,swapsWithSole [t] x pos.line env = pure false:=by intro _;rfl) (hw:∀ env,swappedStores [t] x env = pure none:=by intro _;rfl):RX S k f Γ (.Assign [t] x pos) Γ n:=by
  intro A env0 L0 g W env s X Q E a hQ
  exact wpAny_Assign_stores (h A env0 L0 g W env s X _ E a hQ) (hs env) (hw env)
theorem RXs.here (h:RX S k f Γ st Γ' n):RXs S k f Γ (st :: sts) Γ' n:=by
  intro A env0 L0 g W env s X Q E a hQ
  exact wpAny_execs_cons (h A env0 L0 g W env s X _ E a hQ)
theorem RXs.next (h1:EX S k f Γ st (.next Γ₁)) (h2:RXs S k f Γ₁ sts Γ' n):RXs S k f Γ (st :: sts) Γ' n:=by
  intro A env0 L0 g W env s X Q E a hQ
  refine wpAny_execs_cons (h1 A g _ env s _ E a.room a.x.st fun fl g1 s1 t1 p1=>?_)
  (refine e0_2 (p1) (fun q1q st1=>?_);subst q1q)
  exact h2 A env0 L0 g1 W env s1 X Q E (a.step t1 (fun _ q=>q.1) (fun b hb q=>q.2 hb) (a.x.step t1 st1)) fun v g2 s2 t2 fl2=>hQ v g2 s2 ((t1.weak fun _ q=>q.1).trans t2 fun _ q=>q) fl2
theorem RX.if {cnd:Expr} {b:Bool} (h1:TV S k f Γ cnd b) (h2:(b = true∧RXs S k f Γ body Γ' n) ∨ (b = false∧RXs S k f Γ orelse Γ' n)):RX S k f Γ (.If cnd body orelse pos) Γ' n:=by
  intro A env0 L0 g W env s X Q E a hQ
  refine wpAny_If (h1 A g _ env s _ E a.room a.x.st fun g1 s1 t1=>?_)
  have hQ':∀ v g' s',Tr S W g1 s1 g' s'→Flies S f Γ' W env g' s' n v→E v s':=fun v g2 s2 t2 fl2=>hQ v g2 s2 ((t1.weak a.x.new).trans t2 fun _ q=>q) fl2
  rcases h2 with ⟨rfl,h⟩ | ⟨rfl,h⟩
  · exact h A env0 L0 g1 W env s1 X Q E (a.move t1) hQ'
  · exact h A env0 L0 g1 W env s1 X Q E (a.move t1) hQ'
inductive WLR (S:Sig) (k:Nat) (f:Fi) (test:Expr) (body:List Stmt) (n:Bool):Ctxt→Ctxt→Prop where
  | stop {Γ:Ctxt}:RT S k f Γ test n→WLR S k f test body n Γ Γ
  | next {Γ Γ₁ Γ':Ctxt}:TV S k f Γ test true→EXs S k f Γ body (.next Γ₁)→WLR S k f test body n Γ₁ Γ'→WLR S k f test body n Γ Γ'
theorem WLR.code (w:WLR S k f test body n Γ Γ'):∀ (A:Around) (env0:Env) (L0:Addr) (g:Heap) (W:Addr→Prop) (env:Env) (s:Shared) (X:List Addr) (R:Result→Shared→Prop),XAt S k f Γ A env0 L0 g W env s X →
    (∀ v g' s',Tr S W g s g' s'→Noted S f Γ' W env g' s' n v→R (.error v) s')→codeAny S.M A (.whileLoop test body [] env) R s:=by
  induction w with
  | stop ht =>
    intro A env0 L0 g W env s X R a hR
    refine codeAny_of_tree ?_
    rw [under_loop]
    refine wpAny_noted ?_
    unfold whileTurn
    refine wpAny_bind (ht A env0 L0 g W env s X _ _ a fun v g1 s1 t1 fl1=>?_)
    exact wp_noteF a.frames a.fl a.z (a.at0.move a.x.st.tabs t1 a.out) a.out fl1 fun g2 s2 t2 nt _=>hR v g2 s2 (t1.trans t2 fun _ q=>q) nt
  | next ht hb _ ih =>
    intro A env0 L0 g W env s X R a hR
    refine codeAny_of_tree ?_
    rw [under_loop]
    refine wpAny_mono (whileTurn_ok (Q:=fun fin s'=>match fin with | .done f=>R (.ok f) s' | .again c'=>c'.quiet = true∧codeAny S.M A c' R s') (E:=fun _ _=>False) ?_ fun _ _ x=>x) (fun _ _ x=>x) fun _ _ x=>x.elim
    unfold whileTurn
    refine wpAny_bind (ht A g _ env s _ _ a.room a.x.st fun g1 s1 t1=>?_)
    refine wp_ifT rfl ?_
    have a1:=a.move t1
    refine wpAny_bind (hb A g1 _ env s1 _ _ a1.room a1.x.st fun fl g2 s2 t2 p2=>?_)
    (refine e0_2 (p2) (fun q2q st2=>?_);subst q2q)
    refine wpAny_pure ⟨rfl,ih A env0 L0 g2 W env s2 X R (a1.step t2 (fun _ q=>q.1) (fun b hb q=>q.2 hb) (a1.x.step t2 st2)) fun v g3 s3 t3 nt=>hR v g3 s3 (((t1.weak a.x.new).trans (t2.weak fun _ q=>q.1) fun _ q=>q).trans t3 fun _ q=>q) nt⟩
theorem RX.while (w:WLR S k f test body n Γ Γ'):RX S k f Γ (.While test body [] pos) Γ' n:=by
  intro A env0 L0 g W env s X Q E a hQ
  refine wpAny_While (w.code A env0 L0 g W env s X _ a fun v g1 s1 t1 nt=>?_)
  exact wp_backF a.fl nt fun s2 t2 nt2=>hQ v g1 s2 (t1.trans t2 fun _ q=>q) nt2.flies
end
end
end
section
open PySem PySem.W PySem.Calls PyProof.Rows
section
variable {S:Sig} {k:Nat} {f:Fi} {Γ Γ' Γ₁ Γ₂:Ctxt} {A:Around} {g g':Heap} {W V:Addr→Prop} {env env0:Env} {s s':Shared} {L L0 e:Addr} {X:List Addr} {c:Value} {n:Bool} {v:Value}
  {l r x t:Expr} {st f₀ b₀:Stmt} {sts body orelse fs suite:List Stmt} {pos p':Pos} {xs:List D} {j:Int} {test:Expr} {res:Res} {d:D}
theorem Room.offA (R:Room S k A) (e:Addr):Room S.off k (A.mark (some (.ref e))):=⟨nofun,R.depth,R.units⟩
theorem Post.on {fl:Flow} (h:Post S.off f res g W env fl s):Post S f res g W env fl s:=by
  cases res with
  | next Γ=>exact ⟨h.1,h.2.on⟩
  | ret d=>exact h
  | brk Γ=>exact ⟨h.1,h.2.on⟩
  | cont Γ=>exact ⟨h.1,h.2.on⟩
theorem ExcAt.ctx {h:Heap} {tb:Option (Addr × Value)} (x:ExcAt h e tb c):∃ o vs,h.get? e = some o∧o.data = .fields vs∧vs[2]? = some c:=e2_5 x fun o vs e1 _ e2 e3 _=>⟨o,vs,e1,e2,e3⟩
theorem wp_passOn {what:String} {Q:Flow→Shared→Prop} {E:Value→Shared→Prop} {T:Addr} {fl:Value} (hfl:env.frame = some L) (x:XSt S f Γ g W env s X) (hT:T ∈ X) (ex:ExcAt s.heap e (some (T,fl)) c)
    (hE:∀ s',Tr S W g s g s'→XSt S f Γ g W env s' X→ExcAt s'.heap e (some (T,rawInt L)) c→E (.ref e) s'):wpAny S.M A (PySem.passOn what (.ref e) env) Q E s:=by
  refine e2_6 (id ex) (fun oe vs e1 hc hd h2 hv1 r=>?_)
  unfold PySem.passOn
  refine wpAny_bind (wpAny_field e1 hd hv1 ?_)
  rw [if_neg (show ¬ (Value.ref T == Value.none) = true by simp),hfl]
  exact wpAny_bind (wp_flight x hT ex fun s' t x' ex' k=>wpAny_throw (hE s' t x' ex'))
theorem RX.tryFin (hb:RXs S k f Γ body Γ₁ true) (hf:EXs S.off k f Γ₁ (f₀ :: fs) (.next Γ₂) ∨ RXs S.off k f Γ₁ (f₀ :: fs) Γ₂ false):RX S k f Γ (.Try body [] [] (f₀ :: fs) pos) Γ₂ false:=by
  intro A env0 L0 g W env s X Q E a hQ
  refine wpAny_Try_finally (prog:=S.prog) (w:=S.w) (hb A env0 L0 g W env s X _ _ a fun v g1 s1 t1 fl1=>?_)
  refine wp_noteF a.frames a.fl a.z (a.at0.move a.x.st.tabs t1 a.out) a.out fl1 fun g2 s2 t2 nt2 h02=>?_
  (refine e4_6 (nt2) (fun e X2 c T q1q x2 he hT hn ex=>?_);subst q1q)
  obtain rfl:=hn rfl
  refine ⟨ref_ne_byPass _,wp_noted a.fl ex (wp_flight (fr:=none) x2 hT ex fun s3 t3 x3 ex3 _=>?_)⟩
  have h03:=h02.move x2.st.tabs t3 a.out
  have am:XAt S.off k f Γ₁ (A.mark (some (.ref e))) env0 L0 g2 W env s3 X2:=⟨a.room.offA e,.inr ⟨e,he,rfl,ex3.ctx⟩,a.frames,a.fl,a.z,h03.off,a.out,x3.off⟩
  have t03:=(t1.trans t2 fun _ q=>q).trans t3 fun _ q=>q
  rcases hf with hf | hf
  · refine hf _ g2 _ env s3 _ _ am.room am.x.st fun fl g4 s4 t4 p4=>?_
    (refine e0_2 (p4) (fun q2q st4=>?_);subst q2q)
    have hX:∀ b ∈ X2,¬ (W b∧b ∉ X2):=fun b hb q=>q.2 hb
    have x4:=x3.step t4.on st4.on
    refine wp_passOn a.fl x4 hT (ex3.same (x3.kept t4.on hX he) (x3.kept t4.on hX hT)) fun s5 t5 x5 ex5=>?_
    exact hQ _ g4 s5 ((t03.trans (t4.on.weak fun _ q=>q.1) fun _ q=>q).trans t5 fun _ q=>q) ⟨e,X2,_,rfl,x5,he,nofun,.inr ⟨T,hT,ex5⟩⟩
  · refine hf _ env0 L0 g2 W env s3 X2 _ _ am fun v4 g4 s4 t4 fl4=>?_
    refine wp_noteF (A:=A.mark (some (.ref e))) a.frames a.fl a.z (h03.move x3.st.tabs t4.on a.out) a.out fl4.on fun g5 s5 t5 nt5 _=>?_
    exact wp_backF a.fl nt5 fun s6 t6 nt6=>hQ v4 g5 s6 (((t03.trans t4.on fun _ q=>q).trans t5 fun _ q=>q).trans t6 fun _ q=>q) nt6.flies
theorem RX.tryFinB (hb:EXs S k f Γ body (.next Γ₁)) (hf:RXs S k f Γ₁ (f₀ :: fs) Γ₂ n):RX S k f Γ (.Try body [] [] (f₀ :: fs) pos) Γ₂ n:=by
  intro A env0 L0 g W env s X Q E a hQ
  refine wpAny_Try_finally (prog:=S.prog) (w:=S.w) (hb A g _ env s _ _ a.room a.x.st fun fl g1 s1 t1 p1=>?_)
  (refine e0_2 (p1) (fun q3q st1=>?_);subst q3q)
  have a1:=a.step t1 (fun _ q=>q.1) (fun b hb q=>q.2 hb) (a.x.step t1 st1)
  refine wpAny_execs_nil (hf A env0 L0 g1 W env s1 X _ _ a1 fun v g2 s2 t2 fl2=>?_)
  refine wp_noteF a.frames a.fl a.z (a1.at0.move a1.x.st.tabs t2 a.out) a.out fl2 fun g3 s3 t3 nt3 _=>?_
  exact wp_backF a.fl nt3 fun s4 t4 nt4=>hQ v g3 s4 ((((t1.weak fun _ q=>q.1).trans t2 fun _ q=>q).trans t3 fun _ q=>q).trans t4 fun _ q=>q) nt4.flies
theorem EX.tryFin (hb:EXs S k f Γ body (.next Γ₁)) (hf:EXs S k f Γ₁ (f₀ :: fs) (.next Γ₂)):EX S k f Γ (.Try body [] [] (f₀ :: fs) pos) (.next Γ₂):=by
  intro A g W env s Q E R st hQ
  refine wpAny_Try_finally (prog:=S.prog) (w:=S.w) (hb A g _ env s _ _ R st fun fl g1 s1 t1 p1=>?_)
  (refine e0_2 (p1) (fun q4q st1=>?_);subst q4q)
  refine wpAny_execs_nil (hf A g1 W env s1 _ _ R st1 fun fl g2 s2 t2 p2=>?_)
  (refine e0_2 (p2) (fun q5q st2=>?_);subst q5q)
  exact hQ _ g2 s2 (t1.trans t2 fun _ q=>q) ⟨rfl,st2⟩
theorem EX.tryOk {hd:ExceptHandler} {hs:List ExceptHandler} (hb:EXs S k f Γ body (.next Γ₁)):EX S k f Γ (.Try body (hd :: hs) [] [] pos) (.next Γ₁):=by
  intro A g W env s Q E R st hQ
  refine wpAny_Try_except (prog:=S.prog) (w:=S.w) (hb A g _ env s _ _ R st fun fl g1 s1 t1 p1=>?_)
  (refine e0_2 (p1) (fun q6q st1=>?_);subst q6q)
  exact wpAny_execs_nil (hQ _ g1 s1 t1 ⟨rfl,st1⟩)
noncomputable def NX (S:Sig) (k:Nat) (f:Fi) (Γ:Ctxt) (st:Stmt) (r:Res):Prop :=
  ∀ (A:Around) (env0:Env) (L0:Addr) (g:Heap) (W:Addr→Prop) (env:Env) (s:Shared) (Q:Flow→Shared→Prop) (E:Value→Shared→Prop),XAt S k f Γ A env0 L0 g W env s [] →
    (∀ fl g' s',Tr S W g s g' s'→Post S f r g' W env fl s'→Q fl s')→wpAny S.M A (exec st env) Q E s
noncomputable def NXs (S:Sig) (k:Nat) (f:Fi) (Γ:Ctxt) (sts:List Stmt) (r:Res):Prop :=
  ∀ (A:Around) (env0:Env) (L0:Addr) (g:Heap) (W:Addr→Prop) (env:Env) (s:Shared) (Q:Flow→Shared→Prop) (E:Value→Shared→Prop),XAt S k f Γ A env0 L0 g W env s [] →
    (∀ fl g' s',Tr S W g s g' s'→Post S f r g' W env fl s'→Q fl s')→wpAny S.M A (execs sts env) Q E s
theorem NX.tryExc (hb:RXs S k f Γ body Γ₁ n) (ht:EV S.off k f Γ₁ t (.raw (.type "IndexError"))) (hs:EXs S.off k f Γ₁ (b₀ :: suite) res):NX S k f Γ (.Try body [.ExceptHandler (some t) none (b₀ :: suite) pos] [] [] p') res:=by
  intro A env0 L0 g W env s Q E a hQ
  refine wpAny_Try_except (prog:=S.prog) (w:=S.w) (hb A env0 L0 g W env s [] _ _ a fun v g1 s1 t1 fl1=>?_)
  refine wp_noteF a.frames a.fl a.z (a.at0.move a.x.st.tabs t1 a.out) a.out fl1 fun g2 s2 t2 nt2 h02=>?_
  (refine e4_6 (nt2) (fun e X2 c T q7q x2 he hT hn ex=>?_);subst q7q)
  refine wp_flight (fr:=none) x2 hT ex fun s3 t3 x3 ex3 _=>?_
  refine wpAny_handleBy_builtin (X:="IndexError") (T:="IndexError") (b:=true) PySem.F.isExc_IndexError PySem.F.notTuple_IndexError PySem.F.self_IndexError ?_
  refine ht _ g2 _ env s3 _ _ (a.room.offA e) x3.off.st fun v4 g4 s4 t4 r4=>?_
  cases r4 using Rd.casesRaw
  have x4:=x3.move t4.on
  have hX:∀ b ∈ X2,¬ Nw s3 b:=fun b hb=>Nat.not_le.mpr (x3.lt hb)
  have ex4:=ex3.same (x3.kept t4.on hX he) (x3.kept t4.on hX hT)
  refine ⟨rfl,ex4.typeIs,?_⟩
  rw [if_pos rfl]
  refine wp_flight (A:=A.mark (some (.ref e))) (fr:=none) x4 hT ex4 fun s5 t5 x5 ex5 _=>?_
  refine hs _ g4 W env s5 _ _ (a.room.offA e) x5.base.off fun fl g6 s6 t6 p6=>?_
  exact hQ fl g6 s6 (((((t1.trans t2 fun _ q=>q).trans t3 fun _ q=>q).trans (t4.on.weak x3.new) fun _ q=>q).trans t5 fun _ q=>q).trans t6.on fun _ q=>q) p6.on
theorem NXs.here (h:NX S k f Γ st res) (hr:res.leaves = true):NXs S k f Γ (st :: sts) res:=by
  intro A env0 L0 g W env s Q E a hQ
  refine wpAny_execs_cons (h A env0 L0 g W env s _ E a fun fl g1 s1 t1 p1=>?_)
  have:=hQ fl g1 s1 t1 p1
  cases res with
  | next _=>(first | cases hr using Rd.casesInt | cases hr using Rd.casesStr | cases hr using Rd.casesRaw | cases hr using Rds.casesNil | cases hr using Rds.casesCons | cases hr using Rd.casesList | cases hr using Rd.casesTup | cases hr)
  | ret d=>(refine e1_2 (p1) (fun v q8q _=>?_);subst q8q);exact this
  | brk Γ=>(refine e0_2 (p1) (fun q9q _=>?_);subst q9q);exact this
  | cont Γ=>(refine e0_2 (p1) (fun q10q _=>?_);subst q10q);exact this
theorem NXs.next (h1:EX S k f Γ st (.next Γ₁)) (h2:NXs S k f Γ₁ sts res):NXs S k f Γ (st :: sts) res:=by
  intro A env0 L0 g W env s Q E a hQ
  refine wpAny_execs_cons (h1 A g _ env s _ E a.room a.x.st fun fl g1 s1 t1 p1=>?_)
  (refine e0_2 (p1) (fun q11q st1=>?_);subst q11q)
  exact h2 A env0 L0 g1 W env s1 Q E (a.step t1 (fun _ q=>q.1) nofun (a.x.step t1 st1)) fun fl g2 s2 t2 p2=>hQ fl g2 s2 ((t1.weak fun _ q=>q.1).trans t2 fun _ q=>q) p2
theorem NXs.then (h1:NX S k f Γ st (.next Γ₁)) (h2:EXs S k f Γ₁ sts res):NXs S k f Γ (st :: sts) res:=by
  intro A env0 L0 g W env s Q E a hQ
  refine wpAny_execs_cons (h1 A env0 L0 g W env s _ E a fun fl g1 s1 t1 p1=>?_)
  (refine e0_2 (p1) (fun q12q st1=>?_);subst q12q)
  exact h2 A g1 W env s1 Q E a.room st1 fun fl g2 s2 t2 p2=>hQ fl g2 s2 (t1.trans t2 fun _ q=>q) p2
inductive WLB (S:Sig) (k:Nat) (f:Fi) (test:Expr) (body:List Stmt):Ctxt→Ctxt→Prop where
  | next {Γ Γ₁ Γ':Ctxt}:TV S k f Γ test true→EXs S k f Γ body (.next Γ₁)→WLB S k f test body Γ₁ Γ'→WLB S k f test body Γ Γ'
  | brk {Γ Γ':Ctxt}:TV S k f Γ test true→NXs S k f Γ body (.brk Γ')→WLB S k f test body Γ Γ'
theorem WLB.code (w:WLB S k f test body Γ Γ'):∀ (A:Around) (env0:Env) (L0:Addr) (g:Heap) (W:Addr→Prop) (env:Env) (s:Shared) (R:Result→Shared→Prop),XAt S k f Γ A env0 L0 g W env s [] →
    (∀ g' s',Tr S W g s g' s'→St S f Γ' g' W env s'→R (.ok .next) s')→codeAny S.M A (.whileLoop test body [] env) R s:=by
  induction w with
  | next ht hb _ ih =>
    intro A env0 L0 g W env s R a hR
    refine codeAny_of_tree ?_
    rw [under_loop]
    refine wpAny_mono (whileTurn_ok (Q:=fun fin s'=>match fin with | .done f=>R (.ok f) s' | .again c'=>c'.quiet = true∧codeAny S.M A c' R s') (E:=fun _ _=>False) ?_ fun _ _ x=>x) (fun _ _ x=>x) fun _ _ x=>x.elim
    unfold whileTurn
    refine wpAny_bind (ht A g _ env s _ _ a.room a.x.st fun g1 s1 t1=>?_)
    refine wp_ifT rfl ?_
    have a1:=a.move t1
    refine wpAny_bind (hb A g1 _ env s1 _ _ a1.room a1.x.st fun fl g2 s2 t2 p2=>?_)
    (refine e0_2 (p2) (fun q13q st2=>?_);subst q13q)
    exact wpAny_pure ⟨rfl,ih A env0 L0 g2 W env s2 R (a1.step t2 (fun _ q=>q.1) nofun (a1.x.step t2 st2)) fun g3 s3 t3 st3=>hR g3 s3 (((t1.weak a.x.new).trans (t2.weak fun _ q=>q.1) fun _ q=>q).trans t3 fun _ q=>q) st3⟩
  | brk ht hb =>
    intro A env0 L0 g W env s R a hR
    refine codeAny_of_tree ?_
    rw [under_loop]
    refine wpAny_mono (whileTurn_ok (Q:=fun fin s'=>match fin with | .done f=>R (.ok f) s' | .again c'=>c'.quiet = true∧codeAny S.M A c' R s') (E:=fun _ _=>False) ?_ fun _ _ x=>x) (fun _ _ x=>x) fun _ _ x=>x.elim
    unfold whileTurn
    refine wpAny_bind (ht A g _ env s _ _ a.room a.x.st fun g1 s1 t1=>?_)
    refine wp_ifT rfl ?_
    refine wpAny_bind (hb A env0 L0 g1 W env s1 _ _ (a.move t1) fun fl g2 s2 t2 p2=>?_)
    (refine e0_2 (p2) (fun q14q st2=>?_);subst q14q)
    exact wpAny_pure (hR g2 s2 ((t1.weak a.x.new).trans t2 fun _ q=>q) st2)
theorem NX.while (w:WLB S k f test body Γ Γ'):NX S k f Γ (.While test body [] pos) (.next Γ'):=by
  intro A env0 L0 g W env s Q E a hQ
  exact wpAny_While (w.code A env0 L0 g W env s _ a fun g1 s1 t1 st1=>hQ _ g1 s1 t1 ⟨rfl,st1⟩)
noncomputable def OpsF (S:Sig) (k:Nat) (t:List Value→Sem Value) (ds:List D) (d:D):Prop :=
  ∀ (A:Around) (env0:Env) (L0:Addr) (g:Heap) (s:Shared) (vs:List Value) (Q:Value→Shared→Prop) (E:Value→Shared→Prop),At S k A g s→A.frames = some [env0]→FrameAt S env0 L0 g s→Rds g vs ds →
    (∀ v g' s',Tr S (Nw s) g s g' s'→Rd g' v d→Q v s')→wpAny S.M A (t vs) Q E s
theorem Fn.introF [Free S] {a:Addr} {names:List Str} {ds:List D} (F:FnAt S a f names body) (hl:names.length = ds.length) (hb:NXs S k f (ctx0 f.kinds ds) body (.ret d)):OpsF S (k + 1) (fun vs=>call (.ref a) vs) ds d:=by
  intro A env0 L0 g s vs Q E at' hfr h0 rs hQ
  have hL:L0 < s.heap.objs.size:=h0.there.elim fun _ h=>Heap.lt_size h.1
  exact Fn.introG F hl at' rs (fun env g' s' Q' E' h1 h2 t st h=>hb (A.deeper env) env0 L0 g' (Nw s) env s' Q' E' ⟨at'.room.under,.inl (at'.room.handled Free.free),Around.frames_deeper hfr,h1,by rw [h2];exact Nat.le_trans h0.z (Nat.le_of_lt hL),h0.move at'.tabs t (Nat.not_le.mpr hL),Nat.not_le.mpr hL,XSt.of st⟩ h) hQ
noncomputable def EVF (S:Sig) (k:Nat) (f:Fi) (Γ:Ctxt) (x:Expr) (d:D):Prop :=
  ∀ (A:Around) (g:Heap) (W:Addr→Prop) (env:Env) (s:Shared) (Q:Value→Shared→Prop) (E:Value→Shared→Prop),Room S k A→A.frames = some [env]→env.frame = some env.locals→S.z≤env.locals→St S f Γ g W env s →
    (∀ v g' s',Tr S (Nw s) g s g' s'→Rd g' v d→Q v s')→wpAny S.M A (eval x env) Q E s
theorem EVF.call {fn:Expr} {fv:Value} {es:List Expr} {ds:List D} (hn:∀ env,eval (.Call fn es [] pos) env = (do callWith pos (← eval fn env) [] (backTo pos (starEach es env)) (backToKw pos (keywordEach [] env)))) (h1:EV S k f Γ fn (.raw fv)) (hc:Callee S fv) (h2:EVs S k f Γ es ds) (h3:OpsF S k (fun vs=>PySem.call fv vs) ds d) :
    EVF S k f Γ (.Call fn es [] pos) d:=by
  intro A g W env s Q E R hfr hfl hz st hQ
  rw [hn]
  refine wpAny_bind (h1 A g W env s _ E R st fun v g1 s1 t1 r1=>?_)
  cases r1 using Rd.casesRaw
  refine callWith_of (P:=fun h=>S.K.In h) (by show ((backTo pos (starEach es env)).any (·.1) || false) = false;rw [h2.plain];rfl) hc ?_
  refine evalArgs_any (h2.plain _ _) (h2.run pos A g1 W env s1 _ E R (st.move t1) fun vs g2 s2 t2 r2=>⟨t2.base.kin.keeps t2.keep,?_⟩)
  exact h3 A env env.locals g2 s2 vs Q E (t2.at R) hfr (((st.move t1).move t2).frameAt hfl hz) r2 fun v' g3 s3 t3 r3=>hQ v' g3 s3 ((t1.then t2).then t3) r3
theorem EVF.cmp {op:CmpOp} {d₁ d₂:D} (h1:EVF S k f Γ l d₁) (h2:EV S k f Γ r d₂) (h3:Op2 S k (compareOp op) d₁ d₂ d) (hm:behindInMarks op r = false:=by rfl):EVF S k f Γ (.Compare l [op] [r] pos) d:=by
  intro A g W env s Q E R hfr hfl hz st h
  exact wpAny_Compare1 (h1 A g W env s _ E R hfr hfl hz st fun v1 g1 s1 t1 r1=>h2 A g1 W env s1 _ E R (st.move t1) fun v2 g2 s2 t2 r2 =>
    h3 A g2 s2 v1 v2 Q E (t2.at R) (r1.mono t2.mono) r2 fun v g3 s3 t3 r3=>h v g3 s3 ((t1.then t2).then t3) r3) hm
theorem EXsF.retAnd {bp:Pos} (h1:EV S k f Γ l (.bool true)) (h2:EVF S k f Γ r d):EXsF S k f Γ [.Return (some (.BoolOp .And [l,r] bp)) pos] (.ret d):=by
  intro A g W env s Q E R hfr hfl hz st hQ
  refine wpAny_execs_cons (wpAny_Return_some ?_)
  rw [arm_eval_BoolOp]
  show wpAny S.M A (do
    let v ← eval l env
    standAt bp
    let t ← holding [v] (truthy v)
    match BoolOp.And,t with
    | .And,false | .Or,true=>pure v
    | _,_=>boolOp bp .And (evalEach [r] env)) _ E s
  refine wpAny_bind (h1 A g W env s _ E R st fun v g1 s1 t1 r1=>wpAny_bind (wpAny_standAt (wpAny_bind (wpAny_holding ((OpT.bool (k:=k)) A g1 s1 v _ E (t1.at R) r1 fun g2 s2 t2=>?_)))))
  show wpAny S.M A (eval r env) _ E s2
  exact h2 A g2 W env s2 _ E R hfr hfl hz ((st.move t1).move t2) fun v' g3 s3 t3 r3=>hQ _ g3 s3 (((t1.then t2).then t3).weak st.new) ⟨v',rfl,r3⟩
end
end
section
open PySem PySem.W PySem.Calls PyProof.Rows
section
variable {S:Sig} {k:Nat} {f:Fi} {Γ Γ₁ Γ₂:Ctxt} {e:Expr} {d:D} {pos:Pos}
theorem EX.assignBoth {t1 t2:Expr} (h1:EV S k f Γ e d) (h2:AS S k f Γ t1 d Γ₁) (h3:AS S k f Γ₁ t2 d Γ₂) (hs:∀ env,swapsWithSole [t1,t2] e pos.line env = pure false) (hw:∀ env,swappedStores [t1,t2] e env = pure none)
    (ha:∀ env v,assignAll v ((assignEach [t1,t2] env).map (·.2)) = (do holding [v] (PySem.assign t1 env v);PySem.assign t2 env v)):EX S k f Γ (.Assign [t1,t2] e pos) (.next Γ₂):=by
  intro A g W env s Q E R st hQ
  refine wpAny_Assign_stores (h1 A g W env s _ E R st fun v g1 s1 t1' r1=>?_) (hs env) (hw env)
  rw [ha]
  exact wpAny_bind (wpAny_holding (h2 A g1 W env s1 v _ E R (st.move t1') r1 fun g2 s2 t2' st2=>h3 A g2 W env s2 v _ E R st2 (r1.mono t2'.mono) fun g3 s3 t3' st3=>hQ _ g3 s3 (((t1'.weak st.new).trans t2' fun _ q=>q).trans t3' fun _ q=>q) ⟨rfl,st3⟩))
theorem drop_next {α:Type} {xs rest:List α} {x:α} {i:Nat} (h:xs.drop i = x :: rest):xs.drop (i + 1) = rest∧i < xs.length∧xs[i]? = some x:=by
  have hi:i < xs.length:=by
    rcases Nat.lt_or_ge i xs.length with h' | h'
    · exact h'
    · rw [List.drop_eq_nil_of_le h'] at h;cases h
  rw [List.drop_eq_getElem_cons hi] at h
  injection h with h1 h2
  exact ⟨h2,hi,by rw [List.getElem?_eq_getElem hi,h1]⟩
theorem drop_end {α:Type} {xs:List α} {i:Nat} (h:xs.drop i = []):xs.length≤i:=by simpa using h
theorem item_at {xs:List (List Nat)} {x:List Nat} {i:Nat} (h:xs[i]? = some x):(xs.map D.str)[idx (xs.map D.str).length (i:Int)]? = some (.str x):=by
  have hi:i < xs.length:=(List.getElem?_eq_some_iff.mp h).1
  rw [show idx (xs.map D.str).length (i:Int) = i from by unfold idx;simp;lia,List.getElem?_map,h];rfl
theorem skip_to {α:Type} {xs rest:List α} {i:Nat} (p:α→Bool) (hi:i≤xs.length) (h:xs.drop i = rest):xs.drop (i + (rest.takeWhile p).length) = rest.dropWhile p∧i + (rest.takeWhile p).length≤xs.length:=by
  have e:rest.takeWhile p ++ rest.dropWhile p = rest:=List.takeWhile_append_dropWhile
  have hl:=congrArg List.length h
  rw [List.length_drop] at hl
  have hl2:=congrArg List.length e
  rw [List.length_append] at hl2
  refine ⟨?_,by lia⟩
  rw [← List.drop_drop,h]
  conv=>lhs;rw [← e]
  rw [List.drop_left']
  rw [e]
theorem skip_loop {x1 x2 x3:Str} {i1 i2 i3:Nat} {n:Bool} {p1 p2 p3 p4 p5 p6 p7 p8:Pos} {kk:Nat} {xs:List (List Nat)} {x:List Nat} (hn:n = true→S.hd = true) (n1:Nm f x1 i1 .local) (n2:Nm f x2 i2 .local) (n3:Nm f x3 i3 .local) (hxs:xs.length < 1000000)
    (Γ:Int→Ctxt) (h1:∀ i,(Γ i)[i1]? = some (some (.val (.list (xs.map .str))))) (h2:∀ i,(Γ i)[i2]? = some (some (.val (.int i)))) (h3:∀ i,(Γ i)[i3]? = some (some (.val (.str x)))) (hset:∀ i j,(Γ i).set i2 (some (.val (.int j))) = Γ j) :
    ∀ (rest:List (List Nat)) (i:Nat),i≤xs.length→xs.drop i = rest →
      (rest.dropWhile (· == x) = []→WLR S k f (.Compare (.Subscript (.Name x1 p1) (.Name x2 p2) p3) [.Eq] [.Name x3 p4] p5) [.AugAssign (.Name x2 p6) .Add (.Constant (.int 1) kk p7) p8] n (Γ i) (Γ (xs.length:Nat))) ∧
      (rest.dropWhile (· == x) ≠ []→WL S k f (.Compare (.Subscript (.Name x1 p1) (.Name x2 p2) p3) [.Eq] [.Name x3 p4] p5) [.AugAssign (.Name x2 p6) .Add (.Constant (.int 1) kk p7) p8] (Γ i) (.next (Γ (i + (rest.takeWhile (· == x)).length:Nat))))
  | [],i,hi0,h=>by
    have hi:=drop_end h
    refine ⟨fun _=>?_,fun q=>absurd rfl q⟩
    obtain rfl:i = xs.length:=Nat.le_antisymm hi0 hi
    refine .stop (RT.cmp (RE.item hn (EV.nm n1 (h1 _)) (EV.nm n2 (h2 _)) (by rw [List.length_map];exact Int.le_refl _) (by lia) (fun _ _=>rfl)) rfl)
  | y :: rest,i,hi0,h=>by
    refine e0_3 (drop_next h) (fun h4 h5 h6=>?_)
    have tv:TV S k f (Γ i) (.Compare (.Subscript (.Name x1 p1) (.Name x2 p2) p3) [.Eq] [.Name x3 p4] p5) (y == x) :=
      TV.cmp (EV.item (T:="list") (EV.nm n1 (h1 _)) (EV.nm n2 (h2 _)) rfl list_getitem_lookup (Op2.itemL (item_at h6) (by lia)) (fun _ _=>rfl)) (EV.nm n3 (h3 _)) Op2.eqS rfl
    have st:EXs S k f (Γ i) [.AugAssign (.Name x2 p6) .Add (.Constant (.int 1) kk p7) p8] (.next (Γ (i + 1:Nat))):=by
      have h:=EX.augN (S:=S) (k:=k) (p':=p6) (pos:=p8) n2 (h2 i) (EV.cInt (i:=1) (kk:=kk) (pos:=p7)) (Op2.iaddI (a:=i) (b:=1))
      rw [hset] at h
      exact EXs.cons h EXs.nil
    refine e0_2 (skip_loop (p1:=p1) (p2:=p2) (p3:=p3) (p4:=p4) (p5:=p5) (p6:=p6) (p7:=p7) (p8:=p8) (kk:=kk) hn n1 n2 n3 hxs Γ h1 h2 h3 hset rest (i + 1) h5 h4) (fun ih1 ih2=>?_)
    cases hy:y == x with
    | true =>
      rw [hy] at tv
      simp only [List.dropWhile_cons,hy,if_true]
      simp only [List.takeWhile_cons,hy,if_true,List.length_cons]
      refine ⟨fun q=>.next tv st (ih1 q),fun q=>?_⟩
      have:=ih2 q
      rw [show i + 1 + (rest.takeWhile (· == x)).length = i + ((rest.takeWhile (· == x)).length + 1) by lia] at this
      exact .next tv st this
    | false =>
      rw [hy] at tv
      simp only [List.dropWhile_cons,hy,Bool.false_eq_true,if_false]
      simp only [List.takeWhile_cons,hy,Bool.false_eq_true,if_false,List.length_nil,Nat.add_zero]
      exact ⟨nofun,fun _=>.stop tv⟩
end
end
section
open PySem PySem.W PySem.Calls PyProof.Rows
section
variable {S:Sig} {k:Nat} {f:Fi} {Γ Γ' Γ₁:Ctxt} {G:Gh} {g g':Heap} {W:Addr→Prop} {env:Env} {s s':Shared} {P:Ctxt→Gh→Prop} {pos:Pos} {ds:List D} {sts:List Stmt} {d:D} {j:Nat} {r:GRes}
theorem AS.lst [Free S] {ts:List Expr} {kk:Nat} (h:ASs S k f Γ ts ds Γ'):AS S k f Γ (.Tuple ts kk pos) (.list ds) Γ':=by
  intro A g W env s v Q E R st hr hQ
  refine e0_4 (h) (fun a1 a2 a3 a4=>?_)
  cases hr using Rd.casesList with
  | list e hl rs =>
    rename_i a vs n
    have hlen:=rs.length
    have ht:s.heap.IsList a vs.toArray:=⟨_,st.keep _ _ e,rfl,n,rfl⟩
    rw [arm_assign_Tuple]
    refine wpAny_bind (wpAny_standAt ?_)
    unfold unpack
    rw [show (assignEach ts env).length = vs.toArray.size by rw [a2,a3];simp [hlen],a1 env]
    refine wpAny_bind (wpAny_holding (wpAny_grown (kun_itemsOf (R.handled Free.free) ht fun h' hx G=>?_)))
    have old:Keep s.heap h':=fun b o e=>hx b o (Nat.ne_of_lt (Heap.lt_size e)) e
    refine e1_2 (Tr.grow (s':={ s with heap:=h' }) (fun _=>False) st.keep st.base st.tabs old G.heap rfl rfl (Nat.le_refl _)) (fun g1 t1 _=>?_)
    exact a4 A g1 W env _ _ _ E R (st.move t1) (rs.mono t1.mono) fun g2 s2 t2 st2=>hQ g2 s2 ((t1.weak st.new).trans t2 (fun _ q=>q)) st2
theorem Le.refl:∀ Γ:Ctxt,Le Γ Γ
  | []=>.nil
  | _ :: Γ=>.same (Le.refl Γ)
theorem EXs.ghostW {Γ':Ctxt} (h:GXs S k f Γ [] sts (.next fun a b=>Le Γ' a∧b = [])):EXs S k f Γ sts (.next Γ'):=by
  intro A g W env s Q E R st hQ
  refine h A g W env s Q E R ⟨st.widen fun b q=>⟨q,off_nil b⟩,nofun,.nil⟩ fun fl g' s' t p=>?_
  obtain ⟨rfl,Γ₁,G₁,⟨le,rfl⟩,gs⟩:=p
  exact hQ _ g' s' t ⟨rfl,(gs.st.widen fun b q=>q.1).le le⟩
theorem GXs.worldN (h:EXs S k f Γ sts (.next Γ₁)) (hP:P Γ₁ []):GXs S k f Γ [] sts (.next P):=by
  intro A g W env s Q E R gs hQ
  refine h A g W env s Q E R (gs.st.widen fun b q=>q.1) fun fl g' s' t p=>?_
  (refine e0_2 (p) (fun q4q st=>?_);subst q4q)
  exact hQ _ g' s' t ⟨rfl,_,_,hP,st.widen fun b q=>⟨q,off_nil b⟩,nofun,.nil⟩
theorem GXs.thawC {a:Addr} {inn:Gh} (j:Nat) (hj:Γ[j]? = some (some (.cell (some (.raw (.ref a)))))) (h:GXs S k f (Γ.set j (some (.cell (some (.list (inn.map fun p=>.list p.2)))))) G sts r):GXs S k f Γ (nestG a inn ++ G) sts r:=by
  intro A g W env s Q E R gs hQ
  refine e2_5 (gs.own (a,inn.map fun p=>D.raw (.ref p.1)) (.head _)) (fun vs n ho hz rs hn hw=>?_)
  refine e1_4 (gs.st.ghost ho fun q=>q.2 _ (.head _) rfl) (fun g1 t1 h1 h2 st1=>?_)
  have hnd:=gs.nd
  unfold nestG at hnd
  simp only [List.cons_append,List.map_cons,List.nodup_cons] at hnd
  have gs1:GSt S f Γ (inn ++ G) g1 W env s:=⟨st1.widen fun b q=>⟨q.1,fun x hx=>q.2 x (.tail _ hx)⟩,fun x hx=>by
    refine e2_5 (gs.own x (.tail _ hx)) (fun vs' n' a1 a2 a3 a4 a5=>?_)
    refine ⟨vs',n',a1,a2,a3.mono t1.mono,?_,a5⟩
    rw [h2 _ fun q=>hnd.1 (by have:=List.mem_map_of_mem (f:=Prod.fst) hx;rw [q] at this;exact this)];exact a4,hnd.2⟩
  refine e1_3 (GSt.takes inn gs1) (fun g2 t2 gs2 h3=>?_)
  have hr:Rd g2 (.ref a) (.list (inn.map fun p=>.list p.2)):=.list (t2.mono _ _ h1) hz (rds_refs rs h3)
  exact h A g2 W env s Q E R ⟨gs2.st.retypeC hj hr,gs2.own,gs2.nd⟩ fun fl g₂ s₂ t₂ p₂=>hQ fl g₂ s₂ (((t1.weak fun b q=>by subst q;exact hw).trans t2 fun _ q=>q).trans t₂ fun _ q=>q) p₂
end
theorem lenS {α:Type} {P:List α→Prop} {n:Nat} (h:∀ a (as:List α),as.length = n→P (a :: as)) (vs:List α) (e:vs.length = n + 1):P vs:=by
  cases vs with
  | nil=>exact nomatch e
  | cons a as=>exact h a as (Nat.succ.inj e)
theorem len0 {α:Type} {P:List α→Prop} (h:P []) (vs:List α) (e:vs.length = 0):P vs:=List.eq_nil_of_length_eq_zero e ▸ h
end
section
open PySem PySem.W PySem.Calls PyProof.Rows
noncomputable def stmtOf:Stmt→Expr × List Stmt × Scope × List ExceptHandler
  | .FunctionDef _ _ b _ _ _ sc _ _ _=>(default,b,sc,[])
  | .While t b _ _=>(t,b,default,[])
  | .For _ _ b _ _=>(default,b,default,[])
  | .Try b h _ _ _=>(default,b,default,h)
  | _=>(default,[],default,[])
noncomputable def bodyAt (i:Nat):List Stmt:=(PySem.Challenge.pw_dn0049_03.main.body[i]?).elim [] fun s=>(stmtOf s).2.1
noncomputable def scopeAt (i:Nat):Scope:=(PySem.Challenge.pw_dn0049_03.main.body[i]?).elim default fun s=>(stmtOf s).2.2.1
theorem bt_type:bootBuiltins "type" = some (.type "type"):=by kernel_rfl
theorem bt_issubclass:bootBuiltins "issubclass" = some (.builtin "issubclass"):=by kernel_rfl
theorem bt_str:bootBuiltins "str" = some (.type "str"):=by kernel_rfl
theorem bt_bytes:bootBuiltins "bytes" = some (.type "bytes"):=by kernel_rfl
theorem bt_len:bootBuiltins "len" = some (.builtin "len"):=by kernel_rfl
theorem bt_isinstance:bootBuiltins "isinstance" = some (.builtin "isinstance"):=by kernel_rfl
theorem bt_range:bootBuiltins "range" = some (.type "range"):=by kernel_rfl
theorem bt_IndexError:bootBuiltins "IndexError" = some (.type "IndexError"):=by kernel_rfl
theorem bt_abs:bootBuiltins "abs" = some (.builtin "abs"):=by kernel_rfl
theorem bt_list:bootBuiltins "list" = some (.type "list"):=by kernel_rfl
theorem bt_min:bootBuiltins "min" = some (.builtin "min"):=by kernel_rfl
theorem bt_enumerate:bootBuiltins "enumerate" = some (.type "enumerate"):=by kernel_rfl
theorem bt_max:bootBuiltins "max" = some (.builtin "max"):=by kernel_rfl
theorem bt_zip:bootBuiltins "zip" = some (.type "zip"):=by kernel_rfl
theorem bt_sorted:bootBuiltins "sorted" = some (.builtin "sorted"):=by kernel_rfl
noncomputable def fi_fspath:Fi where
  scope:=scopeAt 18
  qual:="fspath.<locals>."
  code:=.ref 141
  vars:=["path","kind","hook","given"]
  kinds:=[.local,.local,.local,.local]
  nodup:=by decide
  ok:=by rfl
theorem n_fspath_0:Nm fi_fspath "path" 0 .local:=⟨rfl,rfl,by decide,by decide⟩
theorem n_fspath_1:Nm fi_fspath "kind" 1 .local:=⟨rfl,rfl,by decide,by decide⟩
theorem n_fspath_2:Nm fi_fspath "hook" 2 .local:=⟨rfl,rfl,by decide,by decide⟩
theorem n_fspath_3:Nm fi_fspath "given" 3 .local:=⟨rfl,rfl,by decide,by decide⟩
noncomputable def fi_splitroot:Fi where
  scope:=scopeAt 21
  qual:="splitroot.<locals>."
  code:=.ref 155
  vars:=["p","sep","empty"]
  kinds:=[.local,.local,.local]
  nodup:=by decide
  ok:=by rfl
theorem n_splitroot_0:Nm fi_splitroot "p" 0 .local:=⟨rfl,rfl,by decide,by decide⟩
theorem n_splitroot_1:Nm fi_splitroot "sep" 1 .local:=⟨rfl,rfl,by decide,by decide⟩
theorem n_splitroot_2:Nm fi_splitroot "empty" 2 .local:=⟨rfl,rfl,by decide,by decide⟩
noncomputable def fi_normpath:Fi where
  scope:=scopeAt 22
  qual:="normpath.<locals>."
  code:=.ref 162
  vars:=["path","sep","dot","dotdot","_","initial_slashes","comps","new_comps","comp"]
  kinds:=[.local,.local,.local,.local,.local,.local,.local,.local,.local]
  nodup:=by decide
  ok:=by rfl
theorem n_normpath_0:Nm fi_normpath "path" 0 .local:=⟨rfl,rfl,by decide,by decide⟩
theorem n_normpath_1:Nm fi_normpath "sep" 1 .local:=⟨rfl,rfl,by decide,by decide⟩
theorem n_normpath_2:Nm fi_normpath "dot" 2 .local:=⟨rfl,rfl,by decide,by decide⟩
theorem n_normpath_3:Nm fi_normpath "dotdot" 3 .local:=⟨rfl,rfl,by decide,by decide⟩
theorem n_normpath_4:Nm fi_normpath "_" 4 .local:=⟨rfl,rfl,by decide,by decide⟩
theorem n_normpath_5:Nm fi_normpath "initial_slashes" 5 .local:=⟨rfl,rfl,by decide,by decide⟩
theorem n_normpath_6:Nm fi_normpath "comps" 6 .local:=⟨rfl,rfl,by decide,by decide⟩
theorem n_normpath_7:Nm fi_normpath "new_comps" 7 .local:=⟨rfl,rfl,by decide,by decide⟩
theorem n_normpath_8:Nm fi_normpath "comp" 8 .local:=⟨rfl,rfl,by decide,by decide⟩
noncomputable def fi_escape:Fi where
  scope:=scopeAt 5
  qual:="escape.<locals>."
  code:=.ref 54
  vars:=["pattern"]
  kinds:=[.local]
  nodup:=by decide
  ok:=by rfl
theorem n_escape_0:Nm fi_escape "pattern" 0 .local:=⟨rfl,rfl,by decide,by decide⟩
noncomputable def fi_translate:Fi where
  scope:=scopeAt 7
  qual:="_translate.<locals>."
  code:=.ref 61
  vars:=["pat","STAR","QUESTION_MARK","res","add","i","n","c","j","stuff","chunks","k","chunk"]
  kinds:=[.local,.local,.local,.local,.local,.local,.local,.local,.local,.local,.local,.local,.local]
  nodup:=by decide
  ok:=by rfl
theorem n_translate_0:Nm fi_translate "pat" 0 .local:=⟨rfl,rfl,by decide,by decide⟩
theorem n_translate_1:Nm fi_translate "STAR" 1 .local:=⟨rfl,rfl,by decide,by decide⟩
theorem n_translate_2:Nm fi_translate "QUESTION_MARK" 2 .local:=⟨rfl,rfl,by decide,by decide⟩
theorem n_translate_3:Nm fi_translate "res" 3 .local:=⟨rfl,rfl,by decide,by decide⟩
theorem n_translate_4:Nm fi_translate "add" 4 .local:=⟨rfl,rfl,by decide,by decide⟩
theorem n_translate_5:Nm fi_translate "i" 5 .local:=⟨rfl,rfl,by decide,by decide⟩
theorem n_translate_6:Nm fi_translate "n" 6 .local:=⟨rfl,rfl,by decide,by decide⟩
theorem n_translate_7:Nm fi_translate "c" 7 .local:=⟨rfl,rfl,by decide,by decide⟩
theorem n_translate_8:Nm fi_translate "j" 8 .local:=⟨rfl,rfl,by decide,by decide⟩
theorem n_translate_9:Nm fi_translate "stuff" 9 .local:=⟨rfl,rfl,by decide,by decide⟩
theorem n_translate_10:Nm fi_translate "chunks" 10 .local:=⟨rfl,rfl,by decide,by decide⟩
theorem n_translate_11:Nm fi_translate "k" 11 .local:=⟨rfl,rfl,by decide,by decide⟩
theorem n_translate_12:Nm fi_translate "chunk" 12 .local:=⟨rfl,rfl,by decide,by decide⟩
noncomputable def fi_get_sep:Fi where
  scope:=scopeAt 9
  qual:="_get_sep.<locals>."
  code:=.ref 68
  vars:=["path"]
  kinds:=[.local]
  nodup:=by decide
  ok:=by rfl
theorem n_get_sep_0:Nm fi_get_sep "path" 0 .local:=⟨rfl,rfl,by decide,by decide⟩
noncomputable def fi_split:Fi where
  scope:=scopeAt 20
  qual:="split.<locals>."
  code:=.ref 148
  vars:=["p","sep","i","head","tail"]
  kinds:=[.local,.local,.local,.local,.local]
  nodup:=by decide
  ok:=by rfl
theorem n_split_0:Nm fi_split "p" 0 .local:=⟨rfl,rfl,by decide,by decide⟩
theorem n_split_1:Nm fi_split "sep" 1 .local:=⟨rfl,rfl,by decide,by decide⟩
theorem n_split_2:Nm fi_split "i" 2 .local:=⟨rfl,rfl,by decide,by decide⟩
theorem n_split_3:Nm fi_split "head" 3 .local:=⟨rfl,rfl,by decide,by decide⟩
theorem n_split_4:Nm fi_split "tail" 4 .local:=⟨rfl,rfl,by decide,by decide⟩
noncomputable def fi_sorted_list_difference:Fi where
  scope:=scopeAt 24
  qual:="sorted_list_difference.<locals>."
  code:=.ref 169
  vars:=["expected","actual","i","j","missing","unexpected","e","a"]
  kinds:=[.local,.local,.local,.local,.local,.local,.local,.local]
  nodup:=by decide
  ok:=by rfl
theorem n_sorted_list_difference_0:Nm fi_sorted_list_difference "expected" 0 .local:=⟨rfl,rfl,by decide,by decide⟩
theorem n_sorted_list_difference_1:Nm fi_sorted_list_difference "actual" 1 .local:=⟨rfl,rfl,by decide,by decide⟩
theorem n_sorted_list_difference_2:Nm fi_sorted_list_difference "i" 2 .local:=⟨rfl,rfl,by decide,by decide⟩
theorem n_sorted_list_difference_3:Nm fi_sorted_list_difference "j" 3 .local:=⟨rfl,rfl,by decide,by decide⟩
theorem n_sorted_list_difference_4:Nm fi_sorted_list_difference "missing" 4 .local:=⟨rfl,rfl,by decide,by decide⟩
theorem n_sorted_list_difference_5:Nm fi_sorted_list_difference "unexpected" 5 .local:=⟨rfl,rfl,by decide,by decide⟩
theorem n_sorted_list_difference_6:Nm fi_sorted_list_difference "e" 6 .local:=⟨rfl,rfl,by decide,by decide⟩
theorem n_sorted_list_difference_7:Nm fi_sorted_list_difference "a" 7 .local:=⟨rfl,rfl,by decide,by decide⟩
noncomputable def fi_law_figures:Fi where
  scope:=scopeAt 26
  qual:="_law_figures.<locals>."
  code:=.ref 176
  vars:=["x","words","told","k"]
  kinds:=[.local,.local,.local,.local]
  nodup:=by decide
  ok:=by rfl
theorem n_law_figures_0:Nm fi_law_figures "x" 0 .local:=⟨rfl,rfl,by decide,by decide⟩
theorem n_law_figures_1:Nm fi_law_figures "words" 1 .local:=⟨rfl,rfl,by decide,by decide⟩
theorem n_law_figures_2:Nm fi_law_figures "told" 2 .local:=⟨rfl,rfl,by decide,by decide⟩
theorem n_law_figures_3:Nm fi_law_figures "k" 3 .local:=⟨rfl,rfl,by decide,by decide⟩
noncomputable def fi_law_climb:Fi where
  scope:=scopeAt 27
  qual:="_law_climb.<locals>."
  code:=.ref 183
  vars:=["path","pieces","piece"]
  kinds:=[.local,.local,.local]
  nodup:=by decide
  ok:=by rfl
theorem n_law_climb_0:Nm fi_law_climb "path" 0 .local:=⟨rfl,rfl,by decide,by decide⟩
theorem n_law_climb_1:Nm fi_law_climb "pieces" 1 .local:=⟨rfl,rfl,by decide,by decide⟩
theorem n_law_climb_2:Nm fi_law_climb "piece" 2 .local:=⟨rfl,rfl,by decide,by decide⟩
noncomputable def fi_law_takes:Fi where
  scope:=scopeAt 28
  qual:="_law_takes.<locals>."
  code:=.ref 190
  vars:=["part","sign","turned","inside","held"]
  kinds:=[.local,.local,.local,.local,.local]
  nodup:=by decide
  ok:=by rfl
theorem n_law_takes_0:Nm fi_law_takes "part" 0 .local:=⟨rfl,rfl,by decide,by decide⟩
theorem n_law_takes_1:Nm fi_law_takes "sign" 1 .local:=⟨rfl,rfl,by decide,by decide⟩
theorem n_law_takes_2:Nm fi_law_takes "turned" 2 .local:=⟨rfl,rfl,by decide,by decide⟩
theorem n_law_takes_3:Nm fi_law_takes "inside" 3 .local:=⟨rfl,rfl,by decide,by decide⟩
theorem n_law_takes_4:Nm fi_law_takes "held" 4 .local:=⟨rfl,rfl,by decide,by decide⟩
noncomputable def fi_law_reads:Fi where
  scope:=scopeAt 29
  qual:="_law_reads.<locals>."
  code:=.ref 195
  vars:=["parts","star","piece","places","part"]
  kinds:=[.local,.local,.cell,.local,.cell]
  nodup:=by decide
  ok:=by rfl
theorem n_law_reads_0:Nm fi_law_reads "parts" 0 .local:=⟨rfl,rfl,by decide,by decide⟩
theorem n_law_reads_1:Nm fi_law_reads "star" 1 .local:=⟨rfl,rfl,by decide,by decide⟩
theorem n_law_reads_2:Nm fi_law_reads "piece" 2 .cell:=⟨rfl,rfl,by decide,by decide⟩
theorem n_law_reads_3:Nm fi_law_reads "places" 3 .local:=⟨rfl,rfl,by decide,by decide⟩
theorem n_law_reads_4:Nm fi_law_reads "part" 4 .cell:=⟨rfl,rfl,by decide,by decide⟩
noncomputable def fi_law_means:Fi where
  scope:=scopeAt 30
  qual:="_law_means.<locals>."
  code:=.ref 202
  vars:=["tokens","name","named"]
  kinds:=[.local,.local,.local]
  nodup:=by decide
  ok:=by rfl
theorem n_law_means_0:Nm fi_law_means "tokens" 0 .local:=⟨rfl,rfl,by decide,by decide⟩
theorem n_law_means_1:Nm fi_law_means "name" 1 .local:=⟨rfl,rfl,by decide,by decide⟩
theorem n_law_means_2:Nm fi_law_means "named" 2 .local:=⟨rfl,rfl,by decide,by decide⟩
noncomputable def fi_law_names:Fi where
  scope:=scopeAt 31
  qual:="_law_names.<locals>."
  code:=.ref 209
  vars:=["path","names","debt","name"]
  kinds:=[.local,.local,.local,.local]
  nodup:=by decide
  ok:=by rfl
theorem n_law_names_0:Nm fi_law_names "path" 0 .local:=⟨rfl,rfl,by decide,by decide⟩
theorem n_law_names_1:Nm fi_law_names "names" 1 .local:=⟨rfl,rfl,by decide,by decide⟩
theorem n_law_names_2:Nm fi_law_names "debt" 2 .local:=⟨rfl,rfl,by decide,by decide⟩
theorem n_law_names_3:Nm fi_law_names "name" 3 .local:=⟨rfl,rfl,by decide,by decide⟩
noncomputable def fi_law_alone:Fi where
  scope:=scopeAt 32
  qual:="_law_alone.<locals>."
  code:=.ref 214
  vars:=["own","other"]
  kinds:=[.cell,.cell]
  nodup:=by decide
  ok:=by rfl
theorem n_law_alone_0:Nm fi_law_alone "own" 0 .cell:=⟨rfl,rfl,by decide,by decide⟩
theorem n_law_alone_1:Nm fi_law_alone "other" 1 .cell:=⟨rfl,rfl,by decide,by decide⟩
noncomputable def fi_law:Fi where
  scope:=scopeAt 33
  qual:="law.<locals>."
  code:=.ref 219
  vars:=["script","numbers","groups","token","single","star","wanted","marks","held","due","x","crooked","path","names","pieces","fits","means","side","went","came"]
  kinds:=[.local,.local,.local,.local,.local,.cell,.local,.local,.local,.cell,.local,.local,.local,.local,.local,.local,.local,.local,.local,.local]
  nodup:=by decide
  ok:=by rfl
theorem n_law_0:Nm fi_law "script" 0 .local:=⟨rfl,rfl,by decide,by decide⟩
theorem n_law_1:Nm fi_law "numbers" 1 .local:=⟨rfl,rfl,by decide,by decide⟩
theorem n_law_2:Nm fi_law "groups" 2 .local:=⟨rfl,rfl,by decide,by decide⟩
theorem n_law_3:Nm fi_law "token" 3 .local:=⟨rfl,rfl,by decide,by decide⟩
theorem n_law_4:Nm fi_law "single" 4 .local:=⟨rfl,rfl,by decide,by decide⟩
theorem n_law_5:Nm fi_law "star" 5 .cell:=⟨rfl,rfl,by decide,by decide⟩
theorem n_law_6:Nm fi_law "wanted" 6 .local:=⟨rfl,rfl,by decide,by decide⟩
theorem n_law_7:Nm fi_law "marks" 7 .local:=⟨rfl,rfl,by decide,by decide⟩
theorem n_law_8:Nm fi_law "held" 8 .local:=⟨rfl,rfl,by decide,by decide⟩
theorem n_law_9:Nm fi_law "due" 9 .cell:=⟨rfl,rfl,by decide,by decide⟩
theorem n_law_10:Nm fi_law "x" 10 .local:=⟨rfl,rfl,by decide,by decide⟩
theorem n_law_11:Nm fi_law "crooked" 11 .local:=⟨rfl,rfl,by decide,by decide⟩
theorem n_law_12:Nm fi_law "path" 12 .local:=⟨rfl,rfl,by decide,by decide⟩
theorem n_law_13:Nm fi_law "names" 13 .local:=⟨rfl,rfl,by decide,by decide⟩
theorem n_law_14:Nm fi_law "pieces" 14 .local:=⟨rfl,rfl,by decide,by decide⟩
theorem n_law_15:Nm fi_law "fits" 15 .local:=⟨rfl,rfl,by decide,by decide⟩
theorem n_law_16:Nm fi_law "means" 16 .local:=⟨rfl,rfl,by decide,by decide⟩
theorem n_law_17:Nm fi_law "side" 17 .local:=⟨rfl,rfl,by decide,by decide⟩
theorem n_law_18:Nm fi_law "went" 18 .local:=⟨rfl,rfl,by decide,by decide⟩
theorem n_law_19:Nm fi_law "came" 19 .local:=⟨rfl,rfl,by decide,by decide⟩
structure KF (S:Sig):Prop where
  ns_type:nsIn S.K mainGlobals "type" = some none
  ns_issubclass:nsIn S.K mainGlobals "issubclass" = some none
  ns_str:nsIn S.K mainGlobals "str" = some none
  ns_bytes:nsIn S.K mainGlobals "bytes" = some none
  ns_len:nsIn S.K mainGlobals "len" = some none
  ns_fspath:nsIn S.K mainGlobals "fspath" = some (some (.ref 142))
  ns_isinstance:nsIn S.K mainGlobals "isinstance" = some none
  ns_splitroot:nsIn S.K mainGlobals "splitroot" = some (some (.ref 156))
  ns_special_chars_map:nsIn S.K mainGlobals "_special_chars_map" = some (some (.ref 45))
  ns_range:nsIn S.K mainGlobals "range" = some none
  ns_twin_re_1:nsIn S.K mainGlobals "_twin_re_1" = some (some (.ref 43))
  ns_escape:nsIn S.K mainGlobals "escape" = some (some (.ref 55))
  ns_get_sep:nsIn S.K mainGlobals "_get_sep" = some (some (.ref 69))
  ns_IndexError:nsIn S.K mainGlobals "IndexError" = some none
  ns_abs:nsIn S.K mainGlobals "abs" = some none
  ns_split:nsIn S.K mainGlobals "split" = some (some (.ref 149))
  ns_list:nsIn S.K mainGlobals "list" = some none
  ns_min:nsIn S.K mainGlobals "min" = some none
  ns_law_means:nsIn S.K mainGlobals "_law_means" = some (some (.ref 203))
  ns_enumerate:nsIn S.K mainGlobals "enumerate" = some none
  ns_law_figures:nsIn S.K mainGlobals "_law_figures" = some (some (.ref 177))
  ns_max:nsIn S.K mainGlobals "max" = some none
  ns_law_climb:nsIn S.K mainGlobals "_law_climb" = some (some (.ref 184))
  ns_normpath:nsIn S.K mainGlobals "normpath" = some (some (.ref 163))
  ns_law_names:nsIn S.K mainGlobals "_law_names" = some (some (.ref 210))
  ns_zip:nsIn S.K mainGlobals "zip" = some none
  ns_sorted_list_difference:nsIn S.K mainGlobals "sorted_list_difference" = some (some (.ref 170))
  ns_sorted:nsIn S.K mainGlobals "sorted" = some none
  ns_translate:nsIn S.K mainGlobals "_translate" = some (some (.ref 62))
  ns_law_takes:nsIn S.K mainGlobals "_law_takes" = some (some (.ref 191))
  ns_law_reads:nsIn S.K mainGlobals "_law_reads" = some (some (.ref 196))
  ns_law_alone:nsIn S.K mainGlobals "_law_alone" = some (some (.ref 215))
  ns_law:nsIn S.K mainGlobals "law" = some (some (.ref 220))
  fn_fspath:FnAt S 142 fi_fspath ["path"] (bodyAt 18)
  cal_fspath:Callee S (.ref 142)
  fn_splitroot:FnAt S 156 fi_splitroot ["p"] (bodyAt 21)
  cal_splitroot:Callee S (.ref 156)
  fn_normpath:FnAt S 163 fi_normpath ["path"] (bodyAt 22)
  cal_normpath:Callee S (.ref 163)
  fn_escape:FnAt S 55 fi_escape ["pattern"] (bodyAt 5)
  cal_escape:Callee S (.ref 55)
  fn_translate:FnAt S 62 fi_translate ["pat","STAR","QUESTION_MARK"] (bodyAt 7)
  cal_translate:Callee S (.ref 62)
  fn_get_sep:FnAt S 69 fi_get_sep ["path"] (bodyAt 9)
  cal_get_sep:Callee S (.ref 69)
  fn_split:FnAt S 149 fi_split ["p"] (bodyAt 20)
  cal_split:Callee S (.ref 149)
  fn_sorted_list_difference:FnAt S 170 fi_sorted_list_difference ["expected","actual"] (bodyAt 24)
  cal_sorted_list_difference:Callee S (.ref 170)
  fn_law_figures:FnAt S 177 fi_law_figures ["x","words"] (bodyAt 26)
  cal_law_figures:Callee S (.ref 177)
  fn_law_climb:FnAt S 184 fi_law_climb ["path"] (bodyAt 27)
  cal_law_climb:Callee S (.ref 184)
  fn_law_takes:FnAt S 191 fi_law_takes ["part","sign"] (bodyAt 28)
  cal_law_takes:Callee S (.ref 191)
  fn_law_reads:FnAt S 196 fi_law_reads ["parts","star","piece"] (bodyAt 29)
  cal_law_reads:Callee S (.ref 196)
  fn_law_means:FnAt S 203 fi_law_means ["tokens","name"] (bodyAt 30)
  cal_law_means:Callee S (.ref 203)
  fn_law_names:FnAt S 210 fi_law_names ["path"] (bodyAt 31)
  cal_law_names:Callee S (.ref 210)
  fn_law_alone:FnAt S 215 fi_law_alone ["own","other"] (bodyAt 32)
  cal_law_alone:Callee S (.ref 215)
  fn_law:FnAt S 220 fi_law ["script"] (bodyAt 33)
  cal_law:Callee S (.ref 220)
  pat_twin_re_1:PatAt S 43 42
  dic:∃ (es:List DictEntry) (n:Nat),S.K.lookup 45 = some { cls:=.type "dict",data:=.dict es.toArray n }∧EscAll es [40,41,91,93,123,125,63,42,43,45,124,94,36,92,46,38,126,35,32,9,10,13,11,12]
theorem g_fspath_type {S:Sig} (hK:KF S):Raw S fi_fspath "type" (.type "type"):=fun k Γ pos=>EV.boot (by rfl) hK.ns_type bt_type
theorem g_fspath_issubclass {S:Sig} (hK:KF S):Raw S fi_fspath "issubclass" (.builtin "issubclass"):=fun k Γ pos=>EV.boot (by rfl) hK.ns_issubclass bt_issubclass
theorem g_fspath_str {S:Sig} (hK:KF S):Raw S fi_fspath "str" (.type "str"):=fun k Γ pos=>EV.boot (by rfl) hK.ns_str bt_str
theorem g_fspath_bytes {S:Sig} (hK:KF S):Raw S fi_fspath "bytes" (.type "bytes"):=fun k Γ pos=>EV.boot (by rfl) hK.ns_bytes bt_bytes
theorem g_fspath_len {S:Sig} (hK:KF S):Raw S fi_fspath "len" (.builtin "len"):=fun k Γ pos=>EV.boot (by rfl) hK.ns_len bt_len
theorem g_splitroot_fspath {S:Sig} (hK:KF S):Raw S fi_splitroot "fspath" (.ref 142):=fun k Γ pos=>EV.global (by rfl) hK.ns_fspath
theorem g_splitroot_isinstance {S:Sig} (hK:KF S):Raw S fi_splitroot "isinstance" (.builtin "isinstance"):=fun k Γ pos=>EV.boot (by rfl) hK.ns_isinstance bt_isinstance
theorem g_splitroot_bytes {S:Sig} (hK:KF S):Raw S fi_splitroot "bytes" (.type "bytes"):=fun k Γ pos=>EV.boot (by rfl) hK.ns_bytes bt_bytes
theorem g_normpath_fspath {S:Sig} (hK:KF S):Raw S fi_normpath "fspath" (.ref 142):=fun k Γ pos=>EV.global (by rfl) hK.ns_fspath
theorem g_normpath_isinstance {S:Sig} (hK:KF S):Raw S fi_normpath "isinstance" (.builtin "isinstance"):=fun k Γ pos=>EV.boot (by rfl) hK.ns_isinstance bt_isinstance
theorem g_normpath_bytes {S:Sig} (hK:KF S):Raw S fi_normpath "bytes" (.type "bytes"):=fun k Γ pos=>EV.boot (by rfl) hK.ns_bytes bt_bytes
theorem g_normpath_splitroot {S:Sig} (hK:KF S):Raw S fi_normpath "splitroot" (.ref 156):=fun k Γ pos=>EV.global (by rfl) hK.ns_splitroot
theorem g_escape_isinstance {S:Sig} (hK:KF S):Raw S fi_escape "isinstance" (.builtin "isinstance"):=fun k Γ pos=>EV.boot (by rfl) hK.ns_isinstance bt_isinstance
theorem g_escape_str {S:Sig} (hK:KF S):Raw S fi_escape "str" (.type "str"):=fun k Γ pos=>EV.boot (by rfl) hK.ns_str bt_str
theorem g_escape_special_chars_map {S:Sig} (hK:KF S):Raw S fi_escape "_special_chars_map" (.ref 45):=fun k Γ pos=>EV.global (by rfl) hK.ns_special_chars_map
theorem g_translate_len {S:Sig} (hK:KF S):Raw S fi_translate "len" (.builtin "len"):=fun k Γ pos=>EV.boot (by rfl) hK.ns_len bt_len
theorem g_translate_range {S:Sig} (hK:KF S):Raw S fi_translate "range" (.type "range"):=fun k Γ pos=>EV.boot (by rfl) hK.ns_range bt_range
theorem g_translate_twin_re_1 {S:Sig} (hK:KF S):Raw S fi_translate "_twin_re_1" (.ref 43):=fun k Γ pos=>EV.global (by rfl) hK.ns_twin_re_1
theorem g_translate_escape {S:Sig} (hK:KF S):Raw S fi_translate "escape" (.ref 55):=fun k Γ pos=>EV.global (by rfl) hK.ns_escape
theorem g_get_sep_isinstance {S:Sig} (hK:KF S):Raw S fi_get_sep "isinstance" (.builtin "isinstance"):=fun k Γ pos=>EV.boot (by rfl) hK.ns_isinstance bt_isinstance
theorem g_get_sep_bytes {S:Sig} (hK:KF S):Raw S fi_get_sep "bytes" (.type "bytes"):=fun k Γ pos=>EV.boot (by rfl) hK.ns_bytes bt_bytes
theorem g_split_fspath {S:Sig} (hK:KF S):Raw S fi_split "fspath" (.ref 142):=fun k Γ pos=>EV.global (by rfl) hK.ns_fspath
theorem g_split_get_sep {S:Sig} (hK:KF S):Raw S fi_split "_get_sep" (.ref 69):=fun k Γ pos=>EV.global (by rfl) hK.ns_get_sep
theorem g_split_len {S:Sig} (hK:KF S):Raw S fi_split "len" (.builtin "len"):=fun k Γ pos=>EV.boot (by rfl) hK.ns_len bt_len
theorem g_sorted_list_difference_IndexError {S:Sig} (hK:KF S):Raw S fi_sorted_list_difference "IndexError" (.type "IndexError"):=fun k Γ pos=>EV.boot (by rfl) hK.ns_IndexError bt_IndexError
theorem g_law_figures_abs {S:Sig} (hK:KF S):Raw S fi_law_figures "abs" (.builtin "abs"):=fun k Γ pos=>EV.boot (by rfl) hK.ns_abs bt_abs
theorem g_law_figures_range {S:Sig} (hK:KF S):Raw S fi_law_figures "range" (.type "range"):=fun k Γ pos=>EV.boot (by rfl) hK.ns_range bt_range
theorem g_law_figures_len {S:Sig} (hK:KF S):Raw S fi_law_figures "len" (.builtin "len"):=fun k Γ pos=>EV.boot (by rfl) hK.ns_len bt_len
theorem g_law_climb_split {S:Sig} (hK:KF S):Raw S fi_law_climb "split" (.ref 149):=fun k Γ pos=>EV.global (by rfl) hK.ns_split
theorem g_law_reads_list {S:Sig} (hK:KF S):Raw S fi_law_reads "list" (.type "list"):=fun k Γ pos=>EV.boot (by rfl) hK.ns_list bt_list
theorem g_law_reads_range {S:Sig} (hK:KF S):Raw S fi_law_reads "range" (.type "range"):=fun k Γ pos=>EV.boot (by rfl) hK.ns_range bt_range
theorem g_law_reads_min {S:Sig} (hK:KF S):Raw S fi_law_reads "min" (.builtin "min"):=fun k Γ pos=>EV.boot (by rfl) hK.ns_min bt_min
theorem g_law_reads_len {S:Sig} (hK:KF S):Raw S fi_law_reads "len" (.builtin "len"):=fun k Γ pos=>EV.boot (by rfl) hK.ns_len bt_len
theorem g_law_means_law_means {S:Sig} (hK:KF S):Raw S fi_law_means "_law_means" (.ref 203):=fun k Γ pos=>EV.global (by rfl) hK.ns_law_means
theorem g_law_alone_enumerate {S:Sig} (hK:KF S):Raw S fi_law_alone "enumerate" (.type "enumerate"):=fun k Γ pos=>EV.boot (by rfl) hK.ns_enumerate bt_enumerate
theorem g_law_law_figures {S:Sig} (hK:KF S):Raw S fi_law "_law_figures" (.ref 177):=fun k Γ pos=>EV.global (by rfl) hK.ns_law_figures
theorem g_law_max {S:Sig} (hK:KF S):Raw S fi_law "max" (.builtin "max"):=fun k Γ pos=>EV.boot (by rfl) hK.ns_max bt_max
theorem g_law_law_climb {S:Sig} (hK:KF S):Raw S fi_law "_law_climb" (.ref 184):=fun k Γ pos=>EV.global (by rfl) hK.ns_law_climb
theorem g_law_normpath {S:Sig} (hK:KF S):Raw S fi_law "normpath" (.ref 163):=fun k Γ pos=>EV.global (by rfl) hK.ns_normpath
theorem g_law_law_names {S:Sig} (hK:KF S):Raw S fi_law "_law_names" (.ref 210):=fun k Γ pos=>EV.global (by rfl) hK.ns_law_names
theorem g_law_len {S:Sig} (hK:KF S):Raw S fi_law "len" (.builtin "len"):=fun k Γ pos=>EV.boot (by rfl) hK.ns_len bt_len
theorem g_law_zip {S:Sig} (hK:KF S):Raw S fi_law "zip" (.type "zip"):=fun k Γ pos=>EV.boot (by rfl) hK.ns_zip bt_zip
theorem g_law_range {S:Sig} (hK:KF S):Raw S fi_law "range" (.type "range"):=fun k Γ pos=>EV.boot (by rfl) hK.ns_range bt_range
theorem g_law_sorted_list_difference {S:Sig} (hK:KF S):Raw S fi_law "sorted_list_difference" (.ref 170):=fun k Γ pos=>EV.global (by rfl) hK.ns_sorted_list_difference
theorem g_law_sorted {S:Sig} (hK:KF S):Raw S fi_law "sorted" (.builtin "sorted"):=fun k Γ pos=>EV.boot (by rfl) hK.ns_sorted bt_sorted
end
set_option linter.unusedSimpArgs false
section
open PySem PySem.W PySem.Calls PyProof.Rows
variable {S:Sig} [Free S] (hK:KF S)
include hK
theorem fspath_ok {k:Nat} {x:List Nat}:Ops S (k + 1) (fun vs=>call (.ref 142) vs) [.str x] (.str x):=by
  have n0:=@n_fspath_0
  have n1:=@n_fspath_1
  have n2:=@n_fspath_2
  have n3:=@n_fspath_3
  have g_type:=g_fspath_type hK
  have g_issubclass:=g_fspath_issubclass hK
  have g_str:=g_fspath_str hK
  have g_bytes:=g_fspath_bytes hK
  have g_len:=g_fspath_len hK
  have c0:Cs "__fspath__" [95,95,102,115,112,97,116,104,95,95]:=rfl
  have c1:Cs "expected str, bytes or os.PathLike object, not " [101,120,112,101,99,116,101,100,32,115,116,114,44,32,98,121,116,101,115,32,111,114,32,111,115,46,80,97,116,104,76,105,107,101,32,111,98,106,101,99,116,44,32,110,111,116,32]:=rfl
  have c2:Cs "utf-8" [117,116,102,45,56]:=rfl
  have c3:Cs "expected {}.{}() to return str or bytes, not {}" [101,120,112,101,99,116,101,100,32,123,125,46,123,125,40,41,32,116,111,32,114,101,116,117,114,110,32,115,116,114,32,111,114,32,98,121,116,101,115,44,32,110,111,116,32,123,125]:=rfl
  have c4:Cs "the words of fspath, of what an __fspath__ gave" [116,104,101,32,119,111,114,100,115,32,111,102,32,102,115,112,97,116,104,44,32,111,102,32,119,104,97,116,32,97,110,32,95,95,102,115,112,97,116,104,95,95,32,103,97,118,101]:=rfl
  refine Fn.intro (f:=fi_fspath) hK.fn_fspath rfl ?_
  show EXs S _ fi_fspath [some (B.val _),none,none,none] _ _
  conv=>arg 5;whnf
  exact EXs.seq (EX.assign (EV.call (fun _=>rfl) (Raw.ev g_type) Callee.type (EVs.cons (EV.nm n0 rfl) EVs.nil (fun _=>rfl)) Ops.typeS) (AS.nm n1) (fun _=>rfl) (fun _=>rfl) (fun _ _=>rfl)) (Rest.next (EXs.seq (EX.ifB (TV.val tested_Call (EV.call (fun _=>rfl) (Raw.ev g_issubclass) Callee.builtin (EVs.cons (EV.nm n1 rfl) (EVs.cons (EV.tup (EVs.cons (Raw.ev g_str) (EVs.cons (Raw.ev g_bytes) EVs.nil (fun _=>rfl)) (fun _=>rfl)) (by (simp only [List.length_cons,List.length_nil]);decide)) EVs.nil (fun _=>rfl)) (fun _=>rfl)) Ops.issubStr) OpT.bool) (Or.inl ⟨rfl,EXs.seq (EX.ret (EV.nm n0 rfl)) (Rest.stop rfl rfl)⟩)) (Rest.stop rfl rfl)))
noncomputable def pSplitroot (x:List Nat):List Nat × List Nat × List Nat :=
  if pick none (some 1) x != [47] then ([],[],x)
  else if pick (some 1) (some 2) x != [47] || pick (some 2) (some 3) x == [47] then ([],[47],pick (some 1) none x)
  else ([],pick none (some 2) x,pick (some 2) none x)
set_option maxHeartbeats 4000000 in
theorem splitroot_ok {k:Nat} {x:List Nat}:Ops S (k + 2) (fun vs=>call (.ref 156) vs) [.str x] (.tup [.str (pSplitroot x).1,.str (pSplitroot x).2.1,.str (pSplitroot x).2.2]):=by
  have n0:=@n_splitroot_0
  have n1:=@n_splitroot_1
  have n2:=@n_splitroot_2
  have g_fspath:=g_splitroot_fspath hK
  have k_fspath:=hK.cal_fspath
  have g_isinstance:=g_splitroot_isinstance hK
  have g_bytes:=g_splitroot_bytes hK
  have c0:Cs "/" [47]:=rfl
  have c1:Cs "" []:=rfl
  refine Fn.intro (f:=fi_splitroot) hK.fn_splitroot rfl ?_
  show EXs S _ fi_splitroot [some (B.val _),none,none] _ _
  conv=>arg 5;whnf
  have hf:∀ {k x},Ops S (k + 1) (fun vs=>call (.ref 142) vs) [.str x] (.str x):=fspath_ok hK
  unfold pSplitroot
  cases h1:(pick none (some 1) x != [47]) <;> cases h2:(pick (some 1) (some 2) x != [47]) <;> cases h3:(pick (some 2) (some 3) x == [47])
  all_goals
    simp only [Bool.false_or,Bool.true_or,Bool.or_true,Bool.or_false,Bool.false_eq_true,if_true,if_false]
    refine' EXs.to ?mm rfl
    case mm=>(first | exact EXs.seq (EX.assign (EV.call (fun _=>rfl) (Raw.ev g_fspath) k_fspath (EVs.cons (EV.nm n0 rfl) EVs.nil (fun _=>rfl)) (by apply_assumption)) (AS.nm n0) (fun _=>rfl) (fun _=>rfl) (fun _ _=>rfl)) (Rest.next (EXs.seq (EX.ifB (TV.val tested_Call (EV.call (fun _=>rfl) (Raw.ev g_isinstance) Callee.builtin (EVs.cons (EV.nm n0 rfl) (EVs.cons (Raw.ev g_bytes) EVs.nil (fun _=>rfl)) (fun _=>rfl)) Ops.isinstSB) OpT.bool) (Or.inr ⟨rfl,EXs.seq (EX.assign (EV.cS c0 (by decide)) (AS.nm n1) (fun _=>rfl) (fun _=>rfl) (fun _ _=>rfl)) (Rest.next (EXs.seq (EX.assign (EV.cS c1 (by decide)) (AS.nm n2) (fun _=>rfl) (fun _=>rfl) (fun _ _=>rfl)) (Rest.next EXs.nil)))⟩)) (Rest.next (EXs.seq (EX.ifB (TV.cmp (EV.sliceS (EV.nm n0 rfl) PV.none (PV.some EV.cInt) (fun _ _=>rfl)) (EV.nm n1 rfl) Op2.neS rfl) (Or.inr ⟨h1,EXs.seq (EX.ifB (TV.boolOp (ATV.orB (TV.cmp (EV.sliceS (EV.nm n0 rfl) (PV.some EV.cInt) (PV.some EV.cInt) (fun _ _=>rfl)) (EV.nm n1 rfl) Op2.neS rfl) (Or.inr ⟨h2,ATV.orB (TV.cmp (EV.sliceS (EV.nm n0 rfl) (PV.some EV.cInt) (PV.some EV.cInt) (fun _ _=>rfl)) (EV.nm n1 rfl) Op2.eqS rfl) (Or.inr ⟨h3,ATV.orNil⟩)⟩))) (Or.inr ⟨rfl,EXs.seq (EX.ret (EV.tup (EVs.cons (EV.nm n2 rfl) (EVs.cons (EV.sliceS (EV.nm n0 rfl) PV.none (PV.some EV.cInt) (fun _ _=>rfl)) (EVs.cons (EV.sliceS (EV.nm n0 rfl) (PV.some EV.cInt) PV.none (fun _ _=>rfl)) EVs.nil (fun _=>rfl)) (fun _=>rfl)) (fun _=>rfl)) (by (simp only [List.length_cons,List.length_nil]);decide))) (Rest.stop rfl rfl)⟩)) (Rest.stop rfl rfl)⟩)) (Rest.stop rfl rfl))))) | exact EXs.seq (EX.assign (EV.call (fun _=>rfl) (Raw.ev g_fspath) k_fspath (EVs.cons (EV.nm n0 rfl) EVs.nil (fun _=>rfl)) (by apply_assumption)) (AS.nm n0) (fun _=>rfl) (fun _=>rfl) (fun _ _=>rfl)) (Rest.next (EXs.seq (EX.ifB (TV.val tested_Call (EV.call (fun _=>rfl) (Raw.ev g_isinstance) Callee.builtin (EVs.cons (EV.nm n0 rfl) (EVs.cons (Raw.ev g_bytes) EVs.nil (fun _=>rfl)) (fun _=>rfl)) Ops.isinstSB) OpT.bool) (Or.inr ⟨rfl,EXs.seq (EX.assign (EV.cS c0 (by decide)) (AS.nm n1) (fun _=>rfl) (fun _=>rfl) (fun _ _=>rfl)) (Rest.next (EXs.seq (EX.assign (EV.cS c1 (by decide)) (AS.nm n2) (fun _=>rfl) (fun _=>rfl) (fun _ _=>rfl)) (Rest.next EXs.nil)))⟩)) (Rest.next (EXs.seq (EX.ifB (TV.cmp (EV.sliceS (EV.nm n0 rfl) PV.none (PV.some EV.cInt) (fun _ _=>rfl)) (EV.nm n1 rfl) Op2.neS rfl) (Or.inr ⟨h1,EXs.seq (EX.ifB (TV.boolOp (ATV.orB (TV.cmp (EV.sliceS (EV.nm n0 rfl) (PV.some EV.cInt) (PV.some EV.cInt) (fun _ _=>rfl)) (EV.nm n1 rfl) Op2.neS rfl) (Or.inr ⟨h2,ATV.orB (TV.cmp (EV.sliceS (EV.nm n0 rfl) (PV.some EV.cInt) (PV.some EV.cInt) (fun _ _=>rfl)) (EV.nm n1 rfl) Op2.eqS rfl) (Or.inl ⟨h3,rfl⟩)⟩))) (Or.inl ⟨rfl,EXs.seq (EX.ret (EV.tup (EVs.cons (EV.nm n2 rfl) (EVs.cons (EV.nm n1 rfl) (EVs.cons (EV.sliceS (EV.nm n0 rfl) (PV.some EV.cInt) PV.none (fun _ _=>rfl)) EVs.nil (fun _=>rfl)) (fun _=>rfl)) (fun _=>rfl)) (by (simp only [List.length_cons,List.length_nil]);decide))) (Rest.stop rfl rfl)⟩)) (Rest.stop rfl rfl)⟩)) (Rest.stop rfl rfl))))) | exact EXs.seq (EX.assign (EV.call (fun _=>rfl) (Raw.ev g_fspath) k_fspath (EVs.cons (EV.nm n0 rfl) EVs.nil (fun _=>rfl)) (by apply_assumption)) (AS.nm n0) (fun _=>rfl) (fun _=>rfl) (fun _ _=>rfl)) (Rest.next (EXs.seq (EX.ifB (TV.val tested_Call (EV.call (fun _=>rfl) (Raw.ev g_isinstance) Callee.builtin (EVs.cons (EV.nm n0 rfl) (EVs.cons (Raw.ev g_bytes) EVs.nil (fun _=>rfl)) (fun _=>rfl)) Ops.isinstSB) OpT.bool) (Or.inr ⟨rfl,EXs.seq (EX.assign (EV.cS c0 (by decide)) (AS.nm n1) (fun _=>rfl) (fun _=>rfl) (fun _ _=>rfl)) (Rest.next (EXs.seq (EX.assign (EV.cS c1 (by decide)) (AS.nm n2) (fun _=>rfl) (fun _=>rfl) (fun _ _=>rfl)) (Rest.next EXs.nil)))⟩)) (Rest.next (EXs.seq (EX.ifB (TV.cmp (EV.sliceS (EV.nm n0 rfl) PV.none (PV.some EV.cInt) (fun _ _=>rfl)) (EV.nm n1 rfl) Op2.neS rfl) (Or.inr ⟨h1,EXs.seq (EX.ifB (TV.boolOp (ATV.orB (TV.cmp (EV.sliceS (EV.nm n0 rfl) (PV.some EV.cInt) (PV.some EV.cInt) (fun _ _=>rfl)) (EV.nm n1 rfl) Op2.neS rfl) (Or.inl ⟨h2,rfl⟩))) (Or.inl ⟨rfl,EXs.seq (EX.ret (EV.tup (EVs.cons (EV.nm n2 rfl) (EVs.cons (EV.nm n1 rfl) (EVs.cons (EV.sliceS (EV.nm n0 rfl) (PV.some EV.cInt) PV.none (fun _ _=>rfl)) EVs.nil (fun _=>rfl)) (fun _=>rfl)) (fun _=>rfl)) (by (simp only [List.length_cons,List.length_nil]);decide))) (Rest.stop rfl rfl)⟩)) (Rest.stop rfl rfl)⟩)) (Rest.stop rfl rfl))))) | exact EXs.seq (EX.assign (EV.call (fun _=>rfl) (Raw.ev g_fspath) k_fspath (EVs.cons (EV.nm n0 rfl) EVs.nil (fun _=>rfl)) (by apply_assumption)) (AS.nm n0) (fun _=>rfl) (fun _=>rfl) (fun _ _=>rfl)) (Rest.next (EXs.seq (EX.ifB (TV.val tested_Call (EV.call (fun _=>rfl) (Raw.ev g_isinstance) Callee.builtin (EVs.cons (EV.nm n0 rfl) (EVs.cons (Raw.ev g_bytes) EVs.nil (fun _=>rfl)) (fun _=>rfl)) Ops.isinstSB) OpT.bool) (Or.inr ⟨rfl,EXs.seq (EX.assign (EV.cS c0 (by decide)) (AS.nm n1) (fun _=>rfl) (fun _=>rfl) (fun _ _=>rfl)) (Rest.next (EXs.seq (EX.assign (EV.cS c1 (by decide)) (AS.nm n2) (fun _=>rfl) (fun _=>rfl) (fun _ _=>rfl)) (Rest.next EXs.nil)))⟩)) (Rest.next (EXs.seq (EX.ifB (TV.cmp (EV.sliceS (EV.nm n0 rfl) PV.none (PV.some EV.cInt) (fun _ _=>rfl)) (EV.nm n1 rfl) Op2.neS rfl) (Or.inl ⟨h1,EXs.seq (EX.ret (EV.tup (EVs.cons (EV.nm n2 rfl) (EVs.cons (EV.nm n2 rfl) (EVs.cons (EV.nm n0 rfl) EVs.nil (fun _=>rfl)) (fun _=>rfl)) (fun _=>rfl)) (by (simp only [List.length_cons,List.length_nil]);decide))) (Rest.stop rfl rfl)⟩)) (Rest.stop rfl rfl))))))
noncomputable def normStep (root:List Nat) (acc:List (List Nat)) (c:List Nat):List (List Nat) :=
  if c = [] ∨ c = [46] then acc
  else if c ≠ [46,46] ∨ (root = []∧acc = []) ∨ acc.getLast? = some [46,46] then acc ++ [c]
  else acc.dropLast
noncomputable def pNormpath (x:List Nat):List Nat :=
  if x = [] then [46] else
  let out:=(pSplitroot x).2.1 ++ joinL [47] ((splitC 47 (pSplitroot x).2.2).foldl (normStep (pSplitroot x).2.1) [])
  if out = [] then [46] else out
omit hK in
theorem normStep_lens (r:List Nat) (acc:List (List Nat)) (c:List Nat):lens (normStep r acc c)≤lens acc + (c.length + 1):=by
  unfold normStep
  split
  · lia
  · split
    · rw [lens_append];simp [lens]
    · have:=lens_dropLast acc;lia
omit hK in
theorem normFold_lens (r:List Nat):∀ (cs acc:List (List Nat)),lens (cs.foldl (normStep r) acc)≤lens acc + lens cs
  | [],acc=>by simp [lens]
  | c :: cs,acc=>by
    have h1:=normFold_lens r cs (normStep r acc c)
    have h2:=normStep_lens r acc c
    have h3:lens (c :: cs) = (c.length + 1) + lens cs:=by simp [lens]
    rw [List.foldl_cons];lia
omit hK in
theorem splitroot_len (x:List Nat):(pSplitroot x).2.1.length + (pSplitroot x).2.2.length≤x.length + 1∧(pSplitroot x).2.1.length≤2:=by
  unfold pSplitroot
  have h1:pick none (some 2) x = x.take 2:=pick_to x 2
  have h2:pick (some 2) none x = x.drop 2:=pick_from x 2
  have h3:pick (some 1) none x = x.drop 1:=pick_from x 1
  split
  · exact ⟨by show 0 + x.length≤_;rw [Nat.zero_add];exact Nat.le_succ _,Nat.zero_le _⟩
  · split
    · exact ⟨by show 1 + (pick (some 1) none x).length≤_;rw [h3,List.length_drop,Nat.add_comm];exact Nat.succ_le_succ (Nat.sub_le ..),Nat.le_succ 1⟩
    · exact ⟨by show (pick none (some 2) x).length + (pick (some 2) none x).length≤_;rw [h1,h2,← List.length_append,List.take_append_drop];exact Nat.le_succ _,by show (pick none (some 2) x).length≤2;rw [h1];exact List.length_take_le ..⟩
set_option maxHeartbeats 4000000 in
theorem normpath_ok {k:Nat} {x:List Nat} (hx:x.length≤100000):Ops S (k + 3) (fun vs=>call (.ref 163) vs) [.str x] (.str (pNormpath x)):=by
  have n0:=@n_normpath_0
  have n1:=@n_normpath_1
  have n2:=@n_normpath_2
  have n3:=@n_normpath_3
  have n4:=@n_normpath_4
  have n5:=@n_normpath_5
  have n6:=@n_normpath_6
  have n7:=@n_normpath_7
  have n8:=@n_normpath_8
  have g_fspath:=g_normpath_fspath hK
  have k_fspath:=hK.cal_fspath
  have g_isinstance:=g_normpath_isinstance hK
  have g_bytes:=g_normpath_bytes hK
  have g_splitroot:=g_normpath_splitroot hK
  have k_splitroot:=hK.cal_splitroot
  have c0:Cs "/" [47]:=rfl
  have c1:Cs "." [46]:=rfl
  have c2:Cs ".." [46,46]:=rfl
  refine Fn.intro (f:=fi_normpath) hK.fn_normpath rfl ?_
  show EXs S _ fi_normpath [some (B.val _),none,none,none,none,none,none,none,none] _ _
  conv=>arg 5;whnf
  have hf:∀ {k x},Ops S (k + 1) (fun vs=>call (.ref 142) vs) [.str x] (.str x):=fspath_ok hK
  have hs:∀ {k x},Ops S (k + 2) (fun vs=>call (.ref 156) vs) [.str x] (.tup [.str (pSplitroot x).1,.str (pSplitroot x).2.1,.str (pSplitroot x).2.2]):=splitroot_ok hK
  have own7:OwnV fi_normpath 7:=.intro
  unfold pNormpath
  cases h1:(decide (x ≠ []))
  · have hx0:x = []:=by simpa using h1
    rw [if_pos hx0]
    refine' EXs.to ?mm rfl
    case mm=>exact EXs.seq (EX.assign (EV.call (fun _=>rfl) (Raw.ev g_fspath) k_fspath (EVs.cons (EV.nm n0 rfl) EVs.nil (fun _=>rfl)) (by apply_assumption)) (AS.nm n0) (fun _=>rfl) (fun _=>rfl) (fun _ _=>rfl)) (Rest.next (EXs.seq (EX.ifB (TV.val tested_Call (EV.call (fun _=>rfl) (Raw.ev g_isinstance) Callee.builtin (EVs.cons (EV.nm n0 rfl) (EVs.cons (Raw.ev g_bytes) EVs.nil (fun _=>rfl)) (fun _=>rfl)) Ops.isinstSB) OpT.bool) (Or.inr ⟨rfl,EXs.seq (EX.assign (EV.cS c0 (by decide)) (AS.nm n1) (fun _=>rfl) (fun _=>rfl) (fun _ _=>rfl)) (Rest.next (EXs.seq (EX.assign (EV.cS c1 (by decide)) (AS.nm n2) (fun _=>rfl) (fun _=>rfl) (fun _ _=>rfl)) (Rest.next (EXs.seq (EX.assign (EV.cS c2 (by decide)) (AS.nm n3) (fun _=>rfl) (fun _=>rfl) (fun _ _=>rfl)) (Rest.next EXs.nil)))))⟩)) (Rest.next (EXs.seq (EX.ifB (TV.not (TV.val tested_Name (EV.nm n0 rfl) OpT.str)) (Or.inl ⟨(by simp [*];done),EXs.seq (EX.ret (EV.nm n2 rfl)) (Rest.stop rfl rfl)⟩)) (Rest.stop rfl rfl)))))
  · have hx0:x ≠ []:=by simpa using h1
    rw [if_neg hx0]
    have hsz:=sizeLine_eq
    have hlen:=splitroot_len x
    have hz:(pSplitroot x).2.2.length + 2≤sizeLine:=by lia
    have hsum:=splitC_sum 47 (pSplitroot x).2.2
    have hcnt:=splitC_length 47 (pSplitroot x).2.2
    have hfold:=normFold_lens (pSplitroot x).2.1 (splitC 47 (pSplitroot x).2.2) []
    have hfl:lens ((splitC 47 (pSplitroot x).2.2).foldl (normStep (pSplitroot x).2.1) [])≤100010:=by
      have:lens (splitC 47 (pSplitroot x).2.2) = (pSplitroot x).2.2.length + 1:=hsum
      have h0:lens [] = 0:=rfl
      lia
    refine EXs.seq (EX.assign (EV.call (fun _=>rfl) (Raw.ev g_fspath) k_fspath (EVs.cons (EV.nm n0 rfl) EVs.nil (fun _=>rfl)) (by apply_assumption)) (AS.nm n0) (fun _=>rfl) (fun _=>rfl) (fun _ _=>rfl)) (Rest.next ?_)
    refine EXs.seq (EX.ifB (TV.val tested_Call (EV.call (fun _=>rfl) (Raw.ev g_isinstance) Callee.builtin (EVs.cons (EV.nm n0 rfl) (EVs.cons (Raw.ev g_bytes) EVs.nil (fun _=>rfl)) (fun _=>rfl)) Ops.isinstSB) OpT.bool) (Or.inr ⟨rfl,EXs.seq (EX.assign (EV.cS c0 (by decide)) (AS.nm n1) (fun _=>rfl) (fun _=>rfl) (fun _ _=>rfl)) (Rest.next (EXs.seq (EX.assign (EV.cS c1 (by decide)) (AS.nm n2) (fun _=>rfl) (fun _=>rfl) (fun _ _=>rfl)) (Rest.next (EXs.seq (EX.assign (EV.cS c2 (by decide)) (AS.nm n3) (fun _=>rfl) (fun _=>rfl) (fun _ _=>rfl)) (Rest.next EXs.nil)))))⟩)) (Rest.next ?_)
    refine EXs.seq (EX.ifB (TV.not (TV.val tested_Name (EV.nm n0 rfl) OpT.str)) (Or.inr ⟨(by simp [*];done),EXs.nil⟩)) (Rest.next ?_)
    refine EXs.seq (EX.assign (EV.call (fun _=>rfl) (Raw.ev g_splitroot) k_splitroot (EVs.cons (EV.nm n0 rfl) EVs.nil (fun _=>rfl)) (by apply_assumption)) (AS.tup (ASs.cons (AS.nm n4) (ASs.cons (AS.nm n5) (ASs.cons (AS.nm n0) ASs.nil (fun _=>rfl)) (fun _=>rfl)) (fun _=>rfl))) (fun _=>rfl) (fun _=>rfl) (fun _ _=>rfl)) (Rest.next ?_)
    refine EXs.seq (EX.assign (EV.meth PySem.F.plainAttrs_str PySem.F.slot_str_split PySem.F.type_str_split (EV.nm n0 rfl) rfl (EVs.cons (EV.nm n1 rfl) EVs.nil (fun _=>rfl)) (Ops.splitS (by decide) hz)) (AS.nm n6) (fun _=>rfl) (fun _=>rfl) (fun _ _=>rfl)) (Rest.next ?_)
    refine EXs.seq (EX.ownN n7 own7 EVs.nil rfl (by (simp only [List.length_cons,List.length_nil]);decide) (Nat.le_of_ble_eq_true rfl) (fun _=>rfl) (fun _=>rfl)) (Rest.next ?_)
    refine EXs.forFold (σ:=List (List Nat)) (τ:=Option B) (fun acc ob=>[some (B.val (D.str (pSplitroot x).2.2)),some (B.val (D.str [47])),some (B.val (D.str [46])),some (B.val (D.str [46,46])),some (B.val (D.str (pSplitroot x).1)),some (B.val (D.str (pSplitroot x).2.1)),some (B.val (D.list (List.map D.str (splitC 47 (pSplitroot x).2.2)))),some (B.own (acc.map D.str)),ob])
      D.str (normStep (pSplitroot x).2.1) (fun n acc=>n + acc.length≤100010) (splitC 47 (pSplitroot x).2.2) [] none rfl (EV.nm n6 rfl) It.list ?_ ?_ ?_
    · simp;lia
    · intro n acc t c hc hI
      refine ⟨?_,_,some (B.val (D.str c)),AS.nm n8,?_⟩
      · unfold normStep;split
        · lia
        · split
          · simp;lia
          · simp;lia
      · dsimp only [List.set_cons_zero,List.set_cons_succ]
        unfold normStep
        have b0:([46,46] != [46,46]) = false:=by decide
        have b0':([46,46] == [46,46]) = true:=by decide
        by_cases hc0:c = []
        · subst hc0
          rw [if_pos (.inl rfl)]
          refine Or.inr ?_
          refine' EXs.to ?mm rfl
          case mm=>exact EXs.seq (EX.ifB (TV.borrowN n7 own7 rfl (TV.boolOp (ATV.orB (TV.not (TV.val tested_Name (EV.nm n8 rfl) OpT.str)) (Or.inl ⟨rfl,rfl⟩)))) (Or.inl ⟨rfl,EXs.seq EX.cont (Rest.stop rfl rfl)⟩)) (Rest.stop rfl rfl)
        · have b1:(!decide (c ≠ [])) = false:=by simp [hc0]
          by_cases hc1:c = [46]
          · subst hc1
            rw [if_pos (.inr rfl)]
            refine Or.inr ?_
            refine' EXs.to ?mm rfl
            case mm=>exact EXs.seq (EX.ifB (TV.borrowN n7 own7 rfl (TV.boolOp (ATV.orB (TV.not (TV.val tested_Name (EV.nm n8 rfl) OpT.str)) (Or.inr ⟨b1,ATV.orB (TV.cmp (EV.nm n8 rfl) (EV.nm n2 rfl) Op2.eqS rfl) (Or.inl ⟨rfl,rfl⟩)⟩)))) (Or.inl ⟨rfl,EXs.seq EX.cont (Rest.stop rfl rfl)⟩)) (Rest.stop rfl rfl)
          · have b2:(c == [46]) = false:=by simp [hc1]
            rw [if_neg (by simp [hc0,hc1])]
            refine Or.inl ?_
            rcases nil_or_snoc acc with rfl | ⟨ini,last,rfl⟩
            · simp only [List.map_nil,List.nil_append,List.map_cons,List.dropLast_nil]
              have hne:=dec_nil [] rfl
              have hne':=dec_nil' [] rfl
              by_cases hc2:c = [46,46]
              · subst hc2
                cases b3:(!decide ((pSplitroot x).2.1 ≠ []))
                · rw [if_neg (by simp at b3;simp [b3])]
                  refine' EXs.to ?mm rfl
                  case mm=>exact EXs.seq (EX.ifB (TV.borrowN n7 own7 rfl (TV.boolOp (ATV.orB (TV.not (TV.val tested_Name (EV.nm n8 rfl) OpT.str)) (Or.inr ⟨b1,ATV.orB (TV.cmp (EV.nm n8 rfl) (EV.nm n2 rfl) Op2.eqS rfl) (Or.inr ⟨b2,ATV.orNil⟩)⟩)))) (Or.inr ⟨rfl,EXs.nil⟩)) (Rest.next (EXs.seq (EX.ifB (TV.borrowN n7 own7 rfl (TV.boolOp (ATV.orB (TV.cmp (EV.nm n8 rfl) (EV.nm n3 rfl) Op2.neS rfl) (Or.inr ⟨b0,ATV.orB (TV.boolOp (ATV.andB (TV.not (TV.val tested_Name (EV.nm n5 rfl) OpT.str)) (Or.inr ⟨b3,rfl⟩))) (Or.inr ⟨rfl,ATV.orB (TV.boolOp (ATV.andB (TV.val tested_Name (EV.nm n7 rfl) OpT.list) (Or.inr ⟨hne,rfl⟩))) (Or.inr ⟨rfl,ATV.orNil⟩)⟩)⟩)))) (Or.inr ⟨rfl,EXs.seq (EX.ifB (TV.borrowN n7 own7 rfl (TV.val tested_Name (EV.nm n7 rfl) OpT.list)) (Or.inr ⟨hne,EXs.nil⟩)) (Rest.next EXs.nil)⟩)) (Rest.next EXs.nil)))
                · rw [if_pos (by simp at b3;simp [b3])]
                  refine' EXs.to ?mm rfl
                  case mm=>exact EXs.seq (EX.ifB (TV.borrowN n7 own7 rfl (TV.boolOp (ATV.orB (TV.not (TV.val tested_Name (EV.nm n8 rfl) OpT.str)) (Or.inr ⟨b1,ATV.orB (TV.cmp (EV.nm n8 rfl) (EV.nm n2 rfl) Op2.eqS rfl) (Or.inr ⟨b2,ATV.orNil⟩)⟩)))) (Or.inr ⟨rfl,EXs.nil⟩)) (Rest.next (EXs.seq (EX.ifB (TV.borrowN n7 own7 rfl (TV.boolOp (ATV.orB (TV.cmp (EV.nm n8 rfl) (EV.nm n3 rfl) Op2.neS rfl) (Or.inr ⟨b0,ATV.orB (TV.boolOp (ATV.andB (TV.not (TV.val tested_Name (EV.nm n5 rfl) OpT.str)) (Or.inl ⟨b3,ATV.andB (TV.not (TV.val tested_Name (EV.nm n7 rfl) OpT.list)) (Or.inl ⟨hne',ATV.andNil⟩)⟩))) (Or.inl ⟨rfl,rfl⟩)⟩)))) (Or.inl ⟨rfl,EXs.seq (EX.appendN n7 rfl (EV.nm n8 rfl) (by decide) (fun _=>rfl) rfl (fun _=>rfl)) (Rest.next EXs.nil)⟩)) (Rest.next EXs.nil)))
              · have b3:(c != [46,46]) = true:=by simp [hc2]
                rw [if_pos (.inl hc2)]
                refine' EXs.to ?mm rfl
                case mm=>exact EXs.seq (EX.ifB (TV.borrowN n7 own7 rfl (TV.boolOp (ATV.orB (TV.not (TV.val tested_Name (EV.nm n8 rfl) OpT.str)) (Or.inr ⟨b1,ATV.orB (TV.cmp (EV.nm n8 rfl) (EV.nm n2 rfl) Op2.eqS rfl) (Or.inr ⟨b2,ATV.orNil⟩)⟩)))) (Or.inr ⟨rfl,EXs.nil⟩)) (Rest.next (EXs.seq (EX.ifB (TV.borrowN n7 own7 rfl (TV.boolOp (ATV.orB (TV.cmp (EV.nm n8 rfl) (EV.nm n3 rfl) Op2.neS rfl) (Or.inl ⟨b3,rfl⟩)))) (Or.inl ⟨rfl,EXs.seq (EX.appendN n7 rfl (EV.nm n8 rfl) (by decide) (fun _=>rfl) rfl (fun _=>rfl)) (Rest.next EXs.nil)⟩)) (Rest.next EXs.nil)))
            · have hl:=last_item (ini.map D.str) (D.str last)
              have hz2:(List.map D.str ini ++ [D.str last]).length < sizeLine:=by
                have:=sizeLine_eq
                simp at hI ⊢;lia
              have hne:=dec_snoc (List.map D.str ini ++ [D.str last]) (by simp)
              have hne':=dec_snoc' (List.map D.str ini ++ [D.str last]) (by simp)
              by_cases hc2:c = [46,46]
              · subst hc2
                by_cases hl2:last = [46,46]
                · subst hl2
                  rw [if_pos (by simp)]
                  simp only [List.map_append,List.map_cons,List.map_nil]
                  cases b3:(!decide ((pSplitroot x).2.1 ≠ []))
                  · refine' EXs.to ?mm rfl
                    case mm=>exact EXs.seq (EX.ifB (TV.borrowN n7 own7 rfl (TV.boolOp (ATV.orB (TV.not (TV.val tested_Name (EV.nm n8 rfl) OpT.str)) (Or.inr ⟨b1,ATV.orB (TV.cmp (EV.nm n8 rfl) (EV.nm n2 rfl) Op2.eqS rfl) (Or.inr ⟨b2,ATV.orNil⟩)⟩)))) (Or.inr ⟨rfl,EXs.nil⟩)) (Rest.next (EXs.seq (EX.ifB (TV.borrowN n7 own7 rfl (TV.boolOp (ATV.orB (TV.cmp (EV.nm n8 rfl) (EV.nm n3 rfl) Op2.neS rfl) (Or.inr ⟨b0,ATV.orB (TV.boolOp (ATV.andB (TV.not (TV.val tested_Name (EV.nm n5 rfl) OpT.str)) (Or.inr ⟨b3,rfl⟩))) (Or.inr ⟨rfl,ATV.orB (TV.boolOp (ATV.andB (TV.val tested_Name (EV.nm n7 rfl) OpT.list) (Or.inl ⟨hne,ATV.andB (TV.cmp (EV.item (T:="list") (EV.nm n7 rfl) (EV.un EV.cInt Op1.negI) rfl list_getitem_lookup (Op2.itemL hl (by simp only [List.length_append,List.length_cons,List.length_nil,List.length_map] at *;omega)) (fun _ _=>rfl)) (EV.nm n3 rfl) Op2.eqS rfl) (Or.inl ⟨b0',ATV.andNil⟩)⟩))) (Or.inl ⟨rfl,rfl⟩)⟩)⟩)))) (Or.inl ⟨rfl,EXs.seq (EX.appendN n7 rfl (EV.nm n8 rfl) hz2 (fun _=>rfl) rfl (fun _=>rfl)) (Rest.next EXs.nil)⟩)) (Rest.next EXs.nil)))
                  · refine' EXs.to ?mm rfl
                    case mm=>exact EXs.seq (EX.ifB (TV.borrowN n7 own7 rfl (TV.boolOp (ATV.orB (TV.not (TV.val tested_Name (EV.nm n8 rfl) OpT.str)) (Or.inr ⟨b1,ATV.orB (TV.cmp (EV.nm n8 rfl) (EV.nm n2 rfl) Op2.eqS rfl) (Or.inr ⟨b2,ATV.orNil⟩)⟩)))) (Or.inr ⟨rfl,EXs.nil⟩)) (Rest.next (EXs.seq (EX.ifB (TV.borrowN n7 own7 rfl (TV.boolOp (ATV.orB (TV.cmp (EV.nm n8 rfl) (EV.nm n3 rfl) Op2.neS rfl) (Or.inr ⟨b0,ATV.orB (TV.boolOp (ATV.andB (TV.not (TV.val tested_Name (EV.nm n5 rfl) OpT.str)) (Or.inl ⟨b3,ATV.andB (TV.not (TV.val tested_Name (EV.nm n7 rfl) OpT.list)) (Or.inr ⟨hne',rfl⟩)⟩))) (Or.inr ⟨rfl,ATV.orB (TV.boolOp (ATV.andB (TV.val tested_Name (EV.nm n7 rfl) OpT.list) (Or.inl ⟨hne,ATV.andB (TV.cmp (EV.item (T:="list") (EV.nm n7 rfl) (EV.un EV.cInt Op1.negI) rfl list_getitem_lookup (Op2.itemL hl (by simp only [List.length_append,List.length_cons,List.length_nil,List.length_map] at *;omega)) (fun _ _=>rfl)) (EV.nm n3 rfl) Op2.eqS rfl) (Or.inl ⟨b0',ATV.andNil⟩)⟩))) (Or.inl ⟨rfl,rfl⟩)⟩)⟩)))) (Or.inl ⟨rfl,EXs.seq (EX.appendN n7 rfl (EV.nm n8 rfl) hz2 (fun _=>rfl) rfl (fun _=>rfl)) (Rest.next EXs.nil)⟩)) (Rest.next EXs.nil)))
                · have b5:(last == [46,46]) = false:=by simp [hl2]
                  rw [if_neg (by simp [hl2]),List.dropLast_concat]
                  simp only [List.map_append,List.map_cons,List.map_nil]
                  cases b3:(!decide ((pSplitroot x).2.1 ≠ []))
                  · refine' EXs.to ?mm rfl
                    case mm=>exact EXs.seq (EX.ifB (TV.borrowN n7 own7 rfl (TV.boolOp (ATV.orB (TV.not (TV.val tested_Name (EV.nm n8 rfl) OpT.str)) (Or.inr ⟨b1,ATV.orB (TV.cmp (EV.nm n8 rfl) (EV.nm n2 rfl) Op2.eqS rfl) (Or.inr ⟨b2,ATV.orNil⟩)⟩)))) (Or.inr ⟨rfl,EXs.nil⟩)) (Rest.next (EXs.seq (EX.ifB (TV.borrowN n7 own7 rfl (TV.boolOp (ATV.orB (TV.cmp (EV.nm n8 rfl) (EV.nm n3 rfl) Op2.neS rfl) (Or.inr ⟨b0,ATV.orB (TV.boolOp (ATV.andB (TV.not (TV.val tested_Name (EV.nm n5 rfl) OpT.str)) (Or.inr ⟨b3,rfl⟩))) (Or.inr ⟨rfl,ATV.orB (TV.boolOp (ATV.andB (TV.val tested_Name (EV.nm n7 rfl) OpT.list) (Or.inl ⟨hne,ATV.andB (TV.cmp (EV.item (T:="list") (EV.nm n7 rfl) (EV.un EV.cInt Op1.negI) rfl list_getitem_lookup (Op2.itemL hl (by simp only [List.length_append,List.length_cons,List.length_nil,List.length_map] at *;omega)) (fun _ _=>rfl)) (EV.nm n3 rfl) Op2.eqS rfl) (Or.inr ⟨b5,rfl⟩)⟩))) (Or.inr ⟨rfl,ATV.orNil⟩)⟩)⟩)))) (Or.inr ⟨rfl,EXs.seq (EX.ifB (TV.borrowN n7 own7 rfl (TV.val tested_Name (EV.nm n7 rfl) OpT.list)) (Or.inl ⟨hne,EXs.seq (EX.popN n7 rfl rfl rfl (fun _=>rfl)) (Rest.next EXs.nil)⟩)) (Rest.next EXs.nil)⟩)) (Rest.next EXs.nil)))
                  · refine' EXs.to ?mm rfl
                    case mm=>exact EXs.seq (EX.ifB (TV.borrowN n7 own7 rfl (TV.boolOp (ATV.orB (TV.not (TV.val tested_Name (EV.nm n8 rfl) OpT.str)) (Or.inr ⟨b1,ATV.orB (TV.cmp (EV.nm n8 rfl) (EV.nm n2 rfl) Op2.eqS rfl) (Or.inr ⟨b2,ATV.orNil⟩)⟩)))) (Or.inr ⟨rfl,EXs.nil⟩)) (Rest.next (EXs.seq (EX.ifB (TV.borrowN n7 own7 rfl (TV.boolOp (ATV.orB (TV.cmp (EV.nm n8 rfl) (EV.nm n3 rfl) Op2.neS rfl) (Or.inr ⟨b0,ATV.orB (TV.boolOp (ATV.andB (TV.not (TV.val tested_Name (EV.nm n5 rfl) OpT.str)) (Or.inl ⟨b3,ATV.andB (TV.not (TV.val tested_Name (EV.nm n7 rfl) OpT.list)) (Or.inr ⟨hne',rfl⟩)⟩))) (Or.inr ⟨rfl,ATV.orB (TV.boolOp (ATV.andB (TV.val tested_Name (EV.nm n7 rfl) OpT.list) (Or.inl ⟨hne,ATV.andB (TV.cmp (EV.item (T:="list") (EV.nm n7 rfl) (EV.un EV.cInt Op1.negI) rfl list_getitem_lookup (Op2.itemL hl (by simp only [List.length_append,List.length_cons,List.length_nil,List.length_map] at *;omega)) (fun _ _=>rfl)) (EV.nm n3 rfl) Op2.eqS rfl) (Or.inr ⟨b5,rfl⟩)⟩))) (Or.inr ⟨rfl,ATV.orNil⟩)⟩)⟩)))) (Or.inr ⟨rfl,EXs.seq (EX.ifB (TV.borrowN n7 own7 rfl (TV.val tested_Name (EV.nm n7 rfl) OpT.list)) (Or.inl ⟨hne,EXs.seq (EX.popN n7 rfl rfl rfl (fun _=>rfl)) (Rest.next EXs.nil)⟩)) (Rest.next EXs.nil)⟩)) (Rest.next EXs.nil)))
              · have b3:(c != [46,46]) = true:=by simp [hc2]
                rw [if_pos (.inl hc2)]
                simp only [List.map_append,List.map_cons,List.map_nil]
                refine' EXs.to ?mm rfl
                case mm=>exact EXs.seq (EX.ifB (TV.borrowN n7 own7 rfl (TV.boolOp (ATV.orB (TV.not (TV.val tested_Name (EV.nm n8 rfl) OpT.str)) (Or.inr ⟨b1,ATV.orB (TV.cmp (EV.nm n8 rfl) (EV.nm n2 rfl) Op2.eqS rfl) (Or.inr ⟨b2,ATV.orNil⟩)⟩)))) (Or.inr ⟨rfl,EXs.nil⟩)) (Rest.next (EXs.seq (EX.ifB (TV.borrowN n7 own7 rfl (TV.boolOp (ATV.orB (TV.cmp (EV.nm n8 rfl) (EV.nm n3 rfl) Op2.neS rfl) (Or.inl ⟨b3,rfl⟩)))) (Or.inl ⟨rfl,EXs.seq (EX.appendN n7 rfl (EV.nm n8 rfl) hz2 (fun _=>rfl) rfl (fun _=>rfl)) (Rest.next EXs.nil)⟩)) (Rest.next EXs.nil)))
    · intro t' hI
      have hj:(((splitC 47 (pSplitroot x).2.2).foldl (normStep (pSplitroot x).2.1) []).map fun p=>p.length + [47].length).sum≤sizeLine:=by
        have:lens ((splitC 47 (pSplitroot x).2.2).foldl (normStep (pSplitroot x).2.1) []) = (((splitC 47 (pSplitroot x).2.2).foldl (normStep (pSplitroot x).2.1) []).map fun p=>p.length + [47].length).sum:=rfl
        lia
      have hj2:=joinL_len [47] ((splitC 47 (pSplitroot x).2.2).foldl (normStep (pSplitroot x).2.1) [])
      have hj3:(pSplitroot x).2.1.length + (joinL [47] ((splitC 47 (pSplitroot x).2.2).foldl (normStep (pSplitroot x).2.1) [])).length≤sizeLine:=by
        have:lens ((splitC 47 (pSplitroot x).2.2).foldl (normStep (pSplitroot x).2.1) []) = (((splitC 47 (pSplitroot x).2.2).foldl (normStep (pSplitroot x).2.1) []).map fun p=>p.length + [47].length).sum:=rfl
        lia
      refine EXs.freezeN n7 rfl ?_
      dsimp only [List.set_cons_zero,List.set_cons_succ]
      cases ho:decide ((pSplitroot x).2.1 ++ joinL [47] ((splitC 47 (pSplitroot x).2.2).foldl (normStep (pSplitroot x).2.1) []) ≠ [])
      · rw [if_pos (by simpa using ho)]
        refine' EXs.to ?mm rfl
        case mm=>exact EXs.seq (EX.assign (EV.nm n7 rfl) (AS.nm n6) (fun _=>rfl) (fun _=>rfl) (fun _ _=>rfl)) (Rest.next (EXs.seq (EX.assign (EV.bin (EV.nm n5 rfl) (EV.meth PySem.F.plainAttrs_str PySem.F.slot_str_join PySem.F.type_str_join (EV.nm n1 rfl) rfl (EVs.cons (EV.nm n6 rfl) EVs.nil (fun _=>rfl)) (Ops.joinS hj)) (Op2.addS hj3)) (AS.nm n0) (fun _=>rfl) (fun _=>rfl) (fun _ _=>rfl)) (Rest.next (EXs.seq (EX.ret (EV.boolOp (BV.orB (EV.nm n0 rfl) OpT.str (Or.inr ⟨ho,BV.last (EV.nm n2 rfl)⟩)))) (Rest.stop rfl rfl)))))
      · rw [if_neg (of_decide_eq_true ho)]
        refine' EXs.to ?mm rfl
        case mm=>exact EXs.seq (EX.assign (EV.nm n7 rfl) (AS.nm n6) (fun _=>rfl) (fun _=>rfl) (fun _ _=>rfl)) (Rest.next (EXs.seq (EX.assign (EV.bin (EV.nm n5 rfl) (EV.meth PySem.F.plainAttrs_str PySem.F.slot_str_join PySem.F.type_str_join (EV.nm n1 rfl) rfl (EVs.cons (EV.nm n6 rfl) EVs.nil (fun _=>rfl)) (Ops.joinS hj)) (Op2.addS hj3)) (AS.nm n0) (fun _=>rfl) (fun _=>rfl) (fun _ _=>rfl)) (Rest.next (EXs.seq (EX.ret (EV.boolOp (BV.orB (EV.nm n0 rfl) OpT.str (Or.inl ⟨ho,rfl⟩)))) (Rest.stop rfl rfl)))))
noncomputable def specials:List Nat:=[40,41,91,93,123,125,63,42,43,45,124,94,36,92,46,38,126,35,32,9,10,13,11,12]
theorem escape_ok {k:Nat} {c:Nat}:Ops S (k + 1) (fun vs=>call (.ref 55) vs) [.str [c]] (.str (escC specials c)):=by
  have n0:=@n_escape_0
  have g_isinstance:=g_escape_isinstance hK
  have g_str:=g_escape_str hK
  have g_special_chars_map:=g_escape_special_chars_map hK
  have c0:Cs "latin1" [108,97,116,105,110,49]:=rfl
  refine Fn.intro (f:=fi_escape) hK.fn_escape rfl ?_
  show EXs S _ fi_escape [some (B.val _)] _ _
  conv=>arg 5;whnf
  have ht:∀ {k:Nat},Ops S k (fun vs=>call (.builtin "str.translate") vs) [.str [c],.raw (.ref 45)] (.str (escC specials c)):=by
    intro k
    refine e2_2 (hK.dic) (fun es n h1 h2=>?_)
    exact Ops.translate h1 h2 (by decide)
  refine' EXs.to ?mm rfl
  case mm=>exact EXs.seq (EX.ifB (TV.val tested_Call (EV.call (fun _=>rfl) (Raw.ev g_isinstance) Callee.builtin (EVs.cons (EV.nm n0 rfl) (EVs.cons (Raw.ev g_str) EVs.nil (fun _=>rfl)) (fun _=>rfl)) Ops.isinstSS) OpT.bool) (Or.inl ⟨rfl,EXs.seq (EX.ret (EV.meth PySem.F.plainAttrs_str PySem.F.slot_str_translate PySem.F.type_str_translate (EV.nm n0 rfl) rfl (EVs.cons (Raw.ev g_special_chars_map) EVs.nil (fun _=>rfl)) (by apply_assumption) (fun _=>rfl) rfl (fun _=>rfl))) (Rest.stop rfl rfl)⟩)) (Rest.stop rfl rfl)
noncomputable abbrev It':=Option (List Nat)
noncomputable def itD (v:Value):It'→D
  | none=>.raw v
  | some s=>.str s
noncomputable def setFrom (pat:List Nat) (i:Nat):Nat :=
  if pat[if pat[i]? = some 33 then i + 1 else i]? = some 93 then (if pat[i]? = some 33 then i + 1 else i) + 1 else if pat[i]? = some 33 then i + 1 else i
noncomputable def openC (pat:List Nat) (j:Nat):Bool:=decide ((j:Int) < (pat.length:Int)) && !decide (pat[j]? = some 93)
noncomputable def setEnd (pat:List Nat) (i:Nat):Nat:=looped (openC pat) (· + 1) (pat.length - setFrom pat i) (setFrom pat i)
noncomputable def setVar (stuff:List Nat):List Nat :=
  if stuff = [] ∨ stuff = [33] then stuff else if stuff.head? = some 33 then [94] ++ stuff.drop 1 else if stuff.head? = some 94 ∨ stuff.head? = some 91 then [92] ++ stuff else stuff
noncomputable def setShown (stuff:List Nat):List Nat :=
  if stuff = [] then [40,63,33,41] else if stuff = [33] then [46] else
  [91] ++ setVar stuff ++ [93]
omit hK in
theorem mid_take (xs:List Nat) (a b e:Nat) (h:b≤e):(xs.take b).drop a = ((xs.take e).drop a).take (b - a):=by
  rw [List.drop_take,List.drop_take,List.take_take,Nat.min_eq_left (Nat.sub_le_sub_right h a)]
noncomputable def dashed (st:List Nat):List Nat:=if st.drop (st.length - 1) < (st.drop (st.length - 3)).take 1 then st.take (st.length - 3) else st
omit hK in
theorem dashed_eq (pre:List Nat) (x y:Nat):dashed (pre ++ [x,45,y]) = if [y] < [x] then pre else pre ++ [x,45,y]:=by
  have l1:(pre ++ [x,45,y]).length - 1 = pre.length + 2:=by simp
  have l2:(pre ++ [x,45,y]).length - 3 = pre.length:=by simp
  have d1:(pre ++ [x,45,y]).drop (pre.length + 2) = [y]:=by
    rw [List.drop_append,List.drop_of_length_le (by lia),show pre.length + 2 - pre.length = 2 from Nat.add_sub_cancel_left ..];rfl
  have d2:(pre ++ [x,45,y]).drop pre.length = [x,45,y]:=by simp
  have d3:(pre ++ [x,45,y]).take pre.length = pre:=by simp
  unfold dashed
  rw [l1,l2,d1,d2,d3];rfl
noncomputable def setIn (st:List Nat):List Nat:=if 45 ∈ st then dashed st else replC 92 [92,92] st
noncomputable def setItem' (stuff:List Nat):List Nat:=setShown (setIn stuff)
noncomputable def DashOk (st:List Nat):Prop:=45 ∉ st ∨ ∃ pre x y,st = pre ++ [x,45,y]∧(pre = []∧x ≠ 33 ∨ pre = [33])∧(x ≠ 45∧x ≠ 92)∧y ≠ 45∧y ≠ 92
noncomputable def SetsOk (pat:List Nat):Prop:=∀ i,pat[i]? = some 91→¬ pat.length≤setEnd pat (i + 1)→DashOk (pick (some ((i + 1:Nat):Int)) (some (setEnd pat (i + 1):Int)) pat)
noncomputable def trStep (q pat:List Nat) (s:List It' × Nat):List It' × Nat :=
  match pat[s.2]? with
  | none=>(s.1,s.2 + 1)
  | some c =>
    if c = 42 then (if s.1.getLast? = some none then s.1 else s.1 ++ [none],s.2 + 1)
    else if c = 63 then (s.1 ++ [some q],s.2 + 1)
    else if c = 91 then
      if pat.length≤setEnd pat (s.2 + 1) then (s.1 ++ [some [92,91]],s.2 + 1)
      else (s.1 ++ [some (setItem' (pick (some ((s.2 + 1:Nat):Int)) (some (setEnd pat (s.2 + 1):Int)) pat))],setEnd pat (s.2 + 1) + 1)
    else (s.1 ++ [some (escC specials c)],s.2 + 1)
noncomputable def trGo (pat:List Nat) (s:List It' × Nat):Bool:=decide ((s.2:Int) < (pat.length:Int))
noncomputable def pTr (q pat:List Nat):List It':=(looped (trGo pat) (trStep q pat) pat.length ([],0)).1
omit hK in
theorem setFrom_le (pat:List Nat) (i:Nat) (h:i≤pat.length):i≤setFrom pat i∧setFrom pat i≤pat.length:=by
  have lt:∀ {j c:Nat},pat[j]? = some c→j < pat.length:=fun e=>(List.getElem?_eq_some_iff.mp e).1
  unfold setFrom
  by_cases h2:pat[i]? = some 33
  · have h3:=lt h2
    simp only [h2,if_true]
    split
    · rename_i h1;have:=lt h1;lia
    · lia
  · simp only [h2,if_false]
    split
    · rename_i h1;have:=lt h1;lia
    · lia
omit hK in
theorem openRun_le (pat:List Nat):∀ (n j:Nat),j≤pat.length→j≤looped (openC pat) (· + 1) n j∧looped (openC pat) (· + 1) n j≤pat.length
  | 0,j,h=>⟨Nat.le_refl _,h⟩
  | n + 1,j,h=>by
    unfold looped
    split
    · rename_i hc
      simp only [openC,Bool.and_eq_true,decide_eq_true_eq] at hc
      have:=openRun_le pat n (j + 1) (by lia)
      lia
    · exact ⟨Nat.le_refl _,h⟩
omit hK in
theorem setEnd_le (pat:List Nat) (i:Nat) (h:i≤pat.length):i≤setEnd pat i∧setEnd pat i≤pat.length:=by
  have h1:=setFrom_le pat i h
  have h2:=openRun_le pat (pat.length - setFrom pat i) (setFrom pat i) h1.2
  unfold setEnd;lia
omit hK in
theorem trStep_grow (q pat:List Nat) (s:List It' × Nat) (h:s.2 < pat.length):s.2 < (trStep q pat s).2∧(trStep q pat s).2≤pat.length∧(trStep q pat s).1.length≤s.1.length + 1:=by
  have h1:=setEnd_le pat (s.2 + 1) (by lia)
  unfold trStep
  rw [List.getElem?_eq_getElem h]
  simp only
  repeat' split
  all_goals simp
  all_goals lia
omit hK in
theorem replC_mem (c:Nat) (y:List Nat) (xs:List Nat) (x:Nat) (h:x ∈ replC c y xs):x ∈ y ∨ x ∈ xs:=by
  unfold replC at h
  refine e1_2 (List.mem_flatMap.mp h) (fun z h1 h2=>?_)
  split at h2
  · exact .inl h2
  · simp at h2;subst h2;exact .inr h1
set_option maxHeartbeats 8000000 in
theorem translate_ok {k:Nat} {pat q:List Nat} {v:Value} (hT:(61,57) ∈ S.tabs) (hqL:∀ p:Pos,p.line = 61→p.col = 39→S.qualAt p = fi_translate.qual ++ "<lambda>") (hqG:∀ p:Pos,p.line = 60→p.col = 37→S.qualAt p = fi_translate.qual ++ "<genexpr>") (hv:solid v = true) (hp:pat.length≤1000) (hd:SetsOk pat) (hs:∀ c ∈ pat,sig c = false) (hu:∀ c ∈ pat,c < 0x110000) :
    Ops S (k + 2) (fun vs=>call (.ref 62) vs) [.str pat,.raw v,.str q] (.list ((pTr q pat).map (itD v))):=by
  have n0:=@n_translate_0
  have n1:=@n_translate_1
  have n2:=@n_translate_2
  have n3:=@n_translate_3
  have n4:=@n_translate_4
  have n5:=@n_translate_5
  have n6:=@n_translate_6
  have n7:=@n_translate_7
  have n8:=@n_translate_8
  have n9:=@n_translate_9
  have n10:=@n_translate_10
  have n11:=@n_translate_11
  have n12:=@n_translate_12
  have g_len:=g_translate_len hK
  have g_range:=g_translate_range hK
  have g_twin_re_1:=g_translate_twin_re_1 hK
  have g_escape:=g_translate_escape hK
  have k_escape:=hK.cal_escape
  have c0:Cs "*" [42]:=rfl
  have c1:Cs "?" [63]:=rfl
  have c2:Cs "[" [91]:=rfl
  have c3:Cs "!" [33]:=rfl
  have c4:Cs "]" [93]:=rfl
  have c5:Cs "\\[" [92,91]:=rfl
  have c6:Cs "-" [45]:=rfl
  have c7:Cs "\\" [92]:=rfl
  have c8:Cs "\\\\" [92,92]:=rfl
  have c9:Cs "\\-" [92,45]:=rfl
  have c10:Cs "" []:=rfl
  have c11:Cs "(?!)" [40,63,33,41]:=rfl
  have c12:Cs "." [46]:=rfl
  have c13:Cs "^" [94]:=rfl
  refine Fn.intro (f:=fi_translate) hK.fn_translate rfl ?_
  show EXs S _ fi_translate [some (B.val _),some (B.val _),some (B.val _),none,none,none,none,none,none,none,none,none,none] _ _
  conv=>arg 5;whnf
  have hsz:=sizeLine_eq
  have own3:OwnV fi_translate 3:=.intro
  have hesc:∀ {k:Nat} {c:Nat},Ops S (k + 1) (fun vs=>call (.ref 55) vs) [.str [c]] (.str (escC specials c)):=escape_ok hK
  have hpat:=hK.pat_twin_re_1
  have hcode:fi_translate.code = .ref 61:=rfl
  refine EXs.seq (EX.ownN n3 own3 EVs.nil rfl (by (simp only [List.length_cons,List.length_nil]);decide) (Nat.le_of_ble_eq_true rfl) (fun _=>rfl) (fun _=>rfl)) (Rest.next ?_)
  refine EXs.seq (EX.appBindN n3 n4 rfl (by decide) rfl (fun _=>rfl) (fun _=>rfl)) (Rest.next ?_)
  refine EXs.seq (EX.assign2N n5 n6 (EV.tup (EVs.cons EV.cInt (EVs.cons (EV.call (fun _=>rfl) (Raw.ev g_len) Callee.builtin (EVs.cons (EV.nm n0 rfl) EVs.nil (fun _=>rfl)) Ops.lenS) EVs.nil (fun _=>rfl)) (fun _=>rfl)) (by (simp only [List.length_cons,List.length_nil]);decide)) rfl (by decide) rfl rfl rfl (fun _=>rfl)) (Rest.next ?_)
  refine EXs.whileRun (σ:=List It' × Nat) (τ:=Option B × Option B × Option B) (fun s t=>[some (B.val (D.str pat)),some (B.val (D.raw v)),some (B.val (D.str q)),some (B.own (s.1.map (itD v))),some (B.app 3),some (B.val (D.int (s.2:Int))),some (B.val (D.int (pat.length:Int))),t.1,t.2.1,t.2.2,none,none,none])
    (trGo pat) (trStep q pat) (fun s=>s.1.length≤s.2∧s.2≤pat.length) (fun s=>pat.length - s.2) pat.length ([],0) (none,none,none) rfl (Nat.sub_le _ _) ⟨Nat.le_refl _,Nat.zero_le _⟩ ?_ ?_ ?_
  · rintro ⟨res,i⟩ t ⟨h1,h2⟩
    simp only [trGo]
    exact TV.cmp (EV.nm n5 rfl) (EV.nm n6 rfl) Op2.ltI rfl
  · rintro ⟨res,i⟩ ⟨t1,t2,t3⟩ ⟨h1,h2⟩ hc
    simp only [trGo,decide_eq_true_eq] at hc h1 h2
    have hil:i < pat.length:=by lia
    have hg:=trStep_grow q pat (res,i) hil
    refine ⟨⟨Nat.le_trans hg.2.2 (Nat.le_trans (Nat.succ_le_succ h1) hg.1),hg.2.1⟩,Nat.sub_lt_sub_left hil hg.1,?_⟩
    clear hg
    obtain ⟨c,hci⟩:∃ c,pat[i]? = some c:=⟨_,List.getElem?_eq_getElem hil⟩
    have hix:∀ (j:Nat) (x:Nat),pat[j]? = some x→pat[idx pat.length (j:Int)]? = some x:=by
      intro j x e
      have:idx pat.length (j:Int) = j:=by unfold idx;rw [if_neg (by lia)];simp
      rw [this];exact e
    have hi0:=hix i c hci
    have zi:-(pat.length:Int)≤(i:Int):=by lia
    have hcast:(i:Int) + 1 = ((i + 1:Nat):Int):=by lia
    have hrl:(res.map (itD v)).length < sizeLine:=by simp;lia
    simp only [trStep,hci]
    by_cases c42:c = 42
    · subst c42
      rw [if_pos rfl]
      rcases nil_or_snoc res with rfl | ⟨ini,last,rfl⟩
      · rw [if_neg (by simp)]
        refine ⟨(some (B.val (D.str [42])),t2,t3),Or.inl ?_⟩
        have hne:=dec_nil [] rfl
        have hne':=dec_nil' [] rfl
        simp only [List.map_nil,List.nil_append,List.map_cons,← hcast,itD]
        refine' EXs.to ?mm rfl
        case mm=>exact EXs.seq (EX.assign (EV.item (T:="str") (EV.nm n0 rfl) (EV.nm n5 rfl) rfl PySem.F.slot_str_getitem.lookup (Op2.itemS hi0 zi) (fun _ _=>rfl)) (AS.nm n7) (fun _=>rfl) (fun _=>rfl) (fun _ _=>rfl)) (Rest.next (EXs.seq (EX.assign (EV.bin (EV.nm n5 rfl) EV.cInt Op2.addI) (AS.nm n5) (fun _=>rfl) (fun _=>rfl) (fun _ _=>rfl)) (Rest.next (EXs.seq (EX.ifB (TV.borrowN n3 own3 rfl (TV.cmp (EV.nm n7 rfl) (EV.cS c0 (by decide)) Op2.eqS rfl)) (Or.inl ⟨rfl,EXs.seq (EX.ifB (TV.borrowN n3 own3 rfl (TV.boolOp (ATV.orB (TV.not (TV.val tested_Name (EV.nm n3 rfl) OpT.list)) (Or.inl ⟨hne',rfl⟩)))) (Or.inl ⟨rfl,EXs.seq (EX.appCallN n4 rfl rfl (EV.nm n1 rfl) (by decide) n3 (fun _=>rfl) (fun _=>rfl)) (Rest.next EXs.nil)⟩)) (Rest.next EXs.nil)⟩)) (Rest.next EXs.nil)))))
      · have hl:=last_item (ini.map (itD v)) (itD v last)
        have hne:=dec_snoc (List.map (itD v) ini ++ [itD v last]) (by simp)
        have hne':=dec_snoc' (List.map (itD v) ini ++ [itD v last]) (by simp)
        have zl:-((List.map (itD v) ini ++ [itD v last]).length:Int)≤-1:=by simp;lia
        refine ⟨(some (B.val (D.str [42])),t2,t3),Or.inl ?_⟩
        cases last with
        | none =>
          rw [if_pos (by simp)]
          simp only [List.map_append,List.map_cons,List.map_nil,← hcast,itD] at *
          refine' EXs.to ?mm rfl
          case mm=>exact EXs.seq (EX.assign (EV.item (T:="str") (EV.nm n0 rfl) (EV.nm n5 rfl) rfl PySem.F.slot_str_getitem.lookup (Op2.itemS hi0 zi) (fun _ _=>rfl)) (AS.nm n7) (fun _=>rfl) (fun _=>rfl) (fun _ _=>rfl)) (Rest.next (EXs.seq (EX.assign (EV.bin (EV.nm n5 rfl) EV.cInt Op2.addI) (AS.nm n5) (fun _=>rfl) (fun _=>rfl) (fun _ _=>rfl)) (Rest.next (EXs.seq (EX.ifB (TV.borrowN n3 own3 rfl (TV.cmp (EV.nm n7 rfl) (EV.cS c0 (by decide)) Op2.eqS rfl)) (Or.inl ⟨rfl,EXs.seq (EX.ifB (TV.borrowN n3 own3 rfl (TV.boolOp (ATV.orB (TV.not (TV.val tested_Name (EV.nm n3 rfl) OpT.list)) (Or.inr ⟨(by simp [*];done),ATV.orB (TV.cmp (EV.item (T:="list") (EV.nm n3 rfl) (EV.un EV.cInt Op1.negI) rfl list_getitem_lookup (Op2.itemL hl zl) (fun _ _=>rfl)) (EV.nm n1 rfl) (Op2.isNotSelf hv) rfl) (Or.inr ⟨rfl,ATV.orNil⟩)⟩)))) (Or.inr ⟨rfl,EXs.nil⟩)) (Rest.next EXs.nil)⟩)) (Rest.next EXs.nil)))))
        | some sl =>
          rw [if_neg (by simp)]
          simp only [List.map_append,List.map_cons,List.map_nil,← hcast,itD] at *
          refine' EXs.to ?mm rfl
          case mm=>exact EXs.seq (EX.assign (EV.item (T:="str") (EV.nm n0 rfl) (EV.nm n5 rfl) rfl PySem.F.slot_str_getitem.lookup (Op2.itemS hi0 zi) (fun _ _=>rfl)) (AS.nm n7) (fun _=>rfl) (fun _=>rfl) (fun _ _=>rfl)) (Rest.next (EXs.seq (EX.assign (EV.bin (EV.nm n5 rfl) EV.cInt Op2.addI) (AS.nm n5) (fun _=>rfl) (fun _=>rfl) (fun _ _=>rfl)) (Rest.next (EXs.seq (EX.ifB (TV.borrowN n3 own3 rfl (TV.cmp (EV.nm n7 rfl) (EV.cS c0 (by decide)) Op2.eqS rfl)) (Or.inl ⟨rfl,EXs.seq (EX.ifB (TV.borrowN n3 own3 rfl (TV.boolOp (ATV.orB (TV.not (TV.val tested_Name (EV.nm n3 rfl) OpT.list)) (Or.inr ⟨(by simp [*];done),ATV.orB (TV.cmp (EV.item (T:="list") (EV.nm n3 rfl) (EV.un EV.cInt Op1.negI) rfl list_getitem_lookup (Op2.itemL hl zl) (fun _ _=>rfl)) (EV.nm n1 rfl) (Op2.isNotOtherS hv) rfl) (Or.inl ⟨rfl,rfl⟩)⟩)))) (Or.inl ⟨rfl,EXs.seq (EX.appCallN n4 rfl rfl (EV.nm n1 rfl) hrl n3 (fun _=>rfl) (fun _=>rfl)) (Rest.next EXs.nil)⟩)) (Rest.next EXs.nil)⟩)) (Rest.next EXs.nil)))))
    · rw [if_neg c42]
      have b42:([c] == [42]) = false:=by simp [c42]
      by_cases c63:c = 63
      · subst c63
        rw [if_pos rfl]
        refine ⟨(some (B.val (D.str [63])),t2,t3),Or.inl ?_⟩
        simp only [List.map_append,List.map_cons,List.map_nil,← hcast,itD]
        refine' EXs.to ?mm rfl
        case mm=>exact EXs.seq (EX.assign (EV.item (T:="str") (EV.nm n0 rfl) (EV.nm n5 rfl) rfl PySem.F.slot_str_getitem.lookup (Op2.itemS hi0 zi) (fun _ _=>rfl)) (AS.nm n7) (fun _=>rfl) (fun _=>rfl) (fun _ _=>rfl)) (Rest.next (EXs.seq (EX.assign (EV.bin (EV.nm n5 rfl) EV.cInt Op2.addI) (AS.nm n5) (fun _=>rfl) (fun _=>rfl) (fun _ _=>rfl)) (Rest.next (EXs.seq (EX.ifB (TV.borrowN n3 own3 rfl (TV.cmp (EV.nm n7 rfl) (EV.cS c0 (by decide)) Op2.eqS rfl)) (Or.inr ⟨b42,EXs.seq (EX.ifB (TV.borrowN n3 own3 rfl (TV.cmp (EV.nm n7 rfl) (EV.cS c1 (by decide)) Op2.eqS rfl)) (Or.inl ⟨rfl,EXs.seq (EX.appCallN n4 rfl rfl (EV.nm n2 rfl) hrl n3 (fun _=>rfl) (fun _=>rfl)) (Rest.next EXs.nil)⟩)) (Rest.next EXs.nil)⟩)) (Rest.next EXs.nil)))))
      · rw [if_neg c63]
        have b63:([c] == [63]) = false:=by simp [c63]
        by_cases c91:c = 91
        · subst c91
          rw [if_pos rfl]
          have hel:=setEnd_le pat (i + 1) (by lia)
          have hfl:=setFrom_le pat (i + 1) (by lia)
          have lt:∀ {j c:Nat},pat[j]? = some c→j < pat.length:=fun e=>(List.getElem?_eq_some_iff.mp e).1
          have bT:([91] == [91]) = true:=by decide
          let Γj:List It'→Nat→Nat→Ctxt:=fun rs m j=>[some (B.val (D.str pat)),some (B.val (D.raw v)),some (B.val (D.str q)),some (B.own (rs.map (itD v))),some (B.app 3),some (B.val (D.int (m:Int))),some (B.val (D.int (pat.length:Int))),some (B.val (D.str [91])),some (B.val (D.int (j:Int))),t3,none,none,none]
          refine ⟨(some (B.val (D.str [91])),some (B.val (D.int (setEnd pat (i + 1):Int))),if pat.length≤setEnd pat (i + 1) then t3 else some (B.val (D.str (setVar (setIn (pick (some ((i + 1:Nat):Int)) (some (setEnd pat (i + 1):Int)) pat)))))),Or.inl ?_⟩
          refine EXs.seq (EX.assign (EV.item (T:="str") (EV.nm n0 rfl) (EV.nm n5 rfl) rfl PySem.F.slot_str_getitem.lookup (Op2.itemS hi0 zi) (fun _ _=>rfl)) (AS.nm n7) (fun _=>rfl) (fun _=>rfl) (fun _ _=>rfl)) (Rest.next ?_)
          refine EXs.seq (EX.assign (EV.bin (EV.nm n5 rfl) EV.cInt Op2.addI) (AS.nm n5) (fun _=>rfl) (fun _=>rfl) (fun _ _=>rfl)) (Rest.next ?_)
          simp only [hcast]
          refine EXs.cons (EX.ifF (TV.is (b:=([91] == [42])) (by exact TV.cmp (EV.nm n7 rfl) (EV.cS c0 (by decide)) Op2.eqS rfl) b42) (EXs.cons (EX.ifF (TV.is (b:=([91] == [63])) (by exact TV.cmp (EV.nm n7 rfl) (EV.cS c1 (by decide)) Op2.eqS rfl) b63) (EXs.cons (EX.ifT (TV.is (b:=([91] == [91])) (by exact TV.cmp (EV.nm n7 rfl) (EV.cS c2 (by decide)) Op2.eqS rfl) bT) ?inner) EXs.nil)) EXs.nil)) EXs.nil
          refine EXs.seq (EX.assign (EV.nm n5 rfl) (AS.nm n8) (fun _=>rfl) (fun _=>rfl) (fun _ _=>rfl)) (Rest.next ?_)
          refine EXs.cons (Γ₁:=Γj res (i + 1) (if pat[i + 1]? = some 33 then i + 1 + 1 else i + 1)) ?if1 ?rest1
          case if1 =>
            by_cases hj:i + 1 < pat.length
            · have q1:decide (((i + 1:Nat):Int) < (pat.length:Int)) = true:=by simp;lia
              obtain ⟨x,hx⟩:∃ x,pat[i + 1]? = some x:=⟨_,List.getElem?_eq_getElem hj⟩
              have hx':=hix _ _ hx
              have zx:-(pat.length:Int)≤((i + 1:Nat):Int):=by lia
              by_cases h33:x = 33
              · subst h33
                simp only [hx,if_true]
                have q2:([33] == [33]) = true:=by decide
                have hc2:((i + 1 + 1:Nat):Int) = ((i + 1:Nat):Int) + 1:=by lia
                show EX _ _ _ _ _ (.next [_,_,_,_,_,_,_,_,some (B.val (D.int ((i + 1 + 1:Nat):Int))),_,_,_,_])
                rw [hc2]
                exact EX.ifB (TV.borrowN n3 own3 rfl (TV.boolOp (ATV.andB (TV.cmp (EV.nm n8 rfl) (EV.nm n6 rfl) Op2.ltI rfl) (Or.inl ⟨q1,ATV.andB (TV.cmp (EV.item (T:="str") (EV.nm n0 rfl) (EV.nm n8 rfl) rfl PySem.F.slot_str_getitem.lookup (Op2.itemS hx' zx) (fun _ _=>rfl)) (EV.cS c3 (by decide)) Op2.eqS rfl) (Or.inl ⟨q2,ATV.andNil⟩)⟩)))) (Or.inl ⟨rfl,EXs.seq (EX.assign (EV.bin (EV.nm n8 rfl) EV.cInt Op2.addI) (AS.nm n8) (fun _=>rfl) (fun _=>rfl) (fun _ _=>rfl)) (Rest.next EXs.nil)⟩)
              · have q2:([x] == [33]) = false:=by simp [h33]
                have:¬ (pat[i + 1]? = some 33):=by rw [hx];simp [h33]
                simp only [this,if_false]
                exact EX.ifB (TV.borrowN n3 own3 rfl (TV.boolOp (ATV.andB (TV.cmp (EV.nm n8 rfl) (EV.nm n6 rfl) Op2.ltI rfl) (Or.inl ⟨q1,ATV.andB (TV.cmp (EV.item (T:="str") (EV.nm n0 rfl) (EV.nm n8 rfl) rfl PySem.F.slot_str_getitem.lookup (Op2.itemS hx' zx) (fun _ _=>rfl)) (EV.cS c3 (by decide)) Op2.eqS rfl) (Or.inr ⟨q2,rfl⟩)⟩)))) (Or.inr ⟨rfl,EXs.nil⟩)
            · have q1:decide (((i + 1:Nat):Int) < (pat.length:Int)) = false:=by simp;lia
              have:pat[i + 1]? = none:=List.getElem?_eq_none_iff.mpr (by lia)
              simp only [this]
              exact EX.ifB (TV.borrowN n3 own3 rfl (TV.boolOp (ATV.andB (TV.cmp (EV.nm n8 rfl) (EV.nm n6 rfl) Op2.ltI rfl) (Or.inr ⟨q1,rfl⟩)))) (Or.inr ⟨rfl,EXs.nil⟩)
          have hs1:(if pat[i + 1]? = some 33 then i + 1 + 1 else i + 1)≤pat.length:=by
            split
            · rename_i h;have:=lt h;lia
            · lia
          have hs2:setFrom pat (i + 1) = if pat[if pat[i + 1]? = some 33 then i + 1 + 1 else i + 1]? = some 93 then (if pat[i + 1]? = some 33 then i + 1 + 1 else i + 1) + 1 else if pat[i + 1]? = some 33 then i + 1 + 1 else i + 1:=rfl
          generalize (if pat[i + 1]? = some 33 then i + 1 + 1 else i + 1) = j1 at hs1 hs2 ⊢
          refine EXs.cons (Γ₁:=Γj res (i + 1) (setFrom pat (i + 1))) ?if2 ?rest2
          case if2 =>
            rw [hs2]
            by_cases hj:j1 < pat.length
            · have q1:decide (((j1:Nat):Int) < (pat.length:Int)) = true:=by simp;lia
              obtain ⟨x,hx⟩:∃ x,pat[j1]? = some x:=⟨_,List.getElem?_eq_getElem hj⟩
              have hx':=hix _ _ hx
              have zx:-(pat.length:Int)≤((j1:Nat):Int):=by lia
              by_cases h93:x = 93
              · subst h93
                simp only [hx,if_true]
                have q2:([93] == [93]) = true:=by decide
                have hc2:((j1 + 1:Nat):Int) = ((j1:Nat):Int) + 1:=by lia
                show EX _ _ _ _ _ (.next [_,_,_,_,_,_,_,_,some (B.val (D.int ((j1 + 1:Nat):Int))),_,_,_,_])
                rw [hc2]
                exact EX.ifB (TV.borrowN n3 own3 rfl (TV.boolOp (ATV.andB (TV.cmp (EV.nm n8 rfl) (EV.nm n6 rfl) Op2.ltI rfl) (Or.inl ⟨q1,ATV.andB (TV.cmp (EV.item (T:="str") (EV.nm n0 rfl) (EV.nm n8 rfl) rfl PySem.F.slot_str_getitem.lookup (Op2.itemS hx' zx) (fun _ _=>rfl)) (EV.cS c4 (by decide)) Op2.eqS rfl) (Or.inl ⟨q2,ATV.andNil⟩)⟩)))) (Or.inl ⟨rfl,EXs.seq (EX.assign (EV.bin (EV.nm n8 rfl) EV.cInt Op2.addI) (AS.nm n8) (fun _=>rfl) (fun _=>rfl) (fun _ _=>rfl)) (Rest.next EXs.nil)⟩)
              · have q2:([x] == [93]) = false:=by simp [h93]
                have:¬ (pat[j1]? = some 93):=by rw [hx];simp [h93]
                simp only [this,if_false]
                exact EX.ifB (TV.borrowN n3 own3 rfl (TV.boolOp (ATV.andB (TV.cmp (EV.nm n8 rfl) (EV.nm n6 rfl) Op2.ltI rfl) (Or.inl ⟨q1,ATV.andB (TV.cmp (EV.item (T:="str") (EV.nm n0 rfl) (EV.nm n8 rfl) rfl PySem.F.slot_str_getitem.lookup (Op2.itemS hx' zx) (fun _ _=>rfl)) (EV.cS c4 (by decide)) Op2.eqS rfl) (Or.inr ⟨q2,rfl⟩)⟩)))) (Or.inr ⟨rfl,EXs.nil⟩)
            · have q1:decide (((j1:Nat):Int) < (pat.length:Int)) = false:=by simp;lia
              have:pat[j1]? = none:=List.getElem?_eq_none_iff.mpr (by lia)
              simp only [this]
              exact EX.ifB (TV.borrowN n3 own3 rfl (TV.boolOp (ATV.andB (TV.cmp (EV.nm n8 rfl) (EV.nm n6 rfl) Op2.ltI rfl) (Or.inr ⟨q1,rfl⟩)))) (Or.inr ⟨rfl,EXs.nil⟩)
          clear hs1 hs2
          refine EXs.whileRun (σ:=Nat) (τ:=Unit) (fun j _=>Γj res (i + 1) j) (openC pat) (· + 1) (fun j=>j≤pat.length) (fun j=>pat.length - j) (pat.length - setFrom pat (i + 1)) (setFrom pat (i + 1)) () rfl (Nat.le_refl _) hfl.2 ?_ ?_ ?_
          · intro j _ hj
            by_cases hj2:j < pat.length
            · have q1:decide (((j:Nat):Int) < (pat.length:Int)) = true:=by simp;lia
              obtain ⟨x,hx⟩:∃ x,pat[j]? = some x:=⟨_,List.getElem?_eq_getElem hj2⟩
              have hx':=hix _ _ hx
              have zx:-(pat.length:Int)≤((j:Nat):Int):=by lia
              by_cases h93:x = 93
              · subst h93
                have q2:([93] != [93]) = false:=by decide
                have q3:openC pat j = false:=by simp [openC,hx]
                rw [q3]
                exact TV.boolOp (ATV.andB (TV.cmp (EV.nm n8 rfl) (EV.nm n6 rfl) Op2.ltI rfl) (Or.inl ⟨q1,ATV.andB (TV.cmp (EV.item (T:="str") (EV.nm n0 rfl) (EV.nm n8 rfl) rfl PySem.F.slot_str_getitem.lookup (Op2.itemS hx' zx) (fun _ _=>rfl)) (EV.cS c4 (by decide)) Op2.neS rfl) (Or.inr ⟨q2,rfl⟩)⟩))
              · have q2:([x] != [93]) = true:=by simp [h93]
                have q3:openC pat j = true:=by simp [openC,hx,h93];lia
                rw [q3]
                exact TV.boolOp (ATV.andB (TV.cmp (EV.nm n8 rfl) (EV.nm n6 rfl) Op2.ltI rfl) (Or.inl ⟨q1,ATV.andB (TV.cmp (EV.item (T:="str") (EV.nm n0 rfl) (EV.nm n8 rfl) rfl PySem.F.slot_str_getitem.lookup (Op2.itemS hx' zx) (fun _ _=>rfl)) (EV.cS c4 (by decide)) Op2.neS rfl) (Or.inl ⟨q2,ATV.andNil⟩)⟩))
            · have q1:decide (((j:Nat):Int) < (pat.length:Int)) = false:=by simp;lia
              have q3:openC pat j = false:=by simp [openC];lia
              rw [q3]
              exact TV.boolOp (ATV.andB (TV.cmp (EV.nm n8 rfl) (EV.nm n6 rfl) Op2.ltI rfl) (Or.inr ⟨q1,rfl⟩))
          · intro j _ hj hc
            simp only [openC,Bool.and_eq_true,decide_eq_true_eq] at hc
            refine ⟨by lia,by lia,(),Or.inl ?_⟩
            have hc2:((j + 1:Nat):Int) = ((j:Nat):Int) + 1:=by lia
            show EXs _ _ _ _ _ (.next [_,_,_,_,_,_,_,_,some (B.val (D.int ((j + 1:Nat):Int))),_,_,_,_])
            rw [hc2]
            refine' EXs.to ?mm rfl
            case mm=>exact EXs.seq (EX.assign (EV.bin (EV.nm n8 rfl) EV.cInt Op2.addI) (AS.nm n8) (fun _=>rfl) (fun _=>rfl) (fun _ _=>rfl)) (Rest.next EXs.nil)
          · intro _ _ _
            show EXs _ _ _ (Γj res (i + 1) (setEnd pat (i + 1))) _ _
            generalize hee:setEnd pat (i + 1) = e at hel ⊢
            by_cases hle:pat.length≤e
            · have q1:decide ((e:Int) ≥ (pat.length:Int)) = true:=by simp;lia
              rw [if_pos hle,if_pos hle]
              simp only [List.map_append,List.map_cons,List.map_nil,itD]
              refine' EXs.to ?mm rfl
              case mm=>exact EXs.seq (EX.ifB (TV.borrowN n3 own3 rfl (TV.cmp (EV.nm n8 rfl) (EV.nm n6 rfl) Op2.geI rfl)) (Or.inl ⟨q1,EXs.seq (EX.appCallN n4 rfl rfl (EV.cS c5 (by decide)) hrl n3 (fun _=>rfl) (fun _=>rfl)) (Rest.next EXs.nil)⟩)) (Rest.next EXs.nil)
            · have q1:decide ((e:Int) ≥ (pat.length:Int)) = false:=by simp;lia
              rw [if_neg hle,if_neg hle]
              simp only [List.map_append,List.map_cons,List.map_nil,itD]
              have hce:((e + 1:Nat):Int) = (e:Int) + 1:=by lia
              rw [hce]
              refine EXs.cons (EX.ifF (TV.is (b:=decide ((e:Int) ≥ (pat.length:Int))) (by exact TV.cmp (EV.nm n8 rfl) (EV.nm n6 rfl) Op2.geI rfl) q1) ?inner2) EXs.nil
              refine EXs.seq (EX.assign (EV.sliceS (EV.nm n0 rfl) (PV.some (EV.nm n5 rfl)) (PV.some (EV.nm n8 rfl)) (fun _ _=>rfl)) (AS.nm n9) (fun _=>rfl) (fun _=>rfl) (fun _ _=>rfl)) (Rest.next ?_)
              have hdo:DashOk (pick (some ((i + 1:Nat):Int)) (some (e:Int)) pat):=by
                have:=hd i hci (by rw [hee];exact hle)
                rw [hee] at this;exact this
              have hpm:pick (some ((i + 1:Nat):Int)) (some (e:Int)) pat = (pat.take e).drop (i + 1):=pick_mid pat (i + 1) e
              have hst:∀ x ∈ pick (some ((i + 1:Nat):Int)) (some (e:Int)) pat,x ∈ pat:=fun x hx=>pick_mem hx
              have hstl:=pick_length_le (some ((i + 1:Nat):Int)) (some (e:Int)) pat
              generalize pick (some ((i + 1:Nat):Int)) (some (e:Int)) pat = st at hst hstl hdo hpm ⊢
              have hlo:st.length = e - (i + 1):=by rw [hpm];simp;lia
              have hat:∀ t,t < st.length→pat[i + 1 + t]? = st[t]?:=fun t ht=>by
                rw [hpm,List.getElem?_drop,List.getElem?_take,if_pos (by lia)]
              let Γs:Option B→Option B→Option B→Option B→Option B→Ctxt:=fun bi b9 b10 b11 b12=>[some (B.val (D.str pat)),some (B.val (D.raw v)),some (B.val (D.str q)),some (B.own (res.map (itD v))),some (B.app 3),bi,some (B.val (D.int (pat.length:Int))),some (B.val (D.str [91])),some (B.val (D.int (e:Int))),b9,b10,b11,b12]
              refine EXs.cons (Γ₁:=Γs none (some (B.val (D.str (setIn st)))) none none none) ?ifd ?restd
              case ifd =>
                by_cases hm:45 ∈ st
                · rcases hdo with hno | ⟨pre,x,y,rfl,hpre,⟨x45,x92⟩,y45,y92⟩
                  · exact absurd hm hno
                  have e1:setIn (pre ++ [x,45,y]) = if [y] < [x] then pre else pre ++ [x,45,y]:=by
                    unfold setIn;rw [if_pos hm];exact dashed_eq pre x y
                  obtain ⟨p,hp1⟩:∃ p,p = pre.length:=⟨_,rfl⟩
                  have hp2:p≤1:=by rcases hpre with ⟨rfl,_⟩ | rfl <;> simp [hp1]
                  have hee2:e = i + 4 + p:=by simp at hlo;lia
                  obtain ⟨kd,hkd⟩:∃ kd,kd = i + 2 + p:=⟨_,rfl⟩
                  have c1:pat[kd]? = some 45:=by
                    have:=hat (p + 1) (by simp;lia)
                    rw [show i + 1 + (p + 1) = kd by lia] at this
                    rw [this,List.getElem?_append_right (by lia)]
                    rw [show p + 1 - pre.length = 1 by lia];rfl
                  have hch1:pick (some ((i + 1:Nat):Int)) (some (kd:Int)) pat = pre ++ [x]:=by
                    rw [pick_mid]
                    have:=mid_take pat (i + 1) kd e (by lia)
                    rw [show kd - (i + 1) = p + 1 by lia] at this
                    rw [this,← hpm,List.take_append]
                    rw [List.take_of_length_le (by lia),show p + 1 - pre.length = 1 by lia];rfl
                  have hch2:pick (some ((kd + 1:Nat):Int)) (some (e:Int)) pat = [y]:=by
                    rw [pick_mid]
                    have:(pat.take e).drop (kd + 1) = ((pat.take e).drop (i + 1)).drop (p + 2):=by
                      rw [List.drop_drop];congr 1;lia
                    rw [this,← hpm,List.drop_append,List.drop_of_length_le (by lia),show p + 2 - pre.length = 2 by lia];rfl
                  have hf1:∀ k,Ops S k (fun vs=>call (.builtin "str.find") vs) [.str pat,.str [45],.int (kd:Int),.int (e:Int)] (.int (kd:Int)):=fun k=>by
                    have h:=Ops.findC (S:=S) (k:=k) (xs:=pat) (c:=45) (lo:=kd) (hi:=e) (by lia)
                    rw [findC_some (Nat.le_refl _) (by lia) c1 (fun j h1 h2=>absurd h1 (by lia))] at h
                    exact h
                  have hf2:∀ k,Ops S k (fun vs=>call (.builtin "str.find") vs) [.str pat,.str [45],.int ((kd:Int) + 3),.int (e:Int)] (.int (-1)):=fun k=>by
                    have h:=Ops.findC (S:=S) (k:=k) (xs:=pat) (c:=45) (lo:=kd + 3) (hi:=e) (by lia)
                    rw [findC_none (fun j h1 h2=>absurd h1 (by lia))] at h
                    exact h
                  have d1:(!decide (45 ∈ pre ++ [x,45,y])) = false:=by simp
                  have own10:OwnV fi_translate 10:=.intro
                  rw [e1]
                  refine EX.ifF (TV.is (b:=!decide (45 ∈ pre ++ [x,45,y])) (by exact TV.cmp (EV.cS c6 (by decide)) (EV.nm n9 rfl) Op2.notInS rfl) d1) ?_
                  have hch2':pick (some ((kd:Int) + 1)) (some (e:Int)) pat = [y]:=by
                    rw [show (kd:Int) + 1 = ((kd + 1:Nat):Int) by lia];exact hch2
                  have hk0:decide ((kd:Int) < 0) = false:=decide_eq_false (by lia)
                  have hzi:-(pat.length:Int)≤((i + 1:Nat):Int):=by lia
                  let Lc:List D:=[.str (pre ++ [x]),.str [y]]
                  refine' EXs.to (EXs.forgetN 5 (EXs.forgetN 10 (EXs.forgetN 11 (EXs.forgetN 12 (?hB:EXs S _ fi_translate _ _ (.next (Γs (some (B.val (D.int ((kd:Int) + 1)))) (some (B.val (D.str (if [y] < [x] then pre else pre ++ [x,45,y])))) (some (B.val (D.list (if [y] < [x] then [.str pre] else Lc)))) (some (B.val (D.int 1))) (some (B.val (D.str [y])))))))))) ?hE
                  case hE=>rfl
                  case hB =>
                    refine EXs.cons (Γ₁:=Γs (some (B.val (D.int ((i + 1:Nat):Int)))) (some (B.val (D.str (pre ++ [x,45,y])))) (some (B.own [])) none none) ?s1 ?r1
                    case s1 =>
                      refine' EX.toR ?mm ?mq
                      case mm=>exact EX.ownN n10 own10 EVs.nil rfl (by (simp only [List.length_cons,List.length_nil]);decide) (Nat.le_of_ble_eq_true rfl) (fun _=>rfl) (fun _=>rfl)
                      case mq=>rfl
                    refine EXs.cons (Γ₁:=Γs (some (B.val (D.int ((i + 1:Nat):Int)))) (some (B.val (D.str (pre ++ [x,45,y])))) (some (B.own [])) (some (B.val (D.int (kd:Int)))) none) ?s2 ?r2
                    case s2 =>
                      rcases hpre with ⟨rfl,h33⟩ | rfl
                      · have hk1:(kd:Int) = ((i + 1:Nat):Int) + 1:=by simp at hp1;lia
                        have hx:=hix (i + 1) x (by have:=hat 0 (by simp);simpa using this)
                        have q2:([x] == [33]) = false:=by simp [h33]
                        rw [hk1]
                        refine' EX.toR ?mm ?mq
                        case mm=>exact EX.assign (EV.ifB (TV.cmp (EV.item (T:="str") (EV.nm n0 rfl) (EV.nm n5 rfl) rfl PySem.F.slot_str_getitem.lookup (Op2.itemS hx hzi) (fun _ _=>rfl)) (EV.cS c3 (by decide)) Op2.eqS rfl) (Or.inr ⟨q2,EV.bin (EV.nm n5 rfl) EV.cInt Op2.addI⟩)) (AS.nm n11) (fun _=>rfl) (fun _=>rfl) (fun _ _=>rfl)
                        case mq=>rfl
                      · have hk1:(kd:Int) = ((i + 1:Nat):Int) + 2:=by simp at hp1;lia
                        have hx:=hix (i + 1) 33 (by have:=hat 0 (by simp);simpa using this)
                        have q2:([33] == [33]) = true:=by decide
                        rw [hk1]
                        refine' EX.toR ?mm ?mq
                        case mm=>exact EX.assign (EV.ifB (TV.cmp (EV.item (T:="str") (EV.nm n0 rfl) (EV.nm n5 rfl) rfl PySem.F.slot_str_getitem.lookup (Op2.itemS hx hzi) (fun _ _=>rfl)) (EV.cS c3 (by decide)) Op2.eqS rfl) (Or.inl ⟨q2,EV.bin (EV.nm n5 rfl) EV.cInt Op2.addI⟩)) (AS.nm n11) (fun _=>rfl) (fun _=>rfl) (fun _ _=>rfl)
                        case mq=>rfl
                    refine EXs.cons (Γ₁:=Γs (some (B.val (D.int ((kd:Int) + 1)))) (some (B.val (D.str (pre ++ [x,45,y])))) (some (B.own [.str (pre ++ [x])])) (some (B.val (D.int (-1)))) none) ?s3 ?r3
                    case s3 =>
                      refine EX.while (WL.next (Γ₁:=Γs (some (B.val (D.int ((kd:Int) + 1)))) (some (B.val (D.str (pre ++ [x,45,y])))) (some (B.own [.str (pre ++ [x])])) (some (B.val (D.int ((kd:Int) + 3)))) none) ?w1 ?w2 (WL.brk ?w3 ?w4))
                      case w1=>exact TV.val tested_Const EV.cBool OpT.bool
                      case w3=>exact TV.val tested_Const EV.cBool OpT.bool
                      case w2 =>
                        rw [← hch1]
                        refine' EXs.to ?mm ?mq
                        case mm=>exact EXs.seq (EX.assign (EV.meth PySem.F.plainAttrs_str PySem.F.slot_str_find PySem.F.type_str_find (EV.nm n0 rfl) rfl (EVs.cons (EV.cS c6 (by decide)) (EVs.cons (EV.nm n11 rfl) (EVs.cons (EV.nm n8 rfl) EVs.nil (fun _=>rfl)) (fun _=>rfl)) (fun _=>rfl)) (by apply_assumption) (fun _=>rfl) rfl (fun _=>rfl)) (AS.nm n11) (fun _=>rfl) (fun _=>rfl) (fun _ _=>rfl)) (Rest.next (EXs.seq (EX.ifB (TV.borrowN n10 own10 rfl (TV.cmp (EV.nm n11 rfl) EV.cInt Op2.ltI rfl)) (Or.inr ⟨hk0,EXs.nil⟩)) (Rest.next (EXs.seq (EX.appendN n10 rfl (EV.sliceS (EV.nm n0 rfl) (PV.some (EV.nm n5 rfl)) (PV.some (EV.nm n11 rfl)) (fun _ _=>rfl)) (by decide) (fun _=>rfl) rfl (fun _=>rfl)) (Rest.next (EXs.seq (EX.assign (EV.bin (EV.nm n11 rfl) EV.cInt Op2.addI) (AS.nm n5) (fun _=>rfl) (fun _=>rfl) (fun _ _=>rfl)) (Rest.next (EXs.seq (EX.assign (EV.bin (EV.nm n11 rfl) EV.cInt Op2.addI) (AS.nm n11) (fun _=>rfl) (fun _=>rfl) (fun _ _=>rfl)) (Rest.next EXs.nil)))))))))
                        case mq=>rfl
                      case w4 =>
                        refine' EXs.to ?mm ?mq
                        case mm=>exact EXs.seq (EX.assign (EV.meth PySem.F.plainAttrs_str PySem.F.slot_str_find PySem.F.type_str_find (EV.nm n0 rfl) rfl (EVs.cons (EV.cS c6 (by decide)) (EVs.cons (EV.nm n11 rfl) (EVs.cons (EV.nm n8 rfl) EVs.nil (fun _=>rfl)) (fun _=>rfl)) (fun _=>rfl)) (by apply_assumption) (fun _=>rfl) rfl (fun _=>rfl)) (AS.nm n11) (fun _=>rfl) (fun _=>rfl) (fun _ _=>rfl)) (Rest.next (EXs.seq (EX.ifB (TV.borrowN n10 own10 rfl (TV.cmp (EV.nm n11 rfl) EV.cInt Op2.ltI rfl)) (Or.inl ⟨rfl,EXs.seq EX.brk (Rest.stop rfl rfl)⟩)) (Rest.stop rfl rfl)))
                        case mq=>rfl
                    refine EXs.cons (Γ₁:=Γs (some (B.val (D.int ((kd:Int) + 1)))) (some (B.val (D.str (pre ++ [x,45,y])))) (some (B.own [.str (pre ++ [x])])) (some (B.val (D.int (-1)))) (some (B.val (D.str [y])))) ?s4 ?r4
                    case s4 =>
                      rw [← hch2']
                      refine' EX.toR ?mm ?mq
                      case mm=>exact EX.assign (EV.sliceS (EV.nm n0 rfl) (PV.some (EV.nm n5 rfl)) (PV.some (EV.nm n8 rfl)) (fun _ _=>rfl)) (AS.nm n12) (fun _=>rfl) (fun _=>rfl) (fun _ _=>rfl)
                      case mq=>rfl
                    refine EXs.cons (Γ₁:=Γs (some (B.val (D.int ((kd:Int) + 1)))) (some (B.val (D.str (pre ++ [x,45,y])))) (some (B.own Lc)) (some (B.val (D.int (-1)))) (some (B.val (D.str [y])))) ?s5 ?r5
                    case s5 =>
                      have hyn:decide ([y] ≠ []) = true:=rfl
                      refine' EX.toR ?mm ?mq
                      case mm=>exact EX.ifB (TV.borrowN n10 own10 rfl (TV.val tested_Name (EV.nm n12 rfl) OpT.str)) (Or.inl ⟨hyn,EXs.seq (EX.appendN n10 rfl (EV.nm n12 rfl) (by simp only [List.length_append,List.length_cons,List.length_nil,List.length_map] at *;omega) (fun _=>rfl) rfl (fun _=>rfl)) (Rest.next EXs.nil)⟩)
                      case mq=>rfl
                    refine EXs.cons (Γ₁:=Γs (some (B.val (D.int ((kd:Int) + 1)))) (some (B.val (D.str (pre ++ [x,45,y])))) (some (B.own (if [y] < [x] then [.str pre] else Lc))) (some (B.val (D.int 1))) (some (B.val (D.str [y])))) ?s6 ?r6
                    case s6 =>
                      have hds:intD 1 (-1) 1 = [D.int 1]:=by simp [intD]
                      refine EX.for (ds:=intD 1 (-1) 1) (EV.borrowR (a:=1) (b:=0) (c:=-1) n10 rfl ?it) (It.range rfl rfl) ?fl
                      case it =>
                        show EV _ _ _ _ _ (D.rng (((Lc.length:Nat):Int) - 1) 0 (-1))
                        exact EV.call (fun _=>rfl) (Raw.ev g_range) Callee.type (EVs.cons (EV.bin (EV.call (fun _=>rfl) (Raw.ev g_len) Callee.builtin (EVs.cons (EV.nm n10 rfl) EVs.nil (fun _=>rfl)) Ops.lenL) EV.cInt Op2.subI) (EVs.cons EV.cInt (EVs.cons (EV.un EV.cInt Op1.negI) EVs.nil (fun _=>rfl)) (fun _=>rfl)) (fun _=>rfl)) (Ops.range3 (by decide) (by decide))
                      case fl =>
                        rw [hds]
                        refine FL.next (AS.nm n11) ?bd FL.nil
                        case bd =>
                          have j1:Lc[idx Lc.length ((1:Int) - 1)]? = some (.str (pre ++ [x])):=rfl
                          have j2:Lc[idx Lc.length 1]? = some (.str [y]):=rfl
                          have z1:-(Lc.length:Int)≤(1:Int) - 1:=by show -((2:Nat):Int)≤(1:Int) - 1;decide
                          have z2:-(Lc.length:Int)≤1:=by show -((2:Nat):Int)≤1;decide
                          have j3:(pre ++ [x])[idx (pre ++ [x]).length (-1)]? = some x:=by
                            have:idx (pre ++ [x]).length (-1) = pre.length:=by simp [idx];lia
                            rw [this];simp
                          have z3:-((pre ++ [x]).length:Int)≤-1:=by simp;lia
                          have j4:[y][idx [y].length 0]? = some y:=rfl
                          have z4:-(([y]:List Nat).length:Int)≤0:=by show -((1:Nat):Int)≤0;decide
                          have hgt:∀ k,Op2 S k (compareOp .Gt) (.str [x]) (.str [y]) (.bool (decide ([y] < [x]))):=fun k=>Op2.gtS
                          have hin:pick none (some (-1)) (pre ++ [x]) = pre:=by unfold pick kms_lo kms_hi;simp
                          have htl:pick (some 1) none [y] = ([]:List Nat):=rfl
                          by_cases hxy:[y] < [x]
                          · have b1:decide ([y] < [x]) = true:=decide_eq_true hxy
                            rw [if_pos hxy]
                            refine EXs.cons (EX.ifT (TV.is (b:=decide ([y] < [x])) (by exact TV.borrowN n10 own10 rfl (TV.cmp (EV.item (T:="str") (EV.item (T:="list") (EV.nm n10 rfl) (EV.bin (EV.nm n11 rfl) EV.cInt Op2.subI) rfl list_getitem_lookup (Op2.itemL j1 z1) (fun _ _=>rfl)) (EV.un EV.cInt Op1.negI) rfl PySem.F.slot_str_getitem.lookup (Op2.itemS j3 z3) (fun _ _=>rfl)) (EV.item (T:="str") (EV.item (T:="list") (EV.nm n10 rfl) (EV.nm n11 rfl) rfl list_getitem_lookup (Op2.itemL j2 z2) (fun _ _=>rfl)) EV.cInt rfl PySem.F.slot_str_getitem.lookup (Op2.itemS j4 z4) (fun _ _=>rfl)) (by apply_assumption) rfl)) b1) ?blk) EXs.nil
                            case blk =>
                              have hz1:(pick none (some (-1)) (pre ++ [x])).length + (pick (some 1) none [y]).length≤sizeLine:=by
                                rw [hin,htl];simp;lia
                              refine' EXs.cons (EX.assign (EV.borrowN n10 own10 rfl ?me ?mf) (AS.itemN n10 rfl ?ix ?b0 ?b1) ?m1 ?m2 ?m3) ?dd
                              case me=>exact EV.bin (EV.sliceST (EV.item (T:="list") (EV.nm n10 rfl) (EV.bin (EV.nm n11 rfl) EV.cInt Op2.subI) rfl list_getitem_lookup (Op2.itemL j1 z1) (fun _ _=>rfl)) PV.none (PV.some (EV.un EV.cInt Op1.negI))) (EV.sliceST (EV.item (T:="list") (EV.nm n10 rfl) (EV.nm n11 rfl) rfl list_getitem_lookup (Op2.itemL j2 z2) (fun _ _=>rfl)) (PV.some EV.cInt) PV.none) (Op2.addS hz1)
                              case mf=>rfl
                              case ix=>exact EV.bin (EV.nm n11 rfl) EV.cInt Op2.subI
                              case b0=>exact z1
                              case b1=>show (1:Int) - 1 < ((2:Nat):Int);decide
                              case m1=>intro _;rfl
                              case m2=>intro _;rfl
                              case m3=>intro _ _;rfl
                              case dd =>
                                rw [hin,htl,List.append_nil]
                                refine EXs.cons (EX.toR (EX.delItemN (i:=1) n10 rfl ?kk (by decide) ?b2) rfl) EXs.nil
                                case kk=>exact EV.nm n11 rfl
                                case b2=>show (1:Int) < ((2:Nat):Int);decide
                          · have b1:decide ([y] < [x]) = false:=decide_eq_false hxy
                            rw [if_neg hxy]
                            refine EXs.cons (EX.ifF (TV.is (b:=decide ([y] < [x])) (by exact TV.borrowN n10 own10 rfl (TV.cmp (EV.item (T:="str") (EV.item (T:="list") (EV.nm n10 rfl) (EV.bin (EV.nm n11 rfl) EV.cInt Op2.subI) rfl list_getitem_lookup (Op2.itemL j1 z1) (fun _ _=>rfl)) (EV.un EV.cInt Op1.negI) rfl PySem.F.slot_str_getitem.lookup (Op2.itemS j3 z3) (fun _ _=>rfl)) (EV.item (T:="str") (EV.item (T:="list") (EV.nm n10 rfl) (EV.nm n11 rfl) rfl list_getitem_lookup (Op2.itemL j2 z2) (fun _ _=>rfl)) EV.cInt rfl PySem.F.slot_str_getitem.lookup (Op2.itemS j4 z4) (fun _ _=>rfl)) (by apply_assumption) rfl)) b1) ?blk) EXs.nil
                            case blk=>exact EXs.nil
                    refine EXs.freezeN n10 rfl ?_
                    have hco:∀ l:List (List Nat),(l = [pre] ∨ l = [pre ++ [x],[y]])→∀ a ∈ l,92 ∉ a∧45 ∉ a:=by
                      intro l hl a ha
                      have hpn:92 ∉ pre∧45 ∉ pre:=by rcases hpre with ⟨rfl,_⟩ | rfl <;> simp
                      rcases hl with rfl | rfl
                      · simp at ha;subst ha;exact hpn
                      · simp at ha
                        rcases ha with rfl | rfl
                        · simp;exact ⟨⟨hpn.1,fun q=>x92 q.symm⟩,hpn.2,fun q=>x45 q.symm⟩
                        · simp;exact ⟨fun q=>y92 q.symm,fun q=>y45 q.symm⟩
                    obtain ⟨l,hl,hl2,hl3⟩:∃ l:List (List Nat),(l = [pre] ∨ l = [pre ++ [x],[y]])∧(if [y] < [x] then [D.str pre] else Lc) = l.map D.str∧(if [y] < [x] then pre else pre ++ [x,45,y]) = joinL [45] (l.map id):=by
                      by_cases hxy:[y] < [x]
                      · exact ⟨[pre],.inl rfl,by rw [if_pos hxy];rfl,by rw [if_pos hxy];rfl⟩
                      · exact ⟨[pre ++ [x],[y]],.inr rfl,by rw [if_neg hxy];rfl,by rw [if_neg hxy];simp [joinL]⟩
                    rw [hl2,hl3]
                    have hll:((l.map id).map fun p=>p.length + [45].length).sum≤sizeLine:=by
                      have hpl:pre.length≤1:=by lia
                      rcases hl with rfl | rfl <;> simp <;> lia
                    refine EXs.cons (EX.assign (EV.joinGen (sep:=[45]) (fn:=id) (ps:=l) ?g1 ?g2 hcode hT ?g3 ?g4 ?g5 ?g6 ?g7 ?g8 ?g9 ?g10 ?g11 hll ?g12 ?g13 ?g14 ?g15 ?g16 ?g17) (AS.nm n9) ?g18 ?g19 ?g20) EXs.nil
                    case g1=>assumption
                    case g2=>rw [hsz];decide
                    case g3=>exact hqG
                    case g4=>exact EV.nm n10 rfl
                    case g5=>rfl
                    case g6=>intro _;rfl
                    case g7=>decide
                    case g8=>rfl
                    case g9=>rfl
                    case g10=>rfl
                    case g11 =>
                      intro env C code A' E' a t s₂ m₂ ha _ hns hm
                      exact wp_elt hns hm rfl rfl (by decide) (by assumption) (by assumption) (hco l hl a ha).1 (hco l hl a ha).2 rfl rfl
                    case g12=>rcases hl with rfl | rfl <;> simp
                    case g13=>rfl
                    case g14=>intro _ _;rfl
                    case g15=>intro _;rfl
                    case g16=>intro _;rfl
                    case g17=>intro _;rfl
                    case g18=>intro _;rfl
                    case g19=>intro _;rfl
                    case g20=>intro _ _;rfl
                · have d1:(!decide (45 ∈ st)) = true:=by simp [hm]
                  have e1:setIn st = replC 92 [92,92] st:=by unfold setIn;rw [if_neg hm]
                  have hstz:st.length * 4≤sizeLine:=by lia
                  rw [e1]
                  refine' EX.forgetN 5 (?hE:EX S _ fi_translate _ _ (.next (Γs (some (B.val (D.int ((i + 1:Nat):Int)))) (some (B.val (D.str (replC 92 [92,92] st)))) none none none)))
                  case hE=>exact EX.ifB (TV.borrowN n3 own3 rfl (TV.cmp (EV.cS c6 (by decide)) (EV.nm n9 rfl) Op2.notInS rfl)) (Or.inl ⟨d1,EXs.seq (EX.assign (EV.replaceC (EV.nm n9 rfl) c7 c8 (by decide) (by simp only [List.length_append,List.length_cons,List.length_nil,List.length_map] at *;omega) (fun _=>rfl) rfl) (AS.nm n9) (fun _=>rfl) (fun _=>rfl) (fun _ _=>rfl)) (Rest.next EXs.nil)⟩)
              have hdl:(dashed st).length≤st.length∧∀ c ∈ dashed st,c ∈ st:=by
                unfold dashed
                split
                · exact ⟨by rw [List.length_take];exact Nat.min_le_right _ _,fun c hc=>List.mem_of_mem_take hc⟩
                · exact ⟨Nat.le_refl _,fun c hc=>hc⟩
              have hrl2:=replC_len 92 [92,92] st
              simp only [List.length_cons,List.length_nil] at hrl2
              have hmem:∀ c ∈ setIn st,c = 92 ∨ c ∈ pat:=by
                intro c hc
                unfold setIn at hc
                split at hc
                · exact .inr (hst c (hdl.2 c hc))
                · rcases replC_mem _ _ _ _ hc with h | h
                  · simp at h;exact .inl h
                  · exact .inr (hst c h)
              have hno:∀ c ∈ setIn st,sig c = false:=by
                intro c hc
                rcases hmem c hc with rfl | h
                · decide
                · exact hs c h
              have hru:∀ c ∈ setIn st,c < 0x110000:=by
                intro c hc
                rcases hmem c hc with rfl | h
                · decide
                · exact hu c h
              unfold setItem'
              have hrl3:(setIn st).length≤3000:=by
                unfold setIn
                split
                · have:=hdl.1;lia
                · lia
              clear hdl hmem hrl2 hdo hat hpm hlo
              show EXs _ _ _ [some (B.val (D.str pat)),some (B.val (D.raw v)),some (B.val (D.str q)),some (B.own (res.map (itD v))),some (B.app 3),none,some (B.val (D.int (pat.length:Int))),some (B.val (D.str [91])),some (B.val (D.int (e:Int))),some (B.val (D.str (setIn st))),none,none,none] _ _
              generalize setIn st = r at hno hru hrl3 ⊢
              refine EXs.seq (EX.assign (EV.subLam g_twin_re_1 hpat hcode hT (by first | assumption | (intro _ _ _;apply_assumption)) (EV.nm n9 rfl) hno (by omega) (fun _=>rfl) (fun _=>rfl) (fun _=>rfl) rfl (fun _=>rfl)) (AS.nm n9) (fun _=>rfl) (fun _=>rfl) (fun _ _=>rfl)) (Rest.next ?_)
              refine EXs.seq (EX.assign (EV.bin (EV.nm n8 rfl) EV.cInt Op2.addI) (AS.nm n5) (fun _=>rfl) (fun _=>rfl) (fun _ _=>rfl)) (Rest.next ?_)
              cases r with
              | nil =>
                have v1:setVar [] = []:=rfl
                have v2:setShown [] = [40,63,33,41]:=rfl
                rw [v1,v2]
                refine' EXs.to ?mm rfl
                case mm=>exact EXs.seq (EX.ifB (TV.borrowN n3 own3 rfl (TV.not (TV.val tested_Name (EV.nm n9 rfl) OpT.str))) (Or.inl ⟨rfl,EXs.seq (EX.appCallN n4 rfl rfl (EV.cS c11 (by decide)) hrl n3 (fun _=>rfl) (fun _=>rfl)) (Rest.next EXs.nil)⟩)) (Rest.next EXs.nil)
              | cons h tl =>
                have e1:(!decide (h :: tl ≠ [])) = false:=by simp
                have h0:(h :: tl)[idx (h :: tl).length 0]? = some h:=rfl
                have z0:-((h :: tl).length:Int)≤0:=by lia
                have zpk:=pick_length_le (some 1) none (h :: tl)
                have hpk:pick (some 1) none (h :: tl) = (h :: tl).drop 1:=pick_from (h :: tl) 1
                have hlen:(h :: tl).length≤3000:=hrl3
                by_cases e2:h :: tl = [33]
                · have e3:(h :: tl == [33]) = true:=by simp only [beq_iff_eq];exact e2
                  have v1:setVar (h :: tl) = h :: tl:=by unfold setVar;rw [if_pos (.inr e2)]
                  have v2:setShown (h :: tl) = [46]:=by unfold setShown;rw [if_neg (by simp),if_pos e2]
                  rw [v1,v2]
                  refine' EXs.to ?mm rfl
                  case mm=>exact EXs.seq (EX.ifB (TV.borrowN n3 own3 rfl (TV.not (TV.val tested_Name (EV.nm n9 rfl) OpT.str))) (Or.inr ⟨e1,EXs.seq (EX.ifB (TV.borrowN n3 own3 rfl (TV.cmp (EV.nm n9 rfl) (EV.cS c3 (by decide)) Op2.eqS rfl)) (Or.inl ⟨e3,EXs.seq (EX.appCallN n4 rfl rfl (EV.cS c12 (by decide)) hrl n3 (fun _=>rfl) (fun _=>rfl)) (Rest.next EXs.nil)⟩)) (Rest.next EXs.nil)⟩)) (Rest.next EXs.nil)
                · have e3:(h :: tl == [33]) = false:=by simp only [beq_eq_false_iff_ne];exact e2
                  have v2:setShown (h :: tl) = [91] ++ setVar (h :: tl) ++ [93]:=by unfold setShown;rw [if_neg (by simp),if_neg e2]
                  rw [v2]
                  have v3:setVar (h :: tl) = if h = 33 then [94] ++ (h :: tl).drop 1 else if h = 94 ∨ h = 91 then [92] ++ (h :: tl) else h :: tl:=by
                    unfold setVar
                    rw [if_neg (by simp only [not_or];exact ⟨by simp,e2⟩)]
                    simp only [List.head?_cons,Option.some.injEq]
                  clear v2 hlen
                  have hlen:(h :: tl).length≤3000:=hrl3
                  by_cases e4:h = 33
                  · have e5:([h] == [33]) = true:=by simp [e4]
                    rw [if_pos e4,← hpk] at v3
                    have zz:[91].length + ([94] ++ pick (some 1) none (h :: tl)).length + [93].length≤sizeLine:=by simp at zpk hlen ⊢;lia
                    rw [v3]
                    refine' EXs.to ?mm rfl
                    case mm=>exact EXs.seq (EX.ifB (TV.borrowN n3 own3 rfl (TV.not (TV.val tested_Name (EV.nm n9 rfl) OpT.str))) (Or.inr ⟨e1,EXs.seq (EX.ifB (TV.borrowN n3 own3 rfl (TV.cmp (EV.nm n9 rfl) (EV.cS c3 (by decide)) Op2.eqS rfl)) (Or.inr ⟨e3,EXs.seq (EX.ifB (TV.borrowN n3 own3 rfl (TV.cmp (EV.item (T:="str") (EV.nm n9 rfl) EV.cInt rfl PySem.F.slot_str_getitem.lookup (Op2.itemS h0 z0) (fun _ _=>rfl)) (EV.cS c3 (by decide)) Op2.eqS rfl)) (Or.inl ⟨e5,EXs.seq (EX.assign (EV.bin (EV.cS c13 (by decide)) (EV.sliceS (EV.nm n9 rfl) (PV.some EV.cInt) PV.none (fun _ _=>rfl)) (Op2.addS (by simp only [List.length_append,List.length_cons,List.length_nil,List.length_map] at *;omega))) (AS.nm n9) (fun _=>rfl) (fun _=>rfl) (fun _ _=>rfl)) (Rest.next EXs.nil)⟩)) (Rest.next (EXs.seq (EX.appCallN n4 rfl rfl (EV.fstr3 c2 c4 (EV.nm n9 rfl) zz) hrl n3 (fun _=>rfl) (fun _=>rfl)) (Rest.next EXs.nil)))⟩)) (Rest.next EXs.nil)⟩)) (Rest.next EXs.nil)
                  · have e5:([h] == [33]) = false:=by simp [e4]
                    rw [if_neg e4] at v3
                    have e7:∀ k:Nat,Op2 S k (compareOp .In) (.str [h]) (.tup [.str [94],.str [91]]) (.bool (decide (h = 94 ∨ h = 91))):=by
                      intro k
                      have ho:okC [h] = true:=by
                        have:=hru h (.head _)
                        simp [okC];lia
                      exact bool_any (P:=fun b=>Op2 S k (compareOp .In) (.str [h]) (.tup [.str [94],.str [91]]) (.bool b)) (by simp) (Op2.inT (m:=true) ho (by intro e he;simp at he;rcases he with rfl | rfl <;> decide))
                    by_cases e6:h = 94 ∨ h = 91
                    · rw [if_pos e6] at v3
                      rw [decide_eq_true e6] at e7
                      have zz:[91].length + ([92] ++ h :: tl).length + [93].length≤sizeLine:=by simp at hlen ⊢;lia
                      rw [v3]
                      refine' EXs.to ?mm rfl
                      case mm=>exact EXs.seq (EX.ifB (TV.borrowN n3 own3 rfl (TV.not (TV.val tested_Name (EV.nm n9 rfl) OpT.str))) (Or.inr ⟨e1,EXs.seq (EX.ifB (TV.borrowN n3 own3 rfl (TV.cmp (EV.nm n9 rfl) (EV.cS c3 (by decide)) Op2.eqS rfl)) (Or.inr ⟨e3,EXs.seq (EX.ifB (TV.borrowN n3 own3 rfl (TV.cmp (EV.item (T:="str") (EV.nm n9 rfl) EV.cInt rfl PySem.F.slot_str_getitem.lookup (Op2.itemS h0 z0) (fun _ _=>rfl)) (EV.cS c3 (by decide)) Op2.eqS rfl)) (Or.inr ⟨e5,EXs.seq (EX.ifB (TV.borrowN n3 own3 rfl (TV.cmp (EV.item (T:="str") (EV.nm n9 rfl) EV.cInt rfl PySem.F.slot_str_getitem.lookup (Op2.itemS h0 z0) (fun _ _=>rfl)) (EV.tup (EVs.cons (EV.cS c13 (by decide)) (EVs.cons (EV.cS c2 (by decide)) EVs.nil (fun _=>rfl)) (fun _=>rfl)) (by (simp only [List.length_cons,List.length_nil]);decide)) (by apply_assumption) rfl)) (Or.inl ⟨rfl,EXs.seq (EX.assign (EV.bin (EV.cS c7 (by decide)) (EV.nm n9 rfl) (Op2.addS (by simp only [List.length_append,List.length_cons,List.length_nil,List.length_map] at *;omega))) (AS.nm n9) (fun _=>rfl) (fun _=>rfl) (fun _ _=>rfl)) (Rest.next EXs.nil)⟩)) (Rest.next EXs.nil)⟩)) (Rest.next (EXs.seq (EX.appCallN n4 rfl rfl (EV.fstr3 c2 c4 (EV.nm n9 rfl) zz) hrl n3 (fun _=>rfl) (fun _=>rfl)) (Rest.next EXs.nil)))⟩)) (Rest.next EXs.nil)⟩)) (Rest.next EXs.nil)
                    · rw [if_neg e6] at v3
                      rw [decide_eq_false e6] at e7
                      have zz:[91].length + (h :: tl).length + [93].length≤sizeLine:=by simp at hlen ⊢;lia
                      rw [v3]
                      refine' EXs.to ?mm rfl
                      case mm=>exact EXs.seq (EX.ifB (TV.borrowN n3 own3 rfl (TV.not (TV.val tested_Name (EV.nm n9 rfl) OpT.str))) (Or.inr ⟨e1,EXs.seq (EX.ifB (TV.borrowN n3 own3 rfl (TV.cmp (EV.nm n9 rfl) (EV.cS c3 (by decide)) Op2.eqS rfl)) (Or.inr ⟨e3,EXs.seq (EX.ifB (TV.borrowN n3 own3 rfl (TV.cmp (EV.item (T:="str") (EV.nm n9 rfl) EV.cInt rfl PySem.F.slot_str_getitem.lookup (Op2.itemS h0 z0) (fun _ _=>rfl)) (EV.cS c3 (by decide)) Op2.eqS rfl)) (Or.inr ⟨e5,EXs.seq (EX.ifB (TV.borrowN n3 own3 rfl (TV.cmp (EV.item (T:="str") (EV.nm n9 rfl) EV.cInt rfl PySem.F.slot_str_getitem.lookup (Op2.itemS h0 z0) (fun _ _=>rfl)) (EV.tup (EVs.cons (EV.cS c13 (by decide)) (EVs.cons (EV.cS c2 (by decide)) EVs.nil (fun _=>rfl)) (fun _=>rfl)) (by (simp only [List.length_cons,List.length_nil]);decide)) (by apply_assumption) rfl)) (Or.inr ⟨rfl,EXs.nil⟩)) (Rest.next EXs.nil)⟩)) (Rest.next (EXs.seq (EX.appCallN n4 rfl rfl (EV.fstr3 c2 c4 (EV.nm n9 rfl) zz) hrl n3 (fun _=>rfl) (fun _=>rfl)) (Rest.next EXs.nil)))⟩)) (Rest.next EXs.nil)⟩)) (Rest.next EXs.nil)
        · rw [if_neg c91]
          have b91:([c] == [91]) = false:=by simp [c91]
          refine ⟨(some (B.val (D.str [c])),t2,t3),Or.inl ?_⟩
          simp only [List.map_append,List.map_cons,List.map_nil,← hcast,itD]
          refine' EXs.to ?mm rfl
          case mm=>exact EXs.seq (EX.assign (EV.item (T:="str") (EV.nm n0 rfl) (EV.nm n5 rfl) rfl PySem.F.slot_str_getitem.lookup (Op2.itemS hi0 zi) (fun _ _=>rfl)) (AS.nm n7) (fun _=>rfl) (fun _=>rfl) (fun _ _=>rfl)) (Rest.next (EXs.seq (EX.assign (EV.bin (EV.nm n5 rfl) EV.cInt Op2.addI) (AS.nm n5) (fun _=>rfl) (fun _=>rfl) (fun _ _=>rfl)) (Rest.next (EXs.seq (EX.ifB (TV.borrowN n3 own3 rfl (TV.cmp (EV.nm n7 rfl) (EV.cS c0 (by decide)) Op2.eqS rfl)) (Or.inr ⟨b42,EXs.seq (EX.ifB (TV.borrowN n3 own3 rfl (TV.cmp (EV.nm n7 rfl) (EV.cS c1 (by decide)) Op2.eqS rfl)) (Or.inr ⟨b63,EXs.seq (EX.ifB (TV.borrowN n3 own3 rfl (TV.cmp (EV.nm n7 rfl) (EV.cS c2 (by decide)) Op2.eqS rfl)) (Or.inr ⟨b91,EXs.seq (EX.appCallN n4 rfl rfl (EV.call (fun _=>rfl) (Raw.ev g_escape) k_escape (EVs.cons (EV.nm n7 rfl) EVs.nil (fun _=>rfl)) (by apply_assumption)) hrl n3 (fun _=>rfl) (fun _=>rfl)) (Rest.next EXs.nil)⟩)) (Rest.next EXs.nil)⟩)) (Rest.next EXs.nil)⟩)) (Rest.next EXs.nil)))))
  · intro t' hc hI
    show EXs _ _ _ _ _ (.ret (.list ((looped (trGo pat) (trStep q pat) pat.length ([],0)).1.map (itD v))))
    generalize looped (trGo pat) (trStep q pat) pat.length ([],0) = fin at hc hI ⊢
    have e:((fin.2:Int) == (pat.length:Int)) = true:=by
      simp only [trGo,decide_eq_false_iff_not] at hc
      simp;lia
    refine EXs.cons (EX.assert (TV.is (b:=((fin.2:Int) == (pat.length:Int))) (by exact TV.cmp (EV.nm n5 rfl) (EV.nm n6 rfl) Op2.eqI rfl) e)) ?_
    refine EXs.freezeN n3 rfl ?_
    dsimp only [List.set_cons_zero,List.set_cons_succ]
    refine' EXs.to ?mm rfl
    case mm=>exact EXs.seq (EX.ret (EV.nm n3 rfl)) (Rest.stop rfl rfl)
theorem get_sep_ok {k:Nat} {x:List Nat}:Ops S (k + 1) (fun vs=>call (.ref 69) vs) [.str x] (.str [47]):=by
  have n0:=@n_get_sep_0
  have g_isinstance:=g_get_sep_isinstance hK
  have g_bytes:=g_get_sep_bytes hK
  have c0:Cs "/" [47]:=rfl
  refine Fn.intro (f:=fi_get_sep) hK.fn_get_sep rfl ?_
  show EXs S _ fi_get_sep [some (B.val _)] _ _
  conv=>arg 5;whnf
  refine' EXs.to ?mm rfl
  case mm=>exact EXs.seq (EX.ifB (TV.val tested_Call (EV.call (fun _=>rfl) (Raw.ev g_isinstance) Callee.builtin (EVs.cons (EV.nm n0 rfl) (EVs.cons (Raw.ev g_bytes) EVs.nil (fun _=>rfl)) (fun _=>rfl)) Ops.isinstSB) OpT.bool) (Or.inr ⟨rfl,EXs.seq (EX.ret (EV.cS c0 (by decide))) (Rest.stop rfl rfl)⟩)) (Rest.stop rfl rfl)
noncomputable def cutI (p:List Nat):Int:=rfindI 47 p + 1
noncomputable def pSplit (p:List Nat):List Nat × List Nat :=
  (if pick none (some (cutI p)) p ≠ []∧pick none (some (cutI p)) p ≠ List.replicate (pick none (some (cutI p)) p).length 47 then rstripC 47 (pick none (some (cutI p)) p) else pick none (some (cutI p)) p,pick (some (cutI p)) none p)
set_option maxHeartbeats 4000000 in
theorem split_ok {k:Nat} {x:List Nat} (hx:x.length≤100000):Ops S (k + 2) (fun vs=>call (.ref 149) vs) [.str x] (.tup [.str (pSplit x).1,.str (pSplit x).2]):=by
  have n0:=@n_split_0
  have n1:=@n_split_1
  have n2:=@n_split_2
  have n3:=@n_split_3
  have n4:=@n_split_4
  have g_fspath:=g_split_fspath hK
  have k_fspath:=hK.cal_fspath
  have g_get_sep:=g_split_get_sep hK
  have k_get_sep:=hK.cal_get_sep
  have g_len:=g_split_len hK
  refine Fn.intro (f:=fi_split) hK.fn_split rfl ?_
  show EXs S _ fi_split [some (B.val _),none,none,none,none] _ _
  conv=>arg 5;whnf
  have hf:∀ {k x},Ops S (k + 1) (fun vs=>call (.ref 142) vs) [.str x] (.str x):=fspath_ok hK
  have hg:∀ {k x},Ops S (k + 1) (fun vs=>call (.ref 69) vs) [.str x] (.str [47]):=get_sep_ok hK
  refine EXs.seq (EX.assign (EV.call (fun _=>rfl) (Raw.ev g_fspath) k_fspath (EVs.cons (EV.nm n0 rfl) EVs.nil (fun _=>rfl)) (by apply_assumption)) (AS.nm n0) (fun _=>rfl) (fun _=>rfl) (fun _ _=>rfl)) (Rest.next ?_)
  refine EXs.seq (EX.assign (EV.call (fun _=>rfl) (Raw.ev g_get_sep) k_get_sep (EVs.cons (EV.nm n0 rfl) EVs.nil (fun _=>rfl)) (by apply_assumption)) (AS.nm n1) (fun _=>rfl) (fun _=>rfl) (fun _ _=>rfl)) (Rest.next ?_)
  refine EXs.seq (EX.assign (EV.bin (EV.meth PySem.F.plainAttrs_str PySem.F.slot_str_rfind PySem.F.type_str_rfind (EV.nm n0 rfl) rfl (EVs.cons (EV.nm n1 rfl) EVs.nil (fun _=>rfl)) (by with_reducible exact Ops.rfindC) (fun _=>rfl) rfl (fun _=>rfl)) EV.cInt Op2.addI) (AS.nm n2) (fun _=>rfl) (fun _=>rfl) (fun _ _=>rfl)) (Rest.next ?_)
  refine EXs.seq (EX.assign2N n3 n4 (EV.tup (EVs.cons (EV.sliceS (EV.nm n0 rfl) PV.none (PV.some (EV.nm n2 rfl)) (fun _ _=>rfl)) (EVs.cons (EV.sliceS (EV.nm n0 rfl) (PV.some (EV.nm n2 rfl)) PV.none (fun _ _=>rfl)) EVs.nil (fun _=>rfl)) (fun _=>rfl)) (by (simp only [List.length_cons,List.length_nil]);decide)) rfl (by decide) rfl rfl rfl (fun _=>rfl)) (Rest.next ?_)
  unfold pSplit
  have hi:rfindI 47 x + 1 = cutI x:=rfl
  rw [hi]
  have hl:=pick_length_le none (some (cutI x)) x
  generalize pick none (some (cutI x)) x = head at hl ⊢
  generalize pick (some (cutI x)) none x = tail
  have hll:head.length≤100000:=by lia
  by_cases h1:head = []
  · have b1:decide (head ≠ []) = false:=by simp [h1]
    rw [if_neg (by simp [h1])]
    refine' EXs.to ?mm rfl
    case mm=>exact EXs.seq (EX.ifB (TV.boolOp (ATV.andB (TV.val tested_Name (EV.nm n3 rfl) OpT.str) (Or.inr ⟨b1,rfl⟩))) (Or.inr ⟨rfl,EXs.nil⟩)) (Rest.next (EXs.seq (EX.ret (EV.tup (EVs.cons (EV.nm n3 rfl) (EVs.cons (EV.nm n4 rfl) EVs.nil (fun _=>rfl)) (fun _=>rfl)) (by (simp only [List.length_cons,List.length_nil]);decide))) (Rest.stop rfl rfl)))
  · have b1:decide (head ≠ []) = true:=by simp [h1]
    by_cases h2:head = List.replicate head.length 47
    · have b2:(head != List.replicate head.length 47) = false:=by simp only [bne_eq_false_iff_eq];exact h2
      rw [if_neg (fun h=>h.2 h2)]
      refine' EXs.to ?mm rfl
      case mm=>exact EXs.seq (EX.ifB (TV.boolOp (ATV.andB (TV.val tested_Name (EV.nm n3 rfl) OpT.str) (Or.inl ⟨b1,ATV.andB (TV.cmp (EV.nm n3 rfl) (EV.bin (EV.nm n1 rfl) (EV.call (fun _=>rfl) (Raw.ev g_len) Callee.builtin (EVs.cons (EV.nm n3 rfl) EVs.nil (fun _=>rfl)) Ops.lenS) (Op2.mulC hll)) Op2.neS rfl) (Or.inr ⟨b2,rfl⟩)⟩))) (Or.inr ⟨rfl,EXs.nil⟩)) (Rest.next (EXs.seq (EX.ret (EV.tup (EVs.cons (EV.nm n3 rfl) (EVs.cons (EV.nm n4 rfl) EVs.nil (fun _=>rfl)) (fun _=>rfl)) (by (simp only [List.length_cons,List.length_nil]);decide))) (Rest.stop rfl rfl)))
    · have b2:(head != List.replicate head.length 47) = true:=by simp only [bne_iff_ne];exact h2
      rw [if_pos ⟨h1,h2⟩]
      refine' EXs.to ?mm rfl
      case mm=>exact EXs.seq (EX.ifB (TV.boolOp (ATV.andB (TV.val tested_Name (EV.nm n3 rfl) OpT.str) (Or.inl ⟨b1,ATV.andB (TV.cmp (EV.nm n3 rfl) (EV.bin (EV.nm n1 rfl) (EV.call (fun _=>rfl) (Raw.ev g_len) Callee.builtin (EVs.cons (EV.nm n3 rfl) EVs.nil (fun _=>rfl)) Ops.lenS) (Op2.mulC hll)) Op2.neS rfl) (Or.inl ⟨b2,ATV.andNil⟩)⟩))) (Or.inl ⟨rfl,EXs.seq (EX.assign (EV.meth PySem.F.plainAttrs_str PySem.F.slot_str_rstrip PySem.F.type_str_rstrip (EV.nm n3 rfl) rfl (EVs.cons (EV.nm n1 rfl) EVs.nil (fun _=>rfl)) (by with_reducible exact Ops.rstripC) (fun _=>rfl) rfl (fun _=>rfl)) (AS.nm n3) (fun _=>rfl) (fun _=>rfl) (fun _ _=>rfl)) (Rest.next EXs.nil)⟩)) (Rest.next (EXs.seq (EX.ret (EV.tup (EVs.cons (EV.nm n3 rfl) (EVs.cons (EV.nm n4 rfl) EVs.nil (fun _=>rfl)) (fun _=>rfl)) (by (simp only [List.length_cons,List.length_nil]);decide))) (Rest.stop rfl rfl)))
omit hK in
theorem joinL_snoc (c:Nat) (p:List Nat):∀ (a:List (List Nat)),a ≠ []→joinL [c] (a ++ [p]) = joinL [c] a ++ c :: p
  | [],h=>absurd rfl h
  | [x],_=>by simp [joinL]
  | x :: y :: r,_=>by
    have ih:=joinL_snoc c p (y :: r) (by simp)
    show x ++ [c] ++ joinL [c] (y :: r ++ [p]) = x ++ [c] ++ joinL [c] (y :: r) ++ c :: p
    rw [ih];simp
omit hK in
theorem lastC_no {c:Nat}:∀ (xs:List Nat),(∀ x ∈ xs,x ≠ c)→lastC c xs = none
  | [],_=>rfl
  | x :: xs,h=>by rw [lastC,lastC_no xs fun y hy=>h y (.tail _ hy),if_neg (h x (.head _))]
omit hK in
theorem lastC_app {c:Nat} (p:List Nat) (h:∀ x ∈ p,x ≠ c):∀ xs:List Nat,lastC c (xs ++ c :: p) = some xs.length
  | []=>by rw [List.nil_append,lastC,lastC_no p h,if_pos rfl];rfl
  | x :: xs=>by
    show lastC c (x :: (xs ++ c :: p)) = _
    rw [lastC,lastC_app p h xs];rfl
omit hK in
theorem joinL_last {c:Nat}:∀ (a:List (List Nat)),(∀ p ∈ a,p ≠ []∧∀ x ∈ p,x ≠ c)→a ≠ []→∃ y z,joinL [c] a = y ++ [z]∧z ≠ c
  | [],_,h=>absurd rfl h
  | [p],h,_=>by
    refine e0_2 (h p (.head _)) (fun h1 h2=>?_)
    rcases nil_or_snoc p with rfl | ⟨y,z,rfl⟩
    · exact absurd rfl h1
    · exact ⟨y,z,rfl,h2 z (by simp)⟩
  | p :: q :: r,h,_=>by
    refine e2_2 (joinL_last (q :: r) (fun p hp=>h p (.tail _ hp)) (by simp)) (fun y z e hz=>?_)
    exact ⟨p ++ [c] ++ y,z,by show p ++ [c] ++ joinL [c] (q :: r) = _;rw [e];simp,hz⟩
noncomputable abbrev NoEmp (a:List (List Nat)):Prop:=∀ p ∈ a,p ≠ []∧∀ x ∈ p,x ≠ 47
omit hK in
theorem split_snoc {a:List (List Nat)} {p:List Nat} (h:NoEmp (a ++ [p])):pSplit (joinL [47] (a ++ [p])) = (joinL [47] a,p):=by
  refine e0_2 (h p (by simp)) (fun p1 p2=>?_)
  by_cases ha:a = []
  · subst ha
    have e:joinL [47] ([] ++ [p]) = p:=rfl
    rw [e]
    have hi:cutI p = ((0:Nat):Int):=by unfold cutI rfindI;rw [lastC_no p p2];rfl
    unfold pSplit
    rw [hi,pick_to,pick_from]
    simp [joinL]
  · rw [joinL_snoc 47 p a ha]
    have hi:cutI (joinL [47] a ++ 47 :: p) = (((joinL [47] a).length + 1:Nat):Int):=by unfold cutI rfindI;rw [lastC_app p p2];simp
    unfold pSplit
    rw [hi,pick_to,pick_from]
    have e1:(joinL [47] a ++ 47 :: p).take ((joinL [47] a).length + 1) = joinL [47] a ++ [47]:=by
      rw [List.take_append,List.take_of_length_le (Nat.le_succ _)];simp
    have e2:(joinL [47] a ++ 47 :: p).drop ((joinL [47] a).length + 1) = p:=by
      rw [List.drop_append];simp
    rw [e1,e2]
    refine e2_2 (joinL_last a (fun p hp=>h p (by simp [hp])) ha) (fun y z e hz=>?_)
    rw [e]
    have n1:¬ (y ++ [z] ++ [47] = []):=by simp
    have n2:¬ (y ++ [z] ++ [47] = List.replicate (y ++ [z] ++ [47]).length 47):=by
      intro q
      have:z ∈ List.replicate (y ++ [z] ++ [47]).length 47:=by rw [← q];simp
      exact hz (List.eq_of_mem_replicate this)
    rw [if_pos ⟨n1,n2⟩]
    unfold rstripC
    have:((y ++ [z] ++ [47]).reverse.takeWhile (· == 47)).length = 1:=by simp [hz]
    have e4:(y ++ [z] ++ [47]).length - 1 = (y ++ [z]).length:=by simp
    rw [this,e4,List.take_left]
set_option maxHeartbeats 4000000 in
theorem climb_ok {k:Nat} {ps:List (List Nat)} (hp:NoEmp ps) (hl:lens ps≤100000):Ops S (k + 3) (fun vs=>call (.ref 184) vs) [.str (joinL [47] ps)] (.list (ps.map .str)):=by
  have n0:=@n_law_climb_0
  have n1:=@n_law_climb_1
  have n2:=@n_law_climb_2
  have g_split:=g_law_climb_split hK
  have k_split:=hK.cal_split
  have c0:Cs "" []:=rfl
  refine Fn.intro (f:=fi_law_climb) hK.fn_law_climb rfl ?_
  show EXs S _ fi_law_climb [some (B.val _),none,none] _ _
  conv=>arg 5;whnf
  have hsz:=sizeLine_eq
  have own1:OwnV fi_law_climb 1:=.intro
  refine EXs.seq (EX.ownN n1 own1 EVs.nil rfl (by (simp only [List.length_cons,List.length_nil]);decide) (Nat.le_of_ble_eq_true rfl) (fun _=>rfl) (fun _=>rfl)) (Rest.next ?_)
  refine EXs.whileRun (σ:=List (List Nat) × List (List Nat)) (τ:=Option B) (fun s t=>[some (B.val (D.str (joinL [47] s.1))),some (B.own (s.2.map D.str)),t])
    (fun s=>decide (s.1 ≠ [])) (fun s=>(s.1.dropLast,s.1.getLastD [] :: s.2)) (fun s=>s.1 ++ s.2 = ps) (fun s=>s.1.length) ps.length (ps,[]) none rfl (Nat.le_refl _) (by simp) ?_ ?_ ?_
  · rintro ⟨a,b⟩ t hI
    simp only at hI ⊢
    have hb:decide (a ≠ []) = (joinL [47] a != []):=by
      by_cases ha:a = []
      · subst ha;rfl
      · (refine e2_2 (joinL_last (c:=47) a (fun p hq=>hp p (by rw [← hI];simp [hq])) ha) (fun y z e _=>?_))
        rw [decide_eq_true ha,e];simp
    rw [hb]
    exact TV.cmp (EV.nm n0 rfl) (EV.cS c0 (by decide)) Op2.neS rfl
  · rintro ⟨a,b⟩ t hI hc
    simp only [decide_eq_true_eq] at hI hc ⊢
    rcases nil_or_snoc a with rfl | ⟨a',p,rfl⟩
    · exact absurd rfl hc
    · have hsp:=split_snoc (a:=a') (p:=p) (fun q hq=>hp q (by rw [← hI];simp at hq ⊢;rcases hq with h | h <;> simp [h]))
      have hjl:=joinL_len [47] (a' ++ [p])
      have hlen:(joinL [47] (a' ++ [p])).length≤100000:=by
        have h1:lens ps = lens (a' ++ [p]) + lens b:=by rw [← hI,lens_append]
        have h2:lens (a' ++ [p]) = ((a' ++ [p]).map fun p=>p.length + [47].length).sum:=rfl
        lia
      have hbl:b.length≤lens ps:=by
        have:=lens_length ps
        have h1:ps.length = (a' ++ [p]).length + b.length:=by rw [← hI,List.length_append]
        lia
      have hso:∀ k:Nat,Ops S (k + 2) (fun vs=>call (.ref 149) vs) [.str (joinL [47] (a' ++ [p]))] (.tup [.str (joinL [47] a'),.str p]):=by
        intro k
        have:=split_ok (k:=k) hK hlen
        rw [hsp] at this;exact this
      rw [List.dropLast_concat,show (a' ++ [p]).getLastD [] = p by simp [List.getLastD_eq_getLast?]]
      have hml:(b.map D.str).length < sizeLine:=by simp;lia
      refine ⟨by rw [← hI];simp,by simp,some (B.val (D.str p)),Or.inl ?_⟩
      simp only [List.map_cons]
      refine' EXs.to ?mm rfl
      case mm=>exact EXs.seq (EX.assign (EV.call (fun _=>rfl) (Raw.ev g_split) k_split (EVs.cons (EV.nm n0 rfl) EVs.nil (fun _=>rfl)) (by apply_assumption)) (AS.tup (ASs.cons (AS.nm n0) (ASs.cons (AS.nm n2) ASs.nil (fun _=>rfl)) (fun _=>rfl))) (fun _=>rfl) (fun _=>rfl) (fun _ _=>rfl)) (Rest.next (EXs.seq (EX.insert0N n1 rfl (EVs.cons EV.cInt (EVs.cons (EV.nm n2 rfl) EVs.nil (fun _=>rfl)) (fun _=>rfl)) hml (fun _=>rfl) rfl (fun _=>rfl)) (Rest.next EXs.nil)))
  · intro t hc hI
    have hf:(looped (fun s:List (List Nat) × List (List Nat)=>decide (s.1 ≠ [])) (fun s=>(s.1.dropLast,s.1.getLastD [] :: s.2)) ps.length (ps,[])).1 = []:=by simpa using hc
    generalize looped (fun s:List (List Nat) × List (List Nat)=>decide (s.1 ≠ [])) (fun s=>(s.1.dropLast,s.1.getLastD [] :: s.2)) ps.length (ps,[]) = fin at hI hf ⊢
    rw [hf] at hI ⊢
    rw [List.nil_append] at hI
    rw [hI]
    refine EXs.freezeN n1 rfl ?_
    dsimp only [List.set_cons_zero,List.set_cons_succ]
    refine' EXs.to ?mm rfl
    case mm=>exact EXs.seq (EX.ret (EV.nm n1 rfl)) (Rest.stop rfl rfl)
omit hK in
theorem str_at {ws:List (List Nat)} {i:Nat} (h:i < ws.length):(ws.map D.str)[idx (ws.map D.str).length ((i:Nat):Int)]? = some (D.str (ws.getD i [])):=by
  have e:idx (ws.map D.str).length ((i:Nat):Int) = i:=by unfold idx;rw [if_neg (by lia)];rfl
  rw [e,List.getElem?_map,List.getElem?_eq_getElem h,List.getD_eq_getElem?_getD,List.getElem?_eq_getElem h];rfl
noncomputable abbrev FgSt:=List (List Nat) × Nat
noncomputable def fgStep (ws:List (List Nat)) (s:FgSt) (_:Nat):FgSt:=if 0 < s.2 then (s.1 ++ [ws.getD ((s.2 - 1) % ws.length) []],(s.2 - 1) / ws.length) else s
noncomputable def pFigs (ws:List (List Nat)) (x:Int):List (List Nat):=((List.range 6).foldl (fgStep ws) ([],x.natAbs)).1
set_option maxHeartbeats 4000000 in
theorem law_figures_ok {k:Nat} {x:Int} {ws:List (List Nat)} (hw:ws ≠ []) (hl:ws.length < 100):Ops S (k + 1) (fun vs=>call (.ref 177) vs) [.int x,.list (ws.map .str)] (.list ((pFigs ws x).map .str)):=by
  have n0:=@n_law_figures_0
  have n1:=@n_law_figures_1
  have n2:=@n_law_figures_2
  have n3:=@n_law_figures_3
  have g_abs:=g_law_figures_abs hK
  have g_range:=g_law_figures_range hK
  have g_len:=g_law_figures_len hK
  refine Fn.intro (f:=fi_law_figures) hK.fn_law_figures rfl ?_
  show EXs S _ fi_law_figures [some (B.val _),some (B.val _),none,none] _ _
  conv=>arg 5;whnf
  have hsz:=sizeLine_eq
  refine EXs.seq (EX.assign2Own n2 n0 (EV.call (fun _=>rfl) (Raw.ev g_abs) Callee.builtin (EVs.cons (EV.nm n0 rfl) EVs.nil (fun _=>rfl)) Ops.absI) rfl (by decide) rfl rfl rfl (fun _=>rfl) (fun _=>rfl) rfl (Nat.le_of_ble_eq_true rfl)) (Rest.next ?_)
  have ha:(if x < 0 then -x else x) = ((x.natAbs:Nat):Int):=by split <;> lia
  rw [ha]
  have hm:0 < ws.length:=List.length_pos_iff.mpr hw
  refine EXs.forFold (σ:=FgSt) (τ:=Option B) (fun s t=>[some (B.val (D.int (s.2:Nat))),some (B.val (D.list (ws.map D.str))),some (B.own (s.1.map D.str)),t]) (fun i:Nat=>D.int (i:Int)) (fgStep ws) (fun n s=>s.1.length + n≤6) (List.range 6) ([],x.natAbs) none rfl (d:=.rng 0 ((6:Nat):Int) 1) ?_ (It.range0 (n:=6) (small0 (by lia))) (by simp) ?_ ?_
  · show EV _ _ _ _ _ (D.rng 0 6 1)
    exact EV.call (fun _=>rfl) (Raw.ev g_range) Callee.type (EVs.cons EV.cInt EVs.nil (fun _=>rfl)) Ops.range1
  · rintro m ⟨told,n⟩ t i hi hI
    have hn:(told.map D.str).length < sizeLine:=by simp at hI ⊢;lia
    by_cases h0:0 < n
    · have b0:decide (((n:Nat):Int) > 0) = true:=by simp;lia
      simp only [fgStep,if_pos h0]
      have hs1:((((ws.map D.str).length:Nat):Int)).natAbs.log2 < 200:=by
        rw [Int.natAbs_natCast,Nat.log2_lt (by simp;lia)]
        refine Nat.lt_of_lt_of_le ?_ (Nat.pow_le_pow_right (n:=2) (by decide) (show 7≤200 by decide))
        simp;lia
      have hs2:((((ws.map D.str).length:Nat):Int)).natAbs.log2 < 9000:=by lia
      have hne:(((ws.map D.str).length:Nat):Int) ≠ 0:=by simp;lia
      have hc:(((n:Nat):Int) - 1) = ((n - 1:Nat):Int):=by lia
      have e1:(((n:Nat):Int) - 1).fmod (((ws.map D.str).length:Nat):Int) = (((n - 1) % ws.length:Nat):Int):=by
        rw [hc,Int.fmod_eq_emod_of_nonneg _ (by lia)];simp
      have e2:(((n:Nat):Int) - 1).fdiv (((ws.map D.str).length:Nat):Int) = (((n - 1) / ws.length:Nat):Int):=by
        rw [hc,Int.fdiv_eq_ediv_of_nonneg _ (by lia)];simp
      have hi2:(n - 1) % ws.length < ws.length:=Nat.mod_lt _ hm
      have hh:(ws.map D.str)[idx (ws.map D.str).length ((((n:Nat):Int) - 1).fmod (((ws.map D.str).length:Nat):Int))]? = some (D.str (ws.getD ((n - 1) % ws.length) [])):=by
        rw [e1];exact str_at hi2
      have hl2:-(((ws.map D.str).length:Nat):Int)≤(((n:Nat):Int) - 1).fmod (((ws.map D.str).length:Nat):Int):=by rw [e1];lia
      refine ⟨by simp at hI ⊢;lia,_,some (B.val (D.int (i:Int))),.nm n3,Or.inl ?_⟩
      rw [← e2]
      refine' EXs.to ?mm ?mq
      case mm=>exact EXs.seq (EX.ifB (TV.cmp (EV.nm n0 rfl) EV.cInt Op2.gtI rfl) (Or.inl ⟨b0,EXs.seq (EX.appendN n2 rfl (EV.item (T:="list") (EV.nm n1 rfl) (EV.bin (EV.bin (EV.nm n0 rfl) EV.cInt Op2.subI) (EV.call (fun _=>rfl) (Raw.ev g_len) Callee.builtin (EVs.cons (EV.nm n1 rfl) EVs.nil (fun _=>rfl)) Ops.lenL) (Op2.modI hne hs1)) rfl list_getitem_lookup (Op2.itemL hh hl2) (fun _ _=>rfl)) hn (fun _=>rfl) rfl (fun _=>rfl)) (Rest.next (EXs.seq (EX.assign (EV.bin (EV.bin (EV.nm n0 rfl) EV.cInt Op2.subI) (EV.call (fun _=>rfl) (Raw.ev g_len) Callee.builtin (EVs.cons (EV.nm n1 rfl) EVs.nil (fun _=>rfl)) Ops.lenL) (Op2.idivI hne hs2)) (AS.nm n0) (fun _=>rfl) (fun _=>rfl) (fun _ _=>rfl)) (Rest.next EXs.nil)))⟩)) (Rest.next EXs.nil)
      case mq=>simp
    · have b0:decide (((n:Nat):Int) > 0) = false:=by simp;lia
      simp only [fgStep,if_neg h0]
      refine ⟨by simp at hI ⊢;lia,_,some (B.val (D.int (i:Int))),.nm n3,Or.inl ?_⟩
      refine' EXs.to ?mm rfl
      case mm=>exact EXs.seq (EX.ifB (TV.cmp (EV.nm n0 rfl) EV.cInt Op2.gtI rfl) (Or.inr ⟨b0,EXs.nil⟩)) (Rest.next EXs.nil)
  · intro t' hI
    unfold pFigs
    refine EXs.freezeN n2 rfl ?_
    dsimp only [List.set_cons_zero,List.set_cons_succ]
    refine' EXs.to ?mm rfl
    case mm=>exact EXs.seq (EX.ret (EV.nm n2 rfl)) (Rest.stop rfl rfl)
noncomputable def tkIn (part:List Nat):List Nat:=if part[1]? = some 94 then pick (some 2) (some (-1)) part else pick (some 1) (some (-1)) part
noncomputable def tkHeld (ins:List Nat) (c:Nat):Bool:=if pick (some 1) (some 2) ins = [45] then decide (ins.getD 0 0≤c) && decide (c≤ins.getD 2 0) else decide (c ∈ ins)
noncomputable def pTakes (part:List Nat) (c:Nat):Bool :=
  if part ∈ [[46],[40,63,33,41]] then part == [46] else if part.head? ≠ some 91 then decide (part ∈ [[c],[92,c]]) else tkHeld (tkIn part) c != (part[1]? == some 94)
omit hK in
theorem okC_small {xs:List Nat} (h:∀ x ∈ xs,x < 128):okC xs = true:=by
  unfold okC;rw [List.all_eq_true];intro x hx;have:=h x hx;simp;lia
omit hK in
theorem three_of {l:List Nat} (h:3≤l.length):∃ x y z w,l = x :: y :: z :: w:=by
  cases l with
  | nil=>cases h
  | cons x l=>cases l with
    | nil=>exact absurd (Nat.le_of_succ_le_succ h) (Nat.not_succ_le_zero 1)
    | cons y l=>cases l with
      | nil=>exact absurd (Nat.le_of_succ_le_succ (Nat.le_of_succ_le_succ h)) (Nat.not_succ_le_zero 0)
      | cons z w=>exact ⟨x,y,z,w,rfl⟩
set_option maxHeartbeats 4000000 in
theorem law_takes_ok {k:Nat} {part:List Nat} {c:Nat} (hn:part ≠ []) (hl:part.length≤100) (ho:∀ x ∈ part,x < 128) (hc:c < 128) (h2:part.head? = some 91→2≤part.length) (h3:pick (some 1) (some 2) (tkIn part) = [45]→3≤(tkIn part).length) :
    Ops S (k + 1) (fun vs=>call (.ref 191) vs) [.str part,.str [c]] (.bool (pTakes part c)):=by
  have n0:=@n_law_takes_0
  have n1:=@n_law_takes_1
  have n2:=@n_law_takes_2
  have n3:=@n_law_takes_3
  have n4:=@n_law_takes_4
  have c0:Cs "." [46]:=rfl
  have c1:Cs "(?!)" [40,63,33,41]:=rfl
  have c2:Cs "[" [91]:=rfl
  have c3:Cs "\\" [92]:=rfl
  have c4:Cs "^" [94]:=rfl
  have c5:Cs "-" [45]:=rfl
  refine Fn.intro (f:=fi_law_takes) hK.fn_law_takes rfl ?_
  show EXs S _ fi_law_takes [some (B.val _),some (B.val _),none,none,none] _ _
  conv=>arg 5;whnf
  have hsz:=sizeLine_eq
  have hin:∀ k,Op2 S k (compareOp .In) (.str part) (.tup [.str [46],.str [40,63,33,41]]) (.bool (decide (part ∈ [[46],[40,63,33,41]]))):=fun k=>Op2.inTS (ys:=[[46],[40,63,33,41]]) (okC_small ho) (by decide)
  unfold pTakes
  by_cases ha:part ∈ [[46],[40,63,33,41]]
  · have b0:decide (part ∈ [[46],[40,63,33,41]]) = true:=decide_eq_true ha
    rw [if_pos ha]
    refine' EXs.to ?mm rfl
    case mm=>exact EXs.seq (EX.ifB (TV.cmp (EV.nm n0 rfl) (EV.tup (EVs.cons (EV.cS c0 (by decide)) (EVs.cons (EV.cS c1 (by decide)) EVs.nil (fun _=>rfl)) (fun _=>rfl)) (by (simp only [List.length_cons,List.length_nil]);decide)) (by apply_assumption) rfl) (Or.inl ⟨b0,EXs.seq (EX.ret (EV.cmp (EV.nm n0 rfl) (EV.cS c0 (by decide)) Op2.eqS rfl)) (Rest.stop rfl rfl)⟩)) (Rest.stop rfl rfl)
  · have b0:decide (part ∈ [[46],[40,63,33,41]]) = false:=decide_eq_false ha
    rw [if_neg ha]
    (refine e2_1 (List.exists_cons_of_ne_nil hn) (fun p0 pr q1q=>?_);subst q1q)
    have i0:(p0 :: pr)[idx (p0 :: pr).length 0]? = some p0:=rfl
    have i0':-(((p0 :: pr).length:Nat):Int)≤0:=by lia
    by_cases hb:p0 = 91
    · subst hb
      rw [if_neg (by simp)]
      have b1:(([91]:List Nat) != [91]) = false:=rfl
      have l2:=h2 rfl
      obtain ⟨p1,pq,rfl⟩:∃ p1 pq,pr = p1 :: pq:=by cases pr with | nil=>simp at l2 | cons a b=>exact ⟨a,b,rfl⟩
      have i1:(91 :: p1 :: pq)[idx (91 :: p1 :: pq).length 1]? = some p1:=rfl
      have i1':-(((91 :: p1 :: pq).length:Nat):Int)≤1:=by lia
      have e1:(([p1]:List Nat) == [94]) = ((91 :: p1 :: pq)[1]? == some 94):=by simp
      have ek:tkIn (91 :: p1 :: pq) = if p1 = 94 then pick (some 2) (some (-1)) (91 :: p1 :: pq) else pick (some 1) (some (-1)) (91 :: p1 :: pq):=by unfold tkIn;simp
      refine EXs.seq (EX.ifB (TV.cmp (EV.nm n0 rfl) (EV.tup (EVs.cons (EV.cS c0 (by decide)) (EVs.cons (EV.cS c1 (by decide)) EVs.nil (fun _=>rfl)) (fun _=>rfl)) (by (simp only [List.length_cons,List.length_nil]);decide)) (by apply_assumption) rfl) (Or.inr ⟨b0,EXs.nil⟩)) (Rest.next ?_)
      refine EXs.seq (EX.ifB (TV.cmp (EV.item (T:="str") (EV.nm n0 rfl) EV.cInt rfl PySem.F.slot_str_getitem.lookup (Op2.itemS i0 i0') (fun _ _=>rfl)) (EV.cS c2 (by decide)) Op2.neS rfl) (Or.inr ⟨b1,EXs.nil⟩)) (Rest.next ?_)
      refine EXs.seq (EX.assign (EV.cmp (EV.item (T:="str") (EV.nm n0 rfl) EV.cInt rfl PySem.F.slot_str_getitem.lookup (Op2.itemS i1 i1') (fun _ _=>rfl)) (EV.cS c4 (by decide)) Op2.eqS rfl) (AS.nm n2) (fun _=>rfl) (fun _=>rfl) (fun _ _=>rfl)) (Rest.next ?_)
      refine' EXs.seq ?ma ?mr
      case ma =>
        refine' EX.assign (d:=.str (tkIn (91 :: p1 :: pq))) ?me (.nm n3) ?m1 ?m2 ?m3
        case me =>
          by_cases ht:p1 = 94
          · have bt:(([p1]:List Nat) == [94]) = true:=by simp [ht]
            rw [ek,if_pos ht]
            exact EV.ifB (TV.val tested_Name (EV.nm n2 rfl) OpT.bool) (Or.inl ⟨bt,EV.sliceS (EV.nm n0 rfl) (PV.some EV.cInt) (PV.some (EV.un EV.cInt Op1.negI)) (fun _ _=>rfl)⟩)
          · have bt:(([p1]:List Nat) == [94]) = false:=by simp [ht]
            rw [ek,if_neg ht]
            exact EV.ifB (TV.val tested_Name (EV.nm n2 rfl) OpT.bool) (Or.inr ⟨bt,EV.sliceS (EV.nm n0 rfl) (PV.some EV.cInt) (PV.some (EV.un EV.cInt Op1.negI)) (fun _ _=>rfl)⟩)
        case m1=>intro _;rfl
        case m2=>intro _;rfl
        case m3=>intro _ _;rfl
      apply Rest.next
      dsimp only [List.set_cons_zero,List.set_cons_succ]
      rw [← e1]
      generalize tkIn (91 :: p1 :: pq) = ins at h3 ⊢
      generalize (([p1]:List Nat) == [94]) = tb
      unfold tkHeld
      by_cases hd:pick (some 1) (some 2) ins = [45]
      · have bd:(pick (some 1) (some 2) ins == [45]) = true:=by rw [hd];rfl
        have l3:=h3 hd
        obtain ⟨x,y,z,w,rfl⟩:=three_of l3
        have q0:(x :: y :: z :: w)[idx (x :: y :: z :: w).length 0]? = some x:=rfl
        have q0':-(((x :: y :: z :: w).length:Nat):Int)≤0:=by lia
        have q2:(x :: y :: z :: w)[idx (x :: y :: z :: w).length 2]? = some z:=rfl
        have q2':-(((x :: y :: z :: w).length:Nat):Int)≤2:=by lia
        rw [if_pos hd]
        refine' EXs.to ?mm ?mq
        case mm=>exact EXs.seq (EX.assign (EV.ifB (TV.cmp (EV.sliceS (EV.nm n3 rfl) (PV.some EV.cInt) (PV.some EV.cInt) (fun _ _=>rfl)) (EV.cS c5 (by decide)) Op2.eqS rfl) (Or.inl ⟨bd,EV.cmp2 (EV.item (T:="str") (EV.nm n3 rfl) EV.cInt rfl PySem.F.slot_str_getitem.lookup (Op2.itemS q0 q0') (fun _ _=>rfl)) (EV.nm n1 rfl) (EV.item (T:="str") (EV.nm n3 rfl) EV.cInt rfl PySem.F.slot_str_getitem.lookup (Op2.itemS q2 q2') (fun _ _=>rfl)) Op2.leC Op2.leC rfl⟩)) (AS.nm n4) (fun _=>rfl) (fun _=>rfl) (fun _ _=>rfl)) (Rest.next (EXs.seq (EX.ret (EV.cmp (EV.nm n4 rfl) (EV.nm n2 rfl) Op2.neB rfl)) (Rest.stop rfl rfl)))
        case mq=>rfl
      · have bd:(pick (some 1) (some 2) ins == [45]) = false:=by simpa using hd
        rw [if_neg hd]
        refine' EXs.to ?mm rfl
        case mm=>exact EXs.seq (EX.assign (EV.ifB (TV.cmp (EV.sliceS (EV.nm n3 rfl) (PV.some EV.cInt) (PV.some EV.cInt) (fun _ _=>rfl)) (EV.cS c5 (by decide)) Op2.eqS rfl) (Or.inr ⟨bd,EV.cmp (EV.nm n1 rfl) (EV.nm n3 rfl) Op2.inS rfl⟩)) (AS.nm n4) (fun _=>rfl) (fun _=>rfl) (fun _ _=>rfl)) (Rest.next (EXs.seq (EX.ret (EV.cmp (EV.nm n4 rfl) (EV.nm n2 rfl) Op2.neB rfl)) (Rest.stop rfl rfl)))
    · rw [if_pos (by simpa using hb)]
      have b1:(([p0]:List Nat) != [91]) = true:=by simp [hb]
      have hin2:∀ k,Op2 S k (compareOp .In) (.str (p0 :: pr)) (.tup [.str [c],.str ([92] ++ [c])]) (.bool (decide ((p0 :: pr) ∈ [[c],[92,c]]))):=fun k=>Op2.inTS (ys:=[[c],[92,c]]) (okC_small ho) (by intro y hy;simp at hy;rcases hy with rfl | rfl <;> exact okC_small (by simp;lia))
      refine' EXs.to ?mm rfl
      case mm=>exact EXs.seq (EX.ifB (TV.cmp (EV.nm n0 rfl) (EV.tup (EVs.cons (EV.cS c0 (by decide)) (EVs.cons (EV.cS c1 (by decide)) EVs.nil (fun _=>rfl)) (fun _=>rfl)) (by (simp only [List.length_cons,List.length_nil]);decide)) (by apply_assumption) rfl) (Or.inr ⟨b0,EXs.nil⟩)) (Rest.next (EXs.seq (EX.ifB (TV.cmp (EV.item (T:="str") (EV.nm n0 rfl) EV.cInt rfl PySem.F.slot_str_getitem.lookup (Op2.itemS i0 i0') (fun _ _=>rfl)) (EV.cS c2 (by decide)) Op2.neS rfl) (Or.inl ⟨b1,EXs.seq (EX.ret (EV.cmp (EV.nm n0 rfl) (EV.tup (EVs.cons (EV.nm n1 rfl) (EVs.cons (EV.bin (EV.cS c3 (by decide)) (EV.nm n1 rfl) (Op2.addS (by simp only [List.length_append,List.length_cons,List.length_nil,List.length_map] at *;omega))) EVs.nil (fun _=>rfl)) (fun _=>rfl)) (by (simp only [List.length_cons,List.length_nil]);decide)) (by apply_assumption) rfl)) (Rest.stop rfl rfl)⟩)) (Rest.stop rfl rfl)))
noncomputable def partD (star:Value):Option (List Nat)→D
  | none=>.raw star
  | some p=>.str p
noncomputable def minFrom (n:Nat) (at':List Nat):Nat:=at'.foldl Nat.min (n + 1)
noncomputable def readStep (one:List Nat→Nat→Bool) (name:List Nat) (at':List Nat):Option (List Nat)→List Nat
  | none=>List.range' (minFrom name.length at') (name.length + 1 - minFrom name.length at')
  | some p=>(at'.filter fun i=>match name[i]? with | none=>false | some c=>one p c).map (· + 1)
noncomputable def pReads (one:List Nat→Nat→Bool) (parts:List (Option (List Nat))) (name:List Nat):Bool:=decide (name.length ∈ parts.foldl (readStep one name) [0])
noncomputable def readInv (name at':List Nat):Prop:=at'.length≤name.length + 1∧∀ i ∈ at',i≤name.length
omit hK in
theorem minFrom_spec:∀ (at':List Nat) (m:Nat),at'.foldl Nat.min m≤m∧(∀ a ∈ at',at'.foldl Nat.min m≤a)∧(at'.foldl Nat.min m = m ∨ at'.foldl Nat.min m ∈ at')
  | [],m=>⟨Nat.le_refl _,nofun,.inl rfl⟩
  | a :: r,m=>by
    refine e0_3 (minFrom_spec r (Nat.min m a)) (fun h1 h2 h3=>?_)
    have l1:Nat.min m a≤m:=Nat.min_le_left ..
    have l2:Nat.min m a≤a:=Nat.min_le_right ..
    show r.foldl Nat.min (Nat.min m a)≤m∧(∀ b ∈ a :: r,r.foldl Nat.min (Nat.min m a)≤b)∧(r.foldl Nat.min (Nat.min m a) = m ∨ r.foldl Nat.min (Nat.min m a) ∈ a :: r)
    refine ⟨Nat.le_trans h1 l1,fun b hb=>?_,?_⟩
    · rcases List.mem_cons.mp hb with rfl | hb
      · exact Nat.le_trans h1 l2
      · exact h2 b hb
    · rcases h3 with h3 | h3
      · rw [h3]
        rcases Nat.le_total m a with l | l
        · exact .inl (Nat.min_eq_left l)
        · exact .inr (by rw [show Nat.min m a = a from Nat.min_eq_right l];exact .head _)
      · exact .inr (.tail _ h3)
omit hK in
theorem readInv_step (one:List Nat→Nat→Bool) (name at':List Nat) (p:Option (List Nat)) (h:readInv name at'):readInv name (readStep one name at' p):=by
  cases p with
  | none =>
    refine ⟨by simp [readStep],?_⟩
    intro i hi
    simp only [readStep,List.mem_range'_1] at hi
    lia
  | some p =>
    refine ⟨?_,?_⟩
    · simp only [readStep,List.length_map]
      exact Nat.le_trans (List.length_filter_le ..) h.1
    · intro i hi
      simp only [readStep,List.mem_map,List.mem_filter] at hi
      (refine e1_2 (hi) (fun j q1q q2q=>?_);refine e0_2 (q1q) (fun h1 h2=>?_);subst q2q)
      cases hj:name[j]? with
      | none=>rw [hj] at h2;simp at h2
      | some c=>have:=(List.getElem?_eq_some_iff.mp hj).1;lia
set_option maxHeartbeats 4000000 in
theorem law_reads_ok {k:Nat} {star:Value} (hst:D.ok true 8 (.raw star) = true) {one:List Nat→Nat→Bool} {parts:List (Option (List Nat))} {name:List Nat} (hpo:∀ p,some p ∈ parts→okC p = true)
    (h1:∀ p,some p ∈ parts→∀ (k c:Nat),c ∈ name→Ops S (k + 1) (fun vs=>call (.ref 191) vs) [.str p,.str [c]] (.bool (one p c))) (hn:name.length≤1000) :
    Ops S (k + 2) (fun vs=>call (.ref 196) vs) [.list (parts.map (partD star)),.raw star,.str name] (.bool (pReads one parts name)):=by
  have n0:=@n_law_reads_0
  have n1:=@n_law_reads_1
  have n2:=@n_law_reads_2
  have n3:=@n_law_reads_3
  have n4:=@n_law_reads_4
  have g_list:=g_law_reads_list hK
  have g_range:=g_law_reads_range hK
  have g_min:=g_law_reads_min hK
  have g_len:=g_law_reads_len hK
  have c0:Cs "parts" [112,97,114,116,115]:=rfl
  have c1:Cs "star" [115,116,97,114]:=rfl
  have c2:Cs "piece" [112,105,101,99,101]:=rfl
  have c3:Cs "places" [112,108,97,99,101,115]:=rfl
  have c4:Cs "part" [112,97,114,116]:=rfl
  have c5:Cs "place" [112,108,97,99,101]:=rfl
  refine Fn.intro (f:=fi_law_reads) hK.fn_law_reads rfl ?_
  show EXs S _ fi_law_reads [some (B.val _),some (B.val _),some (B.cell (some _)),none,some (B.cell none)] _ _
  conv=>arg 5;whnf
  have hsz:=sizeLine_eq
  refine EXs.seq (EX.assign (EV.list (EVs.cons EV.cInt EVs.nil (fun _=>rfl)) (by (simp only [List.length_cons,List.length_nil]);decide)) (AS.nm n3) (fun _=>rfl) (fun _=>rfl) (fun _ _=>rfl)) (Rest.next ?_)
  refine EXs.forFold (σ:=List Nat) (τ:=Option D) (fun at' od=>[some (B.val (D.list (parts.map (partD star)))),some (B.val (.raw star)),some (B.cell (some (.str name))),some (B.val (D.list (at'.map fun i:Nat=>D.int (i:Int)))),some (B.cell od)])
    (partD star) (readStep one name) (fun n at'=>readInv name at') parts [0] none rfl (EV.nm n0 rfl) It.list ?_ ?_ ?_
  · exact ⟨by simp,by simp⟩
  · intro n at' t p hp hI
    refine ⟨readInv_step one name at' p hI,_,some (partD star p),AS.nmC n4 rfl,Or.inl ?_⟩
    dsimp only [List.set_cons_zero,List.set_cons_succ]
    cases p with
    | none =>
      simp only [partD,readStep]
      have heq:∀ k,Op2 S k (compareOp .Eq) (.raw star) (.raw star) (.bool true):=fun k=>by
        have h:=Op2.eqD (S:=S) (k:=k) true hst hst
        simpa using h
      refine e0_3 (minFrom_spec at' (name.length + 1)) (fun q1 q2 q3=>?_)
      have hmin:∀ k,Ops S k (fun vs=>call (.builtin "min") vs) [.list ((at'.map fun i:Nat=>D.int (i:Int)) ++ [D.int ((name.length:Int) + 1)])] (.int ((minFrom name.length at':Nat):Int)):=by
        intro k
        have e:(at'.map fun i:Nat=>D.int (i:Int)) ++ [D.int ((name.length:Int) + 1)] = ((at'.map fun i:Nat=>(i:Int)) ++ [(name.length:Int) + 1]).map D.int:=by simp
        rw [e]
        refine Ops.minI ?_ ?_
        · rcases q3 with q3 | q3
          · simp only [minFrom,q3];simp
          · exact List.mem_append_left _ (List.mem_map.mpr ⟨_,q3,rfl⟩)
        · intro a ha
          rcases List.mem_append.mp ha with ha | ha
          · (refine e1_2 (List.mem_map.mp ha) (fun b hb q3q=>?_);subst q3q)
            have:=q2 b hb
            unfold minFrom;lia
          · simp at ha;unfold minFrom;lia
      have hop:∀ k:Nat,Ops S k (fun vs=>call (.type "list") vs) [.rng ((minFrom name.length at':Nat):Int) ((name.length:Int) + 1) 1] (.list ((List.range' (minFrom name.length at') (name.length + 1 - minFrom name.length at')).map fun i:Nat=>D.int (i:Int))):=by
        intro k
        exact Ops.listFrom (a:=minFrom name.length at') (b:=name.length + 1) (by lia) (by unfold minFrom;lia)
      have hln:(at'.map fun i:Nat=>D.int (i:Int)).length + [D.int ((name.length:Int) + 1)].length≤sizeLine:=by have:=hI.1;simp;lia
      refine' EXs.to ?mm rfl
      case mm=>exact EXs.seq (EX.ifB (TV.cmp (EV.nmC n4 rfl) (EV.nm n1 rfl) (by apply_assumption) rfl) (Or.inl ⟨rfl,EXs.seq (EX.assign (EV.call (fun _=>rfl) (Raw.ev g_list) Callee.type (EVs.cons (EV.call (fun _=>rfl) (Raw.ev g_range) Callee.type (EVs.cons (EV.call (fun _=>rfl) (Raw.ev g_min) Callee.builtin (EVs.cons (EV.bin (EV.nm n3 rfl) (EV.list (EVs.cons (EV.bin (EV.call (fun _=>rfl) (Raw.ev g_len) Callee.builtin (EVs.cons (EV.nmC n2 rfl) EVs.nil (fun _=>rfl)) Ops.lenS) EV.cInt Op2.addI) EVs.nil (fun _=>rfl)) (by (simp only [List.length_cons,List.length_nil]);decide)) (Op2.addL hln)) EVs.nil (fun _=>rfl)) (by apply_assumption)) (EVs.cons (EV.bin (EV.call (fun _=>rfl) (Raw.ev g_len) Callee.builtin (EVs.cons (EV.nmC n2 rfl) EVs.nil (fun _=>rfl)) Ops.lenS) EV.cInt Op2.addI) EVs.nil (fun _=>rfl)) (fun _=>rfl)) Ops.range2) EVs.nil (fun _=>rfl)) (by apply_assumption)) (AS.nm n3) (fun _=>rfl) (fun _=>rfl) (fun _ _=>rfl)) (Rest.next EXs.nil)⟩)) (Rest.next EXs.nil)
    | some q =>
      have hq:∀ (k c:Nat),c ∈ name→Ops S (k + 1) (fun vs=>call (.ref 191) vs) [.str q,.str [c]] (.bool (one q c)):=h1 q hp
      simp only [partD]
      have heq:∀ k,Op2 S k (compareOp .Eq) (.str q) (.raw star) (.bool false):=fun k=>by
        have h:=Op2.eqD (S:=S) (k:=k) (d₁:=.str q) true (hpo q hp) hst
        simpa using h
      have ho:List.map (fun i:Nat=>D.int (i:Int)) (readStep one name at' (some q)) = (at'.filter fun i=>match name[i]? with | none=>false | some c=>one q c).map (fun i:Nat=>D.int ((i:Int) + 1)):=by
        simp only [readStep,List.map_map]
        exact List.map_congr_left fun i _=>rfl
      rw [ho]
      refine' EXs.to ?mm rfl
      case mm =>
        refine' EXs.seq ?ma ?mr
        case ma =>
          refine' EX.ifB ?mc ?mb
          case mc=>exact TV.cmp (EV.nmC n4 rfl) (EV.nm n1 rfl) (by apply_assumption) rfl
          case mb =>
            refine' Or.inr (And.intro rfl ?mo)
            case mo =>
              refine' EXs.seq ?mx ?my
              case mx =>
                refine' EX.assignComp (outs:=(at'.filter fun i=>match name[i]? with | none=>false | some c=>one q c).map (fun i:Nat=>D.int ((i:Int) + 1))) (Γc:=[none,some (.val (.str q)),some (.val (.str name))]) ["place","part","piece"] [.local,.cell,.cell] ?h1 ?h2 ?h3 ?h4 ?h5 ?h6 ?h7 ?h8 ?h9 ?h10 ?h11 ?h12 ?h13 ?h14
                case h1=>decide
                case h2=>rfl
                case h3=>rfl
                case h4=>decide
                case h5 =>
                  refine AllCap.other rfl rfl (AllCap.other rfl rfl (AllCap.other rfl rfl (AllCap.other rfl rfl (AllCap.free (.cell 4 rfl rfl) (AllCap.free (.cell 2 rfl rfl) .nil)))))
                case h6=>exact CapL.skip (CapL.cap rfl rfl (.cell 4 rfl rfl) (CapL.cap rfl rfl (.cell 2 rfl rfl) .nil))
                case h7=>exact EV.nm n3 rfl
                case h8=>exact It.list
                case h9=>have:=hI.1;simp;lia
                case h10 =>
                  intro fc e1 e2 e3
                  have m0:Nm fc "place" 0 .local:=Nm.of e2 e3 rfl rfl
                  have m1:Nm fc "part" 1 .cell:=Nm.of e2 e3 rfl rfl
                  have m2:Nm fc "piece" 2 .cell:=Nm.of e2 e3 rfl rfl
                  have gl:=Raw.b (S:=S) e1 rfl hK.ns_len bt_len
                  have go:=Raw.g (S:=S) (x:="_law_takes") e1 rfl hK.ns_law_takes
                  have k_law_takes:=hK.cal_law_takes
                  refine CL.filter (τ:=Option B) (fun i:Nat=>D.int (i:Int)) (fun i:Nat=>D.int ((i:Int) + 1)) (fun i=>match name[i]? with | none=>false | some c=>one q c) (fun t=>[t,some (.val (.str q)),some (.val (.str name))]) at' none ?_
                  intro i hi t
                  refine ⟨some (.val (.int i)),AS.nm m0,Ts.one ?_,fun hk=>?_⟩
                  · cases hc:name[i]? with
                    | none =>
                      have hl:name.length≤i:=List.getElem?_eq_none_iff.mp hc
                      have q1:decide ((i:Int) < (name.length:Int)) = false:=by simp;lia
                      exact TV.boolOp (ATV.andB (TV.cmp (EV.nm m0 rfl) (EV.call (fun _=>rfl) (Raw.ev gl) Callee.builtin (EVs.cons (EV.nm m2 rfl) EVs.nil (fun _=>rfl)) Ops.lenS) Op2.ltI rfl) (Or.inr ⟨q1,rfl⟩))
                    | some c =>
                      have hl:i < name.length:=(List.getElem?_eq_some_iff.mp hc).1
                      have q1:decide ((i:Int) < (name.length:Int)) = true:=by simp;lia
                      have hix:name[idx name.length (i:Int)]? = some c:=by
                        have:idx name.length (i:Int) = i:=by unfold idx;rw [if_neg (by lia)];simp
                        rw [this];exact hc
                      have zi:-(name.length:Int)≤(i:Int):=by lia
                      have hqc:=fun k=>hq k c (List.mem_of_getElem? hc)
                      clear hq h1
                      show TV _ _ _ _ _ (one q c)
                      cases hone:one q c
                      · rw [hone] at hqc
                        ((refine' TV.boolOp ?mhx1;(case mhx1=>((refine' ATV.andB ?max2 ?mrx2;(case max2=>((refine' TV.cmp ?max3 ?mbx3 ?mox3 ?mmx3;(case max3=>(((refine' EV.nm ?mnx4 ?mlx4;(case mnx4=>with_reducible assumption);(case mlx4=>rfl)))));(case mbx3=>((refine' EV.call ?mnx5 ?mfx5 ?mcx5 ?max5 ?mpx5;(case mnx5=>intro _;rfl);(case mfx5=>(((refine' Raw.ev ?mnx6;(case mnx6=>with_reducible assumption)))));(case mcx5=>(exact Callee.builtin));(case max5=>((refine' EVs.cons ?mhx8 ?mtx8 ?msx8;(case mhx8=>(((refine' EV.nm ?mnx9 ?mlx9;(case mnx9=>with_reducible assumption);(case mlx9=>rfl)))));(case mtx8=>(with_reducible exact EVs.nil));(case msx8=>intro _;rfl))));(case mpx5=>(with_reducible exact Ops.lenS)))));(case mox3=>(with_reducible exact Op2.ltI));(case mmx3=>rfl))));(case mrx2=>(((((refine' Or.inl (And.intro ?mbx14 ?mox14);(case mbx14=>((with_reducible assumption))))));((((refine' ATV.andB ?max17 ?mrx17;(case max17=>((refine' TV.val ?mtx18 ?mhx18 ?mox18;(case mtx18=>(exact tested_Call));(case mhx18=>((refine' EV.call ?mnx20 ?mfx20 ?mcx20 ?max20 ?mpx20;(case mnx20=>intro _;rfl);(case mfx20=>(((refine' Raw.ev ?mnx21;(case mnx21=>with_reducible assumption)))));(case mcx20=>(with_reducible assumption));(case max20=>((refine' EVs.cons ?mhx23 ?mtx23 ?msx23;(case mhx23=>(((refine' EV.nm ?mnx24 ?mlx24;(case mnx24=>with_reducible assumption);(case mlx24=>rfl)))));(case mtx23=>((refine' EVs.cons ?mhx25 ?mtx25 ?msx25;(case mhx25=>(((refine' EV.item (T:="str") ?max26 ?mbx26 ?mtx26 PySem.F.slot_str_getitem.lookup ?mox26 ?msx26;(case max26=>(((refine' EV.nm ?mnx27 ?mlx27;(case mnx27=>with_reducible assumption);(case mlx27=>rfl)))));(case mtx26=>exact rfl);(case mbx26=>(((refine' EV.nm ?mnx28 ?mlx28;(case mnx28=>with_reducible assumption);(case mlx28=>rfl)))));(case mox26=>(((with_reducible apply Op2.itemS);(next=>((with_reducible assumption)));(next=>((with_reducible assumption))))));(case msx26=>intro _ _;with_unfolding_all rfl)))));(case mtx25=>(with_reducible exact EVs.nil));(case msx25=>intro _;rfl))));(case msx23=>intro _;rfl))));(case mpx20=>(apply_assumption)))));(case mox18=>(with_reducible exact OpT.bool)))));(case mrx17=>(((((refine' Or.inr (And.intro ?mbx36 ?mox36);(case mbx36=>((with_reducible rfl))))));(rfl))))))))))))))))
                      · rw [hone] at hqc
                        ((refine' TV.boolOp ?mhx39;(case mhx39=>((refine' ATV.andB ?max40 ?mrx40;(case max40=>((refine' TV.cmp ?max41 ?mbx41 ?mox41 ?mmx41;(case max41=>(((refine' EV.nm ?mnx42 ?mlx42;(case mnx42=>with_reducible assumption);(case mlx42=>rfl)))));(case mbx41=>((refine' EV.call ?mnx43 ?mfx43 ?mcx43 ?max43 ?mpx43;(case mnx43=>intro _;rfl);(case mfx43=>(((refine' Raw.ev ?mnx44;(case mnx44=>with_reducible assumption)))));(case mcx43=>(exact Callee.builtin));(case max43=>((refine' EVs.cons ?mhx46 ?mtx46 ?msx46;(case mhx46=>(((refine' EV.nm ?mnx47 ?mlx47;(case mnx47=>with_reducible assumption);(case mlx47=>rfl)))));(case mtx46=>(with_reducible exact EVs.nil));(case msx46=>intro _;rfl))));(case mpx43=>(with_reducible exact Ops.lenS)))));(case mox41=>(with_reducible exact Op2.ltI));(case mmx41=>rfl))));(case mrx40=>(((((refine' Or.inl (And.intro ?mbx52 ?mox52);(case mbx52=>((with_reducible assumption))))));((((refine' ATV.andB ?max55 ?mrx55;(case max55=>((refine' TV.val ?mtx56 ?mhx56 ?mox56;(case mtx56=>(exact tested_Call));(case mhx56=>((refine' EV.call ?mnx58 ?mfx58 ?mcx58 ?max58 ?mpx58;(case mnx58=>intro _;rfl);(case mfx58=>(((refine' Raw.ev ?mnx59;(case mnx59=>with_reducible assumption)))));(case mcx58=>(with_reducible assumption));(case max58=>((refine' EVs.cons ?mhx61 ?mtx61 ?msx61;(case mhx61=>(((refine' EV.nm ?mnx62 ?mlx62;(case mnx62=>with_reducible assumption);(case mlx62=>rfl)))));(case mtx61=>((refine' EVs.cons ?mhx63 ?mtx63 ?msx63;(case mhx63=>(((refine' EV.item (T:="str") ?max64 ?mbx64 ?mtx64 PySem.F.slot_str_getitem.lookup ?mox64 ?msx64;(case max64=>(((refine' EV.nm ?mnx65 ?mlx65;(case mnx65=>with_reducible assumption);(case mlx65=>rfl)))));(case mtx64=>exact rfl);(case mbx64=>(((refine' EV.nm ?mnx66 ?mlx66;(case mnx66=>with_reducible assumption);(case mlx66=>rfl)))));(case mox64=>(((with_reducible apply Op2.itemS);(next=>((with_reducible assumption)));(next=>((with_reducible assumption))))));(case msx64=>intro _ _;with_unfolding_all rfl)))));(case mtx63=>(with_reducible exact EVs.nil));(case msx63=>intro _;rfl))));(case msx61=>intro _;rfl))));(case mpx58=>(apply_assumption)))));(case mox56=>(with_reducible exact OpT.bool)))));(case mrx55=>(((((refine' Or.inl (And.intro ?mbx74 ?mox74);(case mbx74=>((with_reducible rfl))))));(((with_reducible exact ATV.andNil))))))))))))))))))
                  · exact EV.bin (EV.nm m0 rfl) EV.cInt Op2.addI
                case h11=>intro _ _;rfl
                case h12=>exact AS.nm n3
                case h13=>intro _;exact ⟨_,rfl⟩
                case h14=>intro _;rfl
              case my=>exact Rest.next EXs.nil
        case mr=>exact Rest.next EXs.nil
  · intro t' hI
    have hop:∀ k:Nat,Op2 S k (compareOp .In) (.int (name.length:Int)) (.list ((parts.foldl (readStep one name) [0]).map fun i:Nat=>D.int (i:Int))) (.bool (pReads one parts name)):=by
      intro k
      refine bool_any (P:=fun b=>Op2 S k (compareOp .In) _ _ (.bool b)) ?_ (Op2.inL false rfl ?_)
      · constructor
        · intro h
          refine e1_2 (List.mem_map.mp h) (fun j hj e=>?_)
          injection e with e
          have:j = name.length:=by lia
          exact this ▸ hj
        · intro h;exact List.mem_map.mpr ⟨_,h,rfl⟩
      · intro e he
        (refine e1_2 (List.mem_map.mp he) (fun j hj q4q=>?_);subst q4q)
        rfl
    refine' EXs.to ?mm rfl
    case mm=>exact EXs.seq (EX.ret (EV.cmp (EV.call (fun _=>rfl) (Raw.ev g_len) Callee.builtin (EVs.cons (EV.nmC n2 rfl) EVs.nil (fun _=>rfl)) Ops.lenS) (EV.nm n3 rfl) (by apply_assumption) rfl)) (Rest.stop rfl rfl)
noncomputable abbrev nmTab:List (Str × Str):=[(Str.ofString "?",Str.ofString "abc."),(Str.ofString "[ab]",Str.ofString "ab"),(Str.ofString "[!a]",Str.ofString "bc."),(Str.ofString "[a-b]",Str.ofString "ab"),(Str.ofString "[b-a]",Str.ofString ""),(Str.ofString "[!b-a]",Str.ofString "abc.")]
omit hK in
theorem nmTab_nodup:(nmTab.map (·.1)).Nodup:=by decide +kernel
omit hK in
theorem nmTab_len:∀ p ∈ nmTab,p.2.cps.toList.length≤16777216:=by decide +kernel
noncomputable def pMeansR:List (List Nat)→List Nat→Bool
  | [],nm=>nm == []
  | t :: ts,[]=>if t = [42] then pMeansR ts [] else false
  | t :: ts,c :: nm=>if t = [42] then pMeansR ts (c :: nm) || pMeansR (t :: ts) nm else decide (c ∈ dicGet nmTab t t) && pMeansR ts nm
termination_by ts nm=>ts.length + nm.length
noncomputable def pMeans (tokens:List (List Nat)) (name:List Nat):Bool:=pMeansR tokens.reverse name.reverse
omit hK in
theorem pick_init {α:Type} (l:List α) (x:α):pick none (some (-1)) (l ++ [x]) = l:=by
  unfold pick kms_lo kms_hi;simp
omit hK in
theorem pMeans_nil (name:List Nat):pMeans [] name = (name == []):=by
  unfold pMeans;rw [List.reverse_nil,pMeansR];rcases nil_or_snoc name with rfl | ⟨a,b,rfl⟩ <;> simp
omit hK in
theorem pMeans_snoc_nil (ts:List (List Nat)) (t:List Nat):pMeans (ts ++ [t]) [] = if t = [42] then pMeans ts [] else false:=by
  unfold pMeans;rw [List.reverse_append,List.reverse_singleton,List.singleton_append,List.reverse_nil,pMeansR]
omit hK in
theorem pMeans_snoc (ts:List (List Nat)) (t nm:List Nat) (c:Nat):pMeans (ts ++ [t]) (nm ++ [c]) = if t = [42] then pMeans ts (nm ++ [c]) || pMeans (ts ++ [t]) nm else decide (c ∈ dicGet nmTab t t) && pMeans ts nm:=by
  unfold pMeans
  rw [List.reverse_append,List.reverse_singleton,List.singleton_append,List.reverse_append,List.reverse_singleton,List.singleton_append,pMeansR]
noncomputable abbrev MeansArg (tokens:List (List Nat)):Prop:=∀ t ∈ tokens,okC t = true∧t.length≤1000
set_option maxHeartbeats 2000000 in
theorem law_means_step {k n:Nat} (tokens:List (List Nat)) (name:List Nat) (h1:tokens.length + name.length≤n) (h2:n≤1000) (h3:MeansArg tokens)
    (ih:∀ m,n = m + 1→∀ (tokens:List (List Nat)) (name:List Nat),tokens.length + name.length≤m→MeansArg tokens→Ops S (k + n) (fun vs=>call (.ref 203) vs) [.list (tokens.map .str),.str name] (.bool (pMeans tokens name))) :
    Ops S (k + n + 1) (fun vs=>call (.ref 203) vs) [.list (tokens.map .str),.str name] (.bool (pMeans tokens name)):=by
  have n0:=@n_law_means_0
  have n1:=@n_law_means_1
  have n2:=@n_law_means_2
  have g_law_means:=g_law_means_law_means hK
  have k_law_means:=hK.cal_law_means
  have c0:Cs "" []:=rfl
  have c1:Cs "*" [42]:=rfl
  have c2:Cs "?" [63]:=rfl
  have c3:Cs "[ab]" [91,97,98,93]:=rfl
  have c4:Cs "[!a]" [91,33,97,93]:=rfl
  have c5:Cs "[a-b]" [91,97,45,98,93]:=rfl
  have c6:Cs "[b-a]" [91,98,45,97,93]:=rfl
  have c7:Cs "[!b-a]" [91,33,98,45,97,93]:=rfl
  have c8:Cs "abc." [97,98,99,46]:=rfl
  have c9:Cs "ab" [97,98]:=rfl
  have c10:Cs "bc." [98,99,46]:=rfl
  refine Fn.intro (f:=fi_law_means) hK.fn_law_means rfl ?_
  show EXs S _ fi_law_means [some (B.val _),some (B.val _),none] _ _
  conv=>arg 5;whnf
  have hsz:=sizeLine_eq
  have heq:∀ k,Op2 S k (compareOp .Eq) (.list (tokens.map .str)) (.list []) (.bool (decide (tokens = []))):=fun k=>by
    have h:=Op2.eqLS (S:=S) (k:=k) (xs:=tokens) (ys:=[]) (fun x hx=>(h3 x hx).1) nofun
    simpa using h
  rcases nil_or_snoc tokens with rfl | ⟨ts,t,rfl⟩
  · have e1:decide (([]:List (List Nat)) = []) = true:=rfl
    rw [pMeans_nil]
    refine' EXs.to ?mm ?mq
    case mm=>exact EXs.seq (EX.ifB (TV.cmp (EV.nm n0 rfl) (EV.list EVs.nil (by (simp only [List.length_cons,List.length_nil]);decide)) (by apply_assumption) rfl) (Or.inl ⟨e1,EXs.seq (EX.ret (EV.cmp (EV.nm n1 rfl) (EV.cS c0 (by decide)) Op2.eqS rfl)) (Rest.stop rfl rfl)⟩)) (Rest.stop rfl rfl)
    case mq=>rfl
  · have e1:decide (ts ++ [t] = []) = false:=by simp
    obtain ⟨m,rfl⟩:∃ m,n = m + 1:=⟨n - 1,by simp at h1;lia⟩
    replace ih:=ih m rfl
    have h4:MeansArg ts:=fun x hx=>h3 x (by simp [hx])
    have h5:=h3 t (by simp)
    have hi:(List.map D.str (ts ++ [t]))[idx (List.map D.str (ts ++ [t])).length (-1)]? = some (.str t):=by
      rw [List.map_append];exact last_item _ _
    have hi':-((List.map D.str (ts ++ [t])).length:Int)≤-1:=by simp;lia
    have hp:pick none (some (-1)) (List.map D.str (ts ++ [t])) = ts.map D.str:=by
      rw [List.map_append];exact pick_init _ _
    refine EXs.seq (EX.ifB (TV.cmp (EV.nm n0 rfl) (EV.list EVs.nil (by (simp only [List.length_cons,List.length_nil]);decide)) (by apply_assumption) rfl) (Or.inr ⟨e1,EXs.nil⟩)) (Rest.next ?_)
    have hrec1:Ops S (k + (m + 1)) (fun vs=>call (.ref 203) vs) [.list (pick none (some (-1)) (List.map D.str (ts ++ [t]))),.str name] (.bool (pMeans ts name)):=by
      rw [hp];exact ih ts name (by simp at h1;lia) h4
    by_cases ht:t = [42]
    · subst ht
      have e3:(([42]:List Nat) == [42]) = true:=rfl
      rcases nil_or_snoc name with rfl | ⟨nm,c,rfl⟩
      · rw [pMeans_snoc_nil,if_pos rfl]
        have z1:(([]:List Nat) != []) = false:=rfl
        cases hb:pMeans ts [] <;> rw [hb] at hrec1
        · refine' EXs.to ?mm ?mq
          case mm=>exact EXs.seq (EX.ifB (TV.cmp (EV.item (T:="list") (EV.nm n0 rfl) (EV.un EV.cInt Op1.negI) rfl list_getitem_lookup (Op2.itemL hi hi') (fun _ _=>rfl)) (EV.cS c1 (by decide)) Op2.eqS rfl) (Or.inl ⟨e3,EXs.seq (EX.ret (EV.boolOp (BV.orB (EV.call (fun _=>rfl) (Raw.ev g_law_means) k_law_means (EVs.cons (EV.sliceL (EV.nm n0 rfl) PV.none (PV.some (EV.un EV.cInt Op1.negI)) (fun _ _=>rfl)) (EVs.cons (EV.nm n1 rfl) EVs.nil (fun _=>rfl)) (fun _=>rfl)) hrec1) OpT.bool (Or.inr ⟨rfl,BV.last (EV.boolOp (BV.andB (EV.cmp (EV.nm n1 rfl) (EV.cS c0 (by decide)) Op2.neS rfl) OpT.bool (Or.inr ⟨z1,rfl⟩)))⟩)))) (Rest.stop rfl rfl)⟩)) (Rest.stop rfl rfl)
          case mq=>rfl
        · refine' EXs.to ?mm ?mq
          case mm=>exact EXs.seq (EX.ifB (TV.cmp (EV.item (T:="list") (EV.nm n0 rfl) (EV.un EV.cInt Op1.negI) rfl list_getitem_lookup (Op2.itemL hi hi') (fun _ _=>rfl)) (EV.cS c1 (by decide)) Op2.eqS rfl) (Or.inl ⟨e3,EXs.seq (EX.ret (EV.boolOp (BV.orB (EV.call (fun _=>rfl) (Raw.ev g_law_means) k_law_means (EVs.cons (EV.sliceL (EV.nm n0 rfl) PV.none (PV.some (EV.un EV.cInt Op1.negI)) (fun _ _=>rfl)) (EVs.cons (EV.nm n1 rfl) EVs.nil (fun _=>rfl)) (fun _=>rfl)) hrec1) OpT.bool (Or.inl ⟨rfl,rfl⟩)))) (Rest.stop rfl rfl)⟩)) (Rest.stop rfl rfl)
          case mq=>rfl
      · rw [pMeans_snoc,if_pos rfl]
        have z1:((nm ++ [c]) != []) = true:=by simp
        have hp2:pick none (some (-1)) (nm ++ [c]) = nm:=pick_init _ _
        have hrec2:Ops S (k + (m + 1)) (fun vs=>call (.ref 203) vs) [.list (List.map D.str (ts ++ [[42]])),.str (pick none (some (-1)) (nm ++ [c]))] (.bool (pMeans (ts ++ [[42]]) nm)):=by
          rw [hp2];exact ih _ nm (by simp at h1 ⊢;lia) h3
        cases hb:pMeans ts (nm ++ [c]) <;> rw [hb] at hrec1
        · refine' EXs.to ?mm ?mq
          case mm=>exact EXs.seq (EX.ifB (TV.cmp (EV.item (T:="list") (EV.nm n0 rfl) (EV.un EV.cInt Op1.negI) rfl list_getitem_lookup (Op2.itemL hi hi') (fun _ _=>rfl)) (EV.cS c1 (by decide)) Op2.eqS rfl) (Or.inl ⟨e3,EXs.seq (EX.ret (EV.boolOp (BV.orB (EV.call (fun _=>rfl) (Raw.ev g_law_means) k_law_means (EVs.cons (EV.sliceL (EV.nm n0 rfl) PV.none (PV.some (EV.un EV.cInt Op1.negI)) (fun _ _=>rfl)) (EVs.cons (EV.nm n1 rfl) EVs.nil (fun _=>rfl)) (fun _=>rfl)) hrec1) OpT.bool (Or.inr ⟨rfl,BV.last (EV.boolOp (BV.andB (EV.cmp (EV.nm n1 rfl) (EV.cS c0 (by decide)) Op2.neS rfl) OpT.bool (Or.inl ⟨z1,BV.last (EV.call (fun _=>rfl) (Raw.ev g_law_means) k_law_means (EVs.cons (EV.nm n0 rfl) (EVs.cons (EV.sliceS (EV.nm n1 rfl) PV.none (PV.some (EV.un EV.cInt Op1.negI)) (fun _ _=>rfl)) EVs.nil (fun _=>rfl)) (fun _=>rfl)) hrec2)⟩)))⟩)))) (Rest.stop rfl rfl)⟩)) (Rest.stop rfl rfl)
          case mq=>rfl
        · refine' EXs.to ?mm ?mq
          case mm=>exact EXs.seq (EX.ifB (TV.cmp (EV.item (T:="list") (EV.nm n0 rfl) (EV.un EV.cInt Op1.negI) rfl list_getitem_lookup (Op2.itemL hi hi') (fun _ _=>rfl)) (EV.cS c1 (by decide)) Op2.eqS rfl) (Or.inl ⟨e3,EXs.seq (EX.ret (EV.boolOp (BV.orB (EV.call (fun _=>rfl) (Raw.ev g_law_means) k_law_means (EVs.cons (EV.sliceL (EV.nm n0 rfl) PV.none (PV.some (EV.un EV.cInt Op1.negI)) (fun _ _=>rfl)) (EVs.cons (EV.nm n1 rfl) EVs.nil (fun _=>rfl)) (fun _=>rfl)) hrec1) OpT.bool (Or.inl ⟨rfl,rfl⟩)))) (Rest.stop rfl rfl)⟩)) (Rest.stop rfl rfl)
          case mq=>rfl
    · have e2:(t == [42]) = false:=by simpa using ht
      refine EXs.seq (EX.ifB (TV.cmp (EV.item (T:="list") (EV.nm n0 rfl) (EV.un EV.cInt Op1.negI) rfl list_getitem_lookup (Op2.itemL hi hi') (fun _ _=>rfl)) (EV.cS c1 (by decide)) Op2.eqS rfl) (Or.inr ⟨e2,EXs.nil⟩)) (Rest.next ?_)
      with_reducible refine' EXs.dictS ?Yc ?Y0 nmTab_nodup ?Yl (fun a o=>AS.nm n2) ?Yr ?Ys ?Yw ?Ya
      case Yc=>repeat constructor
      case Y0=>exact List.cons_ne_nil _ _
      case Yl=>exact Nat.le_of_ble_eq_true rfl
      case Ys=>intro _;rfl
      case Yw=>intro _;rfl
      case Ya=>intro _ _;rfl
      intro a o hs hd
      dsimp only [List.set_cons_zero,List.set_cons_succ]
      have hg:∀ k,Ops S k (fun vs=>call (.builtin "dict.get") vs) [.obj a o,.str t,.str t] (.str (dicGet nmTab t t)):=fun k=>Ops.dictGet hs hd (by rw [hsz];exact nmTab_len)
      have hty:TyD (.obj a o) "dict":=hd.1
      clear hs hd heq
      rcases nil_or_snoc name with rfl | ⟨nm,c,rfl⟩
      · rw [pMeans_snoc_nil,if_neg ht]
        have z1:(([]:List Nat) != []) = false:=rfl
        refine' EXs.to ?mm ?mq
        case mm=>exact EXs.seq (EX.ret (EV.boolOp (BV.andB (EV.cmp (EV.nm n1 rfl) (EV.cS c0 (by decide)) Op2.neS rfl) OpT.bool (Or.inr ⟨z1,rfl⟩)))) (Rest.stop rfl rfl)
        case mq=>rfl
      · rw [pMeans_snoc,if_neg ht]
        have z1:((nm ++ [c]) != []) = true:=by simp
        have hj:(nm ++ [c])[idx (nm ++ [c]).length (-1)]? = some c:=by
          have:idx (nm ++ [c]).length (-1) = nm.length:=by simp [idx];lia
          rw [this];simp
        have hj':-((nm ++ [c]).length:Int)≤-1:=by simp;lia
        have hrec3:Ops S (k + (m + 1)) (fun vs=>call (.ref 203) vs) [.list (pick none (some (-1)) (List.map D.str (ts ++ [t]))),.str (pick none (some (-1)) (nm ++ [c]))] (.bool (pMeans ts nm)):=by
          have hp2:pick none (some (-1)) (nm ++ [c]) = nm:=pick_init _ _
          rw [hp,hp2];exact ih _ nm (by simp at h1 ⊢;lia) h4
        clear ih hrec1
        generalize dicGet nmTab t t = ds at hg ⊢
        cases hb:decide (c ∈ ds)
        · refine' EXs.to ?mm ?mq
          case mm=>exact EXs.seq (EX.ret (EV.boolOp (BV.andB (EV.cmp (EV.nm n1 rfl) (EV.cS c0 (by decide)) Op2.neS rfl) OpT.bool (Or.inl ⟨z1,BV.andB (EV.cmp (EV.item (T:="str") (EV.nm n1 rfl) (EV.un EV.cInt Op1.negI) rfl PySem.F.slot_str_getitem.lookup (Op2.itemS hj hj') (fun _ _=>rfl)) (EV.meth PySem.F.plainAttrs_dict PySem.F.slot_dict_get PySem.F.type_dict_get (EV.nm n2 rfl) hty (EVs.cons (EV.item (T:="list") (EV.nm n0 rfl) (EV.un EV.cInt Op1.negI) rfl list_getitem_lookup (Op2.itemL hi hi') (fun _ _=>rfl)) (EVs.cons (EV.item (T:="list") (EV.nm n0 rfl) (EV.un EV.cInt Op1.negI) rfl list_getitem_lookup (Op2.itemL hi hi') (fun _ _=>rfl)) EVs.nil (fun _=>rfl)) (fun _=>rfl)) (by apply_assumption) (fun _=>rfl) rfl (fun _=>rfl)) Op2.inS rfl) OpT.bool (Or.inr ⟨hb,rfl⟩)⟩)))) (Rest.stop rfl rfl)
          case mq=>rw [hb];rfl
        · refine' EXs.to ?mm ?mq
          case mm=>exact EXs.seq (EX.ret (EV.boolOp (BV.andB (EV.cmp (EV.nm n1 rfl) (EV.cS c0 (by decide)) Op2.neS rfl) OpT.bool (Or.inl ⟨z1,BV.andB (EV.cmp (EV.item (T:="str") (EV.nm n1 rfl) (EV.un EV.cInt Op1.negI) rfl PySem.F.slot_str_getitem.lookup (Op2.itemS hj hj') (fun _ _=>rfl)) (EV.meth PySem.F.plainAttrs_dict PySem.F.slot_dict_get PySem.F.type_dict_get (EV.nm n2 rfl) hty (EVs.cons (EV.item (T:="list") (EV.nm n0 rfl) (EV.un EV.cInt Op1.negI) rfl list_getitem_lookup (Op2.itemL hi hi') (fun _ _=>rfl)) (EVs.cons (EV.item (T:="list") (EV.nm n0 rfl) (EV.un EV.cInt Op1.negI) rfl list_getitem_lookup (Op2.itemL hi hi') (fun _ _=>rfl)) EVs.nil (fun _=>rfl)) (fun _=>rfl)) (by apply_assumption) (fun _=>rfl) rfl (fun _=>rfl)) Op2.inS rfl) OpT.bool (Or.inl ⟨hb,BV.last (EV.call (fun _=>rfl) (Raw.ev g_law_means) k_law_means (EVs.cons (EV.sliceL (EV.nm n0 rfl) PV.none (PV.some (EV.un EV.cInt Op1.negI)) (fun _ _=>rfl)) (EVs.cons (EV.sliceS (EV.nm n1 rfl) PV.none (PV.some (EV.un EV.cInt Op1.negI)) (fun _ _=>rfl)) EVs.nil (fun _=>rfl)) (fun _=>rfl)) hrec3)⟩)⟩)))) (Rest.stop rfl rfl)
          case mq=>rfl
theorem law_means_ok {k:Nat}:∀ (n:Nat) (tokens:List (List Nat)) (name:List Nat),tokens.length + name.length≤n→n≤1000→MeansArg tokens →
    Ops S (k + n + 1) (fun vs=>call (.ref 203) vs) [.list (tokens.map .str),.str name] (.bool (pMeans tokens name))
  | 0,tokens,name,h1,h2,h3=>law_means_step hK tokens name h1 h2 h3 nofun
  | n + 1,tokens,name,h1,h2,h3=>law_means_step hK tokens name h1 h2 h3 fun m hm tk nm q1 q2=>by
    obtain rfl:n = m:=by lia
    exact law_means_ok n tk nm q1 (by lia) q2
noncomputable def nmStep (s:List (List Nat) × Nat) (p:List Nat):List (List Nat) × Nat :=
  if p = [46,46] then (s.1,s.2 + 1) else if p ≠ []∧p ≠ [46]∧0 < s.2 then (s.1,s.2 - 1) else if p ≠ []∧p ≠ [46] then (p :: s.1,s.2) else s
noncomputable def namesRun (path:List Nat):List (List Nat) × Nat:=(splitC 47 path).reverse.foldl nmStep ([],0)
noncomputable def pNames (path:List Nat):List (List Nat):=if 0 < (namesRun path).2 ∨ (namesRun path).1 ≠ [] then List.replicate (namesRun path).2 [46,46] ++ (namesRun path).1 else [[46]]
omit hK in
theorem nmStep_len (s:List (List Nat) × Nat) (p:List Nat):(nmStep s p).1.length + (nmStep s p).2≤s.1.length + s.2 + 1:=by
  unfold nmStep
  split
  · simp;lia
  · split
    · simp;lia
    · split
      · simp;lia
      · lia
omit hK in
theorem split_in (c:Nat):∀ (xs p:List Nat),p ∈ splitC c xs→∀ x ∈ p,x ≠ c∧x ∈ xs
  | [],p,hp,x,hx=>by
    have:splitC c [] = [[]]:=rfl
    rw [this] at hp;simp at hp;subst hp;simp at hx
  | y :: ys,p,hp,x,hx=>by
    have ih:=split_in c ys
    unfold splitC at hp
    split at hp
    · rcases List.mem_cons.mp hp with rfl | hp
      · simp at hx
      · have:=ih p hp x hx;exact ⟨this.1,.tail _ this.2⟩
    · rename_i hy
      split at hp
      · rename_i h;exact absurd h (splitC_ne c ys)
      · rename_i q r h
        rw [h] at ih
        rcases List.mem_cons.mp hp with rfl | hp
        · rcases List.mem_cons.mp hx with rfl | hx
          · exact ⟨hy,.head _⟩
          · have:=ih q (.head _) x hx;exact ⟨this.1,.tail _ this.2⟩
        · have:=ih p (.tail _ hp) x hx;exact ⟨this.1,.tail _ this.2⟩
omit hK in
theorem nmFold_mem (P:List Nat→Prop):∀ (ps:List (List Nat)) (s:List (List Nat) × Nat),(∀ p ∈ ps,P p)→(∀ p ∈ s.1,P p)→∀ p ∈ (ps.foldl nmStep s).1,P p
  | [],s,_,h=>h
  | q :: ps,s,h1,h2=>nmFold_mem P ps (nmStep s q) (fun p hp=>h1 p (.tail _ hp)) fun p hp=>by
    unfold nmStep at hp
    split at hp
    · exact h2 p hp
    · split at hp
      · exact h2 p hp
      · split at hp
        · rcases List.mem_cons.mp hp with rfl | hp
          · exact h1 p (.head _)
          · exact h2 p hp
        · exact h2 p hp
omit hK in
theorem namesRun_ok {path:List Nat} (hu:okC path = true):∀ x ∈ (namesRun path).1,okC x = true:=by
  refine nmFold_mem (fun x=>okC x = true) _ _ (fun p hp=>?_) nofun
  have h:=split_in 47 path p (List.mem_reverse.mp hp)
  unfold okC at hu ⊢
  exact List.all_eq_true.mpr fun x hx=>List.all_eq_true.mp hu x (h x hx).2
set_option maxHeartbeats 4000000 in
theorem law_names_ok {k:Nat} {path:List Nat} (hp:path.length≤1000) (hu:okC path = true):Ops S (k + 1) (fun vs=>call (.ref 210) vs) [.str path] (.list ((pNames path).map .str)):=by
  have n0:=@n_law_names_0
  have n1:=@n_law_names_1
  have n2:=@n_law_names_2
  have n3:=@n_law_names_3
  have c0:Cs "/" [47]:=rfl
  have c1:Cs ".." [46,46]:=rfl
  have c2:Cs "" []:=rfl
  have c3:Cs "." [46]:=rfl
  refine Fn.intro (f:=fi_law_names) hK.fn_law_names rfl ?_
  show EXs S _ fi_law_names [some (B.val _),none,none,none] _ _
  conv=>arg 5;whnf
  have hsz:=sizeLine_eq
  have own1:OwnV fi_law_names 1:=.intro
  have hlen:(splitC 47 path).length≤path.length + 1:=by
    have h1:=splitC_sum 47 path
    have h2:(splitC 47 path).length≤((splitC 47 path).map fun p=>p.length + 1).sum:=by
      generalize splitC 47 path = l
      induction l with
      | nil=>simp
      | cons a l ih=>simp;lia
    lia
  refine EXs.seq (EX.assign2Own n1 n2 EV.cInt rfl (by decide) rfl rfl rfl (fun _=>rfl) (fun _=>rfl) rfl (Nat.le_of_ble_eq_true rfl)) (Rest.next ?_)
  have hrev:pickBy (places none none (-1) ((splitC 47 path).map D.str).length) ((splitC 47 path).map D.str) = (splitC 47 path).reverse.map D.str:=by rw [pick_rev,List.map_reverse]
  have hwf:path.length + 2≤sizeLine:=by lia
  refine EXs.forFold (σ:=List (List Nat) × Nat) (τ:=Option B) (fun s t=>[some (B.val (.str path)),some (B.own (s.1.map D.str)),some (B.val (.int (s.2:Int))),t])
    D.str nmStep (fun n s=>s.1.length + s.2 + n≤path.length + 1) (splitC 47 path).reverse ([],0) none rfl ?Ni It.list ?_ ?_ ?_
  case Ni =>
    rw [← hrev]
    refine' EV.sliceStepT ?Na ?Nb ?Nc ?Nd ?Ne ?Nf
    case Na=>exact EV.meth PySem.F.plainAttrs_str PySem.F.slot_str_split PySem.F.type_str_split (EV.nm n0 rfl) rfl (EVs.cons (EV.cS c0 (by decide)) EVs.nil (fun _=>rfl)) (Ops.splitS (by decide) hwf)
    case Nb=>exact PV.none
    case Nc=>exact PV.none
    case Nd=>exact PV.some (EV.un EV.cInt Op1.negI)
    case Ne=>decide
    case Nf=>intro _ _;with_unfolding_all rfl
  · simpa using hlen
  · rintro n ⟨names,debt⟩ t p hp' hI
    simp only at hI ⊢
    have hst:=nmStep_len (names,debt) p
    refine ⟨by simp only at hst;lia,_,some (B.val (.str p)),AS.nm n3,Or.inl ?_⟩
    dsimp only [List.set_cons_zero,List.set_cons_succ]
    clear hst
    have hml:(names.map D.str).length < sizeLine:=by simp;lia
    unfold nmStep
    by_cases h1:p = [46,46]
    · rw [if_pos h1]
      have b1:(p == [46,46]) = true:=by simpa using h1
      have e1:(((debt + 1:Nat):Int)) = (debt:Int) + 1:=by lia
      simp only [e1]
      refine' EXs.to ?mm rfl
      case mm=>exact EXs.seq (EX.ifB (TV.borrowN n1 own1 rfl (TV.cmp (EV.nm n3 rfl) (EV.cS c1 (by decide)) Op2.eqS rfl)) (Or.inl ⟨b1,EXs.seq (EX.augN n2 rfl EV.cInt Op2.iaddI) (Rest.next EXs.nil)⟩)) (Rest.next EXs.nil)
    · rw [if_neg h1]
      have b1:(p == [46,46]) = false:=by simpa using h1
      by_cases h2:p = []
      · have b2:(p != []) = false:=by simpa using h2
        rw [if_neg (by simp [h2]),if_neg (by simp [h2])]
        refine' EXs.to ?mm rfl
        case mm=>exact EXs.seq (EX.ifB (TV.borrowN n1 own1 rfl (TV.cmp (EV.nm n3 rfl) (EV.cS c1 (by decide)) Op2.eqS rfl)) (Or.inr ⟨b1,EXs.seq (EX.ifB (TV.borrowN n1 own1 rfl (TV.boolOp (ATV.andB (TV.cmp (EV.nm n3 rfl) (EV.cS c2 (by decide)) Op2.neS rfl) (Or.inr ⟨b2,rfl⟩)))) (Or.inr ⟨rfl,EXs.seq (EX.ifB (TV.borrowN n1 own1 rfl (TV.boolOp (ATV.andB (TV.cmp (EV.nm n3 rfl) (EV.cS c2 (by decide)) Op2.neS rfl) (Or.inr ⟨b2,rfl⟩)))) (Or.inr ⟨rfl,EXs.nil⟩)) (Rest.next EXs.nil)⟩)) (Rest.next EXs.nil)⟩)) (Rest.next EXs.nil)
      · have b2:(p != []) = true:=by simpa using h2
        by_cases h3:p = [46]
        · have b3:(p != [46]) = false:=by simpa using h3
          rw [if_neg (by simp [h3]),if_neg (by simp [h3])]
          refine' EXs.to ?mm rfl
          case mm=>exact EXs.seq (EX.ifB (TV.borrowN n1 own1 rfl (TV.cmp (EV.nm n3 rfl) (EV.cS c1 (by decide)) Op2.eqS rfl)) (Or.inr ⟨b1,EXs.seq (EX.ifB (TV.borrowN n1 own1 rfl (TV.boolOp (ATV.andB (TV.cmp (EV.nm n3 rfl) (EV.cS c2 (by decide)) Op2.neS rfl) (Or.inl ⟨b2,ATV.andB (TV.cmp (EV.nm n3 rfl) (EV.cS c3 (by decide)) Op2.neS rfl) (Or.inr ⟨b3,rfl⟩)⟩)))) (Or.inr ⟨rfl,EXs.seq (EX.ifB (TV.borrowN n1 own1 rfl (TV.boolOp (ATV.andB (TV.cmp (EV.nm n3 rfl) (EV.cS c2 (by decide)) Op2.neS rfl) (Or.inl ⟨b2,ATV.andB (TV.cmp (EV.nm n3 rfl) (EV.cS c3 (by decide)) Op2.neS rfl) (Or.inr ⟨b3,rfl⟩)⟩)))) (Or.inr ⟨rfl,EXs.nil⟩)) (Rest.next EXs.nil)⟩)) (Rest.next EXs.nil)⟩)) (Rest.next EXs.nil)
        · have b3:(p != [46]) = true:=by simpa using h3
          by_cases h4:0 < debt
          · have b4:decide ((debt:Int) > 0) = true:=by simp;lia
            have e1:(((debt - 1:Nat):Int)) = (debt:Int) - 1:=by lia
            rw [if_pos ⟨h2,h3,h4⟩]
            simp only [e1]
            refine' EXs.to ?mm rfl
            case mm=>exact EXs.seq (EX.ifB (TV.borrowN n1 own1 rfl (TV.cmp (EV.nm n3 rfl) (EV.cS c1 (by decide)) Op2.eqS rfl)) (Or.inr ⟨b1,EXs.seq (EX.ifB (TV.borrowN n1 own1 rfl (TV.boolOp (ATV.andB (TV.cmp (EV.nm n3 rfl) (EV.cS c2 (by decide)) Op2.neS rfl) (Or.inl ⟨b2,ATV.andB (TV.cmp (EV.nm n3 rfl) (EV.cS c3 (by decide)) Op2.neS rfl) (Or.inl ⟨b3,ATV.andB (TV.cmp (EV.nm n2 rfl) EV.cInt Op2.gtI rfl) (Or.inl ⟨b4,ATV.andNil⟩)⟩)⟩)))) (Or.inl ⟨rfl,EXs.seq (EX.augN n2 rfl EV.cInt Op2.isubI) (Rest.next EXs.nil)⟩)) (Rest.next EXs.nil)⟩)) (Rest.next EXs.nil)
          · have b4:decide ((debt:Int) > 0) = false:=by simp;lia
            rw [if_neg (by simp [h4]),if_pos ⟨h2,h3⟩]
            refine' EXs.to ?mm rfl
            case mm=>exact EXs.seq (EX.ifB (TV.borrowN n1 own1 rfl (TV.cmp (EV.nm n3 rfl) (EV.cS c1 (by decide)) Op2.eqS rfl)) (Or.inr ⟨b1,EXs.seq (EX.ifB (TV.borrowN n1 own1 rfl (TV.boolOp (ATV.andB (TV.cmp (EV.nm n3 rfl) (EV.cS c2 (by decide)) Op2.neS rfl) (Or.inl ⟨b2,ATV.andB (TV.cmp (EV.nm n3 rfl) (EV.cS c3 (by decide)) Op2.neS rfl) (Or.inl ⟨b3,ATV.andB (TV.cmp (EV.nm n2 rfl) EV.cInt Op2.gtI rfl) (Or.inr ⟨b4,rfl⟩)⟩)⟩)))) (Or.inr ⟨rfl,EXs.seq (EX.ifB (TV.borrowN n1 own1 rfl (TV.boolOp (ATV.andB (TV.cmp (EV.nm n3 rfl) (EV.cS c2 (by decide)) Op2.neS rfl) (Or.inl ⟨b2,ATV.andB (TV.cmp (EV.nm n3 rfl) (EV.cS c3 (by decide)) Op2.neS rfl) (Or.inl ⟨b3,ATV.andNil⟩)⟩)))) (Or.inl ⟨rfl,EXs.seq (EX.insert0N n1 rfl (EVs.cons EV.cInt (EVs.cons (EV.nm n3 rfl) EVs.nil (fun _=>rfl)) (fun _=>rfl)) hml (fun _=>rfl) rfl (fun _=>rfl)) (Rest.next EXs.nil)⟩)) (Rest.next EXs.nil)⟩)) (Rest.next EXs.nil)⟩)) (Rest.next EXs.nil)
  · intro t' hI
    refine EXs.freezeN n1 rfl ?_
    dsimp only [List.set_cons_zero,List.set_cons_succ]
    have ef:(splitC 47 path).reverse.foldl nmStep ([],0) = namesRun path:=rfl
    rw [ef] at hI ⊢
    unfold pNames
    have hmem:=namesRun_ok hu
    generalize namesRun path = fin at hI hmem ⊢
    obtain ⟨names,debt⟩:=fin
    simp only at hI hmem ⊢
    have heq:∀ k,Op2 S k (compareOp .NotEq) (.list (names.map .str)) (.list []) (.bool (decide (names ≠ []))):=by
      intro k
      have h:=Op2.neD (S:=S) (k:=k) (d₁:=.list (names.map D.str)) (d₂:=.list []) true (ok_strs hmem) rfl
      simpa using h
    have hdb:debt≤100000:=by lia
    have hln:(List.replicate debt (D.str [46,46])).length + (names.map D.str).length≤sizeLine:=by simp;lia
    have hout:List.map D.str (List.replicate debt [46,46] ++ names) = List.replicate debt (D.str [46,46]) ++ names.map D.str:=by simp
    by_cases h1:0 < debt
    · rw [if_pos (.inl h1),hout]
      have b1:decide ((debt:Int) > 0) = true:=by simp;lia
      refine' EXs.to ?mm rfl
      case mm=>exact EXs.seq (EX.ret (EV.ifB (TV.boolOp (ATV.orB (TV.cmp (EV.nm n2 rfl) EV.cInt Op2.gtI rfl) (Or.inl ⟨b1,rfl⟩))) (Or.inl ⟨rfl,EV.bin (EV.bin (EV.list (EVs.cons (EV.cS c1 (by decide)) EVs.nil (fun _=>rfl)) (by (simp only [List.length_cons,List.length_nil]);decide)) (EV.nm n2 rfl) (Op2.mulL hdb)) (EV.nm n1 rfl) (Op2.addL hln)⟩))) (Rest.stop rfl rfl)
    · have b1:decide ((debt:Int) > 0) = false:=by simp;lia
      by_cases h2:names = []
      · rw [if_neg (by simp [h1,h2])]
        have b2:decide (names ≠ []) = false:=by simp [h2]
        refine' EXs.to ?mm ?mq
        case mm=>exact EXs.seq (EX.ret (EV.ifB (TV.boolOp (ATV.orB (TV.cmp (EV.nm n2 rfl) EV.cInt Op2.gtI rfl) (Or.inr ⟨b1,ATV.orB (TV.cmp (EV.nm n1 rfl) (EV.list EVs.nil (by (simp only [List.length_cons,List.length_nil]);decide)) (by apply_assumption) rfl) (Or.inr ⟨b2,ATV.orNil⟩)⟩))) (Or.inr ⟨rfl,EV.list (EVs.cons (EV.cS c3 (by decide)) EVs.nil (fun _=>rfl)) (by (simp only [List.length_cons,List.length_nil]);decide)⟩))) (Rest.stop rfl rfl)
        case mq=>rfl
      · rw [if_pos (.inr h2),hout]
        have b2:decide (names ≠ []) = true:=by simp [h2]
        refine' EXs.to ?mm rfl
        case mm=>exact EXs.seq (EX.ret (EV.ifB (TV.boolOp (ATV.orB (TV.cmp (EV.nm n2 rfl) EV.cInt Op2.gtI rfl) (Or.inr ⟨b1,ATV.orB (TV.cmp (EV.nm n1 rfl) (EV.list EVs.nil (by (simp only [List.length_cons,List.length_nil]);decide)) (by apply_assumption) rfl) (Or.inl ⟨b2,rfl⟩)⟩))) (Or.inl ⟨rfl,EV.bin (EV.bin (EV.list (EVs.cons (EV.cS c1 (by decide)) EVs.nil (fun _=>rfl)) (by (simp only [List.length_cons,List.length_nil]);decide)) (EV.nm n2 rfl) (Op2.mulL hdb)) (EV.nm n1 rfl) (Op2.addL hln)⟩))) (Rest.stop rfl rfl)
noncomputable def aloneP (own other:List (List Nat)) (a:List Nat × Nat):Bool :=
  !decide (a.1 ∈ other) && (!decide (pick (some ((a.2:Int) - 1)) (some (a.2:Int)) own = [a.1]) || decide (other.filter (fun y=>decide (a.1 < y)) = []))
noncomputable def pAlone (own other:List (List Nat)):List (List Nat):=(own.zipIdx.filter (aloneP own other)).map Prod.fst
set_option maxHeartbeats 4000000 in
theorem law_alone_ok {k:Nat} {own other:List (List Nat)} (h1:∀ x ∈ own,okC x = true) (h2:∀ x ∈ other,okC x = true) (hl1:own.length≤1000) (hl2:other.length≤1000) :
    Ops S (k + 1) (fun vs=>call (.ref 215) vs) [.list (own.map .str),.list (other.map .str)] (.list ((pAlone own other).map .str)):=by
  have n0:=@n_law_alone_0
  have n1:=@n_law_alone_1
  have g_enumerate:=g_law_alone_enumerate hK
  have c0:Cs "own" [111,119,110]:=rfl
  have c1:Cs "other" [111,116,104,101,114]:=rfl
  have c2:Cs "k" [107]:=rfl
  have c3:Cs "x" [120]:=rfl
  have c4:Cs "y" [121]:=rfl
  refine Fn.intro (f:=fi_law_alone) hK.fn_law_alone rfl ?_
  show EXs S _ fi_law_alone [some (B.cell (some _)),some (B.cell (some _))] _ _
  conv=>arg 5;whnf
  have hsz:=sizeLine_eq
  refine' EXs.seq ?ma ?mr
  case mr=>exact Rest.stop rfl rfl
  case ma =>
    refine' EX.ret ?me
    case me =>
      refine' EV.comp1 [(".0",.local),("k",.local)] [("other",.free),("own",.free)] rfl ?Y1 ?Y2 ?Y3 ["k","x","other","own"] [.local,.cell,.cell,.cell] ?Y4 ?Y5 ?Y6 ?Y7 (Γc:=[none,some (.cell none),some (.val (.list (other.map .str))),some (.val (.list (own.map .str)))]) ?Y8 ?Y9 (ds:=own.zipIdx.map fun a=>D.tup [.int (a.2:Int),.str a.1]) ?Z1 ?Z2 ?Z3 ?Z4
      case Y1=>exact .other rfl rfl (.other rfl rfl .nil)
      case Y2=>exact .free (.cell 1 rfl rfl) (.free (.cell 0 rfl rfl) .nil)
      case Y3=>decide
      case Y4=>decide
      case Y5=>rfl
      case Y6=>rfl
      case Y7=>decide
      case Y8=>exact .skip (.own (.cap rfl rfl (.cell 1 rfl rfl) (.cap rfl rfl (.cell 0 rfl rfl) .nil)))
      case Y9=>rfl
      case Z1 =>
        rw [← enumD_map]
        exact ItE.enum (fun _=>rfl) (g_enumerate _ _ _) (EVs.cons (EV.nmC n0 rfl) EVs.nil fun _=>rfl)
      case Z2=>simp;lia
      case Z4=>intro _ _;rfl
      case Z3 =>
        intro fc e1 e2 e3
        obtain ⟨sc,q,cd,vs,ks,nd,ok⟩:=fc
        simp only at e1 e2 e3
        subst e1;subst e2;subst e3
        have m0:Nm ⟨_,q,cd,_,_,nd,ok⟩ "k" 0 .local:=Nm.of rfl rfl rfl rfl
        have m1:Nm ⟨_,q,cd,_,_,nd,ok⟩ "x" 1 .cell:=Nm.of rfl rfl rfl rfl
        have m2:Nm ⟨_,q,cd,_,_,nd,ok⟩ "other" 2 .cell:=Nm.of rfl rfl rfl rfl
        have m3:Nm ⟨_,q,cd,_,_,nd,ok⟩ "own" 3 .cell:=Nm.of rfl rfl rfl rfl
        unfold pAlone
        rw [List.map_map]
        refine CL.filter (τ:=Option B × Option D) (fun a:List Nat × Nat=>D.tup [.int (a.2:Int),.str a.1]) (D.str ∘ Prod.fst) (aloneP own other) (fun t=>[t.1,some (.cell t.2),some (.val (.list (other.map .str))),some (.val (.list (own.map .str)))]) own.zipIdx (none,none) ?_
        rintro ⟨x,i⟩ ha ⟨t1,t2⟩
        have hx:own[i]? = some x:=by
          have:=List.mem_zipIdx ha
          simpa using List.mem_zipIdx_iff_getElem?.mp ha
        have hxo:okC x = true:=h1 x (List.mem_of_getElem? hx)
        refine ⟨(some (.val (.int (i:Int))),some (.str x)),AS.tup (ASs.cons (AS.nm m0) (ASs.cons (AS.nmC m1 rfl) ASs.nil fun _=>rfl) fun _=>rfl),Ts.one ?_,fun hk=>?_⟩
        · have hin:∀ k,Op2 S k (compareOp .NotIn) (.str x) (.list (other.map .str)) (.bool (!decide (x ∈ other))):=fun k=>Op2.notInLS hxo h2
          have hne:∀ k,Op2 S k (compareOp .NotEq) (.list (pick (some ((i:Int) - 1)) (some (i:Int)) (own.map D.str))) (.list [.str x]) (.bool (!decide (pick (some ((i:Int) - 1)) (some (i:Int)) own = [x]))):=fun k=>by
            rw [pick_map];exact Op2.neLS (ys:=[x]) (fun y hy=>h1 y (pick_mem hy)) (by simpa using hxo)
          have heq:∀ k,Op2 S k (compareOp .Eq) (.list ((other.filter fun y=>decide (x < y)).map D.str)) (.list []) (.bool (decide (other.filter (fun y=>decide (x < y)) = []))):=fun k =>
            Op2.eqLS (ys:=[]) (fun y hy=>h2 y (List.mem_filter.mp hy).1) nofun
          show TV _ _ _ _ _ (aloneP own other (x,i))
          unfold aloneP
          simp only
          refine' TV.boolOp ?W1
          case W1 =>
            generalize hb1:decide (x ∈ other) = b1 at hin ⊢
            refine' ATV.andB (b:=!b1) ?W2 ?W3
            case W2=>exact TV.cmp (EV.nmC m1 rfl) (EV.nm m2 rfl) (by apply_assumption) rfl
            case W3 =>
              cases b1
              · refine' Or.inl ⟨rfl,?W4⟩
                case W4 =>
                  refine' ATV.andB (b:=(!decide (pick (some ((i:Int) - 1)) (some (i:Int)) own = [x]) || decide (other.filter (fun y=>decide (x < y)) = []))) ?W5 ?W6
                  case W6 =>
                    simp only [Bool.not_false,Bool.true_and]
                    generalize (!decide (pick (some ((i:Int) - 1)) (some (i:Int)) own = [x]) || decide (other.filter (fun y=>decide (x < y)) = [])) = b2
                    cases b2
                    · exact Or.inr ⟨rfl,rfl⟩
                    · exact Or.inl ⟨rfl,ATV.andNil⟩
                  case W5 =>
                    refine' TV.boolOp ?W7
                    case W7 =>
                      generalize hb3:decide (pick (some ((i:Int) - 1)) (some (i:Int)) own = [x]) = b3 at hne ⊢
                      refine' ATV.orB (b:=!b3) ?W8 ?W9
                      case W8=>exact TV.cmp (EV.sliceL (EV.nm m3 rfl) (PV.some (EV.bin (EV.nm m0 rfl) EV.cInt Op2.subI)) (PV.some (EV.nm m0 rfl)) (fun _ _=>rfl)) (EV.list (EVs.cons (EV.nmC m1 rfl) EVs.nil (fun _=>rfl)) (by (simp only [List.length_cons,List.length_nil]);decide)) (by apply_assumption) rfl
                      case W9 =>
                        cases b3
                        · exact Or.inl ⟨rfl,rfl⟩
                        · refine' Or.inr ⟨rfl,?V1⟩
                          case V1 =>
                            simp only [Bool.not_true,Bool.false_or]
                            refine' ATV.orB (b:=decide (other.filter (fun y=>decide (x < y)) = [])) ?V2 ?V3
                            case V3 =>
                              generalize decide (other.filter (fun y=>decide (x < y)) = []) = b4
                              cases b4
                              · exact Or.inr ⟨rfl,ATV.orNil⟩
                              · exact Or.inl ⟨rfl,rfl⟩
                            case V2 =>
                              refine' TV.cmp ?V4 ?V5 (heq _) rfl
                              case V5=>exact EV.list EVs.nil (by (simp only [List.length_cons,List.length_nil]);decide)
                              case V4 =>
                                refine' EV.comp ["y","x"] [.local,.cell] ?T1 ?T2 ?T3 ?T4 ?T5 (Γc:=[none,some (.val (.str x))]) ?T6 (EV.nm m2 rfl) It.list ?T7 ?T8 ?T9
                                case T1=>decide
                                case T2=>rfl
                                case T3=>rfl
                                case T4=>decide
                                case T5=>exact .other rfl rfl (.other rfl rfl (.free (.cell 1 rfl rfl) .nil))
                                case T6=>exact .skip (.cap rfl rfl (.cell 1 rfl rfl) .nil)
                                case T7=>simp;lia
                                case T9=>intro _ _;rfl
                                case T8 =>
                                  intro fd e1 e2 e3
                                  have k0:Nm fd "y" 0 .local:=Nm.of e2 e3 rfl rfl
                                  have k1:Nm fd "x" 1 .cell:=Nm.of e2 e3 rfl rfl
                                  refine CL.filter (τ:=Option B) D.str D.str (fun y=>decide (x < y)) (fun t=>[t,some (.val (.str x))]) other none ?_
                                  intro y hy t
                                  refine ⟨some (.val (.str y)),AS.nm k0,Ts.one ?_,fun _=>EV.nm k0 rfl⟩
                                  exact TV.cmp (EV.nm k0 rfl) (EV.nm k1 rfl) Op2.gtS rfl
              · refine' Or.inr ⟨rfl,rfl⟩
        · exact EV.nmC m1 rfl
noncomputable def words:List (List Nat):=[[97],[98],[63],[42],[46],[47],[91,97,98,93],[91,33,97,93],[91,97,45,98,93],[91,98,45,97,93],[91,33,98,45,97,93]]
noncomputable def grStep (gs:List (List (List Nat))) (t:List Nat):List (List (List Nat)):=if t = [47] then gs ++ [[]] else gs.dropLast ++ [gs.getLastD [] ++ [t]]
noncomputable def groups0 (toks:List (List Nat)):List (List (List Nat)):=toks.foldl grStep [[]]
noncomputable abbrev strsD (xs:List (List Nat)):D:=.list (xs.map .str)
omit hK in
theorem groups0_ne (toks:List (List Nat)):groups0 toks ≠ []:=by
  have key:∀ (ts:List (List Nat)) (gs:List (List (List Nat))),gs ≠ []→ts.foldl grStep gs ≠ []:=by
    intro ts
    induction ts with
    | nil=>exact fun gs h=>h
    | cons t ts ih =>
      intro gs h
      refine ih _ ?_
      unfold grStep
      split <;> simp
  exact key toks _ (by simp)
omit hK in
theorem groups0_snoc (toks:List (List Nat)) (t:List Nat):groups0 (toks ++ [t]) = grStep (groups0 toks) t:=by
  unfold groups0;rw [List.foldl_append];rfl
omit hK in
theorem snoc_of {α:Type} {l:List α} (h:l ≠ []) (d:α):l = l.dropLast ++ [l.getLastD d]:=by
  rcases nil_or_snoc l with rfl | ⟨a,b,rfl⟩
  · exact absurd rfl h
  · simp [List.getLastD_eq_getLast?]
omit hK in
theorem groups0_len (toks:List (List Nat)):(groups0 toks).length≤toks.length + 1:=by
  have key:∀ (ts:List (List Nat)) (gs:List (List (List Nat))),gs ≠ []→(ts.foldl grStep gs).length≤gs.length + ts.length:=by
    intro ts
    induction ts with
    | nil=>exact fun gs h=>by simp
    | cons t ts ih =>
      intro gs h
      have h2:grStep gs t ≠ []:=by unfold grStep;split <;> simp
      have:=ih _ h2
      have h3:(grStep gs t).length≤gs.length + 1:=by unfold grStep;split <;> simp <;> lia
      simp at this ⊢;lia
  have:=key toks [[]] (by simp)
  unfold groups0;simp at this ⊢;lia
omit hK in
theorem groups0_size (toks:List (List Nat)):∀ g ∈ groups0 toks,g.length≤toks.length:=by
  have key:∀ (ts:List (List Nat)) (gs:List (List (List Nat))) (n:Nat),(∀ g ∈ gs,g.length≤n)→∀ g ∈ ts.foldl grStep gs,g.length≤n + ts.length:=by
    intro ts
    induction ts with
    | nil=>exact fun gs n h g hg=>by simpa using h g hg
    | cons t ts ih =>
      intro gs n h g hg
      have h3:∀ g ∈ grStep gs t,g.length≤n + 1:=by
        intro g hg
        unfold grStep at hg
        split at hg
        · rcases List.mem_append.mp hg with hg | hg
          · have:=h g hg;lia
          · simp at hg;subst hg;simp
        · rcases List.mem_append.mp hg with hg | hg
          · have:=h g (List.dropLast_subset _ hg);lia
          · simp at hg;subst hg
            rcases nil_or_snoc gs with rfl | ⟨a,b,rfl⟩
            · simp
            · have:=h b (by simp);simp [List.getLastD_eq_getLast?];lia
      have:=ih _ (n + 1) h3 g hg
      simp;lia
  intro g hg
  have:=key toks [[]] 0 (by simp) g hg
  lia
omit hK in
theorem pFigs_len (ws:List (List Nat)) (x:Int):(pFigs ws x).length≤6:=by
  have key:∀ (l:List Nat) (s:FgSt),(l.foldl (fgStep ws) s).1.length≤s.1.length + l.length:=by
    intro l
    induction l with
    | nil=>exact fun s=>by simp
    | cons a l ih =>
      intro s
      have:=ih (fgStep ws s a)
      have h2:(fgStep ws s a).1.length≤s.1.length + 1:=by unfold fgStep;split <;> simp
      simp at this ⊢;lia
  have:=key (List.range 6) ([],x.natAbs)
  unfold pFigs;simpa using this
omit hK in
theorem pFigs_mem (ws:List (List Nat)) (x:Int) (hw:ws ≠ []):∀ w ∈ pFigs ws x,w ∈ ws:=by
  have key:∀ (l:List Nat) (s:FgSt),(∀ w ∈ s.1,w ∈ ws)→∀ w ∈ (l.foldl (fgStep ws) s).1,w ∈ ws:=by
    intro l
    induction l with
    | nil=>exact fun s h=>h
    | cons a l ih =>
      intro s h
      refine ih _ ?_
      unfold fgStep
      split
      · intro w hw'
        rcases List.mem_append.mp hw' with hw' | hw'
        · exact h w hw'
        · simp only [List.mem_singleton] at hw'
          have hl:0 < ws.length:=List.length_pos_iff.mpr hw
          have:=Nat.mod_lt (s.2 - 1) hl
          rw [hw',List.getD_eq_getElem?_getD,List.getElem?_eq_getElem this]
          exact List.getElem_mem _
      · exact h
  exact key _ _ nofun
omit hK in
theorem words_ok:∀ w ∈ words,okC w = true:=by decide
omit hK in
theorem groups0_mem (toks:List (List Nat)):∀ g ∈ groups0 toks,∀ w ∈ g,w ∈ toks∧w ≠ [47]:=by
  have key:∀ (ts:List (List Nat)) (gs:List (List (List Nat))) (P:List Nat→Prop),(∀ g ∈ gs,∀ w ∈ g,P w∧w ≠ [47])→(∀ w ∈ ts,P w)→∀ g ∈ ts.foldl grStep gs,∀ w ∈ g,P w∧w ≠ [47]:=by
    intro ts
    induction ts with
    | nil=>exact fun gs P h _=>h
    | cons t ts ih =>
      intro gs P h1 h2
      refine ih _ P ?_ fun w hw=>h2 w (.tail _ hw)
      intro g hg w hw
      unfold grStep at hg
      split at hg
      · rcases List.mem_append.mp hg with hg | hg
        · exact h1 g hg w hw
        · simp at hg;subst hg;cases hw
      · rename_i ht
        rcases List.mem_append.mp hg with hg | hg
        · exact h1 g (List.dropLast_subset _ hg) w hw
        · simp at hg;subst hg
          rcases List.mem_append.mp hw with hw | hw
          · rcases nil_or_snoc gs with rfl | ⟨a,b,rfl⟩
            · cases hw
            · simp [List.getLastD_eq_getLast?] at hw
              exact h1 b (by simp) w hw
          · simp at hw;subst hw;exact ⟨h2 w (.head _),ht⟩
  exact key toks [[]] _ (by simp) fun w hw=>hw
noncomputable def gSel (toks:List (List Nat)):List (List (List Nat)):=(groups0 toks).filter fun g=>decide (g ≠ [])
noncomputable def pGroups (toks:List (List Nat)):List (List (List Nat)):=if gSel toks = [] then [[[42]]] else gSel toks
omit hK in
theorem exists_max:∀ (l:List Int),l ≠ []→∃ M ∈ l,∀ a ∈ l,a≤M
  | [],h=>absurd rfl h
  | [x],_=>⟨x,.head _,fun a ha=>by simp at ha;lia⟩
  | x :: y :: r,_=>by
    refine e1_2 (exists_max (y :: r) (by simp)) (fun M h1 h2=>?_)
    by_cases h:x≤M
    · exact ⟨M,.tail _ h1,fun a ha=>by rcases List.mem_cons.mp ha with rfl | ha;exact h;exact h2 a ha⟩
    · exact ⟨x,.head _,fun a ha=>by rcases List.mem_cons.mp ha with rfl | ha;exact Int.le_refl _;have:=h2 a ha;lia⟩
noncomputable def singleP (g:List (List Nat)) (a:List Nat × Nat):Bool:=!decide (a.1 = [42]) || !decide (pick (some ((a.2:Int) - 1)) (some (a.2:Int)) g = [[42]])
noncomputable def pSingle (g:List (List Nat)):List (List Nat):=(g.zipIdx.filter (singleP g)).map Prod.fst
noncomputable def gtxt (g:List (List Nat)):List Nat:=joinL [] g
noncomputable abbrev qm:List Nat:=[91,94,47,93]
noncomputable def markP (p:It'):Bool × Bool:=match p with | none=>(true,false) | some s=>(false,decide (s = qm))
noncomputable def markT (w:List Nat):Bool × Bool:=(decide (w = [42]),decide (w = [63]))
noncomputable def markD (b:Bool × Bool):D:=.tup [.bool b.1,.bool b.2]
noncomputable def WordsOk (g:List (List Nat)):Prop:=g ≠ []∧g.length≤6∧∀ w ∈ g,w ∈ words∧w ≠ [47]
omit hK
theorem pTr_len (q pat:List Nat):(pTr q pat).length≤pat.length:=by
  have key:∀ (n:Nat) (s:List It' × Nat),s.1.length≤s.2→s.2≤pat.length→(looped (trGo pat) (trStep q pat) n s).1.length≤pat.length:=by
    intro n
    induction n with
    | zero=>exact fun s h1 h2=>Nat.le_trans h1 h2
    | succ n ih =>
      intro s h1 h2
      unfold looped
      split
      · rename_i hc
        simp only [trGo,decide_eq_true_eq] at hc
        refine e0_3 (trStep_grow q pat s (by lia)) (fun a b c=>?_)
        exact ih _ (by lia) b
      · exact Nat.le_trans h1 h2
  exact key _ _ (Nat.le_refl _) (Nat.zero_le _)
theorem gtxt_cons (w:List Nat) (g:List (List Nat)):gtxt (w :: g) = w ++ gtxt g:=by
  unfold gtxt;rw [joinL_cons]
  cases g with
  | nil=>simp [joinL]
  | cons a b=>rw [joinL_cons];simp
noncomputable def trW (q w:List Nat):It' :=
  if w = [42] then none else if w = [63] then some q else if w.head? = some 91 then some (setItem' ((w.drop 1).take (w.length - 2))) else some (escC specials (w.headD 0))
noncomputable def accW (q:List Nat) (acc:List It') (w:List Nat):List It':=if w = [42] then (if acc.getLast? = some none then acc else acc ++ [none]) else acc ++ [trW q w]
theorem app_get (pre r:List Nat) (i:Nat):(pre ++ r)[pre.length + i]? = r[i]?:=by
  rw [List.getElem?_append_right (by lia)];congr 1;lia
theorem setEnd_shift (pre r:List Nat) (i:Nat):setEnd (pre ++ r) (pre.length + i) = pre.length + setEnd r i:=by
  have hF:setFrom (pre ++ r) (pre.length + i) = pre.length + setFrom r i:=by
    unfold setFrom
    have e1:pre.length + i + 1 = pre.length + (i + 1):=by lia
    rw [app_get,e1]
    by_cases h:r[i]? = some 33
    · simp only [h,if_true,app_get]
      split <;> lia
    · simp only [h,if_false,app_get]
      split <;> lia
  have hL:∀ (n j:Nat),looped (openC (pre ++ r)) (· + 1) n (pre.length + j) = pre.length + looped (openC r) (· + 1) n j:=by
    intro n
    induction n with
    | zero=>exact fun j=>rfl
    | succ n ih =>
      intro j
      have ho:openC (pre ++ r) (pre.length + j) = openC r j:=by
        unfold openC
        rw [app_get]
        congr 1
        simp only [List.length_append]
        exact decide_eq_decide.mpr (by lia)
      unfold looped
      rw [ho]
      split
      · rw [show pre.length + j + 1 = pre.length + (j + 1) from Nat.add_assoc ..];exact ih (j + 1)
      · rfl
  unfold setEnd
  rw [hF,show (pre ++ r).length - (pre.length + setFrom r i) = r.length - setFrom r i by simp;lia]
  exact hL _ _
theorem setEnd_word (w post:List Nat) (hw:w ∈ words) (h:w.head? = some 91):setEnd (w ++ post) 1 = w.length - 1∧2≤w.length:=by
  have l:∀ (a:Nat),a + post.length = post.length + a:=fun a=>Nat.add_comm _ _
  simp only [words,List.mem_cons,List.not_mem_nil,or_false] at hw
  rcases hw with rfl | rfl | rfl | rfl | rfl | rfl | rfl | rfl | rfl | rfl | rfl <;> first | (exact absurd h (by decide)) | skip
  all_goals
    refine ⟨?_,by decide⟩
    simp [setEnd,setFrom,looped,openC]
    first | done | lia | (repeat rw [if_pos (by lia)])
theorem word_len (w:List Nat) (hw:w ∈ words):1≤w.length∧w.length≤6:=by
  revert w;decide
theorem word_one (w:List Nat) (hw:w ∈ words) (h:w.head? ≠ some 91):∃ c,w = [c]∧c ≠ 91∧c < 128∧sig c = false:=by
  simp only [words,List.mem_cons,List.not_mem_nil,or_false] at hw
  rcases hw with rfl | rfl | rfl | rfl | rfl | rfl | rfl | rfl | rfl | rfl | rfl <;> first | (exact absurd rfl h) | exact ⟨_,rfl,by decide,by decide,by decide⟩
theorem trStep_word (q pre w post:List Nat) (acc:List It') (hw:w ∈ words):trStep q (pre ++ (w ++ post)) (acc,pre.length) = (accW q acc w,pre.length + w.length):=by
  have h0:(pre ++ (w ++ post))[pre.length]? = w.head?:=by
    have:=app_get pre (w ++ post) 0
    rw [Nat.add_zero] at this
    rw [this]
    have:=(word_len w hw).1
    cases w with
    | nil=>simp at this
    | cons a b=>rfl
  by_cases h:w.head? = some 91
  · refine e0_2 (setEnd_word w post hw h) (fun h1 h2=>?_)
    have hE:setEnd (pre ++ (w ++ post)) (pre.length + 1) = pre.length + (w.length - 1):=by rw [setEnd_shift,h1]
    have n42:¬ w = [42]:=by rintro rfl;exact absurd h (by decide)
    have n63:¬ w = [63]:=by rintro rfl;exact absurd h (by decide)
    unfold trStep
    rw [h0,h]
    simp only [hE]
    rw [if_neg (by decide),if_neg (by decide),if_pos trivial,if_neg (by simp only [List.length_append];lia)]
    unfold accW trW
    rw [if_neg n42,if_neg n42,if_neg n63,if_pos h]
    rw [pick_mid,List.take_append,List.take_of_length_le (by lia),show pre.length + (w.length - 1) - pre.length = w.length - 1 by lia,List.drop_append,List.drop_of_length_le (by lia),show pre.length + 1 - pre.length = 1 by lia,List.nil_append,
      List.take_append_of_le_length (by lia),List.drop_take,show w.length - 1 - 1 = w.length - 2 from Nat.sub_sub ..,show pre.length + (w.length - 1) + 1 = pre.length + w.length by lia]
  · (refine e1_3 (word_one w hw h) (fun c q1q hc _=>?_);subst q1q)
    unfold trStep
    rw [h0]
    simp only [List.head?_cons,if_neg hc]
    unfold accW trW
    by_cases e1:c = 42
    · subst e1;simp
    · have:¬ ([c]:List Nat) = [42]:=by simpa using e1
      rw [if_neg e1,if_neg this,if_neg this]
      by_cases e2:c = 63
      · subst e2;simp
      · have:¬ ([c]:List Nat) = [63]:=by simpa using e2
        rw [if_neg e2,if_neg this,if_neg (by simpa using hc)];rfl
theorem pTr_words (q:List Nat):∀ (g:List (List Nat)) (pre:List Nat) (acc:List It') (n:Nat),(∀ w ∈ g,w ∈ words)→(gtxt g).length≤n→looped (trGo (pre ++ gtxt g)) (trStep q (pre ++ gtxt g)) n (acc,pre.length) = (g.foldl (accW q) acc,(pre ++ gtxt g).length)
  | [],pre,acc,n,_,_=>by
    have:trGo (pre ++ gtxt []) (acc,pre.length) = false:=by unfold trGo gtxt;simp [joinL]
    rw [looped_stop this];unfold gtxt;simp [joinL]
  | w :: g,pre,acc,n,hg,hn=>by
    have hw:=hg w (.head _)
    have hl:=word_len w hw
    rw [gtxt_cons] at hn ⊢
    rw [List.length_append] at hn
    obtain ⟨m,rfl⟩:∃ m,n = m + 1:=⟨n - 1,by lia⟩
    have hgo:trGo (pre ++ (w ++ gtxt g)) (acc,pre.length) = true:=by unfold trGo;simp;lia
    unfold looped
    rw [if_pos hgo,trStep_word q pre w _ acc hw]
    have ih:=pTr_words q g (pre ++ w) (accW q acc w) m (fun x hx=>hg x (.tail _ hx)) (by lia)
    rw [List.append_assoc,List.length_append] at ih
    exact ih
theorem pTr_gtxt (q:List Nat) {g:List (List Nat)} (h:∀ w ∈ g,w ∈ words):pTr q (gtxt g) = g.foldl (accW q) []:=by
  have:=pTr_words q g [] [] (gtxt g).length h (Nat.le_refl _)
  rw [List.nil_append] at this
  unfold pTr
  exact congrArg Prod.fst this
noncomputable def prevD {α:Type} (l:List α):Nat→List α
  | 0=>[]
  | j + 1=>l[j]?.toList
theorem prevD_succ {α:Type} (l:List α) (j:Nat):prevD l (j + 1) = l[j]?.toList:=rfl
theorem pick_prev {α:Type} (l:List α) (k:Nat):pick (some ((k:Int) - 1)) (some (k:Int)) l = prevD l k:=by
  cases k with
  | zero=>unfold pick kms_lo kms_hi prevD;simp
  | succ j =>
    rw [show ((j + 1:Nat):Int) - 1 = (j:Int) by lia,pick_mid,prevD_succ]
    cases h:l[j]? with
    | none=>rw [List.drop_of_length_le];rfl;have:=List.getElem?_eq_none_iff.mp h;simp;lia
    | some a =>
      (refine e1_1 (List.getElem?_eq_some_iff.mp h) (fun hj q2q=>?_);subst q2q)
      rw [List.drop_take,List.drop_eq_getElem_cons hj,show j + 1 - j = 1 from Nat.add_sub_cancel_left ..];rfl
theorem pSingle_snoc (g:List (List Nat)) (w:List Nat):pSingle (g ++ [w]) = pSingle g ++ (if w = [42]∧g.getLast? = some [42] then [] else [w]):=by
  unfold pSingle
  rw [List.zipIdx_append,List.filter_append,List.map_append]
  congr 1
  · congr 1
    refine List.filter_congr fun a ha=>?_
    have hk:a.2 < g.length:=by
      obtain ⟨b,k⟩:=a
      have:=List.mem_zipIdx_iff_getElem?.mp ha
      exact (List.getElem?_eq_some_iff.mp this).1
    have e:prevD (g ++ [w]) a.2 = prevD g a.2:=by
      obtain ⟨b,k⟩:=a
      cases k with
      | zero=>rfl
      | succ j=>simp only at hk ⊢;rw [prevD_succ,prevD_succ,List.getElem?_append_left (by lia)]
    unfold singleP
    rw [pick_prev,pick_prev,e]
  · have:singleP (g ++ [w]) (w,0 + g.length) = !decide (w = [42]∧g.getLast? = some [42]):=by
      unfold singleP
      simp only [Nat.zero_add]
      rw [pick_prev]
      have e:(prevD (g ++ [w]) g.length = [[42]]) = (g.getLast? = some [42]):=by
        rcases nil_or_snoc g with rfl | ⟨a,b,rfl⟩
        · simp [prevD]
        · simp [prevD]
      simp only [e]
      by_cases h1:w = [42] <;> by_cases h2:g.getLast? = some [42] <;> simp [h1,h2]
    simp only [List.zipIdx_cons,List.zipIdx_nil,List.filter_cons,List.filter_nil,this]
    by_cases h:w = [42]∧g.getLast? = some [42]
    · simp [h]
    · rw [if_neg h];simp [h]
theorem trW_none {q w:List Nat}:trW q w = none ↔ w = [42]:=by
  unfold trW
  constructor
  · intro h
    by_cases e:w = [42]
    · exact e
    · rw [if_neg e] at h;split at h
      · cases h
      · split at h <;> cases h
  · rintro rfl;rfl
theorem parts_eq3 (q:List Nat) (g:List (List Nat)):g.foldl (accW q) [] = (pSingle g).map (trW q):=by
  have key:∀ (n:Nat) (g:List (List Nat)),g.length = n→g.foldl (accW q) [] = (pSingle g).map (trW q)∧((g.foldl (accW q) []).getLast? = some none ↔ g.getLast? = some [42]):=by
    intro n
    induction n with
    | zero=>intro g hg;obtain rfl:=List.eq_nil_of_length_eq_zero hg;exact ⟨rfl,by simp⟩
    | succ n ih =>
      intro g hg
      rcases nil_or_snoc g with rfl | ⟨a,w,rfl⟩
      · simp at hg
      · refine e0_2 (ih a (by simpa using hg)) (fun i1 i2=>?_)
        rw [List.foldl_append,List.foldl_cons,List.foldl_nil,pSingle_snoc,List.map_append]
        by_cases hw:w = [42]
        · subst hw
          have ea:∀ acc,accW q acc [42] = if acc.getLast? = some none then acc else acc ++ [none]:=fun acc=>rfl
          rw [ea]
          by_cases hl:a.getLast? = some [42]
          · rw [if_pos (i2.mpr hl),if_pos ⟨rfl,hl⟩]
            exact ⟨by rw [i1];simp,by simp [i2.mpr hl]⟩
          · rw [if_neg (fun h=>hl (i2.mp h)),if_neg (fun h=>hl h.2)]
            exact ⟨by rw [i1];rfl,by simp⟩
        · have ea:∀ acc,accW q acc w = acc ++ [trW q w]:=fun acc=>by unfold accW;rw [if_neg hw]
          rw [ea,if_neg (fun h=>hw h.1)]
          refine ⟨by rw [i1];rfl,?_⟩
          simp only [List.getLast?_append,List.getLast?_singleton,Option.some_or,Option.some.injEq]
          rw [trW_none]
  exact (key _ g rfl).1
theorem pTr_single (q:List Nat) {g:List (List Nat)} (h:WordsOk g):pTr q (gtxt g) = (pSingle g).map (trW q):=by
  rw [pTr_gtxt q fun w hw=>(h.2.2 w hw).1,parts_eq3]
theorem pSingle_mem {g:List (List Nat)} {w:List Nat} (h:w ∈ pSingle g):w ∈ g:=by
  unfold pSingle at h
  (refine e1_2 (List.mem_map.mp h) (fun a ha q3q=>?_);subst q3q)
  exact List.fst_mem_of_mem_zipIdx (List.mem_filter.mp ha).1
theorem trW_all:∀ w ∈ words,w ≠ [47]→(markP (trW qm w) = markT w)∧∀ s,trW qm w = some s→okC s = true∧s ≠ []∧s.length≤100∧(∀ x ∈ s,x < 128)∧(s.head? = some 91→2≤s.length)∧(pick (some 1) (some 2) (tkIn s) = [45]→3≤(tkIn s).length)∧∀ c ∈ [97,98,99,46],pTakes s c = decide (c ∈ dicGet nmTab w w):=by
  intro w hw h47
  simp only [words,List.mem_cons,List.not_mem_nil,or_false] at hw
  rcases hw with rfl | rfl | rfl | rfl | rfl | rfl | rfl | rfl | rfl | rfl | rfl <;> first | (exact absurd rfl h47) | skip
  all_goals
    refine ⟨by decide +kernel,fun s hs=>?_⟩
    first
      | (cases hs;done)
      | (have e:=Option.some.inj hs;subst e;decide +kernel)
theorem marks_eq {g:List (List Nat)} (h:WordsOk g):(pTr qm (gtxt g)).map markP = (pSingle g).map markT:=by
  rw [pTr_single qm h,List.map_map]
  exact List.map_congr_left fun w hw=>(trW_all w (h.2.2 w (pSingle_mem hw)).1 (h.2.2 w (pSingle_mem hw)).2).1
theorem gtxt_part {g:List (List Nat)} (h:WordsOk g) {s:List Nat} (hs:some s ∈ pTr qm (gtxt g)):∃ w ∈ words,w ≠ [47]∧trW qm w = some s:=by
  rw [pTr_single qm h] at hs
  refine e1_2 (List.mem_map.mp hs) (fun w hw e=>?_)
  exact ⟨w,(h.2.2 w (pSingle_mem hw)).1,(h.2.2 w (pSingle_mem hw)).2,e⟩
theorem gtxt_parts {g:List (List Nat)} (h:WordsOk g):∀ s,some s ∈ pTr qm (gtxt g)→okC s = true∧s ≠ []:=fun s hs=>by
  refine e1_3 (gtxt_part h hs) (fun w h1 h2 h3=>?_)
  have:=(trW_all w h1 h2).2 s h3
  exact ⟨this.1,this.2.1⟩
theorem gtxt_at:∀ (g:List (List Nat)) (i:Nat),(∀ w ∈ g,w ∈ words∧w ≠ [47])→(gtxt g)[i]? = some 91→∃ pre w post,gtxt g = pre ++ (w ++ post)∧i = pre.length∧w ∈ words∧w.head? = some 91
  | [],i,_,h=>by unfold gtxt at h;simp [joinL] at h
  | w :: g,i,hg,h=>by
    rw [gtxt_cons] at h ⊢
    have hw:=(hg w (.head _)).1
    by_cases hi:i < w.length
    · rw [List.getElem?_append_left hi] at h
      have key:∀ w ∈ words,∀ i < w.length,w[i]? = some 91→i = 0:=by decide
      obtain rfl:=key w hw i hi h
      refine ⟨[],w,gtxt g,rfl,rfl,hw,?_⟩
      rw [List.head?_eq_getElem?];exact h
    · rw [List.getElem?_append_right (by lia)] at h
      refine e3_4 (gtxt_at g (i - w.length) (fun x hx=>hg x (.tail _ hx)) h) (fun pre v post e hi' hv hh=>?_)
      exact ⟨w ++ pre,v,post,by rw [e];simp,by simp;lia,hv,hh⟩
theorem gtxt_sets {g:List (List Nat)} (h:WordsOk g):SetsOk (gtxt g):=by
  intro i hi hne
  (refine e3_4 (gtxt_at g i h.2.2 hi) (fun pre w post e q4q hw hh=>?_);subst q4q)
  refine e0_2 (setEnd_word w post hw hh) (fun h1 h2=>?_)
  rw [e]
  have hE:setEnd (pre ++ (w ++ post)) (pre.length + 1) = pre.length + (w.length - 1):=by rw [setEnd_shift,h1]
  rw [hE,pick_mid,List.take_append,List.take_of_length_le (by lia),show pre.length + (w.length - 1) - pre.length = w.length - 1 by lia,List.drop_append,List.drop_of_length_le (by lia),show pre.length + 1 - pre.length = 1 by lia,List.nil_append,
      List.take_append_of_le_length (by lia)]
  clear e hi hne hE h1 h2
  simp only [words,List.mem_cons,List.not_mem_nil,or_false] at hw
  rcases hw with rfl | rfl | rfl | rfl | rfl | rfl | rfl | rfl | rfl | rfl | rfl <;> first | (exact absurd hh (by decide)) | skip
  · exact .inl (by decide)
  · exact .inl (by decide)
  · exact .inr ⟨[],97,98,rfl,.inl ⟨rfl,by decide⟩,by decide,by decide,by decide⟩
  · exact .inr ⟨[],98,97,rfl,.inl ⟨rfl,by decide⟩,by decide,by decide,by decide⟩
  · exact .inr ⟨[33],98,97,rfl,.inr rfl,by decide,by decide,by decide⟩
theorem gtxt_mem:∀ (g:List (List Nat)) (c:Nat),c ∈ gtxt g→∃ w ∈ g,c ∈ w
  | [],c,h=>by unfold gtxt at h;simp [joinL] at h
  | w :: g,c,h=>by
    rw [gtxt_cons] at h
    rcases List.mem_append.mp h with h | h
    · exact ⟨w,.head _,h⟩
    · refine e1_2 (gtxt_mem g c h) (fun v hv hc=>?_)
      exact ⟨v,.tail _ hv,hc⟩
theorem gtxt_len:∀ (g:List (List Nat)),(∀ w ∈ g,w ∈ words)→(gtxt g).length≤6 * g.length
  | [],_=>by unfold gtxt;simp [joinL]
  | w :: g,h=>by
    have:=gtxt_len g fun x hx=>h x (.tail _ hx)
    have:=(word_len w (h w (.head _))).2
    rw [gtxt_cons];simp;lia
theorem gtxt_signs {g:List (List Nat)} (h:WordsOk g):gtxt g ≠ []∧(gtxt g).length≤40∧∀ c ∈ gtxt g,c ≠ 47∧sig c = false∧c < 0x110000:=by
  refine ⟨?_,?_,fun c hc=>?_⟩
  · refine e0_3 (h) (fun h1 _ h3=>?_)
    cases g with
    | nil=>exact absurd rfl h1
    | cons w g =>
      rw [gtxt_cons]
      have:=(word_len w (h3 w (.head _)).1).1
      intro q
      have q2:=congrArg List.length q
      rw [List.length_append,List.length_nil] at q2;lia
  · have:=gtxt_len g fun w hw=>(h.2.2 w hw).1
    have:=h.2.1
    lia
  · refine e1_2 (gtxt_mem g c hc) (fun w hw hc'=>?_)
    have key:∀ w ∈ words,w ≠ [47]→∀ c ∈ w,c ≠ 47∧sig c = false∧c < 0x110000:=by decide
    exact key w (h.2.2 w hw).1 (h.2.2 w hw).2 c hc'
include hK
noncomputable def words2:List (List Nat):=[[97],[98],[99],[46],[47],[46,46,47]]
noncomputable def crooked (x:Int):List Nat:=[46,47] ++ joinL [] (pFigs words2 (x.fdiv 3))
noncomputable def fitsB (gs:List (List (List Nat))) (x:Int):Bool:=decide ((pNames (crooked x)).length = gs.length) && ((gs.zip (pNames (crooked x))).all fun a=>pMeans (pSingle a.1) a.2)
noncomputable def selB (x:Int) (side:Nat):Bool:=decide (x.fmod 3 = (side:Int)) || decide (x.fmod 3 = 2)
noncomputable def held (gs:List (List (List Nat))) (done:List Int) (side:Nat):List (List Nat) :=
  done.flatMap fun x=>if selB x side && fitsB gs x then [joinL [47] (pNames (crooked x))] else []
omit hK
theorem means_star (ts:List (List Nat)):∀ (n:Nat) (nm:List Nat),nm.length = n→(pMeans (ts ++ [[42]]) nm = true ↔ ∃ j,j≤nm.length∧pMeans ts (nm.take j) = true):=by
  intro n
  induction n with
  | zero =>
    intro nm h
    obtain rfl:=List.eq_nil_of_length_eq_zero h
    rw [pMeans_snoc_nil,if_pos rfl]
    simp
  | succ n ih =>
    intro nm h
    rcases nil_or_snoc nm with rfl | ⟨a,c,rfl⟩
    · simp at h
    · rw [pMeans_snoc,if_pos rfl,Bool.or_eq_true,ih a (by simpa using h)]
      constructor
      · rintro (h1 | ⟨j,h1,h2⟩)
        · exact ⟨(a ++ [c]).length,Nat.le_refl _,by rw [List.take_length];exact h1⟩
        · exact ⟨j,by simp;lia,by rw [List.take_append_of_le_length h1];exact h2⟩
      · rintro ⟨j,h1,h2⟩
        by_cases hj:j≤a.length
        · exact .inr ⟨j,hj,by rw [List.take_append_of_le_length hj] at h2;exact h2⟩
        · exact .inl (by rw [List.take_of_length_le (by simp at h1 ⊢;lia)] at h2;exact h2)
theorem reads_run (name:List Nat) (hn:∀ c ∈ name,c ∈ [97,98,99,46]):∀ (n:Nat) (ts:List (List Nat)),ts.length = n→(∀ w ∈ ts,w ∈ words∧w ≠ [47])→∀ i,i ∈ (ts.map (trW qm)).foldl (readStep pTakes name) [0] ↔ i≤name.length∧pMeans ts (name.take i) = true:=by
  intro n
  induction n with
  | zero =>
    intro ts h _ i
    obtain rfl:=List.eq_nil_of_length_eq_zero h
    rw [pMeans_nil]
    simp only [List.map_nil,List.foldl_nil,List.mem_singleton,beq_iff_eq]
    constructor
    · rintro rfl;simp
    · rintro ⟨h1,h2⟩
      have:=congrArg List.length h2
      simp at this
      rcases this with h | h <;> (try subst h) <;> (try simp at h1) <;> lia
  | succ n ih =>
    intro ts h hw i
    rcases nil_or_snoc ts with rfl | ⟨a,t,rfl⟩
    · simp at h
    · have ih':=ih a (by simpa using h) fun w hw'=>hw w (by simp [hw'])
      rw [List.map_append,List.foldl_append]
      simp only [List.map_cons,List.map_nil,List.foldl_cons,List.foldl_nil]
      generalize hat:(a.map (trW qm)).foldl (readStep pTakes name) [0] = at' at ih'
      by_cases ht:t = [42]
      · subst ht
        have e:trW qm [42] = none:=rfl
        rw [e]
        simp only [readStep,List.mem_range'_1]
        refine e0_3 (minFrom_spec at' (name.length + 1)) (fun q1 q2 q3=>?_)
        change minFrom name.length at'≤_ at q1
        change ∀ a ∈ at',minFrom name.length at'≤a at q2
        change minFrom name.length at' = _ ∨ minFrom name.length at' ∈ at' at q3
        constructor
        · rintro ⟨h1,h2⟩
          have hi:i≤name.length:=by lia
          refine ⟨hi,?_⟩
          rw [means_star a _ _ rfl]
          rcases q3 with q3 | q3
          · lia
          · refine e0_2 ((ih' _).mp q3) (fun h3 h4=>?_)
            refine ⟨minFrom name.length at',by rw [List.length_take];lia,?_⟩
            rw [List.take_take,Nat.min_eq_left h1];exact h4
        · rintro ⟨h1,h2⟩
          rw [means_star a _ _ rfl] at h2
          refine e1_2 (h2) (fun j h3 h4=>?_)
          rw [List.length_take] at h3
          rw [List.take_take,Nat.min_eq_left (by lia)] at h4
          have:=q2 j ((ih' j).mpr ⟨by lia,h4⟩)
          lia
      · have ⟨h1,h2⟩:=hw t (by simp)
        cases e:trW qm t with
        | none=>exact absurd (trW_none.mp e) ht
        | some p =>
          have hp:=((trW_all t h1 h2).2 p e).2.2.2.2.2.2
          simp only [readStep,List.mem_map,List.mem_filter]
          constructor
          · rintro ⟨j,⟨h3,h4⟩,rfl⟩
            refine e0_2 ((ih' j).mp h3) (fun h5 h6=>?_)
            cases hj:name[j]? with
            | none=>rw [hj] at h4;cases h4
            | some c =>
              rw [hj] at h4
              (refine e1_1 (List.getElem?_eq_some_iff.mp hj) (fun hlt q1q=>?_);subst q1q)
              refine ⟨hlt,?_⟩
              rw [List.take_succ_eq_append_getElem hlt,pMeans_snoc,if_neg ht,Bool.and_eq_true]
              exact ⟨by rw [← hp _ (hn _ (List.getElem_mem hlt))];exact h4,h6⟩
          · rintro ⟨h3,h4⟩
            cases i with
            | zero=>rw [List.take_zero,pMeans_snoc_nil,if_neg ht] at h4;cases h4
            | succ j =>
              have hlt:j < name.length:=h3
              rw [List.take_succ_eq_append_getElem hlt,pMeans_snoc,if_neg ht,Bool.and_eq_true] at h4
              refine ⟨j,⟨(ih' j).mpr ⟨by lia,h4.2⟩,?_⟩,rfl⟩
              rw [List.getElem?_eq_getElem hlt]
              simp only
              rw [hp _ (hn _ (List.getElem_mem hlt))];exact h4.1
theorem reads_means {g:List (List Nat)} {piece:List Nat} (h:WordsOk g) (hn:∀ c ∈ piece,c ∈ [97,98,99,46]):pReads pTakes (pTr qm (gtxt g)) piece = pMeans (pSingle g) piece:=by
  have:=reads_run piece hn _ (pSingle g) rfl (fun w hw=>h.2.2 w (pSingle_mem hw)) piece.length
  rw [List.take_length] at this
  unfold pReads
  rw [pTr_single qm h,Bool.eq_iff_iff,decide_eq_true_iff,this]
  simp
noncomputable abbrev dd:List Nat:=[46,46]
noncomputable abbrev nmRun (ps:List (List Nat)):List (List Nat) × Nat:=ps.reverse.foldl nmStep ([],0)
theorem nmRun_cons (p:List Nat) (ps:List (List Nat)):nmRun (p :: ps) = nmStep (nmRun ps) p:=by
  unfold nmRun;rw [List.reverse_cons,List.foldl_append];rfl
omit hK in
theorem sub_pred {n r:Nat} (h:0 < r):n + 1 - r = n - (r - 1):=by
  cases r with
  | zero=>exact absurd h (Nat.lt_irrefl 0)
  | succ r=>exact Nat.add_sub_add_right n 1 r
theorem norm_names:∀ (ps:List (List Nat)) (d:Nat) (ns:List (List Nat)),(∀ n ∈ ns,n ≠ dd) →
    ps.foldl (normStep []) (List.replicate d dd ++ ns) = if (nmRun ps).2≤ns.length then List.replicate d dd ++ (ns.take (ns.length - (nmRun ps).2) ++ (nmRun ps).1) else List.replicate (d + ((nmRun ps).2 - ns.length)) dd ++ (nmRun ps).1
  | [],d,ns,_=>by simp [nmRun]
  | p :: ps,d,ns,hns=>by
    rw [List.foldl_cons,nmRun_cons]
    generalize hr:nmRun ps = r
    by_cases h1:p = [] ∨ p = [46]
    · have e1:normStep [] (List.replicate d dd ++ ns) p = List.replicate d dd ++ ns:=by unfold normStep;rw [if_pos h1]
      have e2:nmStep r p = r:=by unfold nmStep;rcases h1 with rfl | rfl <;> simp
      rw [e1,e2,norm_names ps d ns hns,hr]
    · by_cases h2:p = dd
      · have e2:nmStep r p = (r.1,r.2 + 1):=by unfold nmStep;rw [if_pos h2]
        rw [e2]
        rcases nil_or_snoc ns with rfl | ⟨a,b,rfl⟩
        · have e1:normStep [] (List.replicate d dd ++ []) p = List.replicate (d + 1) dd ++ []:=by
            unfold normStep
            rw [if_neg h1,if_pos]
            · rw [h2,List.append_nil,List.append_nil,List.replicate_succ']
            · cases d with
              | zero=>exact .inr (.inl ⟨rfl,rfl⟩)
              | succ d=>refine .inr (.inr ?_);rw [List.append_nil,List.replicate_succ'];simp
          rw [e1,norm_names ps (d + 1) [] nofun,hr]
          simp only [List.length_nil,Nat.le_zero,Nat.sub_zero,List.take_nil,List.nil_append]
          by_cases h0:r.2 = 0
          · rw [if_pos h0,if_neg (by lia),h0]
          · rw [if_neg h0,if_neg (by lia),show d + 1 + r.2 = d + (r.2 + 1) from Nat.add_right_comm d 1 r.2]
        · have hb:b ≠ dd:=hns b (by simp)
          have e1:normStep [] (List.replicate d dd ++ (a ++ [b])) p = List.replicate d dd ++ a:=by
            unfold normStep
            rw [if_neg h1,if_neg,← List.append_assoc,List.dropLast_concat]
            rintro (h | h | h)
            · exact h h2
            · simp at h
            · rw [← List.append_assoc,List.getLast?_concat] at h;exact hb (Option.some.inj h)
          rw [e1,norm_names ps d a (fun n hn=>hns n (by simp [hn])),hr]
          simp only [List.length_append,List.length_singleton]
          by_cases h0:r.2≤a.length
          · rw [if_pos h0,if_pos (by lia),List.take_append_of_le_length (Nat.le_trans (Nat.le_of_eq (Nat.add_sub_add_right a.length 1 r.2)) (Nat.sub_le ..)),show a.length + 1 - (r.2 + 1) = a.length - r.2 from Nat.add_sub_add_right a.length 1 r.2]
          · rw [if_neg h0,if_neg (by lia),show r.2 + 1 - (a.length + 1) = r.2 - a.length from Nat.add_sub_add_right r.2 1 a.length]
      · have hn1:p ≠ []:=fun q=>h1 (.inl q)
        have hn2:p ≠ [46]:=fun q=>h1 (.inr q)
        have e1:normStep [] (List.replicate d dd ++ ns) p = List.replicate d dd ++ (ns ++ [p]):=by
          unfold normStep
          rw [if_neg h1,if_pos (.inl h2),List.append_assoc]
        rw [e1,norm_names ps d (ns ++ [p]) (fun n hn=>by rcases List.mem_append.mp hn with hn | hn;exact hns n hn;simp at hn;subst hn;exact h2),hr]
        simp only [List.length_append,List.length_singleton]
        by_cases h0:0 < r.2
        · have e2:nmStep r p = (r.1,r.2 - 1):=by unfold nmStep;rw [if_neg h2,if_pos ⟨hn1,hn2,h0⟩]
          rw [e2]
          simp only
          by_cases h3:r.2≤ns.length + 1
          · rw [if_pos h3,if_pos (by lia),List.take_append_of_le_length (by rw [sub_pred h0];exact Nat.sub_le ..),show ns.length + 1 - r.2 = ns.length - (r.2 - 1) from sub_pred h0]
          · rw [if_neg h3,if_neg (by lia),show r.2 - (ns.length + 1) = r.2 - 1 - ns.length from by rw [Nat.sub_sub,Nat.add_comm 1]]
        · have h3:r.2 = 0:=by lia
          have e2:nmStep r p = (p :: r.1,0):=by unfold nmStep;rw [if_neg h2,if_neg (fun h=>h0 h.2.2),if_pos ⟨hn1,hn2⟩,h3]
          rw [e2]
          simp only [h3,Nat.zero_le,if_true,Nat.sub_zero,List.take_length]
          rw [List.take_of_length_le (by simp)];simp
theorem words2_ok:∀ w ∈ words2,okC w = true∧w.length≤3∧∀ c ∈ w,c ∈ [97,98,99,46,47]:=by decide
theorem joinE_mem:∀ (g:List (List Nat)) (c:Nat),c ∈ joinL [] g→∃ w ∈ g,c ∈ w:=gtxt_mem
theorem joinE_len:∀ (g:List (List Nat)),(∀ w ∈ g,w.length≤3)→(joinL [] g).length≤3 * g.length
  | [],_=>by simp [joinL]
  | w :: g,h=>by
    have:=joinE_len g fun x hx=>h x (.tail _ hx)
    have:=h w (.head _)
    have e:=gtxt_cons w g
    unfold gtxt at e
    rw [e];simp;lia
theorem crooked_ok (x:Int):(crooked x).length≤20∧(∀ c ∈ crooked x,c ∈ [97,98,99,46,47])∧okC (crooked x) = true:=by
  have h1:=pFigs_mem words2 (x.fdiv 3) (by decide)
  have h2:=pFigs_len words2 (x.fdiv 3)
  have h3:∀ c ∈ crooked x,c ∈ [97,98,99,46,47]:=by
    intro c hc
    unfold crooked at hc
    rcases List.mem_append.mp hc with hc | hc
    · have key:∀ c ∈ ([46,47]:List Nat),c ∈ ([97,98,99,46,47]:List Nat):=by decide
      exact key c hc
    · refine e1_2 (joinE_mem _ c hc) (fun w hw hc=>?_)
      exact (words2_ok w (h1 w hw)).2.2 c hc
  refine ⟨?_,h3,?_⟩
  · have:=joinE_len (pFigs words2 (x.fdiv 3)) fun w hw=>(words2_ok w (h1 w hw)).2.1
    unfold crooked;simp;lia
  · unfold okC
    refine List.all_eq_true.mpr fun c hc=>?_
    have:=h3 c hc
    simp only [List.mem_cons,List.not_mem_nil,or_false] at this
    rw [decide_eq_true_iff];lia
theorem nmRun_mem {ps:List (List Nat)} {n:List Nat} (h:n ∈ (nmRun ps).1):n ∈ ps∧n ≠ []∧n ≠ dd:=by
  induction ps with
  | nil=>cases h
  | cons p ps ih =>
    rw [nmRun_cons] at h
    unfold nmStep at h
    have old:n ∈ (nmRun ps).1→n ∈ p :: ps∧n ≠ []∧n ≠ dd:=fun h=>by
      refine e0_3 (ih h) (fun a b c=>?_);exact ⟨.tail _ a,b,c⟩
    split at h
    · exact old h
    · rename_i h1
      split at h
      · exact old h
      · split at h
        · rename_i h2
          rcases List.mem_cons.mp h with rfl | h
          · exact ⟨.head _,h2.1,h1⟩
          · exact old h
        · exact old h
theorem mem_sum:∀ (l:List Nat) (a:Nat),a ∈ l→a≤l.sum
  | b :: l,a,h=>by
    rw [List.sum_cons]
    rcases List.mem_cons.mp h with rfl | h
    · lia
    · have:=mem_sum l a h;lia
theorem nmRun_len (ps:List (List Nat)):(nmRun ps).1.length + (nmRun ps).2≤ps.length:=by
  induction ps with
  | nil=>exact Nat.le_refl _
  | cons p ps ih =>
    rw [nmRun_cons]
    have:=nmStep_len (nmRun ps) p
    rw [List.length_cons];lia
theorem names_fit (x:Int):NoEmp (pNames (crooked x))∧(∀ p ∈ pNames (crooked x),p.length≤20∧∀ c ∈ p,c ∈ [97,98,99,46])∧(pNames (crooked x)).length≤21∧joinL [47] (pNames (crooked x)) = pNormpath (crooked x):=by
  refine e0_3 (crooked_ok x) (fun hl hc _=>?_)
  have e1:pNames (crooked x) = if 0 < (nmRun (splitC 47 (crooked x))).2 ∨ (nmRun (splitC 47 (crooked x))).1 ≠ [] then List.replicate (nmRun (splitC 47 (crooked x))).2 dd ++ (nmRun (splitC 47 (crooked x))).1 else [[46]]:=rfl
  have hsum:=splitC_sum 47 (crooked x)
  have hlen:(splitC 47 (crooked x)).length≤21:=by
    have:=lens_length (splitC 47 (crooked x))
    unfold lens at this
    lia
  have hrun:=nmRun_len (splitC 47 (crooked x))
  have hpl:∀ p ∈ splitC 47 (crooked x),p.length≤20∧∀ c ∈ p,c ≠ 47∧c ∈ [97,98,99,46]:=by
    intro p hp
    have hx:=split_in 47 _ p hp
    refine ⟨?_,fun c hcp=>?_⟩
    · have:p.length + 1≤((splitC 47 (crooked x)).map fun p=>p.length + 1).sum:=mem_sum _ _ (List.mem_map_of_mem (f:=fun p:List Nat=>p.length + 1) hp)
      lia
    · have h1:=hc c (hx c hcp).2
      have h2:=(hx c hcp).1
      refine ⟨h2,?_⟩
      simp only [List.mem_cons,List.not_mem_nil,or_false] at h1 ⊢
      lia
  have hin:∀ p ∈ pNames (crooked x),p ≠ []∧p.length≤20∧∀ c ∈ p,c ≠ 47∧c ∈ [97,98,99,46]:=by
    intro p hp
    rw [e1] at hp
    split at hp
    · rcases List.mem_append.mp hp with hp | hp
      · obtain rfl:=List.eq_of_mem_replicate hp
        exact ⟨by decide,by decide,by decide⟩
      · refine e0_3 (nmRun_mem hp) (fun h1 h2 _=>?_)
        exact ⟨h2,hpl p h1⟩
    · simp at hp;subst hp;exact ⟨by decide,by decide,by decide⟩
  refine ⟨fun p hp=>⟨(hin p hp).1,fun c hcp=>((hin p hp).2.2 c hcp).1⟩,fun p hp=>⟨(hin p hp).2.1,fun c hcp=>((hin p hp).2.2 c hcp).2⟩,?_,?_⟩
  · rw [e1]
    split
    · rw [List.length_append,List.length_replicate];lia
    · simp
  · have hs:pSplitroot (crooked x) = ([],[],crooked x):=by
      unfold pSplitroot crooked
      rw [if_pos]
      rw [show ([46,47]:List Nat) ++ joinL [] (pFigs words2 (x.fdiv 3)) = 46 :: 47 :: joinL [] (pFigs words2 (x.fdiv 3)) from rfl]
      have:=pick_to (46 :: 47 :: joinL [] (pFigs words2 (x.fdiv 3))) 1
      simp at this ⊢
      first | (rw [this];decide) | simp [this]
    have hne:crooked x ≠ []:=by unfold crooked;simp
    unfold pNormpath
    rw [if_neg hne,hs]
    have hf:=norm_names (splitC 47 (crooked x)) 0 [] nofun
    simp only [List.replicate_zero,List.nil_append,List.length_nil,Nat.le_zero,Nat.sub_zero,List.take_nil,Nat.zero_add] at hf
    simp only [List.nil_append]
    rw [hf,e1]
    by_cases h0:(nmRun (splitC 47 (crooked x))).2 = 0
    · rw [if_pos h0,h0]
      by_cases h1:(nmRun (splitC 47 (crooked x))).1 = []
      · rw [h1];simp [joinL]
      · rw [if_pos (.inr h1),if_neg]
        · simp
        · intro q
          refine e2_2 (joinL_last (c:=47) (nmRun (splitC 47 (crooked x))).1 (fun p hp=>⟨(nmRun_mem hp).2.1,fun c hcp=>((hpl p (nmRun_mem hp).1).2 c hcp).1⟩) h1) (fun y z e _=>?_)
          rw [e] at q;simp at q
    · rw [if_neg h0,if_pos (.inl (by lia)),if_neg]
      intro q
      obtain ⟨y,z,e,_⟩:=joinL_last (c:=47) (List.replicate (nmRun (splitC 47 (crooked x))).2 dd ++ (nmRun (splitC 47 (crooked x))).1) (fun p hp=>by
        rcases List.mem_append.mp hp with hp | hp
        · obtain rfl:=List.eq_of_mem_replicate hp;exact ⟨by decide,by decide⟩
        · exact ⟨(nmRun_mem hp).2.1,fun c hcp=>((hpl p (nmRun_mem hp).1).2 c hcp).1⟩) (by
        obtain ⟨m,hm⟩:∃ m,(nmRun (splitC 47 (crooked x))).2 = m + 1:=⟨_,(Nat.succ_pred_eq_of_pos (by lia)).symm⟩
        rw [hm,List.replicate_succ];simp)
      rw [e] at q;simp at q
include hK
noncomputable def lawLoop:List Stmt:=((bodyAt 33)[10]?).elim [] fun s=>(stmtOf s).2.1
noncomputable abbrev bodyΓ (v0 v1 v2 v4 v7:D) (tk:Option B) (sv:Value) (parts:List (List It')) (a b:Addr) (x:Int) (t11 t12 t13 t14 t15 t16 t17:Option B):Ctxt :=
  [some (.val v0),some (.val v1),some (.val v2),tk,some (.val v4),some (.cell (some (.raw sv))),some (.val (.list (parts.map fun ps=>D.list (ps.map (itD sv))))),some (.val v7),some (.val (.raw (.ref a))),some (.cell (some (.raw (.ref b)))),some (.val (.int x)),t11,t12,t13,t14,t15,t16,t17,none,none]
noncomputable abbrev bodyG (a a1 a2 b b1 b2:Addr) (H0 H1 D0 D1:List (List Nat)):Gh:=nestG b [(b1,D0.map .str),(b2,D1.map .str)] ++ (nestG a [(a1,H0.map .str),(a2,H1.map .str)] ++ [])
noncomputable def ext3 (gs:List (List (List Nat))) (x:Int) (side:Nat):List (List Nat):=if selB x side && fitsB gs x then [joinL [47] (pNames (crooked x))] else []
noncomputable def BodyP (v0 v1 v2 v4 v7:D) (tk:Option B) (sv:Value) (parts:List (List It')) (a a1 a2 b b1 b2:Addr) (x:Int) (H0 H1:List (List Nat)) (Γ:Ctxt) (G:Gh):Prop :=
  ∃ t11 t12 t13 t14 t15 t16 t17,Γ = bodyΓ v0 v1 v2 v4 v7 tk sv parts a b x t11 t12 t13 t14 t15 t16 t17∧G = bodyG a a1 a2 b b1 b2 H0 H1 H0 H1
omit hK in
theorem nd_six {a a1 a2 b b1 b2:Addr} {H0 H1 D0 D1:List (List Nat)} (h:((bodyG a a1 a2 b b1 b2 H0 H1 D0 D1).map Prod.fst).Nodup) :
    (b ≠ b1∧b ≠ b2∧b ≠ a∧b ≠ a1∧b ≠ a2)∧(b1 ≠ b2∧b1 ≠ a∧b1 ≠ a1∧b1 ≠ a2)∧(b2 ≠ a∧b2 ≠ a1∧b2 ≠ a2)∧(a ≠ a1∧a ≠ a2)∧a1 ≠ a2:=by
  simp only [bodyG,nestG,List.map_append,List.map_cons,List.map_nil,List.append_nil,List.cons_append,List.nil_append,List.nodup_cons,List.mem_cons,List.not_mem_nil,or_false,not_or] at h
  exact ⟨h.1,h.2.1,h.2.2.1,h.2.2.2.1,h.2.2.2.2.1⟩
omit hK in
theorem setG_a1 {a a1 a2 b b1 b2:Addr} {H0 H1 D0 D1 Z:List (List Nat)} (h:((bodyG a a1 a2 b b1 b2 H0 H1 D0 D1).map Prod.fst).Nodup):setG a1 (Z.map .str) (bodyG a a1 a2 b b1 b2 H0 H1 D0 D1) = bodyG a a1 a2 b b1 b2 Z H1 D0 D1:=by
  (refine e0_5 (nd_six h) (fun q1q q2q q3q q4q e15=>?_);refine e0_5 (q1q) (fun e1 e2 e3 e4 e5=>?_);refine e0_4 (q2q) (fun e6 e7 e8 e9=>?_);refine e0_3 (q3q) (fun e10 e11 e12=>?_);refine e0_2 (q4q) (fun e13 e14=>?_))
  simp [setG,bodyG,nestG,e4,e8,e11,e13,e15.symm]
omit hK in
theorem setG_a2 {a a1 a2 b b1 b2:Addr} {H0 H1 D0 D1 Z:List (List Nat)} (h:((bodyG a a1 a2 b b1 b2 H0 H1 D0 D1).map Prod.fst).Nodup):setG a2 (Z.map .str) (bodyG a a1 a2 b b1 b2 H0 H1 D0 D1) = bodyG a a1 a2 b b1 b2 H0 Z D0 D1:=by
  (refine e0_5 (nd_six h) (fun q5q q6q q7q q8q e15=>?_);refine e0_5 (q5q) (fun e1 e2 e3 e4 e5=>?_);refine e0_4 (q6q) (fun e6 e7 e8 e9=>?_);refine e0_3 (q7q) (fun e10 e11 e12=>?_);refine e0_2 (q8q) (fun e13 e14=>?_))
  simp [setG,bodyG,nestG,e5,e9,e12,e14,e15]
omit hK in
theorem setG_b1 {a a1 a2 b b1 b2:Addr} {H0 H1 D0 D1 Z:List (List Nat)} (h:((bodyG a a1 a2 b b1 b2 H0 H1 D0 D1).map Prod.fst).Nodup):setG b1 (Z.map .str) (bodyG a a1 a2 b b1 b2 H0 H1 D0 D1) = bodyG a a1 a2 b b1 b2 H0 H1 Z D1:=by
  (refine e0_5 (nd_six h) (fun q9q q10q q11q q12q e15=>?_);refine e0_5 (q9q) (fun e1 e2 e3 e4 e5=>?_);refine e0_4 (q10q) (fun e6 e7 e8 e9=>?_);refine e0_3 (q11q) (fun e10 e11 e12=>?_);refine e0_2 (q12q) (fun e13 e14=>?_))
  simp [setG,bodyG,nestG,e1,e6.symm,e7.symm,e8.symm,e9.symm]
omit hK in
theorem setG_b2 {a a1 a2 b b1 b2:Addr} {H0 H1 D0 D1 Z:List (List Nat)} (h:((bodyG a a1 a2 b b1 b2 H0 H1 D0 D1).map Prod.fst).Nodup):setG b2 (Z.map .str) (bodyG a a1 a2 b b1 b2 H0 H1 D0 D1) = bodyG a a1 a2 b b1 b2 H0 H1 D0 Z:=by
  (refine e0_5 (nd_six h) (fun q13q q14q q15q q16q e15=>?_);refine e0_5 (q13q) (fun e1 e2 e3 e4 e5=>?_);refine e0_4 (q14q) (fun e6 e7 e8 e9=>?_);refine e0_3 (q15q) (fun e10 e11 e12=>?_);refine e0_2 (q16q) (fun e13 e14=>?_))
  simp [setG,bodyG,nestG,e2,e6,e10.symm,e11.symm,e12.symm]
omit hK in
theorem selB_mem (x:Int) (i:Nat) (j:Decidable (D.int (x.fmod 3) ∈ [D.int (i:Int),D.int 2])):@decide _ j = selB x i:=by
  unfold selB
  by_cases h:D.int (x.fmod 3) ∈ [D.int (i:Int),D.int 2]
  · rw [decide_eq_true h]
    simp only [List.mem_cons,List.not_mem_nil,or_false,D.int.injEq] at h
    rcases h with h | h <;> simp [h]
  · rw [decide_eq_false h]
    simp only [List.mem_cons,List.not_mem_nil,or_false,D.int.injEq,not_or] at h
    simp [h.1,h.2]
noncomputable def lawFor:List Stmt:=(lawLoop[5]?).elim [] fun s=>(stmtOf s).2.1
noncomputable abbrev extF (F:Bool) (PP:List Nat):List (List Nat):=if F then [PP] else []
set_option maxHeartbeats 8000000 in
theorem turn_ok {k:Nat} {sv:Value} {v0 v1 v2 v4 v7:D} {parts:List (List It')} {tk:Option B} {x:Int} {t11:Option B} {F:Bool} {PP:List Nat} {NM:List (List Nat)} {v14:D} (a a1 a2 b b1 b2:Addr) (i:Nat) (aS bS:Addr) (Xa Xb:List (List Nat)) (G G1 G2:Gh)
    (hj:joinL [47] NM = PP) (hjl:lens NM≤1000) (h1:([D.raw (.ref a1),D.raw (.ref a2)]:List D)[idx 2 (i:Int)]? = some (.raw (.ref aS))) (h2:([D.raw (.ref b1),D.raw (.ref b2)]:List D)[idx 2 (i:Int)]? = some (.raw (.ref bS)))
    (m1:(aS,Xa.map .str) ∈ G) (m2:(bS,Xb.map .str) ∈ G1) (ma:(a,[D.raw (.ref a1),D.raw (.ref a2)]) ∈ G) (mb:(b,[D.raw (.ref b1),D.raw (.ref b2)]) ∈ G1)
    (s1:(G.map Prod.fst).Nodup→setG aS ((Xa ++ extF F PP).map .str) G = G1) (s2:(G1.map Prod.fst).Nodup→setG bS ((Xb ++ extF F PP).map .str) G1 = G2) (la:Xa.length≤63) (lb:Xb.length≤63) :
    GXs S (k + 39) fi_law (bodyΓ v0 v1 v2 v4 v7 tk sv parts a b x t11 (some (.val (.str PP))) (some (.val (.list (NM.map .str)))) (some (.val v14)) (some (.val (.bool F))) (some (.val (.bool F))) (some (.val (.int (i:Int))))) G lawFor
      (.next fun Γ' G'=>Γ' = bodyΓ v0 v1 v2 v4 v7 tk sv parts a b x t11 (some (.val (.str PP))) (some (.val (.list (NM.map .str)))) (some (.val v14)) (some (.val (.bool F))) (some (.val (.bool F))) (some (.val (.int (i:Int))))∧G' = if selB x i then G2 else G):=by
  have n0:=@n_law_0
  have n1:=@n_law_1
  have n2:=@n_law_2
  have n3:=@n_law_3
  have n4:=@n_law_4
  have n5:=@n_law_5
  have n6:=@n_law_6
  have n7:=@n_law_7
  have n8:=@n_law_8
  have n9:=@n_law_9
  have n10:=@n_law_10
  have n11:=@n_law_11
  have n12:=@n_law_12
  have n13:=@n_law_13
  have n14:=@n_law_14
  have n15:=@n_law_15
  have n16:=@n_law_16
  have n17:=@n_law_17
  have n18:=@n_law_18
  have n19:=@n_law_19
  have g_law_figures:=g_law_law_figures hK
  have k_law_figures:=hK.cal_law_figures
  have g_max:=g_law_max hK
  have g_law_climb:=g_law_law_climb hK
  have k_law_climb:=hK.cal_law_climb
  have g_normpath:=g_law_normpath hK
  have k_normpath:=hK.cal_normpath
  have g_law_names:=g_law_law_names hK
  have k_law_names:=hK.cal_law_names
  have g_len:=g_law_len hK
  have g_zip:=g_law_zip hK
  have g_range:=g_law_range hK
  have g_sorted_list_difference:=g_law_sorted_list_difference hK
  have k_sorted_list_difference:=hK.cal_sorted_list_difference
  have g_sorted:=g_law_sorted hK
  have c0:Cs "a" [97]:=rfl
  have c1:Cs "b" [98]:=rfl
  have c2:Cs "?" [63]:=rfl
  have c3:Cs "*" [42]:=rfl
  have c4:Cs "." [46]:=rfl
  have c5:Cs "/" [47]:=rfl
  have c6:Cs "[ab]" [91,97,98,93]:=rfl
  have c7:Cs "[!a]" [91,33,97,93]:=rfl
  have c8:Cs "[a-b]" [91,97,45,98,93]:=rfl
  have c9:Cs "[b-a]" [91,98,45,97,93]:=rfl
  have c10:Cs "[!b-a]" [91,33,98,45,97,93]:=rfl
  have c11:Cs "[^/]" [91,94,47,93]:=rfl
  have c12:Cs "" []:=rfl
  have c13:Cs "./" [46,47]:=rfl
  have c14:Cs "c" [99]:=rfl
  have c15:Cs "../" [46,46,47]:=rfl
  have c16:Cs "script" [115,99,114,105,112,116]:=rfl
  have c17:Cs "numbers" [110,117,109,98,101,114,115]:=rfl
  have c18:Cs "groups" [103,114,111,117,112,115]:=rfl
  have c19:Cs "token" [116,111,107,101,110]:=rfl
  have c20:Cs "tokens" [116,111,107,101,110,115]:=rfl
  have c21:Cs "k" [107]:=rfl
  have c22:Cs "single" [115,105,110,103,108,101]:=rfl
  have c23:Cs "star" [115,116,97,114]:=rfl
  have c24:Cs "piece" [112,105,101,99,101]:=rfl
  have c25:Cs "wanted" [119,97,110,116,101,100]:=rfl
  have c26:Cs "parts" [112,97,114,116,115]:=rfl
  have c27:Cs "part" [112,97,114,116]:=rfl
  have c28:Cs "marks" [109,97,114,107,115]:=rfl
  have c29:Cs "held" [104,101,108,100]:=rfl
  have c30:Cs "due" [100,117,101]:=rfl
  have c31:Cs "x" [120]:=rfl
  have c32:Cs "crooked" [99,114,111,111,107,101,100]:=rfl
  have c33:Cs "path" [112,97,116,104]:=rfl
  have c34:Cs "names" [110,97,109,101,115]:=rfl
  have c35:Cs "pieces" [112,105,101,99,101,115]:=rfl
  have c36:Cs "fits" [102,105,116,115]:=rfl
  have c37:Cs "name" [110,97,109,101]:=rfl
  have c38:Cs "means" [109,101,97,110,115]:=rfl
  have c39:Cs "side" [115,105,100,101]:=rfl
  have c40:Cs "went" [119,101,110,116]:=rfl
  have c41:Cs "came" [99,97,109,101]:=rfl
  conv=>arg 6;whnf
  have hin:∀ k,Op2 S k (compareOp .In) (.int (x.fmod 3)) (.tup [.int (i:Int),.int 2]) (.bool (selB x i)):=fun k=>by
    have h:=Op2.inT (S:=S) (k:=k) (d:=.int (x.fmod 3)) (ds:=[.int (i:Int),.int 2]) false rfl (fun e he=>by
      simp only [List.mem_cons,List.not_mem_nil,or_false] at he
      rcases he with rfl | rfl <;> rfl)
    rwa [selB_mem] at h
  have hj2:∀ k,Ops S k (fun vs=>call (.builtin "str.join") vs) [.str [47],.list (NM.map .str)] (.str PP):=fun k=>by
    rw [← hj]
    refine Ops.joinS ?_
    have:(NM.map fun p=>p.length + [47].length).sum = lens NM:=rfl
    have:=sizeLine_eq
    lia
  have hmod:∀ k,Op2 S k (binaryOp .Mod) (.int x) (.int 3) (.int (x.fmod 3)):=fun k=>Op2.modI (by decide)
  have hEl:(extF F PP).length≤1:=by unfold extF;split <;> simp
  have hEm:(extF F PP).map D.str = if F then [D.str PP] else []:=by unfold extF;split <;> rfl
  refine GXs.cons (GX.ifB (b:=selB x i) (TV.cmp (EV.bin (EV.nm n10 rfl) EV.cInt (hmod _)) (EV.tup (EVs.cons (EV.nm n17 rfl) (EVs.cons EV.cInt EVs.nil fun _=>rfl) fun _=>rfl) (Nat.le_of_ble_eq_true rfl)) (hin _) rfl) ?or) (fun _ _ h=>GXs.nil h)
  case or =>
    cases hs:selB x i
    · exact Or.inr ⟨rfl,GXs.nil ⟨rfl,rfl⟩⟩
    · refine Or.inl ⟨rfl,?_⟩
      refine GXs.cons (P:=fun Γ' G'=>Γ' = bodyΓ v0 v1 v2 v4 v7 tk sv parts a b x t11 (some (.val (.str PP))) (some (.val (.list (NM.map .str)))) (some (.val v14)) (some (.val (.bool F))) (some (.val (.bool F))) (some (.val (.int (i:Int))))∧G' = G1) ?p1 ?p2
      case p1 =>
        refine GX.meth (d:=.none) (a:=aS) (xs:=Xa.map .str) (xs':=(Xa ++ extF F PP).map .str) (ds:=[.list ((extF F PP).map .str)]) PySem.F.slot_list_extend PySem.F.type_list_extend (GE.borrow (j:=8) (b:=a) rfl ma ?ge) m1 (EVs.cons ?ev EVs.nil fun _=>rfl) ?op (fun hnd=>⟨rfl,s1 hnd⟩) (fun _=>rfl) rfl (fun _=>rfl) (fun _=>rfl)
        case ge=>exact EV.item (T:="list") (EV.nm n8 rfl) (EV.nm n17 rfl) rfl list_getitem_lookup (Op2.itemL h1 (by simp only [List.length_cons,List.length_nil];lia)) (by intro _ _;with_unfolding_all rfl)
        case op=>rw [List.map_append];exact OwnOp.extend (by rw [List.length_map,List.length_map];lia)
        case ev =>
          rw [hEm]
          refine EV.ifB (b:=F) (TV.val tested_Name (EV.nm n15 rfl) OpT.bool) ?_
          cases F
          · exact Or.inr ⟨rfl,EV.list EVs.nil (Nat.zero_le _)⟩
          · exact Or.inl ⟨rfl,EV.list (EVs.cons (EV.nm n12 rfl) EVs.nil fun _=>rfl) (Nat.le_of_ble_eq_true rfl)⟩
      case p2 =>
        rintro Γ' G' ⟨rfl,rfl⟩
        refine GXs.cons (GX.meth (d:=.none) (a:=bS) (xs:=Xb.map .str) (xs':=(Xb ++ extF F PP).map .str) (ds:=[.list ((extF F PP).map .str)]) PySem.F.slot_list_extend PySem.F.type_list_extend (GE.borrowC (j:=9) (b:=b) rfl mb ?geb) m2 (EVs.cons ?evb EVs.nil fun _=>rfl) ?opb (fun hnd=>⟨rfl,s2 hnd⟩) (fun _=>rfl) rfl (fun _=>rfl) (fun _=>rfl)) (fun _ _ h=>GXs.nil h)
        case geb=>exact EV.item (T:="list") (EV.nmC n9 rfl) (EV.nm n17 rfl) rfl list_getitem_lookup (Op2.itemL h2 (by simp only [List.length_cons,List.length_nil];lia)) (by intro _ _;with_unfolding_all rfl)
        case opb=>rw [List.map_append];exact OwnOp.extend (by rw [List.length_map,List.length_map];lia)
        case evb =>
          rw [hEm]
          refine EV.ifB (b:=F) (TV.val tested_Name (EV.nm n16 rfl) OpT.bool) ?_
          cases F
          · exact Or.inr ⟨rfl,EV.list EVs.nil (Nat.zero_le _)⟩
          · exact Or.inl ⟨rfl,EV.list (EVs.cons (EV.meth PySem.F.plainAttrs_str PySem.F.slot_str_join PySem.F.type_str_join (EV.cS (by with_reducible assumption) (by decide)) rfl (EVs.cons (EV.nm n13 rfl) EVs.nil fun _=>rfl) (hj2 _)) EVs.nil fun _=>rfl) (Nat.le_of_ble_eq_true rfl)⟩
set_option maxHeartbeats 8000000 in
theorem body_ok {k:Nat} {gs:List (List (List Nat))} {sv:Value} {v0 v1 v2 v7:D} {tk t11 t12 t13 t14 t15 t16 t17:Option B} {a a1 a2 b b1 b2:Addr} {x:Int} {H0 H1:List (List Nat)} (hsol:solid sv = true) (hsok:∀ n,D.ok true n (.raw sv) = true) (hW:∀ g ∈ gs,WordsOk g) (hgl:gs.length≤7) (l0:H0.length≤63) (l1:H1.length≤63) :
    GXs S (k + 39) fi_law (bodyΓ v0 v1 v2 (.list (gs.map fun g=>strsD (pSingle g))) v7 tk sv (gs.map fun g=>pTr qm (gtxt g)) a b x t11 t12 t13 t14 t15 t16 t17) (bodyG a a1 a2 b b1 b2 H0 H1 H0 H1) lawLoop
      (.next (BodyP v0 v1 v2 (.list (gs.map fun g=>strsD (pSingle g))) v7 tk sv (gs.map fun g=>pTr qm (gtxt g)) a a1 a2 b b1 b2 x (H0 ++ ext3 gs x 0) (H1 ++ ext3 gs x 1))):=by
  have n0:=@n_law_0
  have n1:=@n_law_1
  have n2:=@n_law_2
  have n3:=@n_law_3
  have n4:=@n_law_4
  have n5:=@n_law_5
  have n6:=@n_law_6
  have n7:=@n_law_7
  have n8:=@n_law_8
  have n9:=@n_law_9
  have n10:=@n_law_10
  have n11:=@n_law_11
  have n12:=@n_law_12
  have n13:=@n_law_13
  have n14:=@n_law_14
  have n15:=@n_law_15
  have n16:=@n_law_16
  have n17:=@n_law_17
  have n18:=@n_law_18
  have n19:=@n_law_19
  have g_law_figures:=g_law_law_figures hK
  have k_law_figures:=hK.cal_law_figures
  have g_max:=g_law_max hK
  have g_law_climb:=g_law_law_climb hK
  have k_law_climb:=hK.cal_law_climb
  have g_normpath:=g_law_normpath hK
  have k_normpath:=hK.cal_normpath
  have g_law_names:=g_law_law_names hK
  have k_law_names:=hK.cal_law_names
  have g_len:=g_law_len hK
  have g_zip:=g_law_zip hK
  have g_range:=g_law_range hK
  have g_sorted_list_difference:=g_law_sorted_list_difference hK
  have k_sorted_list_difference:=hK.cal_sorted_list_difference
  have g_sorted:=g_law_sorted hK
  have c0:Cs "a" [97]:=rfl
  have c1:Cs "b" [98]:=rfl
  have c2:Cs "?" [63]:=rfl
  have c3:Cs "*" [42]:=rfl
  have c4:Cs "." [46]:=rfl
  have c5:Cs "/" [47]:=rfl
  have c6:Cs "[ab]" [91,97,98,93]:=rfl
  have c7:Cs "[!a]" [91,33,97,93]:=rfl
  have c8:Cs "[a-b]" [91,97,45,98,93]:=rfl
  have c9:Cs "[b-a]" [91,98,45,97,93]:=rfl
  have c10:Cs "[!b-a]" [91,33,98,45,97,93]:=rfl
  have c11:Cs "[^/]" [91,94,47,93]:=rfl
  have c12:Cs "" []:=rfl
  have c13:Cs "./" [46,47]:=rfl
  have c14:Cs "c" [99]:=rfl
  have c15:Cs "../" [46,46,47]:=rfl
  have c16:Cs "script" [115,99,114,105,112,116]:=rfl
  have c17:Cs "numbers" [110,117,109,98,101,114,115]:=rfl
  have c18:Cs "groups" [103,114,111,117,112,115]:=rfl
  have c19:Cs "token" [116,111,107,101,110]:=rfl
  have c20:Cs "tokens" [116,111,107,101,110,115]:=rfl
  have c21:Cs "k" [107]:=rfl
  have c22:Cs "single" [115,105,110,103,108,101]:=rfl
  have c23:Cs "star" [115,116,97,114]:=rfl
  have c24:Cs "piece" [112,105,101,99,101]:=rfl
  have c25:Cs "wanted" [119,97,110,116,101,100]:=rfl
  have c26:Cs "parts" [112,97,114,116,115]:=rfl
  have c27:Cs "part" [112,97,114,116]:=rfl
  have c28:Cs "marks" [109,97,114,107,115]:=rfl
  have c29:Cs "held" [104,101,108,100]:=rfl
  have c30:Cs "due" [100,117,101]:=rfl
  have c31:Cs "x" [120]:=rfl
  have c32:Cs "crooked" [99,114,111,111,107,101,100]:=rfl
  have c33:Cs "path" [112,97,116,104]:=rfl
  have c34:Cs "names" [110,97,109,101,115]:=rfl
  have c35:Cs "pieces" [112,105,101,99,101,115]:=rfl
  have c36:Cs "fits" [102,105,116,115]:=rfl
  have c37:Cs "name" [110,97,109,101]:=rfl
  have c38:Cs "means" [109,101,97,110,115]:=rfl
  have c39:Cs "side" [115,105,100,101]:=rfl
  have c40:Cs "went" [119,101,110,116]:=rfl
  have c41:Cs "came" [99,97,109,101]:=rfl
  conv=>arg 6;whnf
  have hsz:=sizeLine_eq
  refine e0_3 (crooked_ok x) (fun c1' c2' c3'=>?_)
  refine e0_4 (names_fit x) (fun f1 f2 f3 f4=>?_)
  have hfig:Ops S (k + 39) (fun vs=>call (.ref 177) vs) [.int (x.fdiv 3),.list (words2.map .str)] (.list ((pFigs words2 (x.fdiv 3)).map .str)):=law_figures_ok (k:=k + 38) hK (by decide) (by decide)
  have hwl:(words2.map D.str) = [.str [97],.str [98],.str [99],.str [46],.str [47],.str [46,46,47]]:=rfl
  rw [hwl] at hfig
  have hdiv:∀ k,Op2 S k (binaryOp .FloorDiv) (.int x) (.int 3) (.int (x.fdiv 3)):=fun k=>Op2.idivI (by decide)
  have hjl:joinL [] (pFigs words2 (x.fdiv 3)) = (crooked x).drop 2:=rfl
  have hjn:(joinL [] (pFigs words2 (x.fdiv 3))).length≤18:=by rw [hjl,List.length_drop];lia
  clear hjl
  have hj1:∀ k,Ops S k (fun vs=>call (.builtin "str.join") vs) [.str [],.list ((pFigs words2 (x.fdiv 3)).map .str)] (.str (joinL [] (pFigs words2 (x.fdiv 3)))):=fun k=>by
    refine Ops.joinS ?_
    have key:∀ l:List (List Nat),(l.map fun p=>p.length + ([]:List Nat).length).sum = (joinL [] l).length:=by
      intro l
      induction l with
      | nil=>rfl
      | cons a l ih =>
        cases l with
        | nil=>simp [joinL]
        | cons b r=>simp only [List.map_cons,List.sum_cons] at ih ⊢;simp only [joinL,List.length_append] at ih ⊢;simp at ih ⊢;lia
    rw [key];lia
  refine GXs.seq (Γ':=bodyΓ v0 v1 v2 (.list (gs.map fun g=>strsD (pSingle g))) v7 tk sv (gs.map fun g=>pTr qm (gtxt g)) a b x (some (.val (.str (crooked x)))) t12 t13 t14 t15 t16 t17) ?s1 ?_
  case s1 =>
    refine' EX.assign ?me (AS.nm n11) ?m1 ?m2 ?m3
    case m1=>intro _;rfl
    case m2=>intro _;rfl
    case m3=>intro _ _;rfl
    case me =>
      refine' EV.bin (EV.cS (by with_reducible assumption) (by decide)) (EV.meth PySem.F.plainAttrs_str PySem.F.slot_str_join PySem.F.type_str_join (EV.cS (by with_reducible assumption) (by decide)) rfl (EVs.cons (EV.call (fun _=>rfl) (g_law_figures _ _ _) k_law_figures (EVs.cons ?x3 (EVs.cons ?lst EVs.nil fun _=>rfl) fun _=>rfl) hfig) EVs.nil fun _=>rfl) (hj1 _)) (Op2.addS ?sz)
      case x3=>exact EV.bin (EV.nm n10 rfl) EV.cInt (hdiv _)
      case lst=>exact EV.list (EVs.cons (EV.cS c0 (by decide)) (EVs.cons (EV.cS c1 (by decide)) (EVs.cons (EV.cS c14 (by decide)) (EVs.cons (EV.cS c4 (by decide)) (EVs.cons (EV.cS c5 (by decide)) (EVs.cons (EV.cS c15 (by decide)) EVs.nil (fun _=>rfl)) (fun _=>rfl)) (fun _=>rfl)) (fun _=>rfl)) (fun _=>rfl)) (fun _=>rfl)) (by (simp only [List.length_cons,List.length_nil]);decide)
      case sz=>simp only [List.length_cons,List.length_nil];lia
  have hnp:Ops S (k + 39) (fun vs=>call (.ref 163) vs) [.str (crooked x)] (.str (joinL [47] (pNames (crooked x)))):=by
    rw [f4];exact normpath_ok (k:=k + 36) hK (by lia)
  have hnn:Ops S (k + 39) (fun vs=>call (.ref 210) vs) [.str (crooked x)] (.list ((pNames (crooked x)).map .str)):=law_names_ok (k:=k + 38) hK (by lia) c3'
  have hlens:lens (pNames (crooked x))≤21 * 21:=by
    have key:∀ l:List (List Nat),(∀ p ∈ l,p.length≤20)→lens l≤21 * l.length:=by
      intro l
      induction l with
      | nil=>exact fun _=>by simp [lens]
      | cons a l ih =>
        intro h
        have h1:=ih fun g hg=>h g (.tail _ hg)
        have h2:=h a (.head _)
        simp only [lens,List.map_cons,List.sum_cons,List.length_cons] at h1 ⊢
        lia
    have:=key _ fun p hp=>(f2 p hp).1
    lia
  have hcl:Ops S (k + 39) (fun vs=>call (.ref 184) vs) [.str (joinL [47] (pNames (crooked x)))] (.list ((pNames (crooked x)).map .str)):=climb_ok (k:=k + 36) hK f1 (by lia)
  have hns:∀ p ∈ pNames (crooked x),∀ c ∈ p,c ∈ [97,98,99,46]:=fun p hp=>(f2 p hp).2
  have hsmall:∀ p ∈ pNames (crooked x),∀ c ∈ p,c < 128:=fun p hp c hc=>by
    have:=hns p hp c hc
    simp only [List.mem_cons,List.not_mem_nil,or_false] at this;lia
  have hp20:∀ p ∈ pNames (crooked x),p.length≤20:=fun p hp=>(f2 p hp).1
  generalize hNM:pNames (crooked x) = NM at hnp hnn hcl hns hsmall hp20 f3 hlens
  have hext:∀ i,ext3 gs x i = if selB x i && (decide (NM.length = gs.length) && ((gs.zip NM).all fun a=>pMeans (pSingle a.1) a.2)) then [joinL [47] NM] else []:=fun i=>by
    unfold ext3 fitsB;rw [hNM]
  rw [hext 0,hext 1]
  clear hext f1 f2 f4
  generalize hcr:crooked x = CR at hnp hnn
  refine GXs.seq (Γ':=bodyΓ v0 v1 v2 (.list (gs.map fun g=>strsD (pSingle g))) v7 tk sv (gs.map fun g=>pTr qm (gtxt g)) a b x (some (.val (.str CR))) (some (.val (.str (joinL [47] NM)))) (some (.val (.list (NM.map .str)))) t14 t15 t16 t17) ?s2 ?_
  case s2 =>
    refine' EX.assign2N n12 n13 ?me ?m1 ?m2 ?m3 ?m4 ?m5 ?m6
    case m1=>rfl
    case m2=>decide
    case m3=>rfl
    case m4=>rfl
    case m5=>rfl
    case m6=>intro _;rfl
    case me=>exact EV.tup (EVs.cons (EV.call (fun _=>rfl) (g_normpath _ _ _) k_normpath (EVs.cons (EV.nm n11 rfl) EVs.nil fun _=>rfl) hnp) (EVs.cons (EV.call (fun _=>rfl) (g_law_names _ _ _) k_law_names (EVs.cons (EV.nm n11 rfl) EVs.nil fun _=>rfl) hnn) EVs.nil fun _=>rfl) fun _=>rfl) (Nat.le_of_ble_eq_true rfl)
  refine GXs.seq (Γ':=bodyΓ v0 v1 v2 (.list (gs.map fun g=>strsD (pSingle g))) v7 tk sv (gs.map fun g=>pTr qm (gtxt g)) a b x (some (.val (.str CR))) (some (.val (.str (joinL [47] NM)))) (some (.val (.list (NM.map .str)))) (some (.val (.list (NM.map .str)))) t15 t16 t17) ?s3 ?_
  case s3 =>
    refine' EX.assign (EV.call (fun _=>rfl) (g_law_climb _ _ _) k_law_climb (EVs.cons (EV.nm n12 rfl) EVs.nil fun _=>rfl) hcl) (AS.nm n14) ?m1 ?m2 ?m3
    case m1=>intro _;rfl
    case m2=>intro _;rfl
    case m3=>intro _ _;rfl
  have hleq:∀ n,(((NM.length:Nat):Int) == ((gs.length:Nat):Int)) = n→decide (NM.length = gs.length) = n:=fun n h=>by
    rw [← h];by_cases q:NM.length = gs.length
    · simp [q]
    · rw [decide_eq_false q];symm;rw [beq_eq_false_iff_ne];lia
  have hlenN:∀ k,Ops S k (fun vs=>call (.builtin "len") vs) [.list (NM.map .str)] (.int ((NM.length:Nat):Int)):=fun k=>by
    have:=Ops.lenL (S:=S) (k:=k) (xs:=NM.map D.str);rwa [List.length_map] at this
  have hlenW:∀ k,Ops S k (fun vs=>call (.builtin "len") vs) [.list ((gs.map fun g=>pTr qm (gtxt g)).map fun ps=>D.list (ps.map (itD sv)))] (.int ((gs.length:Nat):Int)):=fun k=>by
    have:=Ops.lenL (S:=S) (k:=k) (xs:=(gs.map fun g=>pTr qm (gtxt g)).map fun ps=>D.list (ps.map (itD sv)));rwa [List.length_map,List.length_map] at this
  have hlenS:∀ k,Ops S k (fun vs=>call (.builtin "len") vs) [.list (gs.map fun g=>strsD (pSingle g))] (.int ((gs.length:Nat):Int)):=fun k=>by
    have:=Ops.lenL (S:=S) (k:=k) (xs:=gs.map fun g=>strsD (pSingle g));rwa [List.length_map] at this
  have hpd:partD sv = itD sv:=by funext p;cases p <;> rfl
  have hrd:∀ g ∈ gs,∀ p ∈ NM,Ops S (k + 38 + 1) (fun vs=>call (.ref 196) vs) [.list ((pTr qm (gtxt g)).map (itD sv)),.raw sv,.str p] (.bool (pMeans (pSingle g) p)):=fun g hg p hp=>by
    have h:=law_reads_ok (k:=k + 37) hK (hsok 8) (one:=pTakes) (parts:=pTr qm (gtxt g)) (name:=p) (fun s hs=>(gtxt_parts (hW g hg) s hs).1) (fun s hs j c hc=>by
      refine e1_3 (gtxt_part (hW g hg) hs) (fun w h1 h2 h3=>?_)
      refine e0_2 (trW_all w h1 h2) (fun _ h4=>?_)
      refine e0_7 (h4 s h3) (fun _ q1 q2 q3 q4 q5 _=>?_)
      exact law_takes_ok hK q1 q2 q3 (hsmall p hp c hc) q4 q5) (by have:=hp20 p hp;lia)
    rw [hpd,reads_means (hW g hg) (hns p hp)] at h
    exact h
  have hmn:∀ g ∈ gs,∀ p ∈ NM,Ops S (k + 38 + 1) (fun vs=>call (.ref 203) vs) [strsD (pSingle g),.str p] (.bool (pMeans (pSingle g) p)):=fun g hg p hp=>by
    refine law_means_ok (k:=k + 8) hK 30 (pSingle g) p ?_ (by decide) ?_
    · have h1:(pSingle g).length≤g.length:=by
        unfold pSingle
        rw [List.length_map]
        exact Nat.le_trans (List.length_filter_le _ _) (by simp)
      have:=(hW g hg).2.1
      have:=hp20 p hp
      lia
    · intro t ht
      have h1:=(hW g hg).2.2 t (pSingle_mem ht)
      exact ⟨words_ok t h1.1,by have:=word_len t h1.1;lia⟩
  generalize hP2:((gs.zip NM).all fun a=>pMeans (pSingle a.1) a.2) = P2
  have hall:∀ k,Op2 S k (compareOp .NotIn) (.bool false) (.list ((gs.zip NM).map fun a=>D.bool (pMeans (pSingle a.1) a.2))) (.bool P2):=fun k=>by
    rw [← hP2];exact Op2.allB _ _
  have hcmp:∀ k,Op2 S k (compareOp .Eq) (.int ((NM.length:Nat):Int)) (.int ((gs.length:Nat):Int)) (.bool (decide (NM.length = gs.length))):=fun k=>by
    rw [hleq _ rfl];exact Op2.eqI
  clear hleq
  generalize hP1:decide (NM.length = gs.length) = P1 at hcmp ⊢
  refine GXs.seq (Γ':=bodyΓ v0 v1 v2 (.list (gs.map fun g=>strsD (pSingle g))) v7 tk sv (gs.map fun g=>pTr qm (gtxt g)) a b x (some (.val (.str CR))) (some (.val (.str (joinL [47] NM)))) (some (.val (.list (NM.map .str)))) (some (.val (.list (NM.map .str)))) (some (.val (.bool (P1 && P2)))) t16 t17) ?s4 ?_
  case s4 =>
    refine' EX.assign (EV.boolOp (BV.andB (EV.cmp (EV.call (fun _=>rfl) (g_len _ _ _) Callee.builtin (EVs.cons (EV.nm n14 rfl) EVs.nil fun _=>rfl) (hlenN _)) (EV.call (fun _=>rfl) (g_len _ _ _) Callee.builtin (EVs.cons (EV.nm n6 rfl) EVs.nil fun _=>rfl) (hlenW _)) (hcmp _) rfl) OpT.bool ?or)) (AS.nm n15) ?m1 ?m2 ?m3
    case m1=>intro _;rfl
    case m2=>intro _;rfl
    case m3=>intro _ _;rfl
    case or =>
      cases P1
      · exact Or.inr ⟨rfl,rfl⟩
      · refine Or.inl ⟨rfl,BV.last ?_⟩
        rw [Bool.true_and]
        refine' EV.cmp EV.cBool ?cmp (hall _) rfl
        case cmp =>
          refine' EV.compE ["parts","piece","star"] [.local,.local,.cell] ?T1 ?T2 ?T3 ?T4 ?T5 (Γc:=[none,none,some (.val (.raw sv))]) ?T6 (ItE.zip (fun _=>rfl) (g_zip _ _ _) (EVs.cons (EV.nm n6 rfl) (EVs.cons (EV.nm n14 rfl) EVs.nil fun _=>rfl) fun _=>rfl)) ?T7 ?T8 ?T9
          case T1=>decide
          case T2=>rfl
          case T3=>rfl
          case T4=>decide
          case T5=>exact .other rfl rfl (.other rfl rfl (.other rfl rfl (.other rfl rfl (.free (.cell 5 rfl rfl) .nil))))
          case T6=>exact .skip (.skip (.cap rfl rfl (.cell 5 rfl rfl) .nil))
          case T7=>unfold zipD;simp;lia
          case T9=>intro _ _;rfl
          case T8 =>
            intro fd e1 e2 e3
            have m0:Nm fd "parts" 0 .local:=Nm.of e2 e3 rfl rfl
            have m1:Nm fd "piece" 1 .local:=Nm.of e2 e3 rfl rfl
            have m2:Nm fd "star" 2 .cell:=Nm.of e2 e3 rfl rfl
            have gr:=Raw.g (S:=S) (x:="_law_reads") e1 rfl hK.ns_law_reads
            rw [List.map_map,zipD_map]
            refine CL.mapAll (τ:=Option B × Option B) (fun a:List (List Nat) × List Nat=>D.tup [D.list ((pTr qm (gtxt a.1)).map (itD sv)),.str a.2]) (fun a=>D.bool (pMeans (pSingle a.1) a.2)) (fun t=>[t.1,t.2,some (.val (.raw sv))]) (gs.zip NM) (none,none) (fun a ha t=>⟨(some (.val (D.list ((pTr qm (gtxt a.1)).map (itD sv)))),some (.val (.str a.2))),AS.tup (ASs.cons (AS.nm m0) (ASs.cons (AS.nm m1) ASs.nil fun _=>rfl) fun _=>rfl),?_⟩)
            exact EV.call (fun _=>rfl) (gr _ _ _) hK.cal_law_reads (EVs.cons (EV.nm m0 rfl) (EVs.cons (EV.nm m2 rfl) (EVs.cons (EV.nm m1 rfl) EVs.nil fun _=>rfl) fun _=>rfl) fun _=>rfl) (hrd a.1 (List.of_mem_zip ha).1 a.2 (List.of_mem_zip ha).2)
  refine GXs.seq (Γ':=bodyΓ v0 v1 v2 (.list (gs.map fun g=>strsD (pSingle g))) v7 tk sv (gs.map fun g=>pTr qm (gtxt g)) a b x (some (.val (.str CR))) (some (.val (.str (joinL [47] NM)))) (some (.val (.list (NM.map .str)))) (some (.val (.list (NM.map .str)))) (some (.val (.bool (P1 && P2)))) (some (.val (.bool (P1 && P2)))) t17) ?s5 ?_
  case s5 =>
    refine' EX.assign (EV.boolOp (BV.andB (EV.cmp (EV.call (fun _=>rfl) (g_len _ _ _) Callee.builtin (EVs.cons (EV.nm n13 rfl) EVs.nil fun _=>rfl) (hlenN _)) (EV.call (fun _=>rfl) (g_len _ _ _) Callee.builtin (EVs.cons (EV.nm n4 rfl) EVs.nil fun _=>rfl) (hlenS _)) (hcmp _) rfl) OpT.bool ?or)) (AS.nm n16) ?m1 ?m2 ?m3
    case m1=>intro _;rfl
    case m2=>intro _;rfl
    case m3=>intro _ _;rfl
    case or =>
      cases P1
      · exact Or.inr ⟨rfl,rfl⟩
      · refine Or.inl ⟨rfl,BV.last ?_⟩
        rw [Bool.true_and]
        refine' EV.cmp EV.cBool ?cmp (hall _) rfl
        case cmp =>
          refine' EV.compE ["tokens","name"] [.local,.local] ?T1 ?T2 ?T3 ?T4 ?T5 (Γc:=[none,none]) ?T6 (ItE.zip (fun _=>rfl) (g_zip _ _ _) (EVs.cons (EV.nm n4 rfl) (EVs.cons (EV.nm n13 rfl) EVs.nil fun _=>rfl) fun _=>rfl)) ?T7 ?T8 ?T9
          case T1=>decide
          case T2=>rfl
          case T3=>rfl
          case T4=>decide
          case T5=>exact .other rfl rfl (.other rfl rfl (.other rfl rfl (.other rfl rfl .nil)))
          case T6=>exact .skip (.skip .nil)
          case T7=>unfold zipD;simp;lia
          case T9=>intro _ _;rfl
          case T8 =>
            intro fd e1 e2 e3
            have m0:Nm fd "tokens" 0 .local:=Nm.of e2 e3 rfl rfl
            have m1:Nm fd "name" 1 .local:=Nm.of e2 e3 rfl rfl
            have gr:=Raw.g (S:=S) (x:="_law_means") e1 rfl hK.ns_law_means
            rw [zipD_map]
            refine CL.mapAll (τ:=Option B × Option B) (fun a:List (List Nat) × List Nat=>D.tup [strsD (pSingle a.1),.str a.2]) (fun a=>D.bool (pMeans (pSingle a.1) a.2)) (fun t=>[t.1,t.2]) (gs.zip NM) (none,none) (fun a ha t=>⟨(some (.val (strsD (pSingle a.1))),some (.val (.str a.2))),AS.tup (ASs.cons (AS.nm m0) (ASs.cons (AS.nm m1) ASs.nil fun _=>rfl) fun _=>rfl),?_⟩)
            exact EV.call (fun _=>rfl) (gr _ _ _) hK.cal_law_means (EVs.cons (EV.nm m0 rfl) (EVs.cons (EV.nm m1 rfl) EVs.nil fun _=>rfl) fun _=>rfl) (hmn a.1 (List.of_mem_zip ha).1 a.2 (List.of_mem_zip ha).2)
  clear hcmp hall hP1 hP2 hrd hmn
  generalize (P1 && P2) = F
  generalize hPP:joinL [47] NM = PP
  have hE:∀ i,(if (selB x i && F) = true then [PP] else []) = if selB x i = true then extF F PP else []:=fun i=>by
    unfold extF;cases selB x i <;> cases F <;> rfl
  rw [hE 0,hE 1]
  refine GXs.cons (P:=fun Γ G=>∃ t17,Γ = bodyΓ v0 v1 v2 (.list (gs.map fun g=>strsD (pSingle g))) v7 tk sv (gs.map fun g=>pTr qm (gtxt g)) a b x (some (.val (.str CR))) (some (.val (.str PP))) (some (.val (.list (NM.map .str)))) (some (.val (.list (NM.map .str)))) (some (.val (.bool F))) (some (.val (.bool F))) t17∧G = bodyG a a1 a2 b b1 b2 (H0 ++ if selB x 0 = true then extF F PP else []) (H1 ++ if selB x 1 = true then extF F PP else []) (H0 ++ if selB x 0 = true then extF F PP else []) (H1 ++ if selB x 1 = true then extF F PP else [])) ?lp ?fin
  case fin =>
    rintro Γ G ⟨t17',rfl,rfl⟩
    exact GXs.nil ⟨_,_,_,_,_,_,_,rfl,rfl⟩
  case lp =>
    refine GX.mono (GX.for (fun ds Γ G=>∃ (i:Nat) (t17:Option B),i≤2∧ds = (List.range' i (2 - i)).map (fun j:Nat=>D.int (j:Int))∧Γ = bodyΓ v0 v1 v2 (.list (gs.map fun g=>strsD (pSingle g))) v7 tk sv (gs.map fun g=>pTr qm (gtxt g)) a b x (some (.val (.str CR))) (some (.val (.str PP))) (some (.val (.list (NM.map .str)))) (some (.val (.list (NM.map .str)))) (some (.val (.bool F))) (some (.val (.bool F))) t17 ∧
      G = bodyG a a1 a2 b b1 b2 (H0 ++ if 0 < i then (if selB x 0 = true then extF F PP else []) else []) (H1 ++ if 1 < i then (if selB x 1 = true then extF F PP else []) else []) (H0 ++ if 0 < i then (if selB x 0 = true then extF F PP else []) else []) (H1 ++ if 1 < i then (if selB x 1 = true then extF F PP else []) else [])) (d:=.rng 0 2 1) ?evr (It.range0 (n:=2) rfl) ?h0 ?hb (fun _ _=>rfl)) ?hm
    case evr=>exact EV.call (fun _=>rfl) (g_range _ _ _) Callee.type (EVs.cons EV.cInt EVs.nil fun _=>rfl) Ops.range1
    case h0=>exact ⟨0,t17,by lia,rfl,rfl,by simp⟩
    case hb =>
      rintro d ds Γ G ⟨i,t17',hi,hds,rfl,rfl⟩
      have hEl:∀ j,(if selB x j = true then extF F PP else []).length≤1:=fun j=>by
        unfold extF;split
        · split <;> simp
        · simp
      obtain rfl | rfl | rfl:i = 0 ∨ i = 1 ∨ i = 2:=by lia
      · obtain ⟨rfl,rfl⟩:d = D.int ((0:Nat):Int)∧ds = [D.int ((1:Nat):Int)]:=by
          have:(List.range' 0 (2 - 0)).map (fun j:Nat=>D.int (j:Int)) = [D.int ((0:Nat):Int),D.int ((1:Nat):Int)]:=rfl
          rw [this] at hds;injection hds with q1 q2;exact ⟨q1,q2⟩
        refine ⟨_,AS.nm n17,?_⟩
        simp only [List.set_cons_zero,List.set_cons_succ,Nat.lt_irrefl,if_false,List.append_nil,show ¬ (1 < 0) from Nat.not_lt_zero 1]
        refine GXs.mono (turn_ok hK a a1 a2 b b1 b2 0 a1 b1 H0 H0 _ (bodyG a a1 a2 b b1 b2 (H0 ++ extF F PP) H1 H0 H1) (bodyG a a1 a2 b b1 b2 (H0 ++ extF F PP) H1 (H0 ++ extF F PP) H1) hPP (by lia) rfl rfl (by simp [nestG]) (by simp [nestG]) (by simp [nestG]) (by simp [nestG]) (fun h=>setG_a1 h) (fun h=>setG_b1 h) l0 l0) ?_
        rintro Γ G ⟨rfl,rfl⟩
        refine ⟨1,_,by lia,rfl,rfl,?_⟩
        cases selB x 0 <;> simp
      · obtain ⟨rfl,rfl⟩:d = D.int ((1:Nat):Int)∧ds = []:=by
          have:(List.range' 1 (2 - 1)).map (fun j:Nat=>D.int (j:Int)) = [D.int ((1:Nat):Int)]:=rfl
          rw [this] at hds;injection hds with q1 q2;exact ⟨q1,q2⟩
        refine ⟨_,AS.nm n17,?_⟩
        simp only [List.set_cons_zero,List.set_cons_succ,Nat.lt_irrefl,if_false,List.append_nil,if_true,show (0:Nat) < 1 from Nat.zero_lt_one]
        generalize HHeq:(H0 ++ if selB x 0 = true then extF F PP else []) = HH
        refine GXs.mono (turn_ok hK a a1 a2 b b1 b2 1 a2 b2 H1 H1 _ (bodyG a a1 a2 b b1 b2 HH (H1 ++ extF F PP) HH H1) (bodyG a a1 a2 b b1 b2 HH (H1 ++ extF F PP) HH (H1 ++ extF F PP)) hPP (by lia) rfl rfl (by simp [nestG]) (by simp [nestG]) (by simp [nestG]) (by simp [nestG]) (fun h=>setG_a2 h) (fun h=>setG_b2 h) l1 l1) ?_
        rintro Γ G ⟨rfl,rfl⟩
        refine ⟨2,_,by lia,rfl,rfl,?_⟩
        simp only [if_true,show (0:Nat) < 2 from Nat.succ_pos 1,show (1:Nat) < 2 from Nat.lt_succ_self 1]
        cases selB x 1 <;> simp [HHeq]
      · cases hds
    case hm =>
      rintro Γ G ⟨i,t17',hi,hds,rfl,rfl⟩
      obtain rfl:i = 2:=by
        have:=congrArg List.length hds
        simp at this;lia
      exact ⟨_,rfl,by simp⟩
noncomputable def sldF:Nat→List (List Nat)→List (List Nat)→List (List Nat) × List (List Nat)
  | n + 1,x :: X,y :: Y =>
    if x < y then (x :: (sldF n (X.dropWhile (· == x)) (y :: Y)).1,(sldF n (X.dropWhile (· == x)) (y :: Y)).2)
    else if y < x then ((sldF n (x :: X) (Y.dropWhile (· == y))).1,y :: (sldF n (x :: X) (Y.dropWhile (· == y))).2)
    else sldF n (X.dropWhile (· == x)) (Y.dropWhile (· == y))
  | _,X,Y=>(X,Y)
noncomputable def sldTest:Expr:=((bodyAt 24)[3]?).elim default fun s=>(stmtOf s).1
noncomputable def sldLoop:List Stmt:=((bodyAt 24)[3]?).elim [] fun s=>(stmtOf s).2.1
noncomputable def sldHand:List Stmt:=((sldLoop[0]?).elim [] fun s=>(stmtOf s).2.2.2)[0]?.elim [] fun | .ExceptHandler _ _ b _=>b
noncomputable abbrev sldΓ (xs ys:List (List Nat)) (i j:Int) (m u:List (List Nat)) (te ta:Option B):Ctxt :=
  [some (.val (strsD xs)),some (.val (strsD ys)),some (.val (.int i)),some (.val (.int j)),some (.own (m.map .str)),some (.own (u.map .str)),te,ta]
set_option maxHeartbeats 4000000 in
theorem sld_hand {k:Nat} {xs ys m u:List (List Nat)} {i j:Nat} {te ta:Option B} (hx:xs.length≤1000) (hy:ys.length≤1000) (hm:m.length≤1000) (hu:u.length≤1000) :
    EXs S.off k fi_sorted_list_difference (sldΓ xs ys i j m u te ta) sldHand (.brk (sldΓ xs ys i j (m ++ xs.drop i) (u ++ ys.drop j) te ta)):=by
  have n0:=@n_sorted_list_difference_0
  have n1:=@n_sorted_list_difference_1
  have n2:=@n_sorted_list_difference_2
  have n3:=@n_sorted_list_difference_3
  have n4:=@n_sorted_list_difference_4
  have n5:=@n_sorted_list_difference_5
  have n6:=@n_sorted_list_difference_6
  have n7:=@n_sorted_list_difference_7
  have g_IndexError:=g_sorted_list_difference_IndexError hK
  conv=>arg 5;whnf
  have e1:∀ (l:List (List Nat)) (i:Nat),pick (some (i:Int)) none (l.map D.str) = (l.drop i).map D.str:=fun l i=>by rw [pick_from,List.map_drop]
  refine EXs.cons (EX.ownMeth (d:=.none) (xs':=(m ++ xs.drop i).map D.str) 4 PySem.F.slot_list_extend PySem.F.type_list_extend n4.hx rfl (EVs.cons (EV.sliceL (EV.nm n0 rfl) (PV.some (EV.nm n2 rfl)) PV.none (fun _ _=>rfl)) EVs.nil fun _=>rfl) ?o1 (by decide) rfl (fun _=>rfl) (fun _=>rfl)) ?_
  case o1=>rw [e1,List.map_append];exact OwnOp.extend (by simp;lia)
  dsimp only [List.set_cons_zero,List.set_cons_succ]
  refine EXs.cons (EX.ownMeth (d:=.none) (xs':=(u ++ ys.drop j).map D.str) 5 PySem.F.slot_list_extend PySem.F.type_list_extend n5.hx rfl (EVs.cons (EV.sliceL (EV.nm n1 rfl) (PV.some (EV.nm n3 rfl)) PV.none (fun _ _=>rfl)) EVs.nil fun _=>rfl) ?o2 (by decide) rfl (fun _=>rfl) (fun _=>rfl)) ?_
  case o2=>rw [e1,List.map_append];exact OwnOp.extend (by simp;lia)
  exact EXs.stop EX.brk
noncomputable def sldIf:Stmt:=(((sldLoop[0]?).elim [] fun s=>(stmtOf s).2.1)[2]?).getD default
omit hK [Free S] in
theorem sldF_nl (n:Nat) (Y:List (List Nat)):sldF n [] Y = ([],Y):=by cases n <;> rfl
omit hK [Free S] in
theorem sldF_nr (n:Nat) (X:List (List Nat)):sldF n X [] = (X,[]):=by cases n <;> cases X <;> rfl
omit hK [Free S] in
theorem sldF_cc (n:Nat) (x y:List Nat) (X Y:List (List Nat)):sldF (n + 1) (x :: X) (y :: Y) = if x < y then (x :: (sldF n (X.dropWhile (· == x)) (y :: Y)).1,(sldF n (X.dropWhile (· == x)) (y :: Y)).2)
    else if y < x then ((sldF n (x :: X) (Y.dropWhile (· == y))).1,y :: (sldF n (x :: X) (Y.dropWhile (· == y))).2) else sldF n (X.dropWhile (· == x)) (Y.dropWhile (· == y)):=rfl
omit hK [Free S] in
theorem dropWhile_len {α:Type} (p:α→Bool) (l:List α):(l.dropWhile p).length≤l.length:=(List.dropWhile_sublist p).length_le
set_option maxHeartbeats 4000000 in
theorem sld_if {k n:Nat} {xs ys m u X Y:List (List Nat)} {x y:List Nat} {i j:Nat} (hx:xs.length≤1000) (hy:ys.length≤1000) (hX:xs.drop i = x :: X) (hY:ys.drop j = y :: Y) (hn:(x :: X).length + (y :: Y).length≤n + 1) (hm:m.length + (x :: X).length≤1000) (hu:u.length + (y :: Y).length≤1000) :
    (∃ (i1 j1:Nat) (m1 u1:List (List Nat)),i1≤xs.length∧j1≤ys.length∧(xs.drop i1).length + (ys.drop j1).length≤n∧m1.length + (xs.drop i1).length≤1000∧u1.length + (ys.drop j1).length≤1000 ∧
      m1 ++ (sldF n (xs.drop i1) (ys.drop j1)).1 = m ++ (sldF (n + 1) (x :: X) (y :: Y)).1∧u1 ++ (sldF n (xs.drop i1) (ys.drop j1)).2 = u ++ (sldF (n + 1) (x :: X) (y :: Y)).2 ∧
      EX S k fi_sorted_list_difference (sldΓ xs ys i j m u (some (.val (.str x))) (some (.val (.str y)))) sldIf (.next (sldΓ xs ys i1 j1 m1 u1 (some (.val (.str x))) (some (.val (.str y)))))) ∨
    (∃ (i1 j1:Nat) (m1 u1:List (List Nat)),m1.length≤1000∧u1.length≤1000∧m1 ++ xs.drop i1 = m ++ (sldF (n + 1) (x :: X) (y :: Y)).1∧u1 ++ ys.drop j1 = u ++ (sldF (n + 1) (x :: X) (y :: Y)).2 ∧
      RX S k fi_sorted_list_difference (sldΓ xs ys i j m u (some (.val (.str x))) (some (.val (.str y)))) sldIf (sldΓ xs ys i1 j1 m1 u1 (some (.val (.str x))) (some (.val (.str y)))) false):=by
  have n0:=@n_sorted_list_difference_0
  have n1:=@n_sorted_list_difference_1
  have n2:=@n_sorted_list_difference_2
  have n3:=@n_sorted_list_difference_3
  have n4:=@n_sorted_list_difference_4
  have n5:=@n_sorted_list_difference_5
  have n6:=@n_sorted_list_difference_6
  have n7:=@n_sorted_list_difference_7
  have g_IndexError:=g_sorted_list_difference_IndexError hK
  have hsz:=sizeLine_eq
  refine e0_3 (drop_next hX) (fun hX1 hX2 hX3=>?_)
  refine e0_3 (drop_next hY) (fun hY1 hY2 hY3=>?_)
  simp only [List.length_cons] at hn hm hu
  have inc1:∀ (i j:Nat) (m u:List (List Nat)) (te ta:Option B) (p1 p2 p3:Pos) (kk:Nat),EX S k fi_sorted_list_difference (sldΓ xs ys i j m u te ta) (.AugAssign (.Name "i" p1) .Add (.Constant (.int 1) kk p2) p3) (.next (sldΓ xs ys (i + 1:Nat) j m u te ta)):=fun i j m u te ta p1 p2 p3 kk=>EX.augN n2 rfl EV.cInt Op2.iaddI
  have inc2:∀ (i j:Nat) (m u:List (List Nat)) (te ta:Option B) (p1 p2 p3:Pos) (kk:Nat),EX S k fi_sorted_list_difference (sldΓ xs ys i j m u te ta) (.AugAssign (.Name "j" p1) .Add (.Constant (.int 1) kk p2) p3) (.next (sldΓ xs ys i (j + 1:Nat) m u te ta)):=fun i j m u te ta p1 p2 p3 kk=>EX.augN n3 rfl EV.cInt Op2.iaddI
  have inc2':∀ (i j:Nat) (m u:List (List Nat)) (te ta:Option B) (p1 p2 p3:Pos) (kk:Nat),EX S.off k fi_sorted_list_difference (sldΓ xs ys i j m u te ta) (.AugAssign (.Name "j" p1) .Add (.Constant (.int 1) kk p2) p3) (.next (sldΓ xs ys i (j + 1:Nat) m u te ta)):=fun i j m u te ta p1 p2 p3 kk=>EX.augN n3 rfl EV.cInt Op2.iaddI
  have lX:=dropWhile_len (· == x) X
  have lY:=dropWhile_len (· == y) Y
  have lY':=dropWhile_len (· == x) Y
  have tlt:∀ p1 p2 p3,TV S k fi_sorted_list_difference (sldΓ xs ys i j m u (some (.val (.str x))) (some (.val (.str y)))) (.Compare (.Name "e" p1) [.Lt] [.Name "a" p2] p3) (decide (x < y)):=fun _ _ _=>TV.cmp (EV.nm n6 rfl) (EV.nm n7 rfl) Op2.ltS rfl
  have tgt:∀ p1 p2 p3,TV S k fi_sorted_list_difference (sldΓ xs ys i j m u (some (.val (.str x))) (some (.val (.str y)))) (.Compare (.Name "e" p1) [.Gt] [.Name "a" p2] p3) (decide (y < x)):=fun _ _ _=>TV.cmp (EV.nm n6 rfl) (EV.nm n7 rfl) Op2.gtS rfl
  have hfree:∀ b:Bool,b = true→S.hd = true:=fun _ _=>Free.free
  have app1:∀ (npos apos p pos p':Pos),(apos.endLine == pos.line) = true→EX S k fi_sorted_list_difference (sldΓ xs ys i j m u (some (.val (.str x))) (some (.val (.str y)))) (.Expr (.Call (.Attribute (.Name "missing" npos) "append" apos) [.Name "e" p] [] pos) p') (.next (sldΓ xs ys i j (m ++ [x]) u (some (.val (.str x))) (some (.val (.str y))))):=fun npos apos p pos p' hl=>by
    have h:=EX.appendN (S:=S) (k:=k) (f:=fi_sorted_list_difference) (Γ:=sldΓ xs ys i j m u (some (.val (.str x))) (some (.val (.str y)))) (npos:=npos) (apos:=apos) (pos:=pos) (p':=p') n4 rfl (EV.nm (pos:=p) n6 rfl) (by simp;lia) (fun _=>rfl) hl (fun _=>rfl)
    have e:(m ++ [x]).map D.str = m.map D.str ++ [.str x]:=by simp
    unfold sldΓ at h ⊢
    rw [e]
    exact h
  have app2:∀ (npos apos p pos p':Pos),(apos.endLine == pos.line) = true→EX S k fi_sorted_list_difference (sldΓ xs ys i j m u (some (.val (.str x))) (some (.val (.str y)))) (.Expr (.Call (.Attribute (.Name "unexpected" npos) "append" apos) [.Name "a" p] [] pos) p') (.next (sldΓ xs ys i j m (u ++ [y]) (some (.val (.str x))) (some (.val (.str y))))):=fun npos apos p pos p' hl=>by
    have h:=EX.appendN (S:=S) (k:=k) (f:=fi_sorted_list_difference) (Γ:=sldΓ xs ys i j m u (some (.val (.str x))) (some (.val (.str y)))) (npos:=npos) (apos:=apos) (pos:=pos) (p':=p') n5 rfl (EV.nm (pos:=p) n7 rfl) (by simp;lia) (fun _=>rfl) hl (fun _=>rfl)
    have e:(u ++ [y]).map D.str = u.map D.str ++ [.str y]:=by simp
    unfold sldΓ at h ⊢
    rw [e]
    exact h
  have tl:∀ b,decide (x < y) = b→∀ p1 p2 p3,TV S k fi_sorted_list_difference (sldΓ xs ys i j m u (some (.val (.str x))) (some (.val (.str y)))) (.Compare (.Name "e" p1) [.Lt] [.Name "a" p2] p3) b:=fun b h p1 p2 p3=>h ▸ tlt p1 p2 p3
  have tg:∀ b,decide (y < x) = b→∀ p1 p2 p3,TV S k fi_sorted_list_difference (sldΓ xs ys i j m u (some (.val (.str x))) (some (.val (.str y)))) (.Compare (.Name "e" p1) [.Gt] [.Name "a" p2] p3) b:=fun b h p1 p2 p3=>h ▸ tgt p1 p2 p3
  rw [sldF_cc]
  by_cases h1:x < y
  · rw [if_pos h1]
    refine e0_2 (skip_to (· == x) hX2 hX1) (fun d1 d2=>?_)
    have sk:=fun (p1 p2 p3 p4 p5 p6 p7 p8:Pos) (kk:Nat)=>skip_loop (k:=k) (p1:=p1) (p2:=p2) (p3:=p3) (p4:=p4) (p5:=p5) (p6:=p6) (p7:=p7) (p8:=p8) (kk:=kk) (hfree false) n0 n2 n6 (by lia) (fun i=>sldΓ xs ys i j (m ++ [x]) u (some (.val (.str x))) (some (.val (.str y)))) (fun _=>rfl) (fun _=>rfl) (fun _=>rfl) (fun _ _=>rfl) X (i + 1) hX2 hX1
    by_cases hd:X.dropWhile (· == x) = []
    · refine Or.inr ⟨xs.length,j,m ++ [x],u,by simp;lia,by lia,by rw [hd,sldF_nl];simp,by rw [hd,sldF_nl,hY],?_⟩
      conv=>arg 5;whnf
      exact RX.if (tl _ (decide_eq_true h1) _ _ _) (Or.inl ⟨rfl,RXs.next (app1 _ _ _ _ _ rfl) (RXs.next (inc1 _ _ _ _ _ _ _ _ _ _) (RXs.here (RX.while ((sk _ _ _ _ _ _ _ _ _).1 hd))))⟩)
    · refine Or.inl ⟨i + 1 + (X.takeWhile (· == x)).length,j,m ++ [x],u,d2,Nat.le_of_lt hY2,?_,?_,?_,by rw [d1,hY];simp,by rw [d1,hY],?_⟩
      · rw [d1,hY,List.length_cons];lia
      · rw [d1,List.length_append,List.length_singleton];lia
      · rw [hY,List.length_cons];lia
      conv=>arg 5;whnf
      exact EX.ifB (tl _ (decide_eq_true h1) _ _ _) (Or.inl ⟨rfl,EXs.cons (app1 _ _ _ _ _ rfl) (EXs.cons (inc1 _ _ _ _ _ _ _ _ _ _) (EXs.cons (EX.while ((sk _ _ _ _ _ _ _ _ _).2 hd)) EXs.nil))⟩)
  · rw [if_neg h1]
    by_cases h2:y < x
    · rw [if_pos h2]
      refine e0_2 (skip_to (· == y) hY2 hY1) (fun d1 d2=>?_)
      have sk:=fun (p1 p2 p3 p4 p5 p6 p7 p8:Pos) (kk:Nat)=>skip_loop (k:=k) (p1:=p1) (p2:=p2) (p3:=p3) (p4:=p4) (p5:=p5) (p6:=p6) (p7:=p7) (p8:=p8) (kk:=kk) (hfree false) n1 n3 n7 (by lia) (fun j=>sldΓ xs ys i j m (u ++ [y]) (some (.val (.str x))) (some (.val (.str y)))) (fun _=>rfl) (fun _=>rfl) (fun _=>rfl) (fun _ _=>rfl) Y (j + 1) hY2 hY1
      by_cases hd:Y.dropWhile (· == y) = []
      · refine Or.inr ⟨i,ys.length,m,u ++ [y],by lia,by simp;lia,by rw [hd,sldF_nr,hX],by rw [hd,sldF_nr];simp,?_⟩
        conv=>arg 5;whnf
        exact RX.if (tl _ (decide_eq_false h1) _ _ _) (Or.inr ⟨rfl,RXs.here (RX.if (tg _ (decide_eq_true h2) _ _ _) (Or.inl ⟨rfl,RXs.next (app2 _ _ _ _ _ rfl) (RXs.next (inc2 _ _ _ _ _ _ _ _ _ _) (RXs.here (RX.while ((sk _ _ _ _ _ _ _ _ _).1 hd))))⟩))⟩)
      · refine Or.inl ⟨i,j + 1 + (Y.takeWhile (· == y)).length,m,u ++ [y],Nat.le_of_lt hX2,d2,?_,?_,?_,by rw [d1,hX],by rw [d1,hX];simp,?_⟩
        · rw [d1,hX,List.length_cons];lia
        · rw [hX,List.length_cons];lia
        · rw [d1,List.length_append,List.length_singleton];lia
        conv=>arg 5;whnf
        exact EX.ifB (tl _ (decide_eq_false h1) _ _ _) (Or.inr ⟨rfl,EXs.cons (EX.ifB (tg _ (decide_eq_true h2) _ _ _) (Or.inl ⟨rfl,EXs.cons (app2 _ _ _ _ _ rfl) (EXs.cons (inc2 _ _ _ _ _ _ _ _ _ _) (EXs.cons (EX.while ((sk _ _ _ _ _ _ _ _ _).2 hd)) EXs.nil))⟩)) EXs.nil⟩)
    · rw [if_neg h2]
      refine e0_2 (skip_to (· == x) hX2 hX1) (fun d1 d2=>?_)
      refine e0_2 (skip_to (· == y) hY2 hY1) (fun d3 d4=>?_)
      have skx:=fun (p1 p2 p3 p4 p5 p6 p7 p8:Pos) (kk:Nat)=>skip_loop (n:=true) (k:=k) (p1:=p1) (p2:=p2) (p3:=p3) (p4:=p4) (p5:=p5) (p6:=p6) (p7:=p7) (p8:=p8) (kk:=kk) (hfree true) n0 n2 n6 (by lia) (fun i=>sldΓ xs ys i j m u (some (.val (.str x))) (some (.val (.str y)))) (fun _=>rfl) (fun _=>rfl) (fun _=>rfl) (fun _ _=>rfl) X (i + 1) hX2 hX1
      have sky:=fun (i:Int) (p1 p2 p3 p4 p5 p6 p7 p8:Pos) (kk:Nat)=>skip_loop (S:=S) (n:=false) (k:=k) (p1:=p1) (p2:=p2) (p3:=p3) (p4:=p4) (p5:=p5) (p6:=p6) (p7:=p7) (p8:=p8) (kk:=kk) nofun n1 n3 n7 (by lia) (fun j=>sldΓ xs ys i j m u (some (.val (.str x))) (some (.val (.str y)))) (fun _=>rfl) (fun _=>rfl) (fun _=>rfl) (fun _ _=>rfl) Y (j + 1) hY2 hY1
      have sko:=fun (i:Int) (p1 p2 p3 p4 p5 p6 p7 p8:Pos) (kk:Nat)=>skip_loop (S:=S.off) (n:=false) (k:=k) (p1:=p1) (p2:=p2) (p3:=p3) (p4:=p4) (p5:=p5) (p6:=p6) (p7:=p7) (p8:=p8) (kk:=kk) nofun n1 n3 n7 (by lia) (fun j=>sldΓ xs ys i j m u (some (.val (.str x))) (some (.val (.str y)))) (fun _=>rfl) (fun _=>rfl) (fun _=>rfl) (fun _ _=>rfl) Y (j + 1) hY2 hY1
      by_cases hd:X.dropWhile (· == x) = []
      · by_cases he:Y.dropWhile (· == y) = []
        · refine Or.inr ⟨xs.length,ys.length,m,u,by lia,by lia,by rw [hd,he,sldF_nl];simp,by rw [hd,he,sldF_nl];simp,?_⟩
          conv=>arg 5;whnf
          exact RX.if (tl _ (decide_eq_false h1) _ _ _) (Or.inr ⟨rfl,RXs.here (RX.if (tg _ (decide_eq_false h2) _ _ _) (Or.inr ⟨rfl,RXs.next (inc1 _ _ _ _ _ _ _ _ _ _) (RXs.here (RX.tryFin (RXs.here (RX.while ((skx _ _ _ _ _ _ _ _ _).1 hd))) (Or.inr (RXs.next (inc2' _ _ _ _ _ _ _ _ _ _) (RXs.here (RX.while ((sko _ _ _ _ _ _ _ _ _ _).1 he)))))))⟩))⟩)
        · refine Or.inr ⟨xs.length,j + 1 + (Y.takeWhile (· == y)).length,m,u,by lia,by lia,by rw [hd,sldF_nl];simp,by rw [hd,sldF_nl,d3],?_⟩
          conv=>arg 5;whnf
          exact RX.if (tl _ (decide_eq_false h1) _ _ _) (Or.inr ⟨rfl,RXs.here (RX.if (tg _ (decide_eq_false h2) _ _ _) (Or.inr ⟨rfl,RXs.next (inc1 _ _ _ _ _ _ _ _ _ _) (RXs.here (RX.tryFin (RXs.here (RX.while ((skx _ _ _ _ _ _ _ _ _).1 hd))) (Or.inl (EXs.cons (inc2' _ _ _ _ _ _ _ _ _ _) (EXs.cons (EX.while ((sko _ _ _ _ _ _ _ _ _ _).2 he)) EXs.nil)))))⟩))⟩)
      · by_cases he:Y.dropWhile (· == y) = []
        · refine Or.inr ⟨i + 1 + (X.takeWhile (· == x)).length,ys.length,m,u,by lia,by lia,by rw [he,sldF_nr,d1],by rw [he,sldF_nr];simp,?_⟩
          conv=>arg 5;whnf
          exact RX.if (tl _ (decide_eq_false h1) _ _ _) (Or.inr ⟨rfl,RXs.here (RX.if (tg _ (decide_eq_false h2) _ _ _) (Or.inr ⟨rfl,RXs.next (inc1 _ _ _ _ _ _ _ _ _ _) (RXs.here (RX.tryFinB (EXs.cons (EX.while ((skx _ _ _ _ _ _ _ _ _).2 hd)) EXs.nil) (RXs.next (inc2 _ _ _ _ _ _ _ _ _ _) (RXs.here (RX.while ((sky _ _ _ _ _ _ _ _ _ _).1 he))))))⟩))⟩)
        · refine Or.inl ⟨i + 1 + (X.takeWhile (· == x)).length,j + 1 + (Y.takeWhile (· == y)).length,m,u,d2,d4,?_,?_,?_,by rw [d1,d3],by rw [d1,d3],?_⟩
          · rw [d1,d3];lia
          · rw [d1];lia
          · rw [d3];lia
          conv=>arg 5;whnf
          exact EX.ifB (tl _ (decide_eq_false h1) _ _ _) (Or.inr ⟨rfl,EXs.cons (EX.ifB (tg _ (decide_eq_false h2) _ _ _) (Or.inr ⟨rfl,EXs.cons (inc1 _ _ _ _ _ _ _ _ _ _) (EXs.cons (EX.tryFin (EXs.cons (EX.while ((skx _ _ _ _ _ _ _ _ _).2 hd)) EXs.nil) (EXs.cons (inc2 _ _ _ _ _ _ _ _ _ _) (EXs.cons (EX.while ((sky _ _ _ _ _ _ _ _ _ _).2 he)) EXs.nil))) EXs.nil)⟩)) EXs.nil⟩)
set_option maxHeartbeats 4000000 in
theorem sld_loop {k:Nat} {xs ys:List (List Nat)} (hx:xs.length≤1000) (hy:ys.length≤1000):∀ (n:Nat) (i j:Nat) (m u:List (List Nat)) (te ta:Option B),i≤xs.length→j≤ys.length→(xs.drop i).length + (ys.drop j).length≤n→m.length + (xs.drop i).length≤1000→u.length + (ys.drop j).length≤1000 →
    ∃ (i' j':Int) (te' ta':Option B),WLB S k fi_sorted_list_difference sldTest sldLoop (sldΓ xs ys i j m u te ta) (sldΓ xs ys i' j' (m ++ (sldF n (xs.drop i) (ys.drop j)).1) (u ++ (sldF n (xs.drop i) (ys.drop j)).2) te' ta'):=by
  have n0:=@n_sorted_list_difference_0
  have n1:=@n_sorted_list_difference_1
  have n2:=@n_sorted_list_difference_2
  have n3:=@n_sorted_list_difference_3
  have n4:=@n_sorted_list_difference_4
  have n5:=@n_sorted_list_difference_5
  have n6:=@n_sorted_list_difference_6
  have n7:=@n_sorted_list_difference_7
  have g_IndexError:=g_sorted_list_difference_IndexError hK
  have tv:∀ Γ,TV S k fi_sorted_list_difference Γ sldTest true:=fun Γ=>TV.val tested_Const EV.cBool OpT.bool
  have hfree:∀ b:Bool,b = true→S.hd = true:=fun _ _=>Free.free
  have ht:∀ (Γ:Ctxt) (p:Pos),EV S.off k fi_sorted_list_difference Γ (.Name "IndexError" p) (.raw (.type "IndexError")):=fun Γ p=>EV.boot (S:=S.off) (by rfl) hK.ns_IndexError bt_IndexError
  have pe:∀ (i j:Nat) (m u:List (List Nat)) (te ta:Option B) (x:List Nat) (p1 p2 p3 p4 p5:Pos),xs[i]? = some x→EX S k fi_sorted_list_difference (sldΓ xs ys i j m u te ta) (.Assign [.Name "e" p1] (.Subscript (.Name "expected" p2) (.Name "i" p3) p4) p5) (.next (sldΓ xs ys i j m u (some (.val (.str x))) ta)):=fun i j m u te ta x p1 p2 p3 p4 p5 h =>
    EX.assign (EV.item (T:="list") (EV.nm n0 rfl) (EV.nm n2 rfl) rfl list_getitem_lookup (Op2.itemL (item_at h) (by lia)) (fun _ _=>rfl)) (AS.nm n6) (fun _=>rfl) (fun _=>rfl) (fun _ _=>rfl)
  have pa:∀ (i j:Nat) (m u:List (List Nat)) (te ta:Option B) (y:List Nat) (p1 p2 p3 p4 p5:Pos),ys[j]? = some y→EX S k fi_sorted_list_difference (sldΓ xs ys i j m u te ta) (.Assign [.Name "a" p1] (.Subscript (.Name "actual" p2) (.Name "j" p3) p4) p5) (.next (sldΓ xs ys i j m u te (some (.val (.str y))))):=fun i j m u te ta y p1 p2 p3 p4 p5 h =>
    EX.assign (EV.item (T:="list") (EV.nm n1 rfl) (EV.nm n3 rfl) rfl list_getitem_lookup (Op2.itemL (item_at h) (by lia)) (fun _ _=>rfl)) (AS.nm n7) (fun _=>rfl) (fun _=>rfl) (fun _ _=>rfl)
  intro n
  induction n with
  | zero =>
    intro i j m u te ta hi hj hn hm hu
    have e1:xs.drop i = []:=List.eq_nil_of_length_eq_zero (by lia)
    have hie:=drop_end e1
    have hr:∀ Y,sldF 0 (xs.drop i) Y = (xs.drop i,Y):=fun Y=>rfl
    refine ⟨i,j,te,ta,.brk (tv _) ?_⟩
    conv=>arg 5;whnf
    rw [hr]
    exact NXs.here (NX.tryExc (n:=false) (RXs.here (RX.assign (RE.item (hfree _) (EV.nm n0 rfl) (EV.nm n2 rfl) (by rw [List.length_map];lia) (by lia) (fun _ _=>rfl)) (fun _=>rfl) (fun _=>rfl))) (ht _ _) (sld_hand hK hx hy (by lia) (by lia))) rfl
  | succ n ih =>
    intro i j m u te ta hi hj hn hm hu
    cases hX:xs.drop i with
    | nil =>
      have hie:=drop_end hX
      refine ⟨i,j,te,ta,.brk (tv _) ?_⟩
      conv=>arg 5;whnf
      rw [sldF_nl]
      have:=sld_hand (te:=te) (ta:=ta) (i:=i) (j:=j) hK (k:=k) hx hy (m:=m) (u:=u) (by lia) (by lia)
      rw [hX] at this
      exact NXs.here (NX.tryExc (n:=false) (RXs.here (RX.assign (RE.item (hfree _) (EV.nm n0 rfl) (EV.nm n2 rfl) (by rw [List.length_map];lia) (by lia) (fun _ _=>rfl)) (fun _=>rfl) (fun _=>rfl))) (ht _ _) this) rfl
    | cons x X =>
      refine e0_3 (drop_next hX) (fun hX1 hX2 hX3=>?_)
      cases hY:ys.drop j with
      | nil =>
        have hje:=drop_end hY
        refine ⟨i,j,some (.val (.str x)),ta,.brk (tv _) ?_⟩
        conv=>arg 5;whnf
        rw [sldF_nr]
        have:=sld_hand (te:=some (.val (.str x))) (ta:=ta) (i:=i) (j:=j) hK (k:=k) hx hy (m:=m) (u:=u) (by lia) (by lia)
        rw [hX,hY] at this
        exact NXs.here (NX.tryExc (n:=false) (RXs.next (pe _ _ _ _ _ _ _ _ _ _ _ _ hX3) (RXs.here (RX.assign (RE.item (hfree _) (EV.nm n1 rfl) (EV.nm n3 rfl) (by rw [List.length_map];lia) (by lia) (fun _ _=>rfl)) (fun _=>rfl) (fun _=>rfl)))) (ht _ _) this) rfl
      | cons y Y =>
        refine e0_3 (drop_next hY) (fun hY1 hY2 hY3=>?_)
        rw [hX,hY] at hn
        rw [hX] at hm
        rw [hY] at hu
        rcases sld_if hK (k:=k) hx hy hX hY hn hm hu with ⟨i1,j1,m1,u1,b1,b2,b3,b4,b5,b6,b7,ex⟩ | ⟨i1,j1,m1,u1,b4,b5,b6,b7,rx⟩
        · refine e4_1 (ih i1 j1 m1 u1 (some (.val (.str x))) (some (.val (.str y))) b1 b2 b3 b4 b5) (fun i' j' te' ta' w=>?_)
          rw [b6,b7] at w
          refine ⟨i',j',te',ta',.next (tv _) ?_ w⟩
          conv=>arg 5;whnf
          exact EXs.cons (EX.tryOk (EXs.cons (pe _ _ _ _ _ _ _ _ _ _ _ _ hX3) (EXs.cons (pa _ _ _ _ _ _ _ _ _ _ _ _ hY3) (EXs.cons ex EXs.nil)))) EXs.nil
        · refine ⟨i1,j1,some (.val (.str x)),some (.val (.str y)),.brk (tv _) ?_⟩
          conv=>arg 5;whnf
          have:=sld_hand (te:=some (.val (.str x))) (ta:=some (.val (.str y))) (i:=i1) (j:=j1) hK (k:=k) hx hy (m:=m1) (u:=u1) b4 b5
          rw [b6,b7] at this
          exact NXs.here (NX.tryExc (n:=false) (RXs.next (pe _ _ _ _ _ _ _ _ _ _ _ _ hX3) (RXs.next (pa _ _ _ _ _ _ _ _ _ _ _ _ hY3) (RXs.here rx))) (ht _ _) this) rfl
noncomputable def pSld (xs ys:List (List Nat)):List (List Nat) × List (List Nat):=sldF (xs.length + ys.length) xs ys
set_option maxHeartbeats 4000000 in
theorem sld_ok {k:Nat} {xs ys:List (List Nat)} (hx:xs.length≤1000) (hy:ys.length≤1000):OpsF S (k + 1) (fun vs=>call (.ref 170) vs) [strsD xs,strsD ys] (.tup [strsD (pSld xs ys).1,strsD (pSld xs ys).2]):=by
  have n0:=@n_sorted_list_difference_0
  have n1:=@n_sorted_list_difference_1
  have n2:=@n_sorted_list_difference_2
  have n3:=@n_sorted_list_difference_3
  have n4:=@n_sorted_list_difference_4
  have n5:=@n_sorted_list_difference_5
  have n6:=@n_sorted_list_difference_6
  have n7:=@n_sorted_list_difference_7
  have g_IndexError:=g_sorted_list_difference_IndexError hK
  refine Fn.introF (f:=fi_sorted_list_difference) hK.fn_sorted_list_difference rfl ?_
  show NXs S _ fi_sorted_list_difference [some (.val _),some (.val _),none,none,none,none,none,none] _ _
  conv=>arg 5;whnf
  have o4:OwnV fi_sorted_list_difference 4:=.intro
  have o5:OwnV fi_sorted_list_difference 5:=.intro
  refine e4_1 (sld_loop hK (k:=k) hx hy (xs.length + ys.length) 0 0 [] [] none none (Nat.zero_le _) (Nat.zero_le _) (by simp) (by simpa using hx) (by simpa using hy)) (fun i' j' te' ta' w=>?_)
  simp only [List.drop_zero,List.nil_append] at w
  refine NXs.next (Γ₁:=[some (.val (strsD xs)),some (.val (strsD ys)),some (.val (.int 0)),some (.val (.int 0)),none,none,none,none]) (EX.assignBoth EV.cInt (AS.nm n2) (AS.nm n3) (fun _=>rfl) (fun _=>rfl) (fun _ _=>rfl)) ?_
  refine NXs.next (Γ₁:=[some (.val (strsD xs)),some (.val (strsD ys)),some (.val (.int 0)),some (.val (.int 0)),some (.own []),none,none,none]) ?o1 ?_
  case o1 =>
    refine' EX.toR ?mm ?mq
    case mm=>exact EX.ownN n4 o4 EVs.nil rfl (by (simp only [List.length_cons,List.length_nil]);decide) (Nat.le_of_ble_eq_true rfl) (fun _=>rfl) (fun _=>rfl)
    case mq=>rfl
  refine NXs.next (Γ₁:=sldΓ xs ys 0 0 [] [] none none) ?o2 ?_
  case o2 =>
    refine' EX.toR ?mm ?mq
    case mm=>exact EX.ownN n5 o5 EVs.nil rfl (by (simp only [List.length_cons,List.length_nil]);decide) (Nat.le_of_ble_eq_true rfl) (fun _=>rfl) (fun _=>rfl)
    case mq=>rfl
  refine NXs.then (NX.while w) ?_
  refine EXs.freezeN n4 rfl ?_
  refine EXs.freezeN n5 rfl ?_
  dsimp only [List.set_cons_zero,List.set_cons_succ]
  exact EXs.stop (EX.ret (EV.tup (EVs.cons (EV.nm n4 rfl) (EVs.cons (EV.nm n5 rfl) EVs.nil fun _=>rfl) fun _=>rfl) (Nat.le_of_ble_eq_true rfl)))
section
omit hK [Free S]
theorem lt_tri {a b:List Nat} (h:¬ a < b) (h':¬ b < a):a = b:=List.le_antisymm (List.not_lt.mp h') (List.not_lt.mp h)
theorem lt_le {a b c:List Nat} (h:a < b) (h':¬ c < b):a < c:=by
  by_cases q:a < c
  · exact q
  · by_cases r:c = b
    · exact r ▸ h
    · have:b < c:=by
        by_cases w:b < c
        · exact w
        · exact absurd (lt_tri w h').symm r
      exact List.lt_trans h this
noncomputable def tellB (p:Option (List Nat)) (other:List (List Nat)) (x:List Nat):Bool:=!decide (x ∈ other) && (!decide (p = some x) || decide (∀ y ∈ other,¬ x < y))
noncomputable def aloneR (other:List (List Nat)):Option (List Nat)→List (List Nat)→List (List Nat)
  | _,[]=>[]
  | p,x :: X=>if tellB p other x then x :: aloneR other (some x) X else aloneR other (some x) X
theorem aloneP_tell (own other:List (List Nat)) (x:List Nat) (i:Nat):aloneP own other (x,i) = tellB (match i with | 0=>none | j + 1=>own[j]?) other x:=by
  unfold aloneP tellB
  simp only
  rw [pick_prev]
  have e1:decide (prevD own i = [x]) = decide ((match i with | 0=>none | j + 1=>own[j]?) = some x):=by
    cases i with
    | zero=>rfl
    | succ j =>
      rw [prevD_succ]
      show decide (own[j]?.toList = [x]) = decide (own[j]? = some x)
      cases own[j]? <;> simp
  have e2:decide (other.filter (fun y=>decide (x < y)) = []) = decide (∀ y ∈ other,¬ x < y):=by
    refine decide_eq_decide.mpr ?_
    rw [List.filter_eq_nil_iff]
    simp
  rw [e1,e2]
theorem alone_eq (own other:List (List Nat)):pAlone own other = aloneR other none own:=by
  have key:∀ (post pre:List (List Nat)),own = pre ++ post→((post.zipIdx pre.length).filter (aloneP own other)).map Prod.fst = aloneR other (pre.getLast?) post:=by
    intro post
    induction post with
    | nil=>exact fun _ _=>rfl
    | cons x X ih =>
      intro pre h
      have h2:=ih (pre ++ [x]) (by rw [h];simp)
      rw [List.length_append,List.length_singleton,List.getLast?_append,List.getLast?_singleton] at h2
      have h3:(match pre.length with | 0=>none | j + 1=>own[j]?) = pre.getLast?:=by
        rcases nil_or_snoc pre with rfl | ⟨a,b,rfl⟩
        · rfl
        · rw [List.length_append,List.length_singleton,h]
          simp
      rw [List.zipIdx_cons,List.filter_cons,aloneP_tell,h3]
      unfold aloneR
      split
      · rw [List.map_cons,h2];rfl
      · rw [h2];rfl
  have:=key own [] rfl
  unfold pAlone
  simpa using this
theorem aloneR_nil (p:Option (List Nat)):∀ X,aloneR [] p X = X:=by
  intro X
  induction X generalizing p with
  | nil=>rfl
  | cons x X ih=>unfold aloneR;rw [ih];simp [tellB]
noncomputable abbrev Rises (X:List (List Nat)):Prop:=X.Pairwise fun a b=>¬ b < a
theorem dw_lt {x:List Nat} {X:List (List Nat)} (h:Rises (x :: X)):∀ z ∈ X.dropWhile (· == x),x < z:=by
  induction X with
  | nil=>nofun
  | cons y X ih =>
    obtain ⟨h1,h2⟩:=List.pairwise_cons.mp h
    rw [List.dropWhile_cons]
    split
    · rename_i hy
      have hy':y = x:=by simpa using hy
      exact ih (List.pairwise_cons.mpr ⟨fun z hz=>h1 z (.tail _ hz),(List.pairwise_cons.mp h2).2⟩)
    · rename_i hy
      have hy':y ≠ x:=by simpa using hy
      have hxy:x < y:=by
        by_cases q:x < y
        · exact q
        · exact absurd (lt_tri (h1 y (.head _)) q) hy'
      intro z hz
      rcases List.mem_cons.mp hz with rfl | hz
      · exact hxy
      · exact lt_le hxy (((List.pairwise_cons.mp h2).1 z hz))
theorem dw_rises {x:List Nat} {X:List (List Nat)} (h:Rises X):Rises (X.dropWhile (· == x)):=h.sublist (List.dropWhile_sublist _)
theorem aloneR_off {y:List Nat} {Y:List (List Nat)}:∀ (X:List (List Nat)) (p:Option (List Nat)),(∀ x ∈ X,y < x)→aloneR (y :: Y) p X = aloneR (Y.dropWhile (· == y)) p X:=by
  have same:∀ (Y:List (List Nat)) (x:List Nat) (p:Option (List Nat)),y < x→tellB p (y :: Y) x = tellB p Y x:=by
    intro Y x p h
    unfold tellB
    have hne:x ≠ y:=fun q=>List.lt_irrefl y (q ▸ h:y < y)
    have h1:decide (x ∈ y :: Y) = decide (x ∈ Y):=by simp [hne]
    have h2:decide (∀ z ∈ y :: Y,¬ x < z) = decide (∀ z ∈ Y,¬ x < z):=by
      refine decide_eq_decide.mpr ?_
      simp only [List.mem_cons,forall_eq_or_imp]
      exact ⟨fun h=>h.2,fun h'=>⟨fun q=>List.lt_irrefl y (List.lt_trans h q),h'⟩⟩
    rw [h1,h2]
  have run:∀ (Y:List (List Nat)) (x:List Nat) (p:Option (List Nat)),y < x→tellB p Y x = tellB p (Y.dropWhile (· == y)) x:=by
    intro Y x p h
    induction Y with
    | nil=>rfl
    | cons z Y ih =>
      rw [List.dropWhile_cons]
      split
      · rename_i hz
        have hz':z = y:=by simpa using hz
        rw [hz',same Y x p h,ih]
      · rfl
  intro X
  induction X with
  | nil=>exact fun _ _=>rfl
  | cons x X ih =>
    intro p h
    unfold aloneR
    rw [same Y x p (h x (.head _)),run Y x p (h x (.head _)),ih (some x) fun z hz=>h z (.tail _ hz)]
theorem aloneR_prev {other X:List (List Nat)} {p q:Option (List Nat)} (hp:∀ x ∈ X,p ≠ some x) (hq:∀ x ∈ X,q ≠ some x):aloneR other p X = aloneR other q X:=by
  cases X with
  | nil=>rfl
  | cons x X =>
    unfold aloneR tellB
    have h1:=hp x (.head _)
    have h2:=hq x (.head _)
    simp [h1,h2]
theorem lt_ne {x z:List Nat} (h:x < z):some x ≠ some z:=fun q=>by
  have:x = z:=Option.some.inj q
  exact List.lt_irrefl z (this ▸ h:z < z)
theorem aloneR_run {x:List Nat} {other X:List (List Nat)} (h:Rises (x :: X)) (hx:x ∈ other ∨ ∃ y ∈ other,x < y):aloneR other (some x) X = aloneR other none (X.dropWhile (· == x)):=by
  have hno:tellB (some x) other x = false:=by
    unfold tellB
    rcases hx with hx | ⟨y,hy,hxy⟩
    · simp [hx]
    · have:¬ ∀ y ∈ other,¬ x < y:=fun q=>q y hy hxy
      simp only [decide_eq_false this,Bool.or_false,decide_true,Bool.not_true,Bool.and_false]
  induction X with
  | nil=>rfl
  | cons z X ih =>
    obtain ⟨h1,h2⟩:=List.pairwise_cons.mp h
    by_cases hz:z = x
    · subst hz
      rw [List.dropWhile_cons,if_pos (by simp)]
      conv=>lhs;unfold aloneR
      rw [hno,if_neg (by simp)]
      exact ih (List.pairwise_cons.mpr ⟨fun w hw=>h1 w (.tail _ hw),(List.pairwise_cons.mp h2).2⟩)
    · rw [List.dropWhile_cons,if_neg (by simpa using hz)]
      refine aloneR_prev (fun w hw q=>?_) fun w hw q=>by cases q
      have hl:=dw_lt h w (by rw [List.dropWhile_cons,if_neg (by simpa using hz)];exact hw)
      exact lt_ne hl q
theorem sld_alone:∀ (n:Nat) (X Y:List (List Nat)),X.length + Y.length≤n→Rises X→Rises Y→sldF n X Y = (aloneR Y none X,aloneR X none Y):=by
  intro n
  induction n with
  | zero =>
    intro X Y h _ _
    have h1:X = []:=List.eq_nil_of_length_eq_zero (by lia)
    have h2:Y = []:=List.eq_nil_of_length_eq_zero (by lia)
    subst h1;subst h2;rfl
  | succ n ih =>
    intro X Y h hX hY
    cases X with
    | nil=>rw [sldF_nl,aloneR_nil];rfl
    | cons x X =>
      cases Y with
      | nil=>rw [sldF_nr,aloneR_nil];rfl
      | cons y Y =>
        obtain ⟨x1,x2⟩:=List.pairwise_cons.mp hX
        obtain ⟨y1,y2⟩:=List.pairwise_cons.mp hY
        have lX:=dropWhile_len (· == x) X
        have lY:=dropWhile_len (· == y) Y
        simp only [List.length_cons] at h
        rw [sldF_cc]
        by_cases h1:x < y
        · rw [if_pos h1,ih _ _ (by rw [List.length_cons];lia) (dw_rises x2) hY]
          have hall:∀ z ∈ y :: Y,x < z:=fun z hz=>by
            rcases List.mem_cons.mp hz with rfl | hz
            · exact h1
            · exact lt_le h1 ((y1 z hz))
          have hnot:x ∉ y :: Y:=fun q=>List.lt_irrefl x (hall x q)
          have e1:aloneR (y :: Y) none (x :: X) = x :: aloneR (y :: Y) none (X.dropWhile (· == x)):=by
            conv=>lhs;unfold aloneR
            rw [if_pos (by unfold tellB;simp [hnot]),aloneR_run hX (.inr ⟨y,.head _,h1⟩)]
          rw [e1,aloneR_off (y :: Y) none hall]
        · rw [if_neg h1]
          by_cases h2:y < x
          · rw [if_pos h2,ih _ _ (by rw [List.length_cons];lia) hX (dw_rises y2)]
            have hall:∀ z ∈ x :: X,y < z:=fun z hz=>by
              rcases List.mem_cons.mp hz with rfl | hz
              · exact h2
              · exact lt_le h2 ((x1 z hz))
            have hnot:y ∉ x :: X:=fun q=>List.lt_irrefl y (hall y q)
            have e1:aloneR (x :: X) none (y :: Y) = y :: aloneR (x :: X) none (Y.dropWhile (· == y)):=by
              conv=>lhs;unfold aloneR
              rw [if_pos (by unfold tellB;simp [hnot]),aloneR_run hY (.inr ⟨x,.head _,h2⟩)]
            rw [e1,aloneR_off (x :: X) none hall]
          · rw [if_neg h2]
            obtain rfl:x = y:=lt_tri h1 h2
            rw [ih _ _ (by lia) (dw_rises x2) (dw_rises y2)]
            have e1:∀ {A B:List (List Nat)},Rises (x :: A)→aloneR (x :: B) none (x :: A) = aloneR (B.dropWhile (· == x)) none (A.dropWhile (· == x)):=by
              intro A B hA
              conv=>lhs;unfold aloneR
              rw [if_neg (by unfold tellB;simp),aloneR_run hA (.inl (.head _)),aloneR_off _ none (dw_lt hA)]
            rw [e1 hX,e1 hY]
theorem pSld_alone (X Y:List (List Nat)) (hX:Rises X) (hY:Rises Y):pSld X Y = (pAlone X Y,pAlone Y X):=by
  unfold pSld
  rw [sld_alone _ X Y (Nat.le_refl _) hX hY,alone_eq,alone_eq]
end
noncomputable def GrP (toks:List (List Nat)) (v0 v1:D) (ds:List D) (Γ:Ctxt) (G:Gh):Prop :=
  ∃ (done rest:List (List Nat)) (a0:Addr) (inn:Gh) (t:Option B),toks = done ++ rest∧ds = rest.map D.str∧G = nestG a0 inn∧inn.map Prod.snd = (groups0 done).map (·.map D.str) ∧
    Γ = [some (.val v0),some (.val v1),some (.val (.raw (.ref a0))),t,none,some (.cell none),none,none,none,some (.cell none),none,none,none,none,none,none,none,none,none,none]
noncomputable def MainP (base:List (Option B)) (all:List Int) (hs:List Int→Nat→List (List Nat)) (ds:List D) (Γ:Ctxt) (G:Gh):Prop :=
  ∃ (done rest:List Int) (a a1 a2 b b1 b2:Addr) (t10 t11 t12 t13 t14 t15 t16 t17:Option B),all = done ++ rest∧ds = rest.map D.int ∧
    G = nestG b [(b1,(hs done 0).map .str),(b2,(hs done 1).map .str)] ++ (nestG a [(a1,(hs done 0).map .str),(a2,(hs done 1).map .str)] ++ []) ∧
    Γ = base ++ [some (.val (.raw (.ref a))),some (.cell (some (.raw (.ref b)))),t10,t11,t12,t13,t14,t15,t16,t17,none,none]
noncomputable def lawPre:List Stmt:=(bodyAt 33).take 12
noncomputable def lawEnd:List Stmt:=(bodyAt 33).drop 12
noncomputable abbrev endΓ (gs:List (List (List Nat))) (nums:List Int):Ctxt :=
  [none,none,none,none,none,none,none,none,some (.val (.list [strsD (held gs nums 0),strsD (held gs nums 1)])),some (.cell (some (.list [strsD (held gs nums 0),strsD (held gs nums 1)]))),none,none,none,none,none,none,none,none,some (.val (strsD (pAlone (sortL (held gs nums 0)) (sortL (held gs nums 1))))),some (.val (strsD (pAlone (sortL (held gs nums 1)) (sortL (held gs nums 0)))))]
omit hK [Free S] in
theorem joinS_mem:∀ (l:List (List Nat)) (c:Nat),c ∈ joinL [47] l→c = 47 ∨ ∃ p ∈ l,c ∈ p
  | [],c,h=>by simp [joinL] at h
  | [p],c,h=>.inr ⟨p,.head _,h⟩
  | p :: q :: r,c,h=>by
    have h':c ∈ p ++ ([47] ++ joinL [47] (q :: r)):=by simpa [joinL] using h
    rcases List.mem_append.mp h' with h' | h'
    · exact .inr ⟨p,.head _,h'⟩
    · rcases List.mem_append.mp h' with h' | h'
      · exact .inl (by simpa using h')
      · rcases joinS_mem (q :: r) c h' with h' | ⟨s,hs,hc⟩
        · exact .inl h'
        · exact .inr ⟨s,.tail _ hs,hc⟩
omit hK [Free S] in
theorem joinS_len:∀ (l:List (List Nat)),(∀ p ∈ l,p.length≤20)→(joinL [47] l).length≤21 * l.length
  | [],_=>by simp [joinL]
  | [p],h=>by have:=h p (.head _);simp [joinL];lia
  | p :: q :: r,h=>by
    have h1:=h p (.head _)
    have h2:=joinS_len (q :: r) fun x hx=>h x (.tail _ hx)
    have e:joinL [47] (p :: q :: r) = p ++ ([47] ++ joinL [47] (q :: r)):=by simp [joinL]
    rw [e,List.length_append,List.length_append,List.length_singleton]
    simp only [List.length_cons] at h2 ⊢
    lia
omit hK [Free S] in
theorem held_ok (gs:List (List (List Nat))) (nums:List Int) (i:Nat):(held gs nums i).length≤nums.length∧∀ x ∈ held gs nums i,okC x = true∧x.length≤500:=by
  induction nums with
  | nil=>exact ⟨Nat.le_refl _,nofun⟩
  | cons n nums ih =>
    refine e0_4 (names_fit n) (fun f1 f2 f3 f4=>?_)
    have e:held gs (n :: nums) i = (if selB n i && fitsB gs n then [joinL [47] (pNames (crooked n))] else []) ++ held gs nums i:=rfl
    rw [e]
    clear e f4
    generalize pNames (crooked n) = NM at f1 f2 f3 ⊢
    generalize (selB n i && fitsB gs n) = bb
    refine ⟨?_,fun x hx=>?_⟩
    · rw [List.length_append,List.length_cons]
      have:(if bb = true then [joinL [47] NM] else []).length≤1:=by split <;> simp
      lia
    · rcases List.mem_append.mp hx with hx | hx
      · split at hx
        · obtain rfl:=List.mem_singleton.mp hx
          refine ⟨?_,?_⟩
          · unfold okC
            refine List.all_eq_true.mpr fun c hc=>?_
            rw [decide_eq_true_iff]
            rcases joinS_mem _ c hc with rfl | ⟨p,hp,hc⟩
            · lia
            · have:=(f2 p hp).2 c hc
              simp only [List.mem_cons,List.not_mem_nil,or_false] at this
              lia
          · have:=joinS_len _ fun p hp=>(f2 p hp).1
            lia
        · cases hx
      · exact ih.2 x hx
omit hK [Free S] in
theorem held_snoc (gs:List (List (List Nat))) (done:List Int) (x:Int) (i:Nat):held gs (done ++ [x]) i = held gs done i ++ ext3 gs x i:=by
  unfold held ext3
  rw [List.flatMap_append];simp
set_option maxHeartbeats 8000000 in
theorem law_most {k:Nat} {ns:List Int} (hT:(61,57) ∈ S.tabs) (hqL:∀ p:Pos,p.line = 61→p.col = 39→S.qualAt p = fi_translate.qual ++ "<lambda>") (hqG:∀ p:Pos,p.line = 60→p.col = 37→S.qualAt p = fi_translate.qual ++ "<genexpr>") (hl:ns.length≤63) :
    ∃ (gs:List (List (List Nat))) (nums:List Int),nums.length≤63∧EXs S (k + 39) fi_law [some (.val (.list (ns.map .int))),none,none,none,none,some (.cell none),none,none,none,some (.cell none),none,none,none,none,none,none,none,none,none,none] lawPre (.next (endΓ gs nums)):=by
  have n0:=@n_law_0
  have n1:=@n_law_1
  have n2:=@n_law_2
  have n3:=@n_law_3
  have n4:=@n_law_4
  have n5:=@n_law_5
  have n6:=@n_law_6
  have n7:=@n_law_7
  have n8:=@n_law_8
  have n9:=@n_law_9
  have n10:=@n_law_10
  have n11:=@n_law_11
  have n12:=@n_law_12
  have n13:=@n_law_13
  have n14:=@n_law_14
  have n15:=@n_law_15
  have n16:=@n_law_16
  have n17:=@n_law_17
  have n18:=@n_law_18
  have n19:=@n_law_19
  have g_law_figures:=g_law_law_figures hK
  have k_law_figures:=hK.cal_law_figures
  have g_max:=g_law_max hK
  have g_law_climb:=g_law_law_climb hK
  have k_law_climb:=hK.cal_law_climb
  have g_normpath:=g_law_normpath hK
  have k_normpath:=hK.cal_normpath
  have g_law_names:=g_law_law_names hK
  have k_law_names:=hK.cal_law_names
  have g_len:=g_law_len hK
  have g_zip:=g_law_zip hK
  have g_range:=g_law_range hK
  have g_sorted_list_difference:=g_law_sorted_list_difference hK
  have k_sorted_list_difference:=hK.cal_sorted_list_difference
  have g_sorted:=g_law_sorted hK
  have c0:Cs "a" [97]:=rfl
  have c1:Cs "b" [98]:=rfl
  have c2:Cs "?" [63]:=rfl
  have c3:Cs "*" [42]:=rfl
  have c4:Cs "." [46]:=rfl
  have c5:Cs "/" [47]:=rfl
  have c6:Cs "[ab]" [91,97,98,93]:=rfl
  have c7:Cs "[!a]" [91,33,97,93]:=rfl
  have c8:Cs "[a-b]" [91,97,45,98,93]:=rfl
  have c9:Cs "[b-a]" [91,98,45,97,93]:=rfl
  have c10:Cs "[!b-a]" [91,33,98,45,97,93]:=rfl
  have c11:Cs "[^/]" [91,94,47,93]:=rfl
  have c12:Cs "" []:=rfl
  have c13:Cs "./" [46,47]:=rfl
  have c14:Cs "c" [99]:=rfl
  have c15:Cs "../" [46,46,47]:=rfl
  have c16:Cs "script" [115,99,114,105,112,116]:=rfl
  have c17:Cs "numbers" [110,117,109,98,101,114,115]:=rfl
  have c18:Cs "groups" [103,114,111,117,112,115]:=rfl
  have c19:Cs "token" [116,111,107,101,110]:=rfl
  have c20:Cs "tokens" [116,111,107,101,110,115]:=rfl
  have c21:Cs "k" [107]:=rfl
  have c22:Cs "single" [115,105,110,103,108,101]:=rfl
  have c23:Cs "star" [115,116,97,114]:=rfl
  have c24:Cs "piece" [112,105,101,99,101]:=rfl
  have c25:Cs "wanted" [119,97,110,116,101,100]:=rfl
  have c26:Cs "parts" [112,97,114,116,115]:=rfl
  have c27:Cs "part" [112,97,114,116]:=rfl
  have c28:Cs "marks" [109,97,114,107,115]:=rfl
  have c29:Cs "held" [104,101,108,100]:=rfl
  have c30:Cs "due" [100,117,101]:=rfl
  have c31:Cs "x" [120]:=rfl
  have c32:Cs "crooked" [99,114,111,111,107,101,100]:=rfl
  have c33:Cs "path" [112,97,116,104]:=rfl
  have c34:Cs "names" [110,97,109,101,115]:=rfl
  have c35:Cs "pieces" [112,105,101,99,101,115]:=rfl
  have c36:Cs "fits" [102,105,116,115]:=rfl
  have c37:Cs "name" [110,97,109,101]:=rfl
  have c38:Cs "means" [109,101,97,110,115]:=rfl
  have c39:Cs "side" [115,105,100,101]:=rfl
  have c40:Cs "went" [119,101,110,116]:=rfl
  have c41:Cs "came" [99,97,109,101]:=rfl
  have hsz:=sizeLine_eq
  obtain ⟨n0,nr,hnn⟩:∃ n0 nr,(if ns = [] then [4,5] else ns) = n0 :: nr:=by
    by_cases h:ns = []
    · exact ⟨4,[5],by rw [if_pos h]⟩
    · rw [if_neg h];cases ns with
      | nil=>exact absurd rfl h
      | cons a b=>exact ⟨a,b,rfl⟩
  have hnl:(n0 :: nr).length≤63:=by
    rw [← hnn];split
    · simp
    · exact hl
  refine ⟨pGroups (pFigs words n0),n0 :: nr,hnl,?_⟩
  conv=>arg 5;whnf
  have hneq:∀ k,Op2 S k (compareOp .NotEq) (.list (ns.map .int)) (.list []) (.bool (!decide (ns = []))):=fun k=>by
    have h:=Op2.neD (S:=S) (k:=k) (d₁:=.list (ns.map .int)) (d₂:=.list []) false (D.okMap fun _ _=>rfl) rfl
    simpa using h
  refine EXs.cons (Γ₁:=[some (.val (.list (ns.map .int))),some (.val (.list ((n0 :: nr).map .int))),none,none,none,some (.cell none),none,none,none,some (.cell none),none,none,none,none,none,none,none,none,none,none]) ?a1 ?r1
  case a1 =>
    rw [← hnn]
    by_cases h:ns = []
    · have b1:(!decide (ns = [])) = false:=by simp [h]
      rw [if_pos h]
      refine' EX.toR ?mm ?mq
      case mm=>exact EX.assign (EV.ifB (TV.cmp (EV.nm (by with_reducible assumption) rfl) (EV.list EVs.nil (by (simp only [List.length_cons,List.length_nil]);decide)) (by apply_assumption) rfl) (Or.inr ⟨b1,EV.list (EVs.cons EV.cInt (EVs.cons EV.cInt EVs.nil (fun _=>rfl)) (fun _=>rfl)) (by (simp only [List.length_cons,List.length_nil]);decide)⟩)) (AS.nm n1) (fun _=>rfl) (fun _=>rfl) (fun _ _=>rfl)
      case mq=>rfl
    · have b1:(!decide (ns = [])) = true:=by simp [h]
      rw [if_neg h]
      refine' EX.toR ?mm ?mq
      case mm=>exact EX.assign (EV.ifB (TV.cmp (EV.nm (by with_reducible assumption) rfl) (EV.list EVs.nil (by (simp only [List.length_cons,List.length_nil]);decide)) (by apply_assumption) rfl) (Or.inl ⟨b1,EV.nm (by with_reducible assumption) rfl⟩)) (AS.nm n1) (fun _=>rfl) (fun _=>rfl) (fun _ _=>rfl)
      case mq=>rfl
  refine EXs.ghostW ?_
  refine GXs.cons (P:=GrP (pFigs words n0) (.list (ns.map .int)) (.list ((n0 :: nr).map .int)) ((pFigs words n0).map D.str)) (GX.alloc1 n2 fun a b=>?al) ?_
  case al=>exact ⟨[],pFigs words n0,a,[(b,[])],none,rfl,rfl,by simp,rfl,rfl⟩
  intro Γ G hP
  refine GXs.cons (P:=GrP (pFigs words n0) (.list (ns.map .int)) (.list ((n0 :: nr).map .int)) []) ?fr ?_
  case fr =>
    (refine e5_5 (hP) (fun done rest a0 inn t e1 e2 q1q e4 q2q=>?_);subst q1q;subst q2q)
    have hfig:Ops S (k + 39) (fun vs=>call (.ref 177) vs) [.int n0,.list (words.map .str)] (.list ((pFigs words n0).map .str)):=law_figures_ok (k:=k + 38) hK (by decide) (by decide)
    have hi0:(((n0 :: nr).map D.int):List D)[idx (((n0 :: nr).map D.int):List D).length 0]? = some (.int n0):=rfl
    have z0:-((((n0 :: nr).map D.int):List D).length:Int)≤0:=by lia
    have hwl:(words.map D.str) = [.str [97],.str [98],.str [63],.str [42],.str [46],.str [47],.str [91,97,98,93],.str [91,33,97,93],.str [91,97,45,98,93],.str [91,98,45,97,93],.str [91,33,98,45,97,93]]:=rfl
    rw [hwl] at hfig
    refine GX.for (fun ds=>GrP (pFigs words n0) (.list (ns.map .int)) (.list ((n0 :: nr).map .int)) ds) (d:=.list ((pFigs words n0).map .str)) (ds:=(pFigs words n0).map D.str) ?ev It.list ⟨done,rest,a0,inn,t,e1,e2,rfl,e4,rfl⟩ ?hb
    case ev=>exact EV.call (fun _=>rfl) (Raw.ev g_law_figures) k_law_figures (EVs.cons (EV.item (T:="list") (EV.nm n1 rfl) EV.cInt rfl list_getitem_lookup (Op2.itemL hi0 z0) (fun _ _=>rfl)) (EVs.cons (EV.list (EVs.cons (EV.cS c0 (by decide)) (EVs.cons (EV.cS c1 (by decide)) (EVs.cons (EV.cS c2 (by decide)) (EVs.cons (EV.cS c3 (by decide)) (EVs.cons (EV.cS c4 (by decide)) (EVs.cons (EV.cS c5 (by decide)) (EVs.cons (EV.cS c6 (by decide)) (EVs.cons (EV.cS c7 (by decide)) (EVs.cons (EV.cS c8 (by decide)) (EVs.cons (EV.cS c9 (by decide)) (EVs.cons (EV.cS c10 (by decide)) EVs.nil (fun _=>rfl)) (fun _=>rfl)) (fun _=>rfl)) (fun _=>rfl)) (fun _=>rfl)) (fun _=>rfl)) (fun _=>rfl)) (fun _=>rfl)) (fun _=>rfl)) (fun _=>rfl)) (fun _=>rfl)) (by (simp only [List.length_cons,List.length_nil]);decide)) EVs.nil (fun _=>rfl)) (fun _=>rfl)) hfig
    case hb =>
      rintro d ds Γ G ⟨done,rest,a0,inn,t,e1,e2,rfl,e4,rfl⟩
      obtain ⟨w,rest',rfl,rfl,rfl⟩:∃ w rest',rest = w :: rest'∧d = D.str w∧ds = rest'.map D.str:=by
        cases rest with
        | nil=>cases e2
        | cons w r=>rw [List.map_cons] at e2;injection e2 with q1 q2;exact ⟨w,r,rfl,q1,q2⟩
      have hlen:=pFigs_len words n0
      have hdl:done.length≤6:=by rw [e1] at hlen;simp at hlen;lia
      have hil:inn.length≤7:=by
        have:=congrArg List.length e4
        simp at this
        have:=groups0_len done;lia
      have e1':pFigs words n0 = (done ++ [w]) ++ rest':=by rw [e1];simp
      refine ⟨_,AS.nm n3,?_⟩
      dsimp only [List.set_cons_zero,List.set_cons_succ]
      by_cases hw:w = [47]
      · have bw:(w == [47]) = true:=by simpa using hw
        refine GXs.cons (GX.ifB (b:=(w == [47])) (by exact TV.cmp (EV.nm n3 rfl) (EV.cS c5 (by decide)) Op2.eqS rfl) (Or.inl ⟨bw,?_⟩)) (fun _ _ h=>GXs.nil h)
        refine GXs.cons (GX.appendNew (xs:=inn.map fun p=>D.raw (.ref p.1)) (GE.name (x:="groups") (j:=2) (EV.nm n2 rfl)) (List.Mem.head _) (by simp;lia) (fun b hb hnd=>⟨nestG a0 (inn ++ [(b,[])]),nest_new hnd hb,?_⟩)) (fun _ _ h=>GXs.nil h)
        refine ⟨done ++ [w],rest',a0,inn ++ [(b,[])],_,e1',rfl,rfl,?_,rfl⟩
        rw [groups0_snoc,List.map_append,e4]
        unfold grStep
        rw [if_pos hw];simp
      · have bw:(w == [47]) = false:=by simpa using hw
        refine GXs.cons (GX.ifB (b:=(w == [47])) (by exact TV.cmp (EV.nm n3 rfl) (EV.cS c5 (by decide)) Op2.eqS rfl) (Or.inr ⟨bw,?_⟩)) (fun _ _ h=>GXs.nil h)
        rcases nil_or_snoc inn with rfl | ⟨ini,⟨b,xs⟩,rfl⟩
        · exfalso
          have:=congrArg List.length e4
          simp at this
          exact groups0_ne done (List.eq_nil_of_length_eq_zero this.symm)
        have hxs:ini.map Prod.snd = (groups0 done).dropLast.map (·.map D.str)∧xs = ((groups0 done).getLastD []).map D.str:=by
          rw [snoc_of (groups0_ne done) []] at e4
          rw [List.map_append,List.map_append] at e4
          refine e0_2 (List.append_inj' e4 rfl) (fun q1 q2=>?_)
          exact ⟨q1,by simpa using q2⟩
        have hxl:xs.length≤6:=by
          rw [hxs.2,List.length_map]
          have hq:∀ (l:List (List (List Nat))),l ≠ []→l.getLastD [] ∈ l:=by
            intro l h
            rcases nil_or_snoc l with rfl | ⟨a,b,rfl⟩
            · exact absurd rfl h
            · simp [List.getLastD_eq_getLast?]
          have:=groups0_size done _ (hq _ (groups0_ne done))
          lia
        have hlast:=last_item (ini.map fun p=>D.raw (.ref p.1)) (.raw (.ref b))
        have hmp:(ini ++ [(b,xs)]).map (fun p=>D.raw (.ref p.1)) = (ini.map fun p=>D.raw (.ref p.1)) ++ [.raw (.ref b)]:=by simp
        have zl:-(((ini.map fun p=>D.raw (.ref p.1)) ++ [D.raw (.ref b)]).length:Int)≤-1:=by simp;lia
        refine GXs.cons (GX.meth (a:=b) (xs:=xs) (xs':=xs ++ [.str w]) (ds:=[.str w]) PySem.F.slot_list_append PySem.F.type_list_append (GE.borrow (j:=2) (b:=a0) rfl (List.Mem.head _) ?ge) (by simp [nestG]) (EVs.cons (EV.nm n3 rfl) EVs.nil fun _=>rfl) (OwnOp.append (by lia)) ?hP) (fun _ _ h=>GXs.nil h)
        case ge =>
          rw [hmp]
          exact EV.item (T:="list") (EV.nm n2 rfl) (EV.un EV.cInt Op1.negI) rfl list_getitem_lookup (Op2.itemL hlast zl) (fun _ _=>rfl)
        case hP =>
          intro hnd
          rw [nest_last hnd]
          refine ⟨done ++ [w],rest',a0,ini ++ [(b,xs ++ [.str w])],_,e1',rfl,rfl,?_,rfl⟩
          rw [groups0_snoc,List.map_append,hxs.1]
          unfold grStep
          rw [if_neg hw,hxs.2];simp
  intro Γ G hP
  (refine e5_5 (hP) (fun done rest a0 inn tk e1 e2 q3q e4 q4q=>?_);subst q3q;subst q4q)
  obtain rfl:rest = []:=by cases rest with | nil=>rfl | cons a b=>cases e2
  rw [List.append_nil] at e1
  subst e1
  clear e2
  generalize htoks:pFigs words n0 = toks at e4 ⊢
  have htl:toks.length≤6:=by rw [← htoks];exact pFigs_len words n0
  rw [← List.append_nil (nestG a0 inn)]
  refine GXs.thaw 2 rfl (GXs.worldN (Γ₁:=endΓ (pGroups toks) (n0 :: nr)) ?_ ⟨Le.refl _,rfl⟩)
  dsimp only [List.set_cons_zero,List.set_cons_succ]
  have hinn:(inn.map fun p=>D.list p.2) = (groups0 toks).map strsD:=by
    have:(inn.map fun p=>D.list p.2) = (inn.map Prod.snd).map D.list:=by rw [List.map_map];rfl
    rw [this,e4,List.map_map];rfl
  rw [hinn]
  clear hinn e4
  have hgs:=groups0_size toks
  have hgl:=groups0_len toks
  have hw:∀ w ∈ toks,w ∈ words:=by rw [← htoks];exact pFigs_mem words n0 (by decide)
  have htok:∀ g ∈ groups0 toks,∀ w ∈ g,okC w = true:=fun g hg w h=>words_ok w (hw w (groups0_mem toks g hg w h).1)
  refine e1_2 (exists_max ((groups0 toks).map fun g=>(g.length:Int)) (by simpa using groups0_ne toks)) (fun M hM1 hM2=>?_)
  have hMs:decide (M > 0) = !decide (gSel toks = []):=by
    by_cases h:gSel toks = []
    · rw [h]
      (refine e1_2 (List.mem_map.mp hM1) (fun g hg q5q=>?_);subst q5q)
      have:=List.filter_eq_nil_iff.mp h g hg
      have:g = []:=by simpa using this
      subst this;simp
    · refine e1_1 (List.exists_mem_of_ne_nil _ h) (fun g hg=>?_)
      refine e0_2 (List.mem_filter.mp hg) (fun q1 q2=>?_)
      have h1:=hM2 _ (List.mem_map_of_mem q1)
      have h2:g.length ≠ 0:=by simpa using q2
      rw [decide_eq_true (by lia),decide_eq_false h];rfl
  have hmax:∀ k,Ops S k (fun vs=>call (.builtin "max") vs) [.list ((groups0 toks).map fun g=>D.int (g.length:Int))] (.int M):=fun k=>by
    have:=Ops.maxI (S:=S) (k:=k) hM1 hM2
    rw [List.map_map] at this;exact this
  refine EXs.cons (Γ₁:=[some (.val (.list (ns.map .int))),some (.val (.list ((n0 :: nr).map .int))),some (.val (.list ((pGroups toks).map strsD))),tk,none,some (.cell none),none,none,none,some (.cell none),none,none,none,none,none,none,none,none,none,none]) ?gr ?r2
  case gr =>
    refine EX.assign (d:=.list ((pGroups toks).map strsD)) ?me (AS.nm n2) ?m1 ?m2 ?m3
    case m1=>intro _;rfl
    case m2=>intro _;rfl
    case m3=>intro _ _;rfl
    case me =>
      refine EV.ifB (b:=!decide (gSel toks = [])) ?cnd ?br
      case cnd =>
        rw [← hMs]
        refine TV.cmp (EV.call (fun _=>rfl) (g_max _ _ _) Callee.builtin (EVs.cons ?cmp EVs.nil fun _=>rfl) (hmax _)) EV.cInt Op2.gtI rfl
        case cmp =>
          refine' EV.comp ["tokens"] [.local] ?T1 ?T2 ?T3 ?T4 ?T5 (Γc:=[none]) ?T6 (EV.nm n2 rfl) It.list ?T7 ?T8 ?T9
          case T1=>decide
          case T2=>rfl
          case T3=>rfl
          case T4=>decide
          case T5=>exact .other rfl rfl (.other rfl rfl (.other rfl rfl .nil))
          case T6=>exact .skip .nil
          case T7=>simp;lia
          case T9=>intro _ _;rfl
          case T8 =>
            intro fd e1 e2 e3
            have k0:Nm fd "tokens" 0 .local:=Nm.of e2 e3 rfl rfl
            have gl:=Raw.b (S:=S) e1 rfl hK.ns_len bt_len
            refine CL.mapAll (τ:=Option B) strsD (fun g=>D.int (g.length:Int)) (fun t=>[t]) (groups0 toks) none (fun g hg t=>⟨some (.val (strsD g)),AS.nm k0,?_⟩)
            have hop:∀ k,Ops S k (fun vs=>call (.builtin "len") vs) [strsD g] (.int (g.length:Int)):=fun k=>by
              have:=Ops.lenL (S:=S) (k:=k) (xs:=g.map D.str)
              simpa using this
            exact EV.call (fun _=>rfl) (gl _ _ _) Callee.builtin (EVs.cons (EV.nm k0 rfl) EVs.nil fun _=>rfl) (hop _)
      case br =>
        by_cases h:gSel toks = []
        · refine Or.inr ⟨by rw [decide_eq_true h];rfl,?_⟩
          have e:pGroups toks = [[[42]]]:=by unfold pGroups;rw [if_pos h]
          rw [e]
          show EV _ _ _ _ _ (D.list [D.list [D.str [42]]])
          exact EV.list (EVs.cons (EV.list (EVs.cons (EV.cS c3 (by decide)) EVs.nil (fun _=>rfl)) (by (simp only [List.length_cons,List.length_nil]);decide)) EVs.nil (fun _=>rfl)) (by (simp only [List.length_cons,List.length_nil]);decide)
        · refine Or.inl ⟨by rw [decide_eq_false h];rfl,?_⟩
          have e:pGroups toks = gSel toks:=by unfold pGroups;rw [if_neg h]
          rw [e]
          refine' EV.comp ["tokens"] [.local] ?T1 ?T2 ?T3 ?T4 ?T5 (Γc:=[none]) ?T6 (EV.nm n2 rfl) It.list ?T7 ?T8 ?T9
          case T1=>decide
          case T2=>rfl
          case T3=>rfl
          case T4=>decide
          case T5=>exact .other rfl rfl (.other rfl rfl .nil)
          case T6=>exact .skip .nil
          case T7=>simp;lia
          case T9=>intro _ _;rfl
          case T8 =>
            intro fd e1 e2 e3
            have k0:Nm fd "tokens" 0 .local:=Nm.of e2 e3 rfl rfl
            refine CL.filter (τ:=Option B) strsD strsD (fun g=>decide (g ≠ [])) (fun t=>[t]) (groups0 toks) none ?_
            intro g hg t
            refine ⟨some (.val (strsD g)),AS.nm k0,Ts.one ?_,fun _=>EV.nm k0 rfl⟩
            have hne:∀ k,Op2 S k (compareOp .NotEq) (strsD g) (.list []) (.bool (decide (g ≠ []))):=fun k=>by
              have h:=Op2.neLS (S:=S) (k:=k) (xs:=g) (ys:=[]) (htok g hg) nofun
              simpa using h
            exact TV.cmp (EV.nm k0 rfl) (EV.list EVs.nil) (hne _) rfl
  have hW:∀ g ∈ pGroups toks,WordsOk g:=by
    intro g hg
    unfold pGroups at hg
    split at hg
    · simp at hg;subst hg;exact ⟨by simp,by simp,by decide⟩
    · refine e0_2 (List.mem_filter.mp hg) (fun q1 q2=>?_)
      exact ⟨by simpa using q2,Nat.le_trans (hgs g q1) htl,fun w hw'=>⟨hw w (groups0_mem toks g q1 w hw').1,(groups0_mem toks g q1 w hw').2⟩⟩
  have hG:∀ g ∈ pGroups toks,g ≠ []∧g.length≤6∧∀ w ∈ g,okC w = true:=fun g hg=>⟨(hW g hg).1,(hW g hg).2.1,fun w h=>words_ok w ((hW g hg).2.2 w h).1⟩
  have hGl:(pGroups toks).length≤7:=by
    unfold pGroups
    split
    · simp
    · have:(gSel toks).length≤(groups0 toks).length:=List.length_filter_le _ _
      lia
  clear hM1 hM2 hMs hmax
  generalize hgg:pGroups toks = gs at hG hGl hW ⊢
  refine EXs.cons (Γ₁:=[some (.val (.list (ns.map .int))),some (.val (.list ((n0 :: nr).map .int))),some (.val (.list (gs.map strsD))),tk,some (.val (.list (gs.map fun g=>strsD (pSingle g)))),some (.cell none),none,none,none,some (.cell none),none,none,none,none,none,none,none,none,none,none]) ?si ?r3
  case si =>
    refine' EX.assignComp1 (outs:=gs.map fun g=>strsD (pSingle g)) [(".0",.local)] [("enumerate",.globalImplicit)] rfl ?Y1 ?Y2 ?Y3 ["tokens"] [.cell] ?Y4 ?Y5 ?Y6 ?Y7 (Γc:=[some (.cell none)]) ?Y8 ?Y9 (ItE.of (EV.nm n2 rfl) It.list) ?Z2 ?Z3 ?Z4 (AS.nm n4) ?Z5 ?Z6
    case Z5=>intro _;exact ⟨_,rfl⟩
    case Z6=>intro _;rfl
    case Y1=>exact .other rfl rfl .nil
    case Y2=>exact .other rfl rfl .nil
    case Y3=>decide
    case Y4=>decide
    case Y5=>rfl
    case Y6=>rfl
    case Y7=>decide
    case Y8=>exact .own .nil
    case Y9=>rfl
    case Z2=>simp;lia
    case Z4=>intro _ _;rfl
    case Z3 =>
      intro fc e1 e2 e3
      obtain ⟨sc,qq,cd,vs,ks,nd,ok⟩:=fc
      simp only at e1 e2 e3
      subst e1;subst e2;subst e3
      have m0:Nm ⟨_,qq,cd,_,_,nd,ok⟩ "tokens" 0 .cell:=Nm.of rfl rfl rfl rfl
      have ge:=Raw.b (S:=S) (fc:=⟨_,qq,cd,_,_,nd,ok⟩) (x:="enumerate") rfl rfl hK.ns_enumerate bt_enumerate
      refine CL.mapAll (τ:=Option D) strsD (fun g=>strsD (pSingle g)) (fun t=>[some (.cell t)]) gs none (fun g hg t=>⟨some (strsD g),AS.nmC m0 rfl,?_⟩)
      refine e0_3 (hG g hg) (fun g1 g2 g3=>?_)
      refine' EV.compE ["k","token","tokens"] [.local,.local,.cell] ?T1 ?T2 ?T3 ?T4 ?T5 (Γc:=[none,none,some (.val (strsD g))]) (ds:=g.zipIdx.map fun a=>D.tup [.int (a.2:Int),.str a.1]) ?T6 ?T0 ?T7 ?T8 ?T9
      case T0 =>
        rw [← enumD_map]
        exact ItE.enum (fun _=>rfl) (ge _ _ _) (EVs.cons (EV.nmC m0 rfl) EVs.nil fun _=>rfl)
      case T1=>decide
      case T2=>rfl
      case T3=>rfl
      case T4=>decide
      case T5=>exact .other rfl rfl (.other rfl rfl (.other rfl rfl (.free (.cell 0 rfl rfl) .nil)))
      case T6=>exact .skip (.skip (.cap rfl rfl (.cell 0 rfl rfl) .nil))
      case T7=>simp;lia
      case T9=>intro _ _;rfl
      case T8 =>
        intro fd e1 e2 e3
        have k0:Nm fd "k" 0 .local:=Nm.of e2 e3 rfl rfl
        have k1:Nm fd "token" 1 .local:=Nm.of e2 e3 rfl rfl
        have k2:Nm fd "tokens" 2 .cell:=Nm.of e2 e3 rfl rfl
        unfold pSingle
        show CL _ _ _ _ _ _ _ _ (List.map D.str (List.map Prod.fst (g.zipIdx.filter (singleP g))))
        rw [List.map_map]
        refine CL.filter (τ:=Option B × Option B) (fun a:List Nat × Nat=>D.tup [.int (a.2:Int),.str a.1]) (D.str ∘ Prod.fst) (singleP g) (fun t=>[t.1,t.2,some (.val (strsD g))]) g.zipIdx (none,none) ?_
        rintro ⟨w,i⟩ ha ⟨t1,t2⟩
        have hwi:g[i]? = some w:=by simpa using List.mem_zipIdx_iff_getElem?.mp ha
        refine ⟨(some (.val (.int (i:Int))),some (.val (.str w))),AS.tup (ASs.cons (AS.nm k0) (ASs.cons (AS.nm k1) ASs.nil fun _=>rfl) fun _=>rfl),Ts.one ?_,fun _=>EV.nm k1 rfl⟩
        have hne:∀ k,Op2 S k (compareOp .NotEq) (.list (pick (some ((i:Int) - 1)) (some (i:Int)) (g.map D.str))) (.list [.str [42]]) (.bool (!decide (pick (some ((i:Int) - 1)) (some (i:Int)) g = [[42]]))):=fun k=>by
          rw [pick_map];exact Op2.neLS (ys:=[[42]]) (fun y hy=>g3 y (pick_mem hy)) (by decide)
        have hws:∀ k,Op2 S k (compareOp .NotEq) (.str w) (.str [42]) (.bool (!decide (w = [42]))):=fun k=>by
          have h:=Op2.neS (S:=S) (k:=k) (a:=w) (b:=[42])
          have e:(w != [42]) = !decide (w = [42]):=by by_cases q:w = [42] <;> simp [q]
          rwa [e] at h
        show TV _ _ _ _ _ (singleP g (w,i))
        unfold singleP
        simp only
        generalize (!decide (w = [42])) = b1 at hws ⊢
        generalize (!decide (pick (some ((i:Int) - 1)) (some (i:Int)) g = [[42]])) = b2 at hne ⊢
        refine' TV.boolOp ?W1
        case W1 =>
          refine' ATV.orB (b:=b1) ?W2 ?W3
          case W2=>exact TV.cmp (EV.nm k1 rfl) (EV.cS (by assumption) (by decide)) (hws _) rfl
          case W3 =>
            cases b1
            · refine' Or.inr ⟨rfl,?W4⟩
              case W4 =>
                simp only [Bool.false_or]
                refine' ATV.orB (b:=b2) ?W5 ?W6
                case W5 =>
                  refine' TV.cmp ?W7 ?W8 (hne _) rfl
                  case W8=>exact EV.list (EVs.cons (EV.cS c3 (by decide)) EVs.nil (fun _=>rfl)) (by (simp only [List.length_cons,List.length_nil]);decide)
                  case W7=>exact EV.sliceL (EV.nm k2 rfl) (PV.some (EV.bin (EV.nm k0 rfl) EV.cInt Op2.subI)) (PV.some (EV.nm k0 rfl)) (fun _ _=>rfl)
                case W6 =>
                  cases b2
                  · exact Or.inr ⟨rfl,ATV.orNil⟩
                  · exact Or.inl ⟨rfl,rfl⟩
            · exact Or.inl ⟨rfl,rfl⟩
  obtain ⟨sv,hsv,hsol,hsok⟩:∃ sv:Value,sv = (if (n0.fmod 2 == 0) = true then Value.none else Value.bool true)∧solid sv = true∧∀ n,D.ok true n (.raw sv) = true:=by
    refine ⟨_,rfl,?_,fun n=>?_⟩ <;> split <;> first | rfl | (cases n <;> rfl)
  refine EXs.cons (Γ₁:=[some (.val (.list (ns.map .int))),some (.val (.list ((n0 :: nr).map .int))),some (.val (.list (gs.map strsD))),tk,some (.val (.list (gs.map fun g=>strsD (pSingle g)))),some (.cell (some (.raw sv))),none,none,none,some (.cell none),none,none,none,none,none,none,none,none,none,none]) ?st ?r4
  case st =>
    have hi0:(((n0 :: nr).map D.int):List D)[idx (((n0 :: nr).map D.int):List D).length 0]? = some (.int n0):=rfl
    have z0:-((((n0 :: nr).map D.int):List D).length:Int)≤0:=by lia
    have hmod:∀ k,Op2 S k (binaryOp .Mod) (.int n0) (.int 2) (.int (n0.fmod 2)):=fun k=>Op2.modI (by decide)
    rw [hsv]
    cases hb:(n0.fmod 2 == 0)
    · rw [if_neg (by simp)]
      refine' EX.toR ?mm ?mq
      case mm=>exact EX.assign (EV.ifB (TV.cmp (EV.bin (EV.item (T:="list") (EV.nm n1 rfl) EV.cInt rfl list_getitem_lookup (Op2.itemL hi0 z0) (fun _ _=>rfl)) EV.cInt (Op2.modI (by decide) (by decide))) EV.cInt Op2.eqI rfl) (Or.inr ⟨hb,EV.cBool⟩)) (AS.nmC n5 rfl) (fun _=>rfl) (fun _=>rfl) (fun _ _=>rfl)
      case mq=>rfl
    · rw [if_pos rfl]
      refine' EX.toR ?mm ?mq
      case mm=>exact EX.assign (EV.ifB (TV.cmp (EV.bin (EV.item (T:="list") (EV.nm n1 rfl) EV.cInt rfl list_getitem_lookup (Op2.itemL hi0 z0) (fun _ _=>rfl)) EV.cInt (Op2.modI (by decide) (by decide))) EV.cInt Op2.eqI rfl) (Or.inl ⟨hb,EV.cNone⟩)) (AS.nmC n5 rfl) (fun _=>rfl) (fun _=>rfl) (fun _ _=>rfl)
      case mq=>rfl
  clear hsv
  refine EXs.cons (Γ₁:=[some (.val (.list (ns.map .int))),some (.val (.list ((n0 :: nr).map .int))),some (.val (.list (gs.map strsD))),tk,some (.val (.list (gs.map fun g=>strsD (pSingle g)))),some (.cell (some (.raw sv))),some (.val (.list (gs.map fun g=>D.list ((pTr qm (gtxt g)).map (itD sv))))),none,none,some (.cell none),none,none,none,none,none,none,none,none,none,none]) ?wa ?r5
  case wa =>
    have hne:NoEmp (gs.map gtxt):=by
      intro p hp
      (refine e1_2 (List.mem_map.mp hp) (fun g hg q6q=>?_);subst q6q)
      refine e0_3 (gtxt_signs (hW g hg)) (fun q1 q2 q3=>?_)
      exact ⟨q1,fun c hc=>(q3 c hc).1⟩
    have hlens:∀ l:List (List (List Nat)),(∀ g ∈ l,(gtxt g).length≤40)→lens (l.map gtxt)≤41 * l.length:=by
      intro l
      induction l with
      | nil=>exact fun _=>by simp [lens]
      | cons a l ih =>
        intro h
        have:=ih fun g hg=>h g (.tail _ hg)
        have h1:=h a (.head _)
        simp only [lens,List.map_cons,List.sum_cons,List.length_cons] at this ⊢
        lia
    have hls:=hlens gs fun g hg=>(gtxt_signs (hW g hg)).2.1
    have hclimb:∀ {j:Nat},Ops S (j + 3) (fun vs=>call (.ref 184) vs) [.str (joinL [47] (gs.map gtxt))] (.list ((gs.map gtxt).map .str)):=climb_ok hK hne (by lia)
    have htr:∀ g ∈ gs,Ops S (k + 37 + 2) (fun vs=>call (.ref 62) vs) [.str (gtxt g),.raw sv,.str qm] (.list ((pTr qm (gtxt g)).map (itD sv))):=fun g hg=>by
      refine e0_3 (gtxt_signs (hW g hg)) (fun q1 q2 q3=>?_)
      exact translate_ok hK hT hqL hqG hsol (by lia) (gtxt_sets (hW g hg)) (fun c hc=>(q3 c hc).2.1) fun c hc=>(q3 c hc).2.2
    have hmm:(gs.map gtxt).map D.str = gs.map fun g=>D.str (gtxt g):=by rw [List.map_map];rfl
    rw [hmm] at hclimb
    have hj1:∀ g ∈ gs,∀ k,Ops S k (fun vs=>call (.builtin "str.join") vs) [.str [],strsD g] (.str (gtxt g)):=fun g hg k=>by
      refine Ops.joinS ?_
      have:(g.map fun p=>p.length + ([]:List Nat).length).sum = (joinL [] g).length:=by
        have key:∀ l:List (List Nat),(l.map fun p=>p.length + 0).sum = (joinL [] l).length:=by
          intro l
          induction l with
          | nil=>rfl
          | cons a l ih =>
            cases l with
            | nil=>simp [joinL]
            | cons b r=>simp only [List.map_cons,List.sum_cons] at ih ⊢;simp only [joinL,List.length_append] at ih ⊢;simp at ih ⊢;lia
        exact key g
      rw [this]
      have:=(gtxt_signs (hW g hg)).2.1
      unfold gtxt at this;lia
    have hj2:∀ k,Ops S k (fun vs=>call (.builtin "str.join") vs) [.str [47],.list (gs.map fun g=>D.str (gtxt g))] (.str (joinL [47] (gs.map gtxt))):=fun k=>by
      rw [← hmm]
      refine Ops.joinS ?_
      have:((gs.map gtxt).map fun p=>p.length + [47].length).sum = lens (gs.map gtxt):=rfl
      rw [this];lia
    refine' EX.assignCompE (outs:=gs.map fun g=>D.list ((pTr qm (gtxt g)).map (itD sv))) ["piece","star"] [.local,.cell] ?Y1 ?Y2 ?Y3 ?Y4 ?Y5 (Γc:=[none,some (.val (.raw sv))]) ?Y6 (ItE.of ?Y7 It.list) ?Z2 ?Z3 ?Z4 (AS.nm n6) ?Z5 ?Z6
    case Y1=>decide
    case Y2=>rfl
    case Y3=>rfl
    case Y4=>decide
    case Y5=>exact .other rfl rfl (.other rfl rfl (.other rfl rfl (.free (.cell 5 rfl rfl) .nil)))
    case Y6=>exact .skip (.cap rfl rfl (.cell 5 rfl rfl) .nil)
    case Z4=>intro _ _;rfl
    case Z5=>intro _;exact ⟨_,rfl⟩
    case Z6=>intro _;rfl
    case Y7 =>
      refine EV.call (fun _=>rfl) (g_law_climb _ _ _) k_law_climb (EVs.cons (EV.meth PySem.F.plainAttrs_str PySem.F.slot_str_join PySem.F.type_str_join (EV.cS (by assumption) (by decide)) rfl (EVs.cons ?cmp EVs.nil fun _=>rfl) (hj2 _)) EVs.nil fun _=>rfl) (hclimb (j:=k + 36))
      case cmp =>
        refine' EV.comp ["tokens"] [.local] ?T1 ?T2 ?T3 ?T4 ?T5 (Γc:=[none]) ?T6 (EV.nm n2 rfl) It.list ?T7 ?T8 ?T9
        case T1=>decide
        case T2=>rfl
        case T3=>rfl
        case T4=>decide
        case T5=>exact .other rfl rfl (.other rfl rfl .nil)
        case T6=>exact .skip .nil
        case T7=>simp;lia
        case T9=>intro _ _;rfl
        case T8 =>
          intro fd e1 e2 e3
          have k0:Nm fd "tokens" 0 .local:=Nm.of e2 e3 rfl rfl
          refine CL.mapAll (τ:=Option B) strsD (fun g=>D.str (gtxt g)) (fun t=>[t]) gs none (fun g hg t=>⟨some (.val (strsD g)),AS.nm k0,?_⟩)
          exact EV.meth PySem.F.plainAttrs_str PySem.F.slot_str_join PySem.F.type_str_join (EV.cS (by assumption) (by decide)) rfl (EVs.cons (EV.nm k0 rfl) EVs.nil fun _=>rfl) (hj1 g hg _)
    case Z2=>simp;lia
    case Z3 =>
      intro fd e1 e2 e3
      have k0:Nm fd "piece" 0 .local:=Nm.of e2 e3 rfl rfl
      have k1:Nm fd "star" 1 .cell:=Nm.of e2 e3 rfl rfl
      have gt:=Raw.g (S:=S) (x:="_translate") e1 rfl hK.ns_translate
      refine CL.mapAll (τ:=Option B) (fun g=>D.str (gtxt g)) (fun g=>D.list ((pTr qm (gtxt g)).map (itD sv))) (fun t=>[t,some (.val (.raw sv))]) gs none (fun g hg t=>⟨some (.val (.str (gtxt g))),AS.nm k0,?_⟩)
      exact EV.call (fun _=>rfl) (gt _ _ _) hK.cal_translate (EVs.cons (EV.nm k0 rfl) (EVs.cons (EV.nm k1 rfl) (EVs.cons (EV.cS (by assumption) (by decide)) EVs.nil fun _=>rfl) fun _=>rfl) fun _=>rfl) (htr g hg)
  have hpo:∀ g ∈ gs,∀ p ∈ pTr qm (gtxt g),D.ok true 7 (itD sv p) = true:=fun g hg p hp=>by
    cases p with
    | none=>exact hsok 7
    | some s=>exact (gtxt_parts (hW g hg) s hp).1
  refine EXs.cons (Γ₁:=[some (.val (.list (ns.map .int))),some (.val (.list ((n0 :: nr).map .int))),some (.val (.list (gs.map strsD))),tk,some (.val (.list (gs.map fun g=>strsD (pSingle g)))),some (.cell (some (.raw sv))),some (.val (.list (gs.map fun g=>D.list ((pTr qm (gtxt g)).map (itD sv))))),some (.val (.list (gs.map fun g=>D.list ((pTr qm (gtxt g)).map fun p=>markD (markP p))))),none,some (.cell none),none,none,none,none,none,none,none,none,none,none]) ?mk ?r6
  case mk =>
    refine' EX.assignCompE (outs:=gs.map fun g=>D.list ((pTr qm (gtxt g)).map fun p=>markD (markP p))) ["parts","star"] [.local,.cell] ?Y1 ?Y2 ?Y3 ?Y4 ?Y5 (Γc:=[none,some (.val (.raw sv))]) ?Y6 (ItE.of (EV.nm n6 rfl) It.list) ?Z2 ?Z3 ?Z4 (AS.nm n7) ?Z5 ?Z6
    case Y1=>decide
    case Y2=>rfl
    case Y3=>rfl
    case Y4=>decide
    case Y5=>exact .other rfl rfl (.other rfl rfl (.free (.cell 5 rfl rfl) .nil))
    case Y6=>exact .skip (.cap rfl rfl (.cell 5 rfl rfl) .nil)
    case Z2=>simp;lia
    case Z4=>intro _ _;rfl
    case Z5=>intro _;exact ⟨_,rfl⟩
    case Z6=>intro _;rfl
    case Z3 =>
      intro fc e1 e2 e3
      obtain ⟨sc,qq,cd,vs,ks,nd,ok⟩:=fc
      simp only at e1 e2 e3
      subst e1;subst e2;subst e3
      have k0:Nm ⟨_,qq,cd,_,_,nd,ok⟩ "parts" 0 .local:=Nm.of rfl rfl rfl rfl
      refine CL.mapAll (τ:=Option B) (fun g=>D.list ((pTr qm (gtxt g)).map (itD sv))) (fun g=>D.list ((pTr qm (gtxt g)).map fun p=>markD (markP p))) (fun t=>[t,some (.val (.raw sv))]) gs none (fun g hg t=>⟨some (.val (D.list ((pTr qm (gtxt g)).map (itD sv)))),AS.nm k0,?_⟩)
      refine' EV.comp ["part","star"] [.local,.cell] ?T1 ?T2 ?T3 ?T4 ?T5 (Γc:=[none,some (.val (.raw sv))]) ?T6 (EV.nm k0 rfl) It.list ?T7 ?T8 ?T9
      case T1=>decide
      case T2=>rfl
      case T3=>rfl
      case T4=>decide
      case T5=>exact .other rfl rfl (.other rfl rfl (.free (.val 1 .cell rfl rfl rfl (.inl rfl)) .nil))
      case T6=>exact .skip (.cap rfl rfl (.val 1 .cell rfl rfl rfl (.inl rfl)) .nil)
      case T7=>have:=pTr_len qm (gtxt g);have:=(gtxt_signs (hW g hg)).2.1;simp;lia
      case T9=>intro _ _;rfl
      case T8 =>
        intro fd e1 e2 e3
        have m0:Nm fd "part" 0 .local:=Nm.of e2 e3 rfl rfl
        have m1:Nm fd "star" 1 .cell:=Nm.of e2 e3 rfl rfl
        refine CL.mapAll (τ:=Option B) (itD sv) (fun p=>markD (markP p)) (fun t=>[t,some (.val (.raw sv))]) (pTr qm (gtxt g)) none (fun p hp t=>⟨some (.val (itD sv p)),AS.nm m0,?_⟩)
        have ho:D.ok true 8 (itD sv p) = true:=by
          have:=hpo g hg p hp
          cases p with
          | none=>exact hsok 8
          | some s=>exact this
        have hc1:∀ k,Op2 S k (compareOp .Eq) (itD sv p) (.raw sv) (.bool (markP p).1):=fun k=>by
          have h:=Op2.eqD (S:=S) (k:=k) true ho (hsok 8)
          cases p <;> simpa [itD,markP] using h
        have hc2:∀ k,Op2 S k (compareOp .Eq) (itD sv p) (.str qm) (.bool (markP p).2):=fun k=>by
          have h:=Op2.eqD (S:=S) (k:=k) (d₂:=.str qm) true ho (by decide)
          cases p <;> simpa [itD,markP] using h
        exact EV.tup (EVs.cons (EV.cmp (EV.nm m0 rfl) (EV.nm m1 rfl) (hc1 _) rfl) (EVs.cons (EV.cmp (EV.nm m0 rfl) (EV.cS (by assumption) (by decide)) (hc2 _) rfl) EVs.nil fun _=>rfl) fun _=>rfl) (Nat.le_of_ble_eq_true rfl)
  have hmeq:gs.map (fun g=>D.list ((pTr qm (gtxt g)).map fun p=>markD (markP p))) = gs.map (fun g=>D.list ((pSingle g).map fun w=>markD (markT w))):=by
    refine List.map_congr_left fun g hg=>?_
    have:=congrArg (List.map markD) (marks_eq (hW g hg))
    rw [List.map_map,List.map_map] at this
    exact congrArg D.list this
  have hmne:∀ k,Op2 S k (compareOp .NotEq) (.list (gs.map fun g=>D.list ((pTr qm (gtxt g)).map fun p=>markD (markP p)))) (.list (gs.map fun g=>D.list ((pSingle g).map fun w=>markD (markT w)))) (.bool false):=fun k=>by
    have ok1:∀ n (b:Bool × Bool),D.ok true (n + 1) (markD b) = true:=fun n b=>by cases n <;> rfl
    have h:=Op2.neD (S:=S) (k:=k) (d₁:=.list (gs.map fun g=>D.list ((pTr qm (gtxt g)).map fun p=>markD (markP p)))) (d₂:=.list (gs.map fun g=>D.list ((pSingle g).map fun w=>markD (markT w)))) true
      (D.okMap fun g _=>D.okMap fun p _=>ok1 5 _) (D.okMap fun g _=>D.okMap fun p _=>ok1 5 _)
    rw [hmeq] at h ⊢
    simpa using h
  refine EXs.cons (EX.ifF (TV.cmp (EV.nm n7 rfl) ?tv (hmne _) rfl) EXs.nil) ?_
  case tv =>
    refine' EV.comp ["tokens"] [.local] ?T1 ?T2 ?T3 ?T4 ?T5 (Γc:=[none]) ?T6 (EV.nm n4 rfl) It.list ?T7 ?T8 ?T9
    case T1=>decide
    case T2=>rfl
    case T3=>rfl
    case T4=>decide
    case T5=>exact .other rfl rfl (.other rfl rfl .nil)
    case T6=>exact .skip .nil
    case T7=>simp;lia
    case T9=>intro _ _;rfl
    case T8 =>
      intro fc e1 e2 e3
      obtain ⟨sc,qq,cd,vs,ks,nd,ok⟩:=fc
      simp only at e1 e2 e3
      subst e1;subst e2;subst e3
      have k0:Nm ⟨_,qq,cd,_,_,nd,ok⟩ "tokens" 0 .local:=Nm.of rfl rfl rfl rfl
      refine CL.mapAll (τ:=Option B) (fun g=>strsD (pSingle g)) (fun g=>D.list ((pSingle g).map fun w=>markD (markT w))) (fun t=>[t]) gs none (fun g hg t=>⟨some (.val (strsD (pSingle g))),AS.nm k0,?_⟩)
      refine' EV.comp ["token"] [.local] ?U1 ?U2 ?U3 ?U4 ?U5 (Γc:=[none]) ?U6 (EV.nm k0 rfl) It.list ?U7 ?U8 ?U9
      case U1=>decide
      case U2=>rfl
      case U3=>rfl
      case U4=>decide
      case U5=>exact .other rfl rfl (.other rfl rfl .nil)
      case U6=>exact .skip .nil
      case U7 =>
        have h1:(pSingle g).length≤g.length:=by
          unfold pSingle
          rw [List.length_map]
          exact Nat.le_trans (List.length_filter_le _ _) (by simp)
        have:=(hG g hg).2.1
        simp;lia
      case U9=>intro _ _;rfl
      case U8 =>
        intro fd e1 e2 e3
        have m0:Nm fd "token" 0 .local:=Nm.of e2 e3 rfl rfl
        refine CL.mapAll (τ:=Option B) D.str (fun w=>markD (markT w)) (fun t=>[t]) (pSingle g) none (fun w hw t=>⟨some (.val (.str w)),AS.nm m0,?_⟩)
        have hc:∀ (c:List Nat) k,Op2 S k (compareOp .Eq) (.str w) (.str c) (.bool (decide (w = c))):=fun c k=>by
          have h:=Op2.eqS (S:=S) (k:=k) (a:=w) (b:=c)
          have e:(w == c) = decide (w = c):=by by_cases q:w = c <;> simp [q]
          rwa [e] at h
        exact EV.tup (EVs.cons (EV.cmp (EV.nm m0 rfl) (EV.cS (by assumption) (by decide)) (hc [42] _) rfl) (EVs.cons (EV.cmp (EV.nm m0 rfl) (EV.cS (by assumption) (by decide)) (hc [63] _) rfl) EVs.nil fun _=>rfl) fun _=>rfl) (Nat.le_of_ble_eq_true rfl)
  have hxs:∀ x ∈ n0 :: nr,True:=fun _ _=>trivial
  let base:List (Option B):=[some (.val (.list (ns.map .int))),some (.val (.list ((n0 :: nr).map .int))),some (.val (.list (gs.map strsD))),tk,some (.val (.list (gs.map fun g=>strsD (pSingle g)))),some (.cell (some (.raw sv))),some (.val (.list (gs.map fun g=>D.list ((pTr qm (gtxt g)).map (itD sv))))),some (.val (.list (gs.map fun g=>D.list ((pTr qm (gtxt g)).map fun p=>markD (markP p)))))]
  refine EXs.ghostW ?_
  refine GXs.cons (P:=MainP base (n0 :: nr) (held gs) ((n0 :: nr).map D.int)) (GX.allocT (fun a b=>base ++ [some (.val (.raw (.ref a))),some (.cell (some (.raw (.ref b)))),none,none,none,none,none,none,none,none,none,none]) (fun a b=>?aA) (fun a a1 a2 b b1 b2=>?aP) ?aw ?as ?ah ?a4 ?a5 ?a6) ?_
  case aA=>exact AS.tup (ASs.cons (AS.nm n8) (ASs.cons (AS.nmC n9 rfl) ASs.nil fun _=>rfl) fun _=>rfl)
  case aP=>exact ⟨[],n0 :: nr,a,a1,a2,b,b1,b2,none,none,none,none,none,none,none,none,rfl,rfl,rfl,rfl⟩
  case aw=>intro _;rfl
  case as=>intro env he;exact swapped_cell ((kindOf_eq he _).trans (fi_law.kind n8.hx n8.hk)) ((kindOf_eq he _).trans (fi_law.kind n9.hx n9.hk))
  case ah=>intro _ _;rfl
  case a4=>intro _;rfl
  case a5=>intro _;rfl
  case a6=>intro _;rfl
  intro Γ G hP
  refine GXs.cons (P:=MainP base (n0 :: nr) (held gs) []) ?mf ?_
  case mf =>
    obtain ⟨done,rest,a,a1,a2,b,b1,b2,t10,t11,t12,t13,t14,t15,t16,t17,e1,e2,rfl,rfl⟩:=hP
    refine GX.for (fun ds=>MainP base (n0 :: nr) (held gs) ds) (d:=.list ((n0 :: nr).map .int)) (ds:=(n0 :: nr).map D.int) (EV.nm n1 rfl) It.list ⟨done,rest,a,a1,a2,b,b1,b2,t10,t11,t12,t13,t14,t15,t16,t17,e1,e2,rfl,rfl⟩ ?Hbody
    case Hbody =>
      rintro d ds Γ G ⟨done,rest,a,a1,a2,b,b1,b2,t10,t11,t12,t13,t14,t15,t16,t17,e1,e2,rfl,rfl⟩
      obtain ⟨x,rest',rfl,rfl,rfl⟩:∃ x rest',rest = x :: rest'∧d = D.int x∧ds = rest'.map D.int:=by
        cases rest with
        | nil=>cases e2
        | cons w r=>rw [List.map_cons] at e2;injection e2 with q1 q2;exact ⟨w,r,rfl,q1,q2⟩
      refine ⟨_,AS.nm n10,?_⟩
      have hdl:done.length≤63:=by
        have:=congrArg List.length e1
        rw [List.length_append,List.length_cons] at this
        rw [List.length_cons] at this hnl
        lia
      have q0:=(held_ok gs done 0).1
      have q1:=(held_ok gs done 1).1
      have hb:=body_ok hK (k:=k) (gs:=gs) (sv:=sv) (x:=x) (tk:=tk) (v0:=.list (ns.map .int)) (v1:=.list ((n0 :: nr).map .int)) (v2:=.list (gs.map strsD)) (v7:=.list (gs.map fun g=>D.list ((pTr qm (gtxt g)).map fun p=>markD (markP p)))) (t11:=t11) (t12:=t12) (t13:=t13) (t14:=t14) (t15:=t15) (t16:=t16) (t17:=t17) (a:=a) (a1:=a1) (a2:=a2) (b:=b) (b1:=b1) (b2:=b2) (H0:=held gs done 0) (H1:=held gs done 1) hsol hsok hW hGl (by lia) (by lia)
      unfold bodyΓ at hb
      rw [List.map_map] at hb
      refine GXs.mono hb ?_
      rintro Γ G ⟨u11,u12,u13,u14,u15,u16,u17,rfl,rfl⟩
      refine ⟨done ++ [x],rest',a,a1,a2,b,b1,b2,some (.val (.int x)),u11,u12,u13,u14,u15,u16,u17,by rw [e1];simp,rfl,?_,?_⟩
      · rw [held_snoc,held_snoc]
      · unfold bodyΓ;rw [List.map_map];rfl
  intro Γ G hP
  obtain ⟨done,rest,a,a1,a2,b,b1,b2,t10,t11,t12,t13,t14,t15,t16,t17,e1,e2,rfl,rfl⟩:=hP
  obtain rfl:rest = []:=by cases rest with | nil=>rfl | cons a b=>cases e2
  rw [List.append_nil] at e1
  subst e1
  refine e0_2 (held_ok gs (n0 :: nr) 0) (fun q0 p0=>?_)
  refine e0_2 (held_ok gs (n0 :: nr) 1) (fun q1 p1=>?_)
  have hEq:endΓ gs (n0 :: nr) = [none,none,none,none,none,none,none,none,some (.val (.list [strsD (held gs (n0 :: nr) 0),strsD (held gs (n0 :: nr) 1)])),some (.cell (some (.list [strsD (held gs (n0 :: nr) 0),strsD (held gs (n0 :: nr) 1)]))),none,none,none,none,none,none,none,none,some (.val (strsD (pAlone (sortL (held gs (n0 :: nr) 0)) (sortL (held gs (n0 :: nr) 1))))),some (.val (strsD (pAlone (sortL (held gs (n0 :: nr) 1)) (sortL (held gs (n0 :: nr) 0)))))]:=rfl
  rw [hEq]
  clear hEq
  generalize held gs (n0 :: nr) 0 = H0 at q0 p0 ⊢
  generalize held gs (n0 :: nr) 1 = H1 at q1 p1 ⊢
  refine GXs.thawC 9 rfl ?_
  refine GXs.thaw 8 rfl ?_
  simp only [List.map_cons,List.map_nil]
  have hso:∀ k,∀ H:List (List Nat),H.length≤(n0 :: nr).length→(∀ x ∈ H,okC x = true∧x.length≤500)→Ops S k (fun vs=>call (.builtin "sorted") vs) [strsD H] (strsD (sortL H)):=fun k H h1 h2=>Ops.sortedS (by lia) fun p hp=>by have:=(h2 p hp).2;lia
  have hal:∀ A B:List (List Nat),A.length≤(n0 :: nr).length→B.length≤(n0 :: nr).length→(∀ x ∈ A,okC x = true∧x.length≤500)→(∀ x ∈ B,okC x = true∧x.length≤500)→Ops S (k + 38 + 1) (fun vs=>call (.ref 215) vs) [strsD (sortL A),strsD (sortL B)] (strsD (pAlone (sortL A) (sortL B))):=fun A B a1 b1 a2 b2 =>
    law_alone_ok hK (fun x hx=>(a2 x ((sortL_perm A).mem_iff.mp hx)).1) (fun x hx=>(b2 x ((sortL_perm B).mem_iff.mp hx)).1) (by rw [(sortL_perm A).length_eq];lia) (by rw [(sortL_perm B).length_eq];lia)
  refine' GXs.seq ?wc (GXs.nil (And.intro ?le rfl))
  case wc =>
    refine' EX.assign (EV.compE ["side","due"] [.local,.cell] ?T1 ?T2 ?T3 ?T4 ?T5 (Γc:=[none,some (.val (.list [strsD H0,strsD H1]))]) ?T6 (ItE.of (EV.call (fun _=>rfl) (g_range _ _ _) Callee.type (EVs.cons EV.cInt EVs.nil fun _=>rfl) Ops.range1) (It.range0 (n:=2) rfl)) ?T7 (outs:=[strsD (pAlone (sortL H0) (sortL H1)),strsD (pAlone (sortL H1) (sortL H0))]) ?T8 ?T9) (AS.lst (ASs.cons (AS.nm n18) (ASs.cons (AS.nm n19) ASs.nil fun _=>rfl) fun _=>rfl)) ?m1 ?m2 ?m3
    case m1=>intro _;rfl
    case m2=>intro _;rfl
    case m3=>intro _ _;rfl
    case T1=>decide
    case T2=>rfl
    case T3=>rfl
    case T4=>decide
    case T5=>exact .other rfl rfl (.other rfl rfl (.other rfl rfl (.other rfl rfl (.free (.cell 9 rfl rfl) .nil))))
    case T6=>exact .skip (.cap rfl rfl (.cell 9 rfl rfl) .nil)
    case T7=>simp;lia
    case T9=>intro _ _;rfl
    case T8 =>
      intro fd e1 e2 e3
      have m0:Nm fd "side" 0 .local:=Nm.of e2 e3 rfl rfl
      have m1:Nm fd "due" 1 .cell:=Nm.of e2 e3 rfl rfl
      have ga:=Raw.g (S:=S) (x:="_law_alone") e1 rfl hK.ns_law_alone
      have gs:=Raw.b (S:=S) (x:="sorted") e1 rfl hK.ns_sorted bt_sorted
      have it:∀ (Γ:Ctxt) (x:Expr) (i:Int) (d:D) (p1 p2:Pos),Γ[1]? = some (some (.val (.list [strsD H0,strsD H1])))→EV S (k + 39) fd Γ x (.int i)→([strsD H0,strsD H1]:List D)[idx 2 i]? = some d→-2≤i→(∀ o i,subscripted x false o i = operate [o,i] (getItem o i))→EV S (k + 39) fd Γ (.Subscript (.Name "due" p1) x p2) d:=fun Γ x i d p1 p2 h1 h2 h3 h4 h5 =>
        EV.item (T:="list") (EV.nm m1 h1) h2 rfl list_getitem_lookup (Op2.itemL h3 (by simp only [List.length_cons,List.length_nil];lia)) h5
      refine .take (AS.nm m0) Ts.nil ?c0 (.take (AS.nm m0) Ts.nil ?c1 .nil)
      case c0 =>
        exact EV.call (fun _=>rfl) (ga _ _ _) hK.cal_law_alone (EVs.cons (EV.call (fun _=>rfl) (gs _ _ _) Callee.builtin (EVs.cons (it _ _ 0 (strsD H0) _ _ rfl (EV.nm m0 rfl) rfl (by lia) (fun _ _=>rfl)) EVs.nil fun _=>rfl) (hso _ H0 q0 p0)) (EVs.cons (EV.call (fun _=>rfl) (gs _ _ _) Callee.builtin (EVs.cons (it _ _ (1 - 0) (strsD H1) _ _ rfl (EV.bin EV.cInt (EV.nm m0 rfl) Op2.subI) rfl (by lia) (fun _ _=>rfl)) EVs.nil fun _=>rfl) (hso _ H1 q1 p1)) EVs.nil fun _=>rfl) fun _=>rfl) (hal H0 H1 q0 q1 p0 p1)
      case c1 =>
        exact EV.call (fun _=>rfl) (ga _ _ _) hK.cal_law_alone (EVs.cons (EV.call (fun _=>rfl) (gs _ _ _) Callee.builtin (EVs.cons (it _ _ 1 (strsD H1) _ _ rfl (EV.nm m0 rfl) rfl (by lia) (fun _ _=>rfl)) EVs.nil fun _=>rfl) (hso _ H1 q1 p1)) (EVs.cons (EV.call (fun _=>rfl) (gs _ _ _) Callee.builtin (EVs.cons (it _ _ (1 - 1) (strsD H0) _ _ rfl (EV.bin EV.cInt (EV.nm m0 rfl) Op2.subI) rfl (by lia) (fun _ _=>rfl)) EVs.nil fun _=>rfl) (hso _ H0 q0 p0)) EVs.nil fun _=>rfl) fun _=>rfl) (hal H1 H0 q1 q0 p1 p0)
  case le=>exact .none (.none (.none (.none (.none (.none (.none (.none (.same (.same (.none (.none (.none (.none (.none (.none (.none (.none (.same (.same .nil)))))))))))))))))))
omit hK [Free S] in
theorem law_split:bodyAt 33 = lawPre ++ lawEnd:=(List.take_append_drop 12 _).symm
set_option maxHeartbeats 4000000 in
theorem law_ok {k:Nat} {ns:List Int} (hT:(61,57) ∈ S.tabs) (hqL:∀ p:Pos,p.line = 61→p.col = 39→S.qualAt p = fi_translate.qual ++ "<lambda>") (hqG:∀ p:Pos,p.line = 60→p.col = 37→S.qualAt p = fi_translate.qual ++ "<genexpr>") (hl:ns.length≤63):Ops0 S (k + 40) (fun v=>call (.ref 220) [v]) (.list (ns.map .int)) (.bool true):=by
  have n0:=@n_law_0
  have n1:=@n_law_1
  have n2:=@n_law_2
  have n3:=@n_law_3
  have n4:=@n_law_4
  have n5:=@n_law_5
  have n6:=@n_law_6
  have n7:=@n_law_7
  have n8:=@n_law_8
  have n9:=@n_law_9
  have n10:=@n_law_10
  have n11:=@n_law_11
  have n12:=@n_law_12
  have n13:=@n_law_13
  have n14:=@n_law_14
  have n15:=@n_law_15
  have n16:=@n_law_16
  have n17:=@n_law_17
  have n18:=@n_law_18
  have n19:=@n_law_19
  have g_law_figures:=g_law_law_figures hK
  have k_law_figures:=hK.cal_law_figures
  have g_max:=g_law_max hK
  have g_law_climb:=g_law_law_climb hK
  have k_law_climb:=hK.cal_law_climb
  have g_normpath:=g_law_normpath hK
  have k_normpath:=hK.cal_normpath
  have g_law_names:=g_law_law_names hK
  have k_law_names:=hK.cal_law_names
  have g_len:=g_law_len hK
  have g_zip:=g_law_zip hK
  have g_range:=g_law_range hK
  have g_sorted_list_difference:=g_law_sorted_list_difference hK
  have k_sorted_list_difference:=hK.cal_sorted_list_difference
  have g_sorted:=g_law_sorted hK
  have c0:Cs "a" [97]:=rfl
  have c1:Cs "b" [98]:=rfl
  have c2:Cs "?" [63]:=rfl
  have c3:Cs "*" [42]:=rfl
  have c4:Cs "." [46]:=rfl
  have c5:Cs "/" [47]:=rfl
  have c6:Cs "[ab]" [91,97,98,93]:=rfl
  have c7:Cs "[!a]" [91,33,97,93]:=rfl
  have c8:Cs "[a-b]" [91,97,45,98,93]:=rfl
  have c9:Cs "[b-a]" [91,98,45,97,93]:=rfl
  have c10:Cs "[!b-a]" [91,33,98,45,97,93]:=rfl
  have c11:Cs "[^/]" [91,94,47,93]:=rfl
  have c12:Cs "" []:=rfl
  have c13:Cs "./" [46,47]:=rfl
  have c14:Cs "c" [99]:=rfl
  have c15:Cs "../" [46,46,47]:=rfl
  have c16:Cs "script" [115,99,114,105,112,116]:=rfl
  have c17:Cs "numbers" [110,117,109,98,101,114,115]:=rfl
  have c18:Cs "groups" [103,114,111,117,112,115]:=rfl
  have c19:Cs "token" [116,111,107,101,110]:=rfl
  have c20:Cs "tokens" [116,111,107,101,110,115]:=rfl
  have c21:Cs "k" [107]:=rfl
  have c22:Cs "single" [115,105,110,103,108,101]:=rfl
  have c23:Cs "star" [115,116,97,114]:=rfl
  have c24:Cs "piece" [112,105,101,99,101]:=rfl
  have c25:Cs "wanted" [119,97,110,116,101,100]:=rfl
  have c26:Cs "parts" [112,97,114,116,115]:=rfl
  have c27:Cs "part" [112,97,114,116]:=rfl
  have c28:Cs "marks" [109,97,114,107,115]:=rfl
  have c29:Cs "held" [104,101,108,100]:=rfl
  have c30:Cs "due" [100,117,101]:=rfl
  have c31:Cs "x" [120]:=rfl
  have c32:Cs "crooked" [99,114,111,111,107,101,100]:=rfl
  have c33:Cs "path" [112,97,116,104]:=rfl
  have c34:Cs "names" [110,97,109,101,115]:=rfl
  have c35:Cs "pieces" [112,105,101,99,101,115]:=rfl
  have c36:Cs "fits" [102,105,116,115]:=rfl
  have c37:Cs "name" [110,97,109,101]:=rfl
  have c38:Cs "means" [109,101,97,110,115]:=rfl
  have c39:Cs "side" [115,105,100,101]:=rfl
  have c40:Cs "went" [119,101,110,116]:=rfl
  have c41:Cs "came" [99,97,109,101]:=rfl
  refine e2_2 (law_most hK (k:=k) hT hqL hqG hl) (fun gs nums hn h=>?_)
  refine Fn.intro0 (f:=fi_law) hK.fn_law rfl ?_
  rw [law_split]
  refine EXsF.app (Γ₁:=endΓ gs nums) h ?_
  conv=>arg 5;whnf
  refine e0_2 (held_ok gs nums 0) (fun q0 p0=>?_)
  refine e0_2 (held_ok gs nums 1) (fun q1 p1=>?_)
  have hEq:endΓ gs nums = [none,none,none,none,none,none,none,none,some (.val (.list [strsD (held gs nums 0),strsD (held gs nums 1)])),some (.cell (some (.list [strsD (held gs nums 0),strsD (held gs nums 1)]))),none,none,none,none,none,none,none,none,some (.val (strsD (pAlone (sortL (held gs nums 0)) (sortL (held gs nums 1))))),some (.val (strsD (pAlone (sortL (held gs nums 1)) (sortL (held gs nums 0)))))]:=rfl
  rw [hEq]
  clear hEq h
  generalize held gs nums 0 = H0 at q0 p0 ⊢
  generalize held gs nums 1 = H1 at q1 p1 ⊢
  have hsz:=sizeLine_eq
  have hso:∀ k,∀ H:List (List Nat),H.length≤nums.length→(∀ x ∈ H,okC x = true∧x.length≤500)→Ops S k (fun vs=>call (.builtin "sorted") vs) [strsD H] (strsD (sortL H)):=fun k H h1 h2=>Ops.sortedS (by omega) fun p hp=>by have:=(h2 p hp).2;omega
  have ok1:∀ (n:Nat) (l:List (List Nat)),(∀ x ∈ l,okC x = true)→D.ok true (n + 2) (strsD l) = true:=fun n l h=>D.okMap fun x hx=>h x hx
  have o0:=fun x hx=>(p0 x hx).1
  have o1:=fun x hx=>(p1 x hx).1
  have okd:D.ok true 8 (.list [strsD H0,strsD H1]) = true:=by
    exact D.ok2 (ok1 5 _ o0) (ok1 5 _ o1)
  have heq:∀ k,Op2 S k (compareOp .Eq) (.list [strsD H0,strsD H1]) (.list [strsD H0,strsD H1]) (.bool true):=fun k=>by
    have h:=Op2.eqD (S:=S) (k:=k) true okd okd
    have e:∀ {p:Prop} (i:Decidable p),p→@decide p i = true:=fun i h=>@decide_eq_true _ i h
    rwa [e _ rfl] at h
  have s0:∀ x ∈ sortL H0,okC x = true:=fun x hx=>o0 x ((sortL_perm H0).mem_iff.mp hx)
  have s1:∀ x ∈ sortL H1,okC x = true:=fun x hx=>o1 x ((sortL_perm H1).mem_iff.mp hx)
  have am:∀ (A B:List (List Nat)) (x:List Nat),x ∈ pAlone A B→x ∈ A:=fun A B x hx=>by
    unfold pAlone at hx
    (refine e1_2 (List.mem_map.mp hx) (fun q2q hy q3q=>?_);obtain ⟨y,i⟩:=q2q;subst q3q)
    have:=List.mem_zipIdx_iff_getElem?.mp (List.mem_filter.mp hy).1
    exact List.mem_of_getElem? (by simpa using this)
  have okt:D.ok true 8 (.tup [strsD (pAlone (sortL H0) (sortL H1)),strsD (pAlone (sortL H1) (sortL H0))]) = true:=by
    exact D.okT2 (ok1 5 _ fun x hx=>s0 x (am _ _ x hx)) (ok1 5 _ fun x hx=>s1 x (am _ _ x hx))
  have heq2:∀ k,Op2 S k (compareOp .Eq) (.tup [strsD (pSld (sortL H0) (sortL H1)).1,strsD (pSld (sortL H0) (sortL H1)).2]) (.tup [strsD (pAlone (sortL H0) (sortL H1)),strsD (pAlone (sortL H1) (sortL H0))]) (.bool true):=fun k=>by
    rw [pSld_alone _ _ (sortL_sorted H0) (sortL_sorted H1)]
    have h:=Op2.eqD (S:=S) (k:=k) true okt okt
    have e:∀ {p:Prop} (i:Decidable p),p→@decide p i = true:=fun i h=>@decide_eq_true _ i h
    rwa [e _ rfl] at h
  have it:∀ (i:Int) (d:D) (kk:Nat) (p1 p2 p3:Pos) (Γ:Ctxt),Γ[8]? = some (some (.val (.list [strsD H0,strsD H1])))→([strsD H0,strsD H1]:List D)[idx 2 i]? = some d→-2≤i→EV S (k + 39) fi_law Γ (.Subscript (.Name "held" p1) (.Constant (.int i) kk p2) p3) d:=fun i d kk p1 p2 p3 Γ h1 h3 h4 =>
    EV.item (T:="list") (EV.nm n8 h1) EV.cInt rfl list_getitem_lookup (Op2.itemL h3 (by simp only [List.length_cons,List.length_nil];omega)) (fun _ _=>rfl)
  refine EXsF.retAnd (EV.cmp (EV.nm n8 rfl) (EV.nmC n9 rfl) (heq _) rfl) (EVF.cmp (EVF.call (fun _=>rfl) (g_sorted_list_difference _ _ _) k_sorted_list_difference (EVs.cons (EV.call (fun _=>rfl) (g_sorted _ _ _) Callee.builtin (EVs.cons (it 0 (strsD H0) _ _ _ _ _ rfl rfl (by omega)) EVs.nil fun _=>rfl) (hso _ H0 q0 p0)) (EVs.cons (EV.call (fun _=>rfl) (g_sorted _ _ _) Callee.builtin (EVs.cons (it 1 (strsD H1) _ _ _ _ _ rfl rfl (by omega)) EVs.nil fun _=>rfl) (hso _ H1 q1 p1)) EVs.nil fun _=>rfl) fun _=>rfl) ?sld) ?tup (heq2 _) rfl)
  case sld=>exact sld_ok (k:=k + 38) hK (by rw [(sortL_perm H0).length_eq];omega) (by rw [(sortL_perm H1).length_eq];omega)
  case tup=>exact EV.tup (EVs.cons (EV.nm n18 rfl) (EVs.cons (EV.nm n19 rfl) EVs.nil fun _=>rfl) fun _=>rfl) (Nat.le_of_ble_eq_true rfl)
end
open PySem PySem.W PyProof.Rows
section
theorem final.tw10022720517303903229:True:=trivial
theorem final.tw10042477878066290759:True:=trivial
theorem final.tw10127347573287987278:True:=trivial
theorem final.tw10130028901845136418:True:=trivial
theorem final.tw10136838083808060652:True:=trivial
theorem final.tw10161721240196843986:True:=trivial
theorem final.tw10198918189601624818:True:=trivial
theorem final.tw10215562686513343379:True:=trivial
theorem final.tw1033934193855143035:True:=trivial
theorem final.tw1036930978727434209:True:=trivial
theorem final.tw10400498931376978561:True:=trivial
theorem final.tw10519780935772106490:True:=trivial
theorem final.tw10620928361779868618:True:=trivial
theorem final.tw10663953652200916614:True:=trivial
theorem final.tw1068451924353085083:True:=trivial
theorem final.tw10753759007207720170:True:=trivial
theorem final.tw10835571653514984676:True:=trivial
theorem final.tw10855050123940413320:True:=trivial
theorem final.tw10865263461131140414:True:=trivial
theorem final.tw11057646398824700998:True:=trivial
theorem final.tw11134921181324909023:True:=trivial
theorem final.tw11153157573971964366:True:=trivial
theorem final.tw11409176808490423547:True:=trivial
theorem final.tw11416460173980892448:True:=trivial
theorem final.tw11449768931154743443:True:=trivial
theorem final.tw11455286470832896224:True:=trivial
theorem final.tw11483661804922472206:True:=trivial
theorem final.tw11520401330096609620:True:=trivial
theorem final.tw11527953458832139828:True:=trivial
theorem final.tw11621525241791773345:True:=trivial
theorem final.tw11659793539358505850:True:=trivial
theorem final.tw11661903567044720909:True:=trivial
theorem final.tw11773714837947557637:True:=trivial
theorem final.tw11794143875171351199:True:=trivial
theorem final.tw11890712743417470050:True:=trivial
theorem final.tw11908802298470853932:True:=trivial
theorem final.tw11925769687901133866:True:=trivial
theorem final.tw12065736614108987081:True:=trivial
theorem final.tw1214877445308022672:True:=trivial
theorem final.tw12174733379589101671:True:=trivial
theorem final.tw12181345595061343083:True:=trivial
theorem final.tw1219376236543507551:True:=trivial
theorem final.tw12268144012071753613:True:=trivial
theorem final.tw12358737551627760310:True:=trivial
theorem final.tw12383807108017776369:True:=trivial
theorem final.tw12388972978486176875:True:=trivial
theorem final.tw12389126837187576176:True:=trivial
theorem final.tw12411140988998077859:True:=trivial
theorem final.tw12442840532546170135:True:=trivial
theorem final.tw12493307443612459367:True:=trivial
theorem final.tw12504466222242759415:True:=trivial
theorem final.tw12582848187128144534:True:=trivial
theorem final.tw12677480509375278066:True:=trivial
theorem final.tw12740954528895896557:True:=trivial
theorem final.tw12745456073798777040:True:=trivial
theorem final.tw12787673743913026722:True:=trivial
theorem final.tw12813686065312059881:True:=trivial
theorem final.tw12852182725542459066:True:=trivial
theorem final.tw12900595733005133062:True:=trivial
theorem final.tw12904224180886492615:True:=trivial
theorem final.tw12933409026105978606:True:=trivial
theorem final.tw13028011595235079249:True:=trivial
theorem final.tw13065280830581172821:True:=trivial
theorem final.tw13070091137009082169:True:=trivial
theorem final.tw13084178088124665500:True:=trivial
theorem final.tw13100173424529472689:True:=trivial
theorem final.tw13272435591910737277:True:=trivial
theorem final.tw13287410126220534654:True:=trivial
theorem final.tw13421372506842242409:True:=trivial
theorem final.tw13436894549356674435:True:=trivial
theorem final.tw13509502713141882855:True:=trivial
theorem final.tw13653732453751996453:True:=trivial
theorem final.tw13665693801982328571:True:=trivial
theorem final.tw13677162470074421662:True:=trivial
theorem final.tw13707858908888328168:True:=trivial
theorem final.tw13808806784388952406:True:=trivial
theorem final.tw13902647279651871334:True:=trivial
theorem final.tw13983057965684439315:True:=trivial
theorem final.tw14004295643034277925:True:=trivial
theorem final.tw14005376287791743597:True:=trivial
theorem final.tw14112978927293448718:True:=trivial
theorem final.tw14187467039090886567:True:=trivial
theorem final.tw14219477473750013154:True:=trivial
theorem final.tw14257410440611181681:True:=trivial
theorem final.tw14424997594739748307:True:=trivial
theorem final.tw14476525473978586552:True:=trivial
theorem final.tw14484850809116873578:True:=trivial
theorem final.tw1457224253908937477:True:=trivial
theorem final.tw14592424073331965608:True:=trivial
theorem final.tw14688711452592111847:True:=trivial
theorem final.tw1477146434381541279:True:=trivial
theorem final.tw14780266126383647144:True:=trivial
theorem final.tw14783993916324718730:True:=trivial
theorem final.tw14838063319114388084:True:=trivial
theorem final.tw14846775239822927482:True:=trivial
theorem final.tw14858916504029558536:True:=trivial
theorem final.tw14885865362977504382:True:=trivial
theorem final.tw14891174452418874599:True:=trivial
theorem final.tw14896924122953452532:True:=trivial
theorem final.tw14923001549059771250:True:=trivial
theorem final.tw15043723511891397480:True:=trivial
theorem final.tw15055759508504394698:True:=trivial
theorem final.tw15076974432374580262:True:=trivial
theorem final.tw15080971510701918577:True:=trivial
theorem final.tw15082610434975258740:True:=trivial
theorem final.tw15089370272119196607:True:=trivial
theorem final.tw15197400897401603280:True:=trivial
theorem final.tw15205743503277619710:True:=trivial
theorem final.tw15209343339840471333:True:=trivial
theorem final.tw15290053423377091935:True:=trivial
theorem final.tw154085630076864448:True:=trivial
theorem final.tw1543641582297286357:True:=trivial
theorem final.tw15438442293791725603:True:=trivial
theorem final.tw15461508515462595316:True:=trivial
theorem final.tw15491824490430082641:True:=trivial
theorem final.tw15598267126266478070:True:=trivial
theorem final.tw15613107854449630783:True:=trivial
theorem final.tw15662639868690288205:True:=trivial
theorem final.tw15685469453080013526:True:=trivial
theorem final.tw15819236128794879702:True:=trivial
theorem final.tw15874777749913318607:True:=trivial
theorem final.tw15875135524755104827:True:=trivial
theorem final.tw15891373984983396202:True:=trivial
theorem final.tw15902486705466839704:True:=trivial
theorem final.tw15981178532920550917:True:=trivial
theorem final.tw15998246895451491800:True:=trivial
theorem final.tw15998802877172754485:True:=trivial
theorem final.tw16036176020941953499:True:=trivial
theorem final.tw16195603264935533082:True:=trivial
theorem final.tw16208415720716193051:True:=trivial
theorem final.tw16224197975931463073:True:=trivial
theorem final.tw16315930030254332300:True:=trivial
theorem final.tw16316614505140666980:True:=trivial
theorem final.tw16345452470020161006:True:=trivial
theorem final.tw16445440151621273314:True:=trivial
theorem final.tw16540968434458866720:True:=trivial
theorem final.tw16600768930087418477:True:=trivial
theorem final.tw16674493107115136728:True:=trivial
theorem final.tw16682726815438651451:True:=trivial
theorem final.tw16711262688699148389:True:=trivial
theorem final.tw16935392369248617753:True:=trivial
theorem final.tw17016280140038784127:True:=trivial
theorem final.tw17245632480611900101:True:=trivial
theorem final.tw17299782089999335445:True:=trivial
theorem final.tw17383074198191274772:True:=trivial
theorem final.tw17385785918144372039:True:=trivial
theorem final.tw17402489212504556138:True:=trivial
theorem final.tw17447932666967288649:True:=trivial
theorem final.tw17504587829303871878:True:=trivial
theorem final.tw17596451667945014747:True:=trivial
theorem final.tw17603491640193073671:True:=trivial
theorem final.tw17778278403737863388:True:=trivial
theorem final.tw17803981208475232141:True:=trivial
theorem final.tw17873030957218211813:True:=trivial
theorem final.tw17906251651433466956:True:=trivial
theorem final.tw17920700181158250886:True:=trivial
theorem final.tw18026312885207256928:True:=trivial
theorem final.tw1807292130814547012:True:=trivial
theorem final.tw18100262974385399674:True:=trivial
theorem final.tw18109169822893168284:True:=trivial
theorem final.tw18132660915919845555:True:=trivial
theorem final.tw18209651382716861065:True:=trivial
theorem final.tw18263178374938755917:True:=trivial
theorem final.tw18309510468732470755:True:=trivial
theorem final.tw18333122673250038332:True:=trivial
theorem final.tw18385467660760850983:True:=trivial
theorem final.tw18443530126623473481:True:=trivial
theorem final.tw1870604113638288131:True:=trivial
theorem final.tw201284711899435429:True:=trivial
theorem final.tw2103814992996371455:True:=trivial
theorem final.tw2167434960708656226:True:=trivial
theorem final.tw2171061741386772384:True:=trivial
theorem final.tw2191496003128243387:True:=trivial
theorem final.tw2321079126958112427:True:=trivial
theorem final.tw2321552076407377074:True:=trivial
theorem final.tw2351780836226153910:True:=trivial
theorem final.tw2452859651255092558:True:=trivial
theorem final.tw251023153741291750:True:=trivial
theorem final.tw2540090075640739688:True:=trivial
theorem final.tw2554477461950841771:True:=trivial
theorem final.tw2672478281966032744:True:=trivial
theorem final.tw272712490305910894:True:=trivial
theorem final.tw2927459612573970097:True:=trivial
theorem final.tw2937060371358933820:True:=trivial
theorem final.tw293838362897950174:True:=trivial
theorem final.tw3153843199815580015:True:=trivial
theorem final.tw3188615230935661680:True:=trivial
theorem final.tw3215508444045181267:True:=trivial
theorem final.tw326406509992156494:True:=trivial
theorem final.tw3299347260448351985:True:=trivial
theorem final.tw3307739722061211303:True:=trivial
theorem final.tw3384860348465029522:True:=trivial
theorem final.tw3386430849454286035:True:=trivial
theorem final.tw3396835954446963980:True:=trivial
theorem final.tw3426866111578574435:True:=trivial
theorem final.tw3477953164056872788:True:=trivial
theorem final.tw3549510782490179937:True:=trivial
theorem final.tw3619555724634058376:True:=trivial
theorem final.tw3651465948642542242:True:=trivial
theorem final.tw3674315478545736259:True:=trivial
theorem final.tw3676795932780261704:True:=trivial
theorem final.tw3747968469854975610:True:=trivial
theorem final.tw3748996044890628935:True:=trivial
theorem final.tw3817137433093770593:True:=trivial
theorem final.tw3931139125004063732:True:=trivial
theorem final.tw3935632444153818486:True:=trivial
theorem final.tw3936246226047674485:True:=trivial
theorem final.tw4099958043619684154:True:=trivial
theorem final.tw4142987303094263458:True:=trivial
theorem final.tw4157730502728765340:True:=trivial
theorem final.tw4231731959701284245:True:=trivial
theorem final.tw4233563099671912912:True:=trivial
theorem final.tw4312115456105261190:True:=trivial
theorem final.tw4477894701127151756:True:=trivial
theorem final.tw4528829327937641964:True:=trivial
theorem final.tw457487396237478446:True:=trivial
theorem final.tw4665049415957137645:True:=trivial
theorem final.tw4689378356768041090:True:=trivial
theorem final.tw490598620533316918:True:=trivial
theorem final.tw4941518728927537897:True:=trivial
theorem final.tw4979452831251284307:True:=trivial
theorem final.tw5038738901073927250:True:=trivial
theorem final.tw504096057067478995:True:=trivial
theorem final.tw5389411940215200779:True:=trivial
theorem final.tw5401274072143798051:True:=trivial
theorem final.tw5415015098129623477:True:=trivial
theorem final.tw5488104550771123751:True:=trivial
theorem final.tw5513875924864653303:True:=trivial
theorem final.tw5560218833007698151:True:=trivial
theorem final.tw5718155059003099199:True:=trivial
theorem final.tw5837814974287709503:True:=trivial
theorem final.tw5892880772836789786:True:=trivial
theorem final.tw5894054638908718626:True:=trivial
theorem final.tw5911986397072636141:True:=trivial
theorem final.tw5991860299265673746:True:=trivial
theorem final.tw6028682145041479106:True:=trivial
theorem final.tw604259592467036408:True:=trivial
theorem final.tw6090495070513234986:True:=trivial
theorem final.tw6141204725952769983:True:=trivial
theorem final.tw6197677828616337916:True:=trivial
theorem final.tw6210968012304685554:True:=trivial
theorem final.tw6255973331637653875:True:=trivial
theorem final.tw6393073497792709979:True:=trivial
theorem final.tw6408627558038916697:True:=trivial
theorem final.tw6445642972376607842:True:=trivial
theorem final.tw6564973080310204554:True:=trivial
theorem final.tw6606378570343130875:True:=trivial
theorem final.tw6627534881075276826:True:=trivial
theorem final.tw685945308638388284:True:=trivial
theorem final.tw6873886227903350685:True:=trivial
theorem final.tw6886013543448097282:True:=trivial
theorem final.tw6914771820346824484:True:=trivial
theorem final.tw6916487152113757813:True:=trivial
theorem final.tw7009362083800865533:True:=trivial
theorem final.tw7050017264994565855:True:=trivial
theorem final.tw7073346824454676033:True:=trivial
theorem final.tw7091158148372881714:True:=trivial
theorem final.tw711753044238566856:True:=trivial
theorem final.tw7141247537977813868:True:=trivial
theorem final.tw7157494796241977561:True:=trivial
theorem final.tw7159592494110609706:True:=trivial
theorem final.tw7325223717066525295:True:=trivial
theorem final.tw7418138010301858417:True:=trivial
theorem final.tw7421639907970033554:True:=trivial
theorem final.tw7473592055311338256:True:=trivial
theorem final.tw7590621624990511771:True:=trivial
theorem final.tw7696433628538851831:True:=trivial
theorem final.tw7711765370386156740:True:=trivial
theorem final.tw7725389625678448684:True:=trivial
theorem final.tw7750760841996414401:True:=trivial
theorem final.tw7804466294446386063:True:=trivial
theorem final.tw7833768916911220442:True:=trivial
theorem final.tw7849055961647869931:True:=trivial
theorem final.tw7911462216747631511:True:=trivial
theorem final.tw7918635017951226886:True:=trivial
theorem final.tw7938526410212431067:True:=trivial
theorem final.tw807308427763349152:True:=trivial
theorem final.tw812381018079735720:True:=trivial
theorem final.tw819163456452780238:True:=trivial
theorem final.tw8196545804004766000:True:=trivial
theorem final.tw8241138965210643142:True:=trivial
theorem final.tw8286449743198589910:True:=trivial
theorem final.tw8308426058699315332:True:=trivial
theorem final.tw8335345555407405821:True:=trivial
theorem final.tw8385947636691801988:True:=trivial
theorem final.tw8387401590369894660:True:=trivial
theorem final.tw8425546621259409239:True:=trivial
theorem final.tw8494221389510286962:True:=trivial
theorem final.tw8502431511492158837:True:=trivial
theorem final.tw8543058232313407451:True:=trivial
theorem final.tw8568633749400116076:True:=trivial
theorem final.tw8626431433666001865:True:=trivial
theorem final.tw8664426482510907556:True:=trivial
theorem final.tw8721026087917672761:True:=trivial
theorem final.tw8762036396747011047:True:=trivial
theorem final.tw8851945119839480084:True:=trivial
theorem final.tw8970192344042157281:True:=trivial
theorem final.tw8981932283943182763:True:=trivial
theorem final.tw8983094371880723818:True:=trivial
theorem final.tw905902594052686745:True:=trivial
theorem final.tw9164177404319337304:True:=trivial
theorem final.tw9185436724222690198:True:=trivial
theorem final.tw9189427303333699170:True:=trivial
theorem final.tw9389800178726121801:True:=trivial
theorem final.tw9404056537236846864:True:=trivial
theorem final.tw9571212941379925581:True:=trivial
theorem final.tw977142313825115020:True:=trivial
theorem final.tw9791805219608041743:True:=trivial
theorem final.tw9816280823844487792:True:=trivial
theorem final.tw9885169743852063000:True:=trivial
theorem final.tw9917796009047001856:True:=trivial
theorem final.tw9941049382910627851:True:=trivial
theorem final.tw2493708686814200412:True:=trivial
theorem final.tw4276179645508606076:True:=trivial
set_option Elab.async true in
set_option maxRecDepth 100000 in
set_option maxHeartbeats 8000000 in
theorem final:PySem.Challenge.rw_dn0049_03.Holds:=by
  w_on
  o_law
  k_head
  case hw=>w_witness2
  w_strict (
    k_fill
    intro w s₀ s₁ mg mb G Y fa o pm cd doc dV kV ho hd hcd hD hmg hg args vals as hpre hlay hrd hwl hlo
    have KX:=km_in_of Y
    km_tabs Y
    refine Ground.open G ?_
    intro T B D TE TW
    have hmg':=hmg
    km_lay T hmg ho hd cd
    clear hmg
    wrow_args hpre hlay hrd hwl hlo
    rename_i hs hlay0 hLa hr1 hl2 a1 a2 l vs a3 hL ra w1 r0 hI hr hc1 hc2
    refine law_done (S:=⟨PySem.Challenge.rw_dn0049_03.row.prog,w,_,mg,mb,[(61,57)],fun p=>fi_translate.qual ++ (if p.line = 61 then "<lambda>" else "<genexpr>"),s₁.heap.objs.size,true⟩) (a:=220) (k:=40) (x:="law") ?C (by decide) hT9 KX ?n T rfl hg hmg' ?x hL w1 ⟨_,rfl⟩ hI ?len (fun _=>rfl) ?post
    case n=>rfl
    case x=>rfl
    case len=>have h1:=hI.length;have h2:=sizeLine_eq;omega
    case post=>wrow_post
    case C=>exact @law_ok _ ⟨rfl⟩ ⟨rfl,rfl,rfl,rfl,rfl,rfl,rfl,rfl,rfl,rfl,rfl,rfl,rfl,rfl,rfl,rfl,rfl,rfl,rfl,rfl,rfl,rfl,rfl,rfl,rfl,rfl,rfl,rfl,rfl,rfl,rfl,rfl,rfl,FnAt.of rfl rfl (by rfl) (lenS fun _=>len0 rfl) rfl rfl rfl rfl rfl rfl,Callee.fn rfl,FnAt.of rfl rfl (by rfl) (lenS fun _=>len0 rfl) rfl rfl rfl rfl rfl rfl,Callee.fn rfl,FnAt.of rfl rfl (by rfl) (lenS fun _=>len0 rfl) rfl rfl rfl rfl rfl rfl,Callee.fn rfl,FnAt.of rfl rfl (by rfl) (lenS fun _=>len0 rfl) rfl rfl rfl rfl rfl rfl,Callee.fn rfl,FnAt.of rfl rfl (by rfl) (lenS fun _=>lenS fun _=>lenS fun _=>len0 rfl) rfl rfl rfl rfl rfl rfl,Callee.fn rfl,FnAt.of rfl rfl (by rfl) (lenS fun _=>len0 rfl) rfl rfl rfl rfl rfl rfl,Callee.fn rfl,FnAt.of rfl rfl (by rfl) (lenS fun _=>len0 rfl) rfl rfl rfl rfl rfl rfl,Callee.fn rfl,FnAt.of rfl rfl (by rfl) (lenS fun _=>lenS fun _=>len0 rfl) rfl rfl rfl rfl rfl rfl,Callee.fn rfl,FnAt.of rfl rfl (by rfl) (lenS fun _=>lenS fun _=>len0 rfl) rfl rfl rfl rfl rfl rfl,Callee.fn rfl,FnAt.of rfl rfl (by rfl) (lenS fun _=>len0 rfl) rfl rfl rfl rfl rfl rfl,Callee.fn rfl,FnAt.of rfl rfl (by rfl) (lenS fun _=>lenS fun _=>len0 rfl) rfl rfl rfl rfl rfl rfl,Callee.fn rfl,FnAt.of rfl rfl (by rfl) (lenS fun _=>lenS fun _=>lenS fun _=>len0 rfl) rfl rfl rfl rfl rfl rfl,Callee.fn rfl,FnAt.of rfl rfl (by rfl) (lenS fun _=>lenS fun _=>len0 rfl) rfl rfl rfl rfl rfl rfl,Callee.fn rfl,FnAt.of rfl rfl (by rfl) (lenS fun _=>len0 rfl) rfl rfl rfl rfl rfl rfl,Callee.fn rfl,FnAt.of rfl rfl (by rfl) (lenS fun _=>lenS fun _=>len0 rfl) rfl rfl rfl rfl rfl rfl,Callee.fn rfl,FnAt.of rfl rfl (by rfl) (lenS fun _=>len0 rfl) rfl rfl rfl rfl rfl rfl,Callee.fn rfl,⟨⟨_,_,_,rfl,rfl,rfl,rfl⟩,⟨_,_,rfl,rfl⟩⟩,⟨_,_,rfl,by repeat (first | exact EscAll.nil | refine EscAll.cons rfl rfl ?_)⟩⟩ 0 _ (.head _) (fun p h _=>by simp [h]) (fun p h _=>by simp [h]) (by have h1:=hI.length;omega))
end
end Mine
theorem PySem.Challenge.cw_dn0049_03_holds : PySem.Challenge.rw_dn0049_03.Holds :=
  Mine.final
