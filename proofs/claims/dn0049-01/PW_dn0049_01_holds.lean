import PyProof.Rows.All
import Wide.All
import OpenK.AllK
import Wide.FinOn
import PyProof.WalksEnum
import PyProof.ZipIter
import PyProof.EnumMake
import PyProof.FString5
import KE.KUnpack
import Lean
import PySem.Challenge.RW_dn0049_01
set_option Elab.async false
set_option compiler.extract_closed false
set_option maxRecDepth 100000
set_option linter.unusedVariables false
namespace Mine
section
theorem byC {G:Prop} (h:∀ C:Prop,(G→C)→C):G:=h G id
theorem e0_2  {p1 p2:Prop} {G:Prop} (h:p1∧p2) (k:p1→p2→G):G:=k h.1 h.2
theorem e1_1.{u1} {α1:Sort u1} {p1:α1→Prop} {G:Prop} (h:∃ x1,p1 x1) (k:∀ x1,p1 x1→G):G:=h.elim k
theorem e0_3  {p1 p2 p3:Prop} {G:Prop} (h:p1∧p2∧p3) (k:p1→p2→p3→G):G:=k h.1 h.2.1 h.2.2
theorem e1_2.{u1} {α1:Sort u1} {p1 p2:α1→Prop} {G:Prop} (h:∃ x1,p1 x1∧p2 x1) (k:∀ x1,p1 x1→p2 x1→G):G:=h.elim fun x h=>e0_2 h (k x)
theorem e2_1.{u1,u2} {α1:Sort u1} {α2:Sort u2} {p1:α1→α2→Prop} {G:Prop} (h:∃ x1 x2,p1 x1 x2) (k:∀ x1 x2,p1 x1 x2→G):G:=h.elim fun x h=>e1_1 h (k x)
theorem e0_4  {p1 p2 p3 p4:Prop} {G:Prop} (h:p1∧p2∧p3∧p4) (k:p1→p2→p3→p4→G):G:=k h.1 h.2.1 h.2.2.1 h.2.2.2
theorem e1_3.{u1} {α1:Sort u1} {p1 p2 p3:α1→Prop} {G:Prop} (h:∃ x1,p1 x1∧p2 x1∧p3 x1) (k:∀ x1,p1 x1→p2 x1→p3 x1→G):G:=h.elim fun x h=>e0_3 h (k x)
theorem e2_2.{u1,u2} {α1:Sort u1} {α2:Sort u2} {p1 p2:α1→α2→Prop} {G:Prop} (h:∃ x1 x2,p1 x1 x2∧p2 x1 x2) (k:∀ x1 x2,p1 x1 x2→p2 x1 x2→G):G:=h.elim fun x h=>e1_2 h (k x)
theorem e0_5  {p1 p2 p3 p4 p5:Prop} {G:Prop} (h:p1∧p2∧p3∧p4∧p5) (k:p1→p2→p3→p4→p5→G):G:=k h.1 h.2.1 h.2.2.1 h.2.2.2.1 h.2.2.2.2
theorem e1_4.{u1} {α1:Sort u1} {p1 p2 p3 p4:α1→Prop} {G:Prop} (h:∃ x1,p1 x1∧p2 x1∧p3 x1∧p4 x1) (k:∀ x1,p1 x1→p2 x1→p3 x1→p4 x1→G):G:=h.elim fun x h=>e0_4 h (k x)
theorem e2_3.{u1,u2} {α1:Sort u1} {α2:Sort u2} {p1 p2 p3:α1→α2→Prop} {G:Prop} (h:∃ x1 x2,p1 x1 x2∧p2 x1 x2∧p3 x1 x2) (k:∀ x1 x2,p1 x1 x2→p2 x1 x2→p3 x1 x2→G):G:=h.elim fun x h=>e1_3 h (k x)
theorem e3_2.{u1,u2,u3} {α1:Sort u1} {α2:Sort u2} {α3:Sort u3} {p1 p2:α1→α2→α3→Prop} {G:Prop} (h:∃ x1 x2 x3,p1 x1 x2 x3∧p2 x1 x2 x3) (k:∀ x1 x2 x3,p1 x1 x2 x3→p2 x1 x2 x3→G):G:=h.elim fun x h=>e2_2 h (k x)
theorem e0_6  {p1 p2 p3 p4 p5 p6:Prop} {G:Prop} (h:p1∧p2∧p3∧p4∧p5∧p6) (k:p1→p2→p3→p4→p5→p6→G):G:=k h.1 h.2.1 h.2.2.1 h.2.2.2.1 h.2.2.2.2.1 h.2.2.2.2.2
theorem e1_5.{u1} {α1:Sort u1} {p1 p2 p3 p4 p5:α1→Prop} {G:Prop} (h:∃ x1,p1 x1∧p2 x1∧p3 x1∧p4 x1∧p5 x1) (k:∀ x1,p1 x1→p2 x1→p3 x1→p4 x1→p5 x1→G):G:=h.elim fun x h=>e0_5 h (k x)
theorem e2_4.{u1,u2} {α1:Sort u1} {α2:Sort u2} {p1 p2 p3 p4:α1→α2→Prop} {G:Prop} (h:∃ x1 x2,p1 x1 x2∧p2 x1 x2∧p3 x1 x2∧p4 x1 x2) (k:∀ x1 x2,p1 x1 x2→p2 x1 x2→p3 x1 x2→p4 x1 x2→G):G:=h.elim fun x h=>e1_4 h (k x)
theorem e3_3.{u1,u2,u3} {α1:Sort u1} {α2:Sort u2} {α3:Sort u3} {p1 p2 p3:α1→α2→α3→Prop} {G:Prop} (h:∃ x1 x2 x3,p1 x1 x2 x3∧p2 x1 x2 x3∧p3 x1 x2 x3) (k:∀ x1 x2 x3,p1 x1 x2 x3→p2 x1 x2 x3→p3 x1 x2 x3→G):G:=h.elim fun x h=>e2_3 h (k x)
theorem e1_6.{u1} {α1:Sort u1} {p1 p2 p3 p4 p5 p6:α1→Prop} {G:Prop} (h:∃ x1,p1 x1∧p2 x1∧p3 x1∧p4 x1∧p5 x1∧p6 x1) (k:∀ x1,p1 x1→p2 x1→p3 x1→p4 x1→p5 x1→p6 x1→G):G:=h.elim fun x h=>e0_6 h (k x)
theorem e2_5.{u1,u2} {α1:Sort u1} {α2:Sort u2} {p1 p2 p3 p4 p5:α1→α2→Prop} {G:Prop} (h:∃ x1 x2,p1 x1 x2∧p2 x1 x2∧p3 x1 x2∧p4 x1 x2∧p5 x1 x2) (k:∀ x1 x2,p1 x1 x2→p2 x1 x2→p3 x1 x2→p4 x1 x2→p5 x1 x2→G):G:=h.elim fun x h=>e1_5 h (k x)
theorem e3_4.{u1,u2,u3} {α1:Sort u1} {α2:Sort u2} {α3:Sort u3} {p1 p2 p3 p4:α1→α2→α3→Prop} {G:Prop} (h:∃ x1 x2 x3,p1 x1 x2 x3∧p2 x1 x2 x3∧p3 x1 x2 x3∧p4 x1 x2 x3) (k:∀ x1 x2 x3,p1 x1 x2 x3→p2 x1 x2 x3→p3 x1 x2 x3→p4 x1 x2 x3→G):G:=h.elim fun x h=>e2_4 h (k x)
theorem e4_3.{u1,u2,u3,u4} {α1:Sort u1} {α2:Sort u2} {α3:Sort u3} {α4:Sort u4} {p1 p2 p3:α1→α2→α3→α4→Prop} {G:Prop} (h:∃ x1 x2 x3 x4,p1 x1 x2 x3 x4∧p2 x1 x2 x3 x4∧p3 x1 x2 x3 x4) (k:∀ x1 x2 x3 x4,p1 x1 x2 x3 x4→p2 x1 x2 x3 x4→p3 x1 x2 x3 x4→G):G:=h.elim fun x h=>e3_3 h (k x)
theorem e2_6.{u1,u2} {α1:Sort u1} {α2:Sort u2} {p1 p2 p3 p4 p5 p6:α1→α2→Prop} {G:Prop} (h:∃ x1 x2,p1 x1 x2∧p2 x1 x2∧p3 x1 x2∧p4 x1 x2∧p5 x1 x2∧p6 x1 x2) (k:∀ x1 x2,p1 x1 x2→p2 x1 x2→p3 x1 x2→p4 x1 x2→p5 x1 x2→p6 x1 x2→G):G:=h.elim fun x h=>e1_6 h (k x)
theorem e3_5.{u1,u2,u3} {α1:Sort u1} {α2:Sort u2} {α3:Sort u3} {p1 p2 p3 p4 p5:α1→α2→α3→Prop} {G:Prop} (h:∃ x1 x2 x3,p1 x1 x2 x3∧p2 x1 x2 x3∧p3 x1 x2 x3∧p4 x1 x2 x3∧p5 x1 x2 x3) (k:∀ x1 x2 x3,p1 x1 x2 x3→p2 x1 x2 x3→p3 x1 x2 x3→p4 x1 x2 x3→p5 x1 x2 x3→G):G:=h.elim fun x h=>e2_5 h (k x)
theorem e4_4.{u1,u2,u3,u4} {α1:Sort u1} {α2:Sort u2} {α3:Sort u3} {α4:Sort u4} {p1 p2 p3 p4:α1→α2→α3→α4→Prop} {G:Prop} (h:∃ x1 x2 x3 x4,p1 x1 x2 x3 x4∧p2 x1 x2 x3 x4∧p3 x1 x2 x3 x4∧p4 x1 x2 x3 x4) (k:∀ x1 x2 x3 x4,p1 x1 x2 x3 x4→p2 x1 x2 x3 x4→p3 x1 x2 x3 x4→p4 x1 x2 x3 x4→G):G:=h.elim fun x h=>e3_4 h (k x)
theorem e4_5.{u1,u2,u3,u4} {α1:Sort u1} {α2:Sort u2} {α3:Sort u3} {α4:Sort u4} {p1 p2 p3 p4 p5:α1→α2→α3→α4→Prop} {G:Prop} (h:∃ x1 x2 x3 x4,p1 x1 x2 x3 x4∧p2 x1 x2 x3 x4∧p3 x1 x2 x3 x4∧p4 x1 x2 x3 x4∧p5 x1 x2 x3 x4) (k:∀ x1 x2 x3 x4,p1 x1 x2 x3 x4→p2 x1 x2 x3 x4→p3 x1 x2 x3 x4→p4 x1 x2 x3 x4→p5 x1 x2 x3 x4→G):G:=h.elim fun x h=>e3_5 h (k x)
end
section
open PySem PySem.W PySem.Calls PyProof.Rows
structure Grown (s s':Shared):Prop where
  heap:s.heap.objs.size≤s'.heap.objs.size
  toks:s.toks≤s'.toks
  gens:s.gens.size≤s'.gens.size
theorem Grown.refl (s:Shared):Grown s s:=⟨Nat.le_refl _,Nat.le_refl _,Nat.le_refl _⟩
theorem Grown.trans {a b c:Shared} (x:Grown a b) (y:Grown b c):Grown a c:=⟨Nat.le_trans x.heap y.heap,Nat.le_trans x.toks y.toks,Nat.le_trans x.gens y.gens⟩
theorem Grown.setGen (s:Shared) (g:Nat) (x:GenState):Grown s (s.setGen g x):=⟨Nat.le_refl _,Nat.le_refl _,by simp [Shared.setGen]⟩
theorem runs_grown {M:Model} {Γ:Ctx} {p:Pos} {t:Sem Fin} {fs:List Frame} {s s':Shared} {e:End} (h:Runs M Γ p t fs s e s'):Grown s s':=by
  induction h <;> first
    | exact .refl _
    | assumption
    | exact Grown.trans (by assumption) (by assumption)
    | (refine Grown.trans ?_ (by assumption);exact ⟨by simp,Nat.le_refl _,Nat.le_refl _⟩)
    | (refine Grown.trans ?_ (by assumption);exact ⟨Nat.le_refl _,Nat.le_succ _,Nat.le_refl _⟩)
    | (refine Grown.trans ?_ (by assumption);exact ⟨Nat.le_refl _,Nat.le_refl _,by simp⟩)
    | (refine Grown.trans (Grown.setGen _ _ _) (Grown.trans (by assumption) (Grown.trans (Grown.setGen _ _ _) (by assumption))))
    | (refine Grown.trans (by assumption) (Grown.trans (by assumption) (by assumption)))
    | (refine Grown.trans (by assumption) (Grown.trans (Grown.setGen _ _ _) (by assumption)))
    | (refine Grown.trans (Grown.setGen _ _ _) (by assumption))
    | skip
theorem Wakes.grown {M:Model} {Γ:Ctx} {p:Pos} {g:Nat} {r:Resume} {s s':Shared} {res:GenResult} (h:Wakes M Γ p g r s res s'):Grown s s':=by
  have run:∀ {M':Ctx} {p':Pos} {t:Sem Fin} {fs:List Frame} {x:End→GenState},(∃ e₁ s₁,Runs M M' p' t fs (s.setGen g .running) e₁ s₁∧e₁.quiet = true∧res = e₁.result∧s' = s₁.setGen g (x e₁))→Grown s s':=fun h=>by
    (refine e2_4 (h) (fun e₁ s₁ hr _ _ q1q=>?_);subst q1q);exact (Grown.setGen _ _ _).trans ((runs_grown hr).trans (Grown.setGen _ _ _))
  unfold Wakes at h
  generalize s.gens[g]? = o at h
  cases o with
  | none=>exact h.elim
  | some st =>
    cases st with
    | fresh c =>
      cases r with
      | send v=>cases v <;> first | exact run h | (rw [h.2];exact .refl _)
      | throw x=>rw [h.2];exact ⟨Nat.le_refl _,Nat.le_refl _,by simp [Shared.setGen]⟩
    | suspended=>exact run h
    | running=>rw [h.2];exact .refl _
    | finished=>rw [h.2];exact .refl _
theorem wp_grown {α:Type} (M:Model) (Γ:Ctx) (s₀:Shared) (t:Sem α):∀ (Q:α→Pos→Shared→Prop) (E:Value→Pos→Shared→Prop) (p:Pos) (s:Shared),Grown s₀ s→Sem.wp M Γ t Q E p s →
    Sem.wp M Γ t (fun a p' s'=>Grown s₀ s'∧Q a p' s') (fun e p' s'=>Grown s₀ s'∧E e p' s') p s:=by
  induction t with
  | pure a=>intro Q E p s hn h;exact ⟨hn,h⟩
  | raise e=>intro Q E p s hn h;exact ⟨hn,h⟩
  | unsupported _=>intro Q E p s _ h;exact h
  | finish _=>intro Q E p s _ h;exact h
  | rule _ k ih=>intro Q E p s hn h;exact ih () Q E p s hn h
  | «at» p' k ih=>intro Q E p s hn h;exact ih () Q E p' s hn h
  | load a _ k ih=>intro Q E p s hn h;refine e1_2 (h) (fun o ho h=>?_);exact ⟨o,ho,ih o Q E p s hn h⟩
  | update a _ f k ih=>intro Q E p s hn h;exact ⟨h.1,ih () Q E p _ (hn.trans ⟨by simp,Nat.le_refl _,Nat.le_refl _⟩) h.2⟩
  | loadIfAlive a k ih=>intro Q E p s hn h;exact ih _ Q E p s hn h
  | point _ k ih=>intro Q E p s hn h;exact ih () Q E p s hn h
  | register _ _=>intro Q E p s _ h;exact h
  | alloc o k ih=>intro Q E p s hn h;exact ih _ Q E p _ (hn.trans ⟨by simp,Nat.le_refl _,Nat.le_refl _⟩) h
  | fresh k ih=>intro Q E p s hn h;exact ih _ Q E p _ (hn.trans ⟨Nat.le_refl _,Nat.le_succ _,Nat.le_refl _⟩) h
  | ask k ih=>intro Q E p s hn h;exact ih _ Q E p s hn h
  | choose src m k ih=>intro Q E p s hn h;exact ⟨h.1,ih _ Q E p _ (hn.trans ⟨Nat.le_refl _,Nat.le_refl _,Nat.le_refl _⟩) h.2⟩
  | os q _ k ih=>intro Q E p s hn h;exact ih _ Q E p _ (hn.trans ⟨Nat.le_refl _,Nat.le_refl _,Nat.le_refl _⟩) h
  | call c hd _ _ k ih=>intro Q E p s hn h;refine e2_2 (h) (fun r s' hr h=>?_);exact ⟨r,s',hr,ih r Q E p s' (hn.trans (runs_grown hr)) h⟩
  | handled own k ih=>intro Q E p s hn h;exact ih _ Q E p s hn h
  | genState g k ih=>intro Q E p s hn h;refine e1_2 (h) (fun st hs h=>?_);exact ⟨st,hs,ih _ Q E p s hn h⟩
  | newGen c k ih=>intro Q E p s hn h;exact ih _ Q E p _ (hn.trans ⟨Nat.le_refl _,Nat.le_refl _,by simp⟩) h
  | resume g r _ k ih=>intro Q E p s hn h;refine e2_2 (h) (fun res s' hw h=>?_);exact ⟨res,s',hw,ih res Q E p s' (hn.trans (Wakes.grown hw)) h⟩
  | yield _ _ _ _=>intro Q E p s _ h;exact h
  | stack k ih=>intro Q E p s hn h;exact ih _ Q E p s hn h
  | fork _ _=>intro Q E p s _ h;exact h
  | thread k ih=>intro Q E p s hn h;exact ih _ Q E p s hn h
  | await _ _ _ _ _=>intro Q E p s _ h;exact h
theorem wpAny_grown {α:Type} {M:Model} {A:Around} {s:Shared} {t:Sem α} {Q:α→Shared→Prop} {E:Value→Shared→Prop}
    (h:wpAny M A t (fun a s'=>Grown s s'→Q a s') (fun e s'=>Grown s s'→E e s') s):wpAny M A t Q E s :=
  wpAny_mono (fun Γ p hΓ=>wp_grown M Γ s t _ _ p s (.refl s) (h Γ p hΓ):wpAny M A t (fun a s'=>Grown s s'∧(Grown s s'→Q a s')) (fun e s'=>Grown s s'∧(Grown s s'→E e s')) s) (fun _ _ x=>x.2 x.1) (fun _ _ x=>x.2 x.1)
theorem wp_ifT {α:Type} {M:Model} {A:Around} {c:Prop} [Decidable c] {a b:Sem α} {Q:α→Shared→Prop} {E:Value→Shared→Prop} {s:Shared} (hc:c) (h:wpAny M A a Q E s):wpAny M A (if c then a else b) Q E s:=by rw [if_pos hc];exact h
theorem wp_ifF {α:Type} {M:Model} {A:Around} {c:Prop} [Decidable c] {a b:Sem α} {Q:α→Shared→Prop} {E:Value→Shared→Prop} {s:Shared} (hc:¬ c) (h:wpAny M A b Q E s):wpAny M A (if c then a else b) Q E s:=by rw [if_neg hc];exact h
end
section
open PySem PySem.W PySem.Calls PyProof.Rows
noncomputable def Keep (g h:Heap):Prop:=∀ b o,g.get? b = some o→h.get? b = some o
theorem Keep.refl (g:Heap):Keep g g:=fun _ _ e=>e
theorem Keep.trans {a b c:Heap} (x:Keep a b) (y:Keep b c):Keep a c:=fun p o e=>y p o (x p o e)
inductive D where
  | raw (v:Value)
  | int (i:Int)
  | str (s:List Nat)
  | list (xs:List D)
  | tup (xs:List D)
  | rng (a b c:Int)
  | obj (a:Addr) (o:Obj)
  | abs (P:Heap→Value→Prop)
noncomputable abbrev D.bool (b:Bool):D:=.raw (.bool b)
noncomputable abbrev D.none:D:=.raw .none
noncomputable abbrev listO (vs:List Value) (n:Nat):Obj:={ cls:=.type "list",data:=.seq vs.toArray n }
noncomputable abbrev tupO (vs:List Value) (n:Nat):Obj:={ cls:=.type "tuple",data:=.seq vs.toArray n }
mutual
inductive Rd (g:Heap):Value→D→Prop where
  | raw (v:Value):Rd g v (.raw v)
  | int (i:Int) (t:Tok):Rd g (.int i t) (.int i)
  | str (s:List Nat) (t:Tok):s.length≤sizeLine→Rd g (.str ⟨s.toArray⟩ t) (.str s)
  | list {a:Addr} {vs:List Value} {n:Nat} {xs:List D}:g.get? a = some (listO vs n)→vs.length≤sizeLine→Rds g vs xs→Rd g (.ref a) (.list xs)
  | tup {a:Addr} {vs:List Value} {n:Nat} {xs:List D}:g.get? a = some (tupO vs n)→vs.length≤sizeLine→Rds g vs xs→Rd g (.ref a) (.tup xs)
  | rng {r:Addr} {a b c:Int} {t u v:Tok}:g.get? r = some { cls:=.type "range",dict:=Option.none,data:=.fields #[.int a t,.int b u,.int c v],slots:=#[] }→Rd g (.ref r) (.rng a b c)
  | obj {a:Addr} {o:Obj}:g.get? a = some o→Rd g (.ref a) (.obj a o)
  | abs {v:Value} {P:Heap→Value→Prop}:(∀ h,Keep g h→P h v)→Rd g v (.abs P)
inductive Rds (g:Heap):List Value→List D→Prop where
  | nil:Rds g [] []
  | cons {v:Value} {d:D} {vs:List Value} {ds:List D}:Rd g v d→Rds g vs ds→Rds g (v :: vs) (d :: ds)
end
theorem Rd.mono {g g':Heap} (k:Keep g g') {v:Value} {d:D} (r:Rd g v d):Rd g' v d :=
  Rd.rec (motive_1:=fun v d _=>Rd g' v d) (motive_2:=fun vs ds _=>Rds g' vs ds) (fun v=>.raw v) (fun i t=>.int i t) (fun s t h=>.str s t h) (fun e hl _ ih=>.list (k _ _ e) hl ih) (fun e hl _ ih=>.tup (k _ _ e) hl ih) (fun e=>.rng (k _ _ e)) (fun e=>.obj (k _ _ e)) (fun f=>.abs fun h j=>f h (k.trans j)) .nil (fun _ _ a b=>.cons a b) r
section
variable {g:Heap}
theorem Rd.casesRaw {w:Value} {motive:(v:Value)→Rd g v (.raw w)→Prop} (raw:motive w (.raw w)) {v:Value} (r:Rd g v (.raw w)):motive v r:=by cases r;exact raw
theorem Rd.casesInt {i:Int} {motive:(v:Value)→Rd g v (.int i)→Prop} (int:∀ t,motive (.int i t) (.int i t)) {v:Value} (r:Rd g v (.int i)):motive v r:=by cases r with | int i t=>exact int t
theorem Rd.casesStr {s:List Nat} {motive:(v:Value)→Rd g v (.str s)→Prop} (str:∀ t hs,motive (.str ⟨s.toArray⟩ t) (.str s t hs)) {v:Value} (r:Rd g v (.str s)):motive v r:=by cases r with | str s t hs=>exact str t hs
theorem Rd.casesList {xs:List D} {motive:(v:Value)→Rd g v (.list xs)→Prop} (list:∀ {a vs n} (e:g.get? a = some (listO vs n)) (hl:vs.length≤sizeLine) (rs:Rds g vs xs),motive (.ref a) (.list e hl rs)) {v:Value} (r:Rd g v (.list xs)):motive v r:=by cases r with | list e hl rs=>exact list e hl rs
theorem Rd.casesTup {xs:List D} {motive:(v:Value)→Rd g v (.tup xs)→Prop} (tup:∀ {a vs n} (e:g.get? a = some (tupO vs n)) (hl:vs.length≤sizeLine) (rs:Rds g vs xs),motive (.ref a) (.tup e hl rs)) {v:Value} (r:Rd g v (.tup xs)):motive v r:=by cases r with | tup e hl rs=>exact tup e hl rs
theorem Rd.casesRng {a b c:Int} {motive:(v:Value)→Rd g v (.rng a b c)→Prop} (rng:∀ {r t u w} (e:g.get? r = some { cls:=.type "range",dict:=Option.none,data:=.fields #[.int a t,.int b u,.int c w],slots:=#[] }),motive (.ref r) (.rng e)) {v:Value} (r:Rd g v (.rng a b c)):motive v r:=by cases r with | rng e=>exact rng e
theorem Rd.casesAbs {P:Heap→Value→Prop} {motive:(v:Value)→Rd g v (.abs P)→Prop} (abs:∀ {v} (f:∀ h,Keep g h→P h v),motive v (.abs f)) {v:Value} (r:Rd g v (.abs P)):motive v r:=by cases r with | abs f=>exact abs f
theorem Rds.casesNil {motive:(vs:List Value)→Rds g vs []→Prop} (nil:motive [] .nil) {vs:List Value} (r:Rds g vs []):motive vs r:=by cases r;exact nil
theorem Rds.casesCons {d:D} {ds:List D} {motive:(vs:List Value)→Rds g vs (d :: ds)→Prop} (cons:∀ {v vs} (a:Rd g v d) (b:Rds g vs ds),motive (v :: vs) (.cons a b)) {vs:List Value} (r:Rds g vs (d :: ds)):motive vs r:=by cases r with | cons a b=>exact cons a b
end
theorem Rds.mono {g g':Heap} (k:Keep g g') {vs:List Value} {ds:List D} (r:Rds g vs ds):Rds g' vs ds:=by
  induction ds generalizing vs with
  | nil=>cases r using Rds.casesNil;exact .nil
  | cons d ds ih=>cases r using Rds.casesCons with | cons a b=>exact .cons (a.mono k) (ih b)
theorem Rds.length {g:Heap} {vs:List Value} {ds:List D} (r:Rds g vs ds):vs.length = ds.length:=by
  induction ds generalizing vs with
  | nil=>cases r using Rds.casesNil;rfl
  | cons d ds ih=>cases r using Rds.casesCons with | cons a b=>exact congrArg Nat.succ (ih b)
theorem Rds.append {g:Heap} {vs ws:List Value} {ds es:List D} (r:Rds g vs ds) (y:Rds g ws es):Rds g (vs ++ ws) (ds ++ es):=by
  induction ds generalizing vs with
  | nil=>cases r using Rds.casesNil;exact y
  | cons d ds ih=>cases r using Rds.casesCons with | cons a b=>exact .cons a (ih b)
theorem Rds.get {g:Heap} {vs:List Value} {ds:List D} (r:Rds g vs ds) (i:Nat) {d:D} (h:ds[i]? = some d):∃ v,vs[i]? = some v∧Rd g v d:=by
  induction ds generalizing vs i with
  | nil=>cases h
  | cons e ds ih =>
    cases r using Rds.casesCons with
    | cons a b =>
      cases i with
      | zero=>cases h;exact ⟨_,rfl,a⟩
      | succ i=>exact ih b i h
theorem Rds.drop {g:Heap} {vs:List Value} {ds:List D} (r:Rds g vs ds) (n:Nat):Rds g (vs.drop n) (ds.drop n):=by
  induction ds generalizing vs n with
  | nil=>cases r using Rds.casesNil;cases n <;> exact .nil
  | cons e ds ih =>
    cases r using Rds.casesCons with
    | cons a b =>
      cases n with
      | zero=>exact .cons a b
      | succ n=>exact ih b n
theorem Rds.take {g:Heap} {vs:List Value} {ds:List D} (r:Rds g vs ds) (n:Nat):Rds g (vs.take n) (ds.take n):=by
  induction ds generalizing vs n with
  | nil=>cases r using Rds.casesNil;cases n <;> exact .nil
  | cons e ds ih =>
    cases r using Rds.casesCons with
    | cons a b =>
      cases n with
      | zero=>exact .nil
      | succ n=>exact .cons a (ih b n)
noncomputable def D.flat:D→Bool
  | .list _=>false
  | .tup _=>false
  | .rng ..=>false
  | .obj ..=>false
  | .abs _=>false
  | _=>true
theorem Rd.flat_any {g g':Heap} {v:Value} {d:D} (r:Rd g v d) (h:d.flat = true):Rd g' v d:=by
  cases r with
  | raw v=>exact .raw v
  | int i t=>exact .int i t
  | str s t hs=>exact .str s t hs
  | list=>cases h
  | tup=>cases h
  | rng=>cases h
  | obj=>cases h
  | abs=>cases h
noncomputable def cut (h:Heap) (P:Addr→Bool):Heap:=⟨h.objs.mapIdx fun i o=>if P i then o else { o with data:=.freed },h.life⟩
theorem cut_get (h:Heap) (P:Addr→Bool) (b:Addr):(cut h P).get? b = if P b then h.get? b else Option.none:=by
  unfold cut Heap.get?
  simp only [Array.getElem?_mapIdx]
  cases h.objs[b]? with
  | none=>cases P b <;> rfl
  | some o=>cases P b <;> rfl
theorem cut_some {h:Heap} {P:Addr→Bool} {b:Addr} {o:Obj}:(cut h P).get? b = some o ↔ P b = true∧h.get? b = some o:=by
  rw [cut_get]
  cases P b <;> simp
set_option genInjectivity false in
structure Sig where
  prog:Program
  w:World
  K:Frag
  mg:Str→Option Value
  mb:Str→Option Value
  tabs:List (Addr × Addr)
  qualAt:Pos→Str
  z:Addr
  hd:Bool:=true
class Free (S:Sig):Prop where
  free:S.hd = true
noncomputable abbrev Sig.M (S:Sig):Model:=model S.prog S.w
noncomputable def Sig.T (S:Sig) (b:Addr):Prop:=b ∈ S.tabs.map (·.2)
structure Base (S:Sig) (g:Heap):Prop where
  kin:S.K.In g
  glob:g.Ns mainGlobals S.mg
  blt:g.Ns builtinsNs S.mb
  nolimit:g.NoLimit
  boot:∀ x:Str,x ≠ "__name__"→S.mb x = bootBuiltins x
  bmain:∃ bm ob,S.mg "__builtins__" = some (.ref bm)∧bm ≠ builtinsNs∧g.get? bm = some ob∧ob.cls = .type "module"∧ob.dict = some builtinsNs∧ob.data = .plain
  heads:∀ q ∈ S.tabs,CodeHd g q.1 q.2∧g.get? q.2 = Option.none
theorem Base.mono {S:Sig} {g g':Heap} (B:Base S g) (k:Keep g g') (hT:∀ q ∈ S.tabs,g'.get? q.2 = Option.none):Base S g' where
  kin:=B.kin.keeps k
  glob:=B.glob.keeps k
  blt:=B.blt.keeps k
  nolimit:=B.nolimit.keeps k
  boot:=B.boot
  bmain:=e2_4 B.bmain fun bm ob h1 h2 h3 r=>⟨bm,ob,h1,h2,k _ _ h3,r⟩
  heads:=fun q hq=>⟨(B.heads q hq).1.keeps k,hT q hq⟩
structure Tabs (S:Sig) (g:Heap) (s:Shared):Prop where
  pos:0 < s.toks
  all:∀ q ∈ S.tabs,∃ ps,s.heap.get? q.2 = some (tabObj ps)∧TriplesOk ps.toList∧∀ pos cv,codeAmong pos ps.toList = some cv→g.CodeRec cv (S.qualAt pos)
noncomputable def NsObj (o:Obj):Prop:=∃ es ep,o.data = .dict es ep
theorem notNs_list {vs:List Value} {n:Nat}:¬ NsObj (listO vs n):=by rintro ⟨_,_,q⟩;cases q
theorem notNs_fields {o:Obj} {vs:Array Value} (h:o.data = .fields vs):¬ NsObj o:=by rintro ⟨_,_,q⟩;rw [h] at q;cases q
noncomputable def Like (S:Sig) (a:Addr) (o o':Obj):Prop:=o' = o ∨ (S.z≤a∧NsObj o∧∃ sl,o' = { o with slots:=sl })
theorem Like.refl {S:Sig} {a:Addr} (o:Obj):Like S a o o:=.inl rfl
theorem Like.trans {S:Sig} {a:Addr} {o₁ o₂ o₃:Obj} (x:Like S a o₁ o₂) (y:Like S a o₂ o₃):Like S a o₁ o₃:=by
  rcases x with rfl | ⟨h1,h2,sl,rfl⟩
  · exact y
  · rcases y with rfl | ⟨_,_,sl',rfl⟩
    · exact .inr ⟨h1,h2,sl,rfl⟩
    · exact .inr ⟨h1,h2,sl',rfl⟩
theorem Like.data {S:Sig} {a:Addr} {o o':Obj} (x:Like S a o o'):o'.data = o.data:=by
  rcases x with rfl | ⟨_,_,sl,rfl⟩ <;> rfl
theorem Like.eq {S:Sig} {a:Addr} {o o':Obj} (x:Like S a o o') (h:¬ NsObj o):o' = o:=by
  rcases x with rfl | ⟨_,h2,_⟩
  · rfl
  · exact absurd h2 h
noncomputable abbrev Ab (b:Addr):Addr→Prop:=fun a=>b≤a
noncomputable abbrev Nw (s:Shared):Addr→Prop:=Ab s.heap.objs.size
structure Tr (S:Sig) (W:Addr→Prop) (g:Heap) (s:Shared) (g':Heap) (s':Shared):Prop where
  mono:Keep g g'
  keep:Keep g' s'.heap
  same:∀ a o,¬ W a→¬ S.T a→s.heap.get? a = some o→∃ o',s'.heap.get? a = some o'∧Like S a o o'
  fresh:∀ a o,g'.get? a = some o→g.get? a = some o ∨ W a
  size:s.heap.objs.size≤s'.heap.objs.size
  tabs:∀ q ∈ S.tabs,∀ ps,s.heap.get? q.2 = some (tabObj ps)→∃ more,s'.heap.get? q.2 = some (tabObj (ps ++ more))
  base:Base S g'
  now:Tabs S g' s'
  os:s'.os = s.os
  bare:AllBare s.gens→AllBare s'.gens
  gens:s.gens.size≤s'.gens.size
  toks:s.toks≤s'.toks
theorem Tr.weak {S:Sig} {W V:Addr→Prop} {g g':Heap} {s s':Shared} (x:Tr S V g s g' s') (h:∀ a,V a→W a):Tr S W g s g' s' :=
  { x with same:=fun a o l n e=>x.same a o (fun q=>l (h a q)) n e,fresh:=fun a o e=>(x.fresh a o e).imp id (h a) }
theorem Tr.trans {S:Sig} {W V:Addr→Prop} {g₁ g₂ g₃:Heap} {s₁ s₂ s₃:Shared} (x:Tr S W g₁ s₁ g₂ s₂) (y:Tr S V g₂ s₂ g₃ s₃) (h:∀ a,V a→W a):Tr S W g₁ s₁ g₃ s₃ where
  mono:=x.mono.trans y.mono
  keep:=y.keep
  same:=fun a o l n e=>e1_2 (x.same a o l n e) fun o' e' k=>e1_2 (y.same a o' (fun q=>l (h a q)) n e') fun o'' e'' k'=>⟨o'',e'',k.trans k'⟩
  fresh:=fun a o e=>(y.fresh a o e).elim (fun e=>x.fresh a o e) fun l=>.inr (h a l)
  size:=Nat.le_trans x.size y.size
  tabs:=fun q hq ps e=>e1_1 (x.tabs q hq ps e) fun m e'=>e1_1 (y.tabs q hq _ e') fun m' e''=>⟨m ++ m',by rw [e'',Array.append_assoc]⟩
  base:=y.base
  now:=y.now
  os:=y.os.trans x.os
  bare:=y.bare ∘ x.bare
  gens:=Nat.le_trans x.gens y.gens
  toks:=Nat.le_trans x.toks y.toks
theorem Tr.refl {S:Sig} {g:Heap} {s:Shared} (W:Addr→Prop) (k:Keep g s.heap) (B:Base S g) (T:Tabs S g s):Tr S W g s g s where
  mono:=.refl g
  keep:=k
  same:=fun _ o _ _ e=>⟨o,e,.refl o⟩
  fresh:=fun _ _ e=>.inl e
  size:=Nat.le_refl _
  tabs:=fun _ _ ps e=>⟨#[],by rw [e,Array.append_empty]⟩
  base:=B
  now:=T
  os:=rfl
  bare:=id
  gens:=Nat.le_refl _
  toks:=Nat.le_refl _
open Classical in
theorem world_of {g h':Heap} (z:Nat) (N:Addr→Prop) (hk:Keep g h'):∃ g',Keep g g'∧Keep g' h'∧(∀ a o,g'.get? a = some o→g.get? a = some o ∨ (z≤a∧N a))∧∀ b o,h'.get? b = some o→z≤b→N b→g'.get? b = some o:=by
  refine ⟨cut h' fun b=>(g.get? b).isSome || decide (z≤b∧N b),fun b o e=>cut_some.mpr ⟨by rw [e];rfl,hk b o e⟩,fun b o e=>(cut_some.mp e).2,fun a o e=>?_,fun b o e l n=>cut_some.mpr ⟨by rw [decide_eq_true (p:=z≤b∧N b) ⟨l,n⟩,Bool.or_true],e⟩⟩
  refine e0_2 (cut_some.mp e) (fun e1 e2=>?_)
  cases q:g.get? a with
  | none=>rw [q] at e1;exact .inr (of_decide_eq_true e1)
  | some x=>exact .inl ((hk a x q).symm.trans e2)
theorem Tabs.noneT {S:Sig} {g g':Heap} {s:Shared} (T:Tabs S g s) (B:Base S g) (fr:∀ a o,g'.get? a = some o→g.get? a = some o ∨ s.heap.objs.size≤a) (q:Addr × Addr) (hq:q ∈ S.tabs):g'.get? q.2 = Option.none:=by
  cases e:g'.get? q.2 with
  | none=>rfl
  | some o=>exact e1_1 (T.all q hq) fun ps e'=>(fr _ _ e).elim (fun h=>absurd ((B.heads q hq).2.symm.trans h) nofun) fun h=>absurd (Heap.lt_size e'.1) (Nat.not_lt.mpr h)
theorem Tr.growF {S:Sig} {g:Heap} {s s':Shared} (F N:Addr→Prop) (k:Keep g s.heap) (B:Base S g) (T:Tabs S g s) (old:∀ b o,¬ F b→s.heap.get? b = some o→s'.heap.get? b = some o) (hFg:∀ b,F b→g.get? b = Option.none) (hFT:∀ b,F b→¬ S.T b)
    (hz:s.heap.objs.size≤s'.heap.objs.size) (hos:s'.os = s.os) (hg:s'.gens = s.gens) (ht:s.toks≤s'.toks) :
    ∃ g',Tr S (fun a=>Nw s a ∨ F a) g s g' s'∧(∀ b o,s'.heap.get? b = some o→s.heap.objs.size≤b→N b→g'.get? b = some o)∧(∀ b,g'.get? b ≠ Option.none→g.get? b ≠ Option.none ∨ (s.heap.objs.size≤b∧N b)):=by
  have nF:∀ {b o},g.get? b = some o→¬ F b:=fun {b o} e q=>by rw [hFg b q] at e;cases e
  have nFT:∀ q ∈ S.tabs,¬ F q.2:=fun q hq h=>hFT _ h (List.mem_map_of_mem hq)
  refine e1_4 (world_of s.heap.objs.size N fun b o e=>old b o (nF e) (k b o e)) fun g' mono keep fr' inN=>?_
  have fr:∀ a o,g'.get? a = some o→g.get? a = some o ∨ s.heap.objs.size≤a:=fun a o e=>(fr' a o e).imp id And.left
  refine ⟨g',?_,inN,fun b hb=>?_⟩
  · exact {
      mono:=mono
      keep:=keep
      same:=fun a o h _ e=>⟨o,old a o (fun q=>h (.inr q)) e,.refl o⟩
      fresh:=fun a o e=>(fr a o e).imp id .inl
      size:=hz
      tabs:=fun q hq ps e=>⟨#[],by rw [old _ _ (nFT q hq) e,Array.append_empty]⟩
      base:=B.mono mono (T.noneT B fr)
      now:=⟨Nat.lt_of_lt_of_le T.pos ht,fun q hq=>e1_3 (T.all q hq) fun ps e1 e2 e3=>⟨ps,old _ _ (nFT q hq) e1,e2,fun pos cv e=>(e3 pos cv e).keeps mono⟩⟩
      os:=hos
      bare:=fun h=>by rw [hg];exact h
      gens:=by rw [hg];exact Nat.le_refl _
      toks:=ht }
  · cases e:g'.get? b with
    | none=>exact absurd e hb
    | some o=>exact (fr' b o e).imp (fun q=>by rw [q];nofun) id
theorem Tr.grow {S:Sig} {g:Heap} {s s':Shared} (N:Addr→Prop) (k:Keep g s.heap) (B:Base S g) (T:Tabs S g s) (old:Keep s.heap s'.heap) (hz:s.heap.objs.size≤s'.heap.objs.size) (hos:s'.os = s.os) (hg:s'.gens = s.gens) (ht:s.toks≤s'.toks) :
    ∃ g',Tr S (Nw s) g s g' s'∧(∀ b o,s'.heap.get? b = some o→s.heap.objs.size≤b→N b→g'.get? b = some o)∧(∀ b,s.heap.objs.size≤b→¬ N b→g'.get? b = Option.none):=by
  refine e1_3 (Tr.growF (fun _=>False) N k B T (fun b o _ e=>old b o e) (fun _ h=>h.elim) (fun _ h=>h.elim) hz hos hg ht) (fun g' t h1 h2=>?_)
  refine ⟨g',t.weak fun a h=>h.elim id False.elim,h1,fun b l n=>?_⟩
  cases e:g'.get? b with
  | none=>rfl
  | some o =>
    rcases h2 b (by rw [e];nofun) with q | q
    · cases e':g.get? b with
      | none=>exact absurd e' q
      | some o'=>exact absurd (Heap.lt_size (k b o' e')) (Nat.not_lt.mpr l)
    · exact absurd q.2 n
theorem Tr.tick {S:Sig} {g:Heap} {s:Shared} {t:Nat} (W:Addr→Prop) (k:Keep g s.heap) (B:Base S g) (T:Tabs S g s) (ht:s.toks≤t):Tr S W g s g { s with toks:=t } :=
  { Tr.refl W k B T with toks:=ht,now:=⟨Nat.lt_of_lt_of_le T.pos ht,T.all⟩ }
set_option genInjectivity false in
structure Fi where
  scope:Scope
  qual:Str
  code:Value
  vars:List Str
  kinds:List NameKind
  nodup:vars.Nodup
  ok:((vars.zip kinds).all fun p=>scope.names.lookup p.1 == some p.2) = true
theorem Fi.kind (f:Fi) {i:Nat} {x:Str} {kd:NameKind} (h1:f.vars[i]? = some x) (h2:f.kinds[i]? = some kd):f.scope.names.lookup x = some kd:=by
  have h:=List.all_eq_true.mp f.ok (x,kd) (by
    rw [List.mem_iff_getElem?]
    exact ⟨i,by rw [List.getElem?_zip_eq_some];exact ⟨h1,h2⟩⟩)
  simpa using h
theorem Fi.inj (f:Fi) {i j:Nat} {x:Str} (h1:f.vars[i]? = some x) (h2:f.vars[j]? = some x):i = j:=by
  refine e1_1 (List.getElem?_eq_some_iff.mp h1) (fun hi e1=>?_)
  refine e1_1 (List.getElem?_eq_some_iff.mp h2) (fun hj e2=>?_)
  have h:=List.pairwise_iff_getElem.mp f.nodup
  rcases Nat.lt_trichotomy i j with l | l | l
  · exact absurd (e1.trans e2.symm) (h i j hi hj l)
  · exact l
  · exact absurd (e2.trans e1.symm) (h j i hj hi l)
structure EnvIs (f:Fi) (env:Env):Prop where
  scope:env.scope = f.scope
  qual:env.qual = f.qual
  code:env.code = f.code
  globals:env.globals = mainGlobals
  builtins:env.builtins = builtinsNs
  kind:env.scope.kind = .function
inductive B where
  | val (d:D)
  | own (xs:List D)
  | app (i:Nat)
  | cell (d:Option D)
noncomputable def Var (h:Heap) (env:Env) (m:Str→Option Value) (x:Str) (v:Value):Prop :=
  match env.kindOf x with
  | some .local=>m x = some v
  | some .cell=>∃ c,env.cells.lookup x = some c∧h.IsCell c (some v)
  | some .free=>∃ c,env.cells.lookup x = some c∧h.IsCell c (some v)
  | _=>False
noncomputable def OwnList (g h:Heap) (W:Addr→Prop) (a:Addr) (xs:List D):Prop :=
  ∃ vs n,h.get? a = some (listO vs n)∧vs.length≤sizeLine∧Rds g vs xs∧g.get? a = Option.none∧W a
noncomputable def OwnCell (g h:Heap) (W:Addr→Prop) (env:Env) (x:Str) (od:Option D):Prop :=
  ∃ c ov,env.cells.lookup x = some c∧h.IsCell c ov∧g.get? c = Option.none∧W c∧(∀ y,env.cells.lookup y = some c→y = x)∧∀ d,od = some d→∃ v,ov = some v∧Rd g v d
noncomputable abbrev appO (l:Addr):Obj:={ cls:=.type "builtin_function_or_method",data:=.fields #[.builtin "list.append",.ref l] }
noncomputable def BoundAppend (g:Heap) (q a:Addr):Prop:=g.get? q = some (appO a)
noncomputable def Holds (g h:Heap) (W:Addr→Prop) (env:Env) (m:Str→Option Value) (ad:Nat→Addr) (i:Nat) (x:Str):B→Prop
  | .val d=>∃ v,Var h env m x v∧Rd g v d
  | .own xs=>env.kindOf x = some .local∧m x = some (.ref (ad i))∧OwnList g h W (ad i) xs
  | .app y=>env.kindOf x = some .local∧∃ q,m x = some (.ref q)∧BoundAppend g q (ad y)
  | .cell od=>env.kindOf x = some .cell∧OwnCell g h W env x od
noncomputable abbrev Ctxt:=List (Option B)
structure St (S:Sig) (f:Fi) (Γ:Ctxt) (g:Heap) (W:Addr→Prop) (env:Env) (s:Shared):Prop where
  keep:Keep g s.heap
  base:Base S g
  tabs:Tabs S g s
  envIs:EnvIs f env
  wide:∀ a,s.heap.objs.size≤a→W a
  clt:∀ x c,env.cells.lookup x = some c→c < s.heap.objs.size
  vars:∃ m ad,s.heap.Ns env.locals m∧W env.locals∧g.get? env.locals = Option.none ∧
    (∀ i x b,f.vars[i]? = some x→Γ[i]? = some (some b)→Holds g s.heap W env m ad i x b) ∧
    ∀ i j xs ys,Γ[i]? = some (some (.own xs))→Γ[j]? = some (some (.own ys))→ad i = ad j→i = j
theorem Tabs.notT {S:Sig} {g:Heap} {s:Shared} (T:Tabs S g s) {a:Addr} {o:Obj} (e:s.heap.get? a = some o) (hd:∀ vs,o.data ≠ .fields vs):¬ S.T a:=fun ht=>by
  (refine e1_2 (List.mem_map.mp ht) (fun q hq q1q=>?_);subst q1q)
  refine e1_2 (T.all q hq) (fun ps e' _=>?_)
  rw [e] at e'
  cases e'
  exact hd _ rfl
theorem Tabs.newT {S:Sig} {g:Heap} {s:Shared} (T:Tabs S g s) {a:Addr} (h:s.heap.objs.size≤a):¬ S.T a:=fun q =>
  e1_2 (List.mem_map.mp q) fun p hp e=>e1_1 (T.all p hp) fun ps e'=>by subst e;exact absurd (Heap.lt_size e'.1) (Nat.not_lt.mpr h)
section
variable {S:Sig} {V:Addr→Prop} {g g':Heap} {s s':Shared}
theorem Tr.ns (t:Tr S V g s g' s') (T:Tabs S g s) {L:Addr} {m:Str→Option Value} (h:s.heap.Ns L m) (hl:¬ V L):s'.heap.Ns L m:=by
  refine e3_3 (h) (fun o es ep e hd r=>?_)
  (refine e1_2 (t.same L o hl (T.notT e (by rw [hd];nofun)) e) (fun o' e' k=>?_))
  exact ⟨o',es,ep,e',k.data.trans hd,r⟩
theorem Tr.isCell (t:Tr S V g s g' s') (T:Tabs S g s) {c:Addr} {v:Option Value} (h:s.heap.IsCell c v) (hl:¬ V c):s'.heap.IsCell c v:=by
  refine e1_2 (h) (fun o e hd=>?_)
  (refine e1_2 (t.same c o hl (T.notT e (by rw [hd];nofun)) e) (fun o' e' k=>?_))
  exact ⟨o',e',k.data.trans hd⟩
theorem Tr.none (t:Tr S V g s g' s') {a:Addr} (h:g.get? a = Option.none) (hl:¬ V a):g'.get? a = Option.none:=by
  cases e:g'.get? a with
  | none=>rfl
  | some o=>exact (t.fresh a o e).elim (fun q=>by rw [h] at q;cases q) fun q=>absurd q hl
theorem Tr.listO (t:Tr S V g s g' s') (T:Tabs S g s) {a:Addr} {vs:List Value} {n:Nat} (e:s.heap.get? a = some (listO vs n)) (hl:¬ V a):s'.heap.get? a = some (listO vs n) :=
  e1_2 (t.same a _ hl (T.notT e nofun) e) fun o' e' k=>by rw [e',k.eq notNs_list]
end
theorem OwnList.lt {g h:Heap} {W:Addr→Prop} {a:Addr} {xs:List D} (x:OwnList g h W a xs):a < h.objs.size:=e2_2 x fun _ _ e _=>Heap.lt_size e
section
variable {S:Sig} {f:Fi} {Γ:Ctxt} {g g':Heap} {W:Addr→Prop} {env:Env} {s s':Shared}
theorem Var.go {h h':Heap} {env:Env} {m m':Str→Option Value} {x:Str} {v:Value} (hv:Var h env m x v) (hm:m x = some v→m' x = some v) (hc:∀ c,env.cells.lookup x = some c→h.IsCell c (some v)→h'.IsCell c (some v)):Var h' env m' x v:=by
  unfold Var at hv ⊢
  generalize env.kindOf x = kd at hv ⊢
  cases kd with
  | none=>exact hv
  | some kd=>cases kd <;> first | exact hm hv | exact e1_2 hv fun c h1 h2=>⟨c,h1,hc c h1 h2⟩ | exact hv
theorem Holds.ownC {h:Heap} {m:Str→Option Value} {ad:Nat→Addr} {i:Nat} {x:Str} {xs:List D} {C:Prop} (H:Holds g h W env m ad i x (.own xs))
    (K:env.kindOf x = some .local→m x = some (.ref (ad i))→∀ vs n,h.get? (ad i) = some (listO vs n)→vs.length≤sizeLine→Rds g vs xs→g.get? (ad i) = Option.none→W (ad i)→C):C :=
  e0_3 H fun a1 a2 r=>e2_5 r (K a1 a2)
theorem Holds.cellC {h:Heap} {m:Str→Option Value} {ad:Nat→Addr} {i:Nat} {x:Str} {od:Option D} {C:Prop} (H:Holds g h W env m ad i x (.cell od))
    (K:env.kindOf x = some .cell→∀ c ov,env.cells.lookup x = some c→h.IsCell c ov→g.get? c = Option.none→W c→(∀ y,env.cells.lookup y = some c→y = x)→(∀ d,od = some d→∃ v,ov = some v∧Rd g v d)→C):C :=
  e0_2 H fun a1 r=>e2_6 r (K a1)
theorem Holds.go {h h':Heap} {W':Addr→Prop} {m m':Str→Option Value} {ad ad':Nat→Addr} {i:Nat} {x:Str} {b:B} (H:Holds g h W env m ad i x b) (kg:Keep g g') (hm:∀ v,m x = some v→m' x = some v)
    (hc:∀ c ov,env.cells.lookup x = some c→h.IsCell c ov→h'.IsCell c ov)
    (ho:∀ xs,b = .own xs→ad' i = ad i∧∀ vs n,h.get? (ad i) = some (listO vs n)→g.get? (ad i) = Option.none→W (ad i)→h'.get? (ad i) = some (listO vs n)∧g'.get? (ad i) = Option.none∧W' (ad i))
    (ha:∀ y,b = .app y→ad' y = ad y)
    (hw:∀ c ov,env.cells.lookup x = some c→h.IsCell c ov→g.get? c = Option.none→W c→g'.get? c = Option.none∧W' c):Holds g' h' W' env m' ad' i x b:=by
  cases b with
  | val d=>exact e1_2 H fun v hv hr=>⟨v,hv.go (hm v) (fun c=>hc c _),hr.mono kg⟩
  | own xs=>exact H.ownC fun a1 a2 vs n a3 a4 a5 a6 a7=>e0_2 (ho xs rfl) fun ea r=>e0_3 (r vs n a3 a6 a7) fun r1 r2 r3=>by unfold Holds OwnList;rw [ea];exact ⟨a1,hm _ a2,vs,n,r1,a4,a5.mono kg,r2,r3⟩
  | app y=>exact e0_2 H fun a1 r=>e1_2 r fun q a2 a3=>⟨a1,q,hm _ a2,by rw [ha y rfl];exact kg _ _ a3⟩
  | cell od=>exact H.cellC fun a1 c ov a2 a3 a4 a5 a6 a7=>e0_2 (hw c ov a2 a3 a4 a5) fun w1 w2=>⟨a1,c,ov,a2,hc c ov a2 a3,w1,w2,a6,fun d e=>e1_2 (a7 d e) fun v e' r=>⟨v,e',r.mono kg⟩⟩
theorem Tr.holds (t:Tr S (Nw s) g s g' s') (T:Tabs S g s) {m:Str→Option Value} {ad:Nat→Addr} {i:Nat} {x:Str} {b:B} (h:Holds g s.heap W env m ad i x b):Holds g' s'.heap W env m ad i x b :=
  h.go t.mono (fun _ e=>e) (fun _ _ _ h2=>t.isCell T h2 (Nat.not_le.mpr h2.lt)) (fun _ _=>⟨rfl,fun _ _ e n w=>⟨t.listO T e (Nat.not_le.mpr (Heap.lt_size e)),t.none n (Nat.not_le.mpr (Heap.lt_size e)),w⟩⟩) (fun _ _=>rfl)
    fun _ _ _ h2 n w=>⟨t.none n (Nat.not_le.mpr h2.lt),w⟩
theorem St.move (h:St S f Γ g W env s) (t:Tr S (Nw s) g s g' s'):St S f Γ g' W env s' where
  keep:=t.keep
  base:=t.base
  tabs:=t.now
  envIs:=h.envIs
  wide:=fun a l=>h.wide a (Nat.le_trans t.size l)
  clt:=fun x c e=>Nat.lt_of_lt_of_le (h.clt x c e) t.size
  vars:=by
    refine e2_5 (h.vars) (fun m ad h1 h2 h3 h4 h5=>?_)
    exact ⟨m,ad,t.ns h.tabs h1 (Nat.not_le.mpr h1.lt),h2,t.none h3 (Nat.not_le.mpr h1.lt),fun i x b e e'=>t.holds h.tabs (h4 i x b e e'),h5⟩
theorem St.new (h:St S f Γ g W env s):∀ a,Nw s a→W a:=h.wide
end
structure Room (S:Sig) (k:Nat) (A:Around):Prop where
  handled:S.hd = true→A.handled = none
  depth:A.depth + k < recursionLimit
  units:A.units + 40 * k + 100 < cLine
theorem Room.le {S:Sig} {k j:Nat} {A:Around} (h:Room S k A) (l:j≤k):Room S j A:=⟨h.handled,by have:=h.depth;lia,by have:=h.units;lia⟩
noncomputable def EV (S:Sig) (k:Nat) (f:Fi) (Γ:Ctxt) (e:Expr) (d:D):Prop :=
  ∀ (A:Around) (g:Heap) (W:Addr→Prop) (env:Env) (s:Shared) (Q:Value→Shared→Prop) (E:Value→Shared→Prop),Room S k A→St S f Γ g W env s →
    (∀ v g' s',Tr S (Nw s) g s g' s'→Rd g' v d→Q v s')→wpAny S.M A (eval e env) Q E s
noncomputable def TV (S:Sig) (k:Nat) (f:Fi) (Γ:Ctxt) (e:Expr) (b:Bool):Prop :=
  ∀ (A:Around) (g:Heap) (W:Addr→Prop) (env:Env) (s:Shared) (Q:Bool→Shared→Prop) (E:Value→Shared→Prop),Room S k A→St S f Γ g W env s →
    (∀ g' s',Tr S (Nw s) g s g' s'→Q b s')→wpAny S.M A (isTrue e env (eval e env)) Q E s
inductive Res where
  | next (Γ:Ctxt)
  | ret (d:D)
  | brk (Γ:Ctxt)
  | cont (Γ:Ctxt)
noncomputable def Post (S:Sig) (f:Fi) (r:Res) (g:Heap) (W:Addr→Prop) (env:Env) (fl:Flow) (s:Shared):Prop :=
  match r with
  | .next Γ=>fl = .next∧St S f Γ g W env s
  | .ret d=>∃ v,fl = .ret v∧Rd g v d
  | .brk Γ=>fl = .brk∧St S f Γ g W env s
  | .cont Γ=>fl = .cont∧St S f Γ g W env s
noncomputable def EX (S:Sig) (k:Nat) (f:Fi) (Γ:Ctxt) (st:Stmt) (r:Res):Prop :=
  ∀ (A:Around) (g:Heap) (W:Addr→Prop) (env:Env) (s:Shared) (Q:Flow→Shared→Prop) (E:Value→Shared→Prop),Room S k A→St S f Γ g W env s →
    (∀ fl g' s',Tr S W g s g' s'→Post S f r g' W env fl s'→Q fl s')→wpAny S.M A (exec st env) Q E s
noncomputable def EXs (S:Sig) (k:Nat) (f:Fi) (Γ:Ctxt) (sts:List Stmt) (r:Res):Prop :=
  ∀ (A:Around) (g:Heap) (W:Addr→Prop) (env:Env) (s:Shared) (Q:Flow→Shared→Prop) (E:Value→Shared→Prop),Room S k A→St S f Γ g W env s →
    (∀ fl g' s',Tr S W g s g' s'→Post S f r g' W env fl s'→Q fl s')→wpAny S.M A (execs sts env) Q E s
end
section
open PySem PySem.W PySem.Calls PyProof.Rows
structure At (S:Sig) (k:Nat) (A:Around) (g:Heap) (s:Shared):Prop where
  room:Room S k A
  keep:Keep g s.heap
  base:Base S g
  tabs:Tabs S g s
section
variable {S:Sig} {k:Nat} {f:Fi} {Γ:Ctxt} {A:Around} {g g':Heap} {W:Addr→Prop} {env:Env} {s s':Shared}
theorem St.at (h:St S f Γ g W env s) (R:Room S k A):At S k A g s:=⟨R,h.keep,h.base,h.tabs⟩
theorem Tr.at {V:Addr→Prop} (t:Tr S V g s g' s') (R:Room S k A):At S k A g' s':=⟨R,t.keep,t.base,t.now⟩
theorem At.refl (a:At S k A g s) (V:Addr→Prop):Tr S V g s g s:=Tr.refl V a.keep a.base a.tabs
theorem At.tick (a:At S k A g s) (V:Addr→Prop) {t:Nat} (ht:s.toks≤t):Tr S V g s g { s with toks:=t }:=Tr.tick V a.keep a.base a.tabs ht
theorem Tr.then {g₂:Heap} {s₂:Shared} (x:Tr S (Nw s) g s g' s') (y:Tr S (Nw s') g' s' g₂ s₂):Tr S (Nw s) g s g₂ s₂:=x.trans y fun _ l=>Nat.le_trans x.size l
end
noncomputable def Op1 (S:Sig) (k:Nat) (t:Value→Sem Value) (d₁ d:D):Prop :=
  ∀ (A:Around) (g:Heap) (s:Shared) (v₁:Value) (Q:Value→Shared→Prop) (E:Value→Shared→Prop),At S k A g s→Rd g v₁ d₁ →
    (∀ v g' s',Tr S (Nw s) g s g' s'→Rd g' v d→Q v s')→wpAny S.M A (t v₁) Q E s
noncomputable def Op2 (S:Sig) (k:Nat) (t:Value→Value→Sem Value) (d₁ d₂ d:D):Prop :=
  ∀ (A:Around) (g:Heap) (s:Shared) (v₁ v₂:Value) (Q:Value→Shared→Prop) (E:Value→Shared→Prop),At S k A g s→Rd g v₁ d₁→Rd g v₂ d₂ →
    (∀ v g' s',Tr S (Nw s) g s g' s'→Rd g' v d→Q v s')→wpAny S.M A (t v₁ v₂) Q E s
noncomputable def Ops (S:Sig) (k:Nat) (t:List Value→Sem Value) (ds:List D) (d:D):Prop :=
  ∀ (A:Around) (g:Heap) (s:Shared) (vs:List Value) (Q:Value→Shared→Prop) (E:Value→Shared→Prop),At S k A g s→Rds g vs ds →
    (∀ v g' s',Tr S (Nw s) g s g' s'→Rd g' v d→Q v s')→wpAny S.M A (t vs) Q E s
noncomputable def OpT (S:Sig) (k:Nat) (d:D) (b:Bool):Prop :=
  ∀ (A:Around) (g:Heap) (s:Shared) (v:Value) (Q:Bool→Shared→Prop) (E:Value→Shared→Prop),At S k A g s→Rd g v d →
    (∀ g' s',Tr S (Nw s) g s g' s'→Q b s')→wpAny S.M A (truthy v) Q E s
section
variable {S:Sig} {k:Nat} {f:Fi} {Γ:Ctxt} {e l r:Expr} {d d₁ d₂:D} {pos:Pos}
theorem kindOf_eq {f:Fi} {env:Env} (h:EnvIs f env) (x:Str):env.kindOf x = f.scope.names.lookup x:=by
  show env.scope.names.lookup x = _
  rw [h.scope]
theorem EV.name {x:Str} (i:Nat) (hx:f.vars[i]? = some x) (hl:Γ[i]? = some (some (.val d))) (hd:(x == ("__debug__":Str)) = false:=by decide) (hcd:(x == ("__classdict__":Str)) = false:=by decide):EV S k f Γ (.Name x pos) d:=by
  intro A g W env s Q E R st h
  refine e2_5 (st.vars) (fun m ad hns hb hg hH hI=>?_)
  refine e1_2 (hH i x _ hx hl) (fun v hv hr=>?_)
  refine wpAny_Name ?_ hd
  have fin:=h v g s ((st.at R).refl _) hr
  unfold Var at hv
  cases hk:env.kindOf x with
  | none=>rw [hk] at hv;exact hv.elim
  | some kd =>
    rw [hk] at hv
    cases kd <;> first | exact wpAny_loadName_local st.envIs.kind hk hns hv fin | exact e1_2 hv fun c h1 h2=>wpAny_loadName_cell st.envIs.kind hk h1 h2 fin | exact e1_2 hv fun c h1 h2=>wpAny_loadName_free st.envIs.kind hk h1 h2 fin hcd | exact hv.elim
theorem EV.global {x:Str} {v:Value} (hk:f.scope.names.lookup x = some .globalImplicit) (hn:nsIn S.K mainGlobals x = some (some v)) (hd:(x == ("__debug__":Str)) = false:=by decide):EV S k f Γ (.Name x pos) (.raw v):=by
  intro A g W env s Q E R st h
  have e:env.globals = mainGlobals:=st.envIs.globals
  refine Name_function_global st.envIs.kind ((kindOf_eq st.envIs x).trans hk) (loadGlobal_global (env:=env) (mg:=S.mg) ?_ (mg_of st.base.kin st.base.glob hn) (h v g s ((st.at R).refl _) (.raw v))) hd
  rw [e]
  exact st.base.glob.keeps st.keep
theorem EV.boot {x:Str} {v:Value} (hk:f.scope.names.lookup x = some .globalImplicit) (hn:nsIn S.K mainGlobals x = some none) (hv:bootBuiltins x = some v) (hx:x ≠ "__name__":=by decide) (hd:(x == ("__debug__":Str)) = false:=by decide):EV S k f Γ (.Name x pos) (.raw v):=by
  intro A g W env s Q E R st h
  have e:env.globals = mainGlobals:=st.envIs.globals
  have e2:env.builtins = builtinsNs:=st.envIs.builtins
  refine Name_function_global st.envIs.kind ((kindOf_eq st.envIs x).trans hk) (loadGlobal_builtin (env:=env) (mg:=S.mg) (mb:=S.mb) ?_ (mg_none_of st.base.kin st.base.glob hn) ?_ ((st.base.boot x hx).trans hv) (h v g s ((st.at R).refl _) (.raw v))) hd
  · rw [e];exact st.base.glob.keeps st.keep
  · rw [e2];exact st.base.blt.keeps st.keep
theorem EV.cInt {i:Int} {kk:Nat}:EV S k f Γ (.Constant (.int i) kk pos) (.int i):=by
  intro A g W env s Q E R st h
  exact wpAny_Constant_int (h _ g _ ((st.at R).tick _ (Nat.le_succ _)) (.int i _))
theorem EV.cStr {x:Str} {cs:List Nat} {kk:Nat} (hx:x.cps.toList = cs) (hl:cs.length≤sizeLine):EV S k f Γ (.Constant (.str x) kk pos) (.str cs):=by
  intro A g W env s Q E R st h
  subst hx
  exact Constant_str (h _ g _ ((st.at R).tick _ (Nat.le_succ _)) (by have:=Rd.str (g:=g) x.cps.toList s.toks hl;simpa using this))
theorem EV.cBool {b:Bool} {kk:Nat}:EV S k f Γ (.Constant (.bool b) kk pos) (.bool b):=by
  intro A g W env s Q E R st h
  exact wpAny_Constant_bool (h _ g _ ((st.at R).refl _) (.raw _))
theorem EV.cNone {kk:Nat}:EV S k f Γ (.Constant .none kk pos) .none:=by
  intro A g W env s Q E R st h
  exact wpAny_Constant_none (h _ g _ ((st.at R).refl _) (.raw _))
theorem EV.bin {op:Operator} (h1:EV S k f Γ l d₁) (h2:EV S k f Γ r d₂) (h3:Op2 S k (binaryOp op) d₁ d₂ d):EV S k f Γ (.BinOp l op r pos) d:=by
  intro A g W env s Q E R st h
  exact wpAny_BinOp (h1 A g W env s _ E R st fun v1 g1 s1 t1 r1=>h2 A g1 W env s1 _ E R (st.move t1) fun v2 g2 s2 t2 r2 =>
    h3 A g2 s2 v1 v2 Q E (t2.at R) (r1.mono t2.mono) r2 fun v g3 s3 t3 r3=>h v g3 s3 ((t1.then t2).then t3) r3)
theorem EV.un {op:UnaryOp} (h1:EV S k f Γ l d₁) (h3:Op1 S k (unaryOp op) d₁ d):EV S k f Γ (.UnaryOp op l pos) d:=by
  intro A g W env s Q E R st h
  exact wpAny_UnaryOp (h1 A g W env s _ E R st fun v1 g1 s1 t1 r1=>h3 A g1 s1 v1 Q E (t1.at R) r1 fun v g3 s3 t3 r3=>h v g3 s3 (t1.then t3) r3)
theorem OpT.bool {b:Bool}:OpT S k (.bool b) b:=by
  intro A g s v Q E a r h
  cases r using Rd.casesRaw
  exact wpAny_truthy_bool (h g s (a.refl _))
theorem OpT.str {x:List Nat}:OpT S k (.str x) (decide (x ≠ [])):=by
  intro A g s v Q E a r h
  cases r using Rd.casesStr with
  | str t hs =>
    have hz:=sizeLine_eq
    have e:(((⟨x.toArray⟩:Str).length:Int) != 0) = decide (x ≠ []):=by
      show ((x.toArray.size:Int) != 0) = _
      cases x <;> simp;lia
    refine P.truthy_str ?_ ?_
    · show ¬ ((x.toArray.size:Int) ≥ 2 ^ 63)
      simp only [List.size_toArray];lia
    · rw [e];exact h g _ (a.tick _ (by lia))
theorem OpT.list {xs:List D}:OpT S k (.list xs) (decide (xs ≠ [])):=by
  intro A g s v Q E a r h
  cases r using Rd.casesList with
  | list ho hl rs =>
    rename_i ad vs n
    have hz:=sizeLine_eq
    have hlen:=rs.length
    refine wpAny_truthy_list (items:=vs.toArray) ⟨_,a.keep _ _ ho,rfl,n,rfl⟩ (by simp only [List.size_toArray];lia) ?_
    have e:(!vs.toArray.isEmpty) = decide (xs ≠ []):=by
      cases rs <;> simp
    rw [e];exact h g _ (a.tick _ (by lia))
theorem TV.val (hv:∀ env w,isTrue e env w = (do let v ← w;standAt e.pos;holding [v] (truthy v))) (h1:EV S k f Γ e d) {b:Bool} (h2:OpT S k d b):TV S k f Γ e b:=by
  intro A g W env s Q E R st h
  rw [hv]
  exact wpAny_bind (wpAny_mono (h1 A g W env s (fun v s₁=>wpAny S.M A (truthy v) Q E s₁) E R st fun v1 g1 s1 t1 r1=>h2 A g1 s1 v1 Q E (t1.at R) r1 fun g2 s2 t2=>h g2 s2 (t1.then t2))
    (fun v s₁ h₁=>wpAny_bind (wpAny_standAt (wpAny_holding h₁))) fun _ _ x=>x)
theorem TV.not {b:Bool} (h1:TV S k f Γ e b):TV S k f Γ (.UnaryOp .Not e pos) (!b):=by
  intro A g W env s Q E R st h
  rw [arm_isTrue_UnaryOp]
  exact wpAny_bind (wpAny_mono (h1 A g W env s (fun b' s₁=>Q (!b') s₁) E R st fun g1 s1 t1=>h g1 s1 t1) (fun v s₁ h₁=>wpAny_pure h₁) fun _ _ x=>x)
theorem TV.cmp {op:CmpOp} {b:Bool} (h1:EV S k f Γ l d₁) (h2:EV S k f Γ r d₂) (h3:Op2 S k (compareOp op) d₁ d₂ (.bool b)) (hm:behindInMarks op r = false:=by rfl):TV S k f Γ (.Compare l [op] [r] pos) b:=by
  intro A g W env s Q E R st h
  refine wpAny_isTrue_Compare1 (h1 A g W env s _ E R st fun v1 g1 s1 t1 r1=>h2 A g1 W env s1 _ E R (st.move t1) fun v2 g2 s2 t2 r2 =>
    h3 A g2 s2 v1 v2 _ E (t2.at R) (r1.mono t2.mono) r2 fun v g3 s3 t3 r3=>?_) hm
  exact (OpT.bool (k:=k)) A g3 s3 v Q E (t3.at R) r3 fun g4 s4 t4=>h g4 s4 (((t1.then t2).then t3).then t4)
end
theorem At.push {S:Sig} {k:Nat} {A:Around} {g:Heap} {s:Shared} (a:At S k A g s) (o:Obj) (hf:o.isFreed = false:=by rfl) {t:Nat} (ht:s.toks≤t:=by lia) :
    ∃ g',Tr S (Nw s) g s g' { s with heap:=s.heap.push o,toks:=t }∧g'.get? s.heap.objs.size = some o:=by
  refine e1_3 (Tr.grow (s':={ s with heap:=s.heap.push o,toks:=t }) (fun _=>True) a.keep a.base a.tabs (fun b x e=>Heap.get?_push_of_some _ e) (by simp) rfl rfl ht) (fun g' h1 h2 _=>?_)
  exact ⟨g',h1,h2 _ _ (Heap.get?_push_size _ hf) (Nat.le_refl _) trivial⟩
structure EVs (S:Sig) (k:Nat) (f:Fi) (Γ:Ctxt) (es:List Expr) (ds:List D):Prop where
  plain:∀ env pos,(backTo pos (starEach es env)).any (·.1) = false
  run:∀ (pos:Pos) (A:Around) (g:Heap) (W:Addr→Prop) (env:Env) (s:Shared) (Q:List Value→Shared→Prop) (E:Value→Shared→Prop),Room S k A→St S f Γ g W env s →
    (∀ vs g' s',Tr S (Nw s) g s g' s'→Rds g' vs ds→Q vs s')→wpAny S.M A (spliced (backTo pos (starEach es env))) Q E s
section
variable {S:Sig} {k:Nat} {f:Fi} {Γ:Ctxt} {e l r:Expr} {es:List Expr} {d d₁ d₂:D} {ds:List D} {pos:Pos}
theorem EVs.nil:EVs S k f Γ [] []:=⟨fun _ _=>rfl,fun pos A g W env s Q E R st h=>spliced_nil (h [] g s ((st.at R).refl _) .nil)⟩
theorem EVs.cons (h1:EV S k f Γ e d) (h2:EVs S k f Γ es ds) (hs:∀ env,starEach (e :: es) env = (false,eval e env) :: starEach es env:=by intro _;rfl):EVs S k f Γ (e :: es) (d :: ds):=by
  refine ⟨fun env pos=>?_,fun pos A g W env s Q E R st h=>?_⟩
  · rw [hs]
    show (false || (backTo pos (starEach es env)).any (·.1)) = false
    rw [h2.plain];rfl
  · rw [hs]
    show wpAny S.M A (spliced ((false,eval e env) :: backTo pos (starEach es env))) Q E s
    exact spliced_cons (h1 A g W env s _ E R st fun v g1 s1 t1 r1=>h2.run pos A g1 W env s1 _ E R (st.move t1) fun vs g2 s2 t2 r2=>h _ g2 s2 (t1.then t2) (.cons (r1.mono t2.mono) r2))
theorem EV.list (h:EVs S k f Γ es ds) (hl:ds.length≤sizeLine:=by decide):EV S k f Γ (.List es pos) (.list ds):=by
  intro A g W env s Q E R st hQ
  refine wpAny_List_spliced (h.run pos A g W env s _ E R st fun vs g1 s1 t1 r1=>?_)
  have hlen:=r1.length
  refine e1_2 ((t1.at R).push { cls:=.type "list",data:=.seq vs.toArray } (t:=s1.toks)) (fun g2 t2 e2=>?_)
  exact ⟨by lia,hQ _ g2 _ (t1.then t2) (.list e2 (by lia) (r1.mono t2.mono))⟩
theorem EV.tup {kk:Nat} (h:EVs S k f Γ es ds) (hl:ds.length≤sizeLine:=by decide):EV S k f Γ (.Tuple es kk pos) (.tup ds):=by
  intro A g W env s Q E R st hQ
  refine wpAny_Tuple_spliced (h.run pos A g W env s _ E R st fun vs g1 s1 t1 r1=>?_)
  have hlen:=r1.length
  refine e1_2 ((t1.at R).push { cls:=.type "tuple",data:=.seq vs.toArray } (t:=s1.toks)) (fun g2 t2 e2=>?_)
  exact ⟨by lia,hQ _ g2 _ (t1.then t2) (.tup e2 (by lia) (r1.mono t2.mono))⟩
theorem EV.ifExp {c:Expr} {b:Bool} (h1:TV S k f Γ c b) (h2:b = true→EV S k f Γ l d) (h3:b = false→EV S k f Γ r d):EV S k f Γ (.IfExp c l r pos) d:=by
  intro A g W env s Q E R st hQ
  refine wpAny_IfExp (h1 A g W env s _ E R st fun g1 s1 t1=>?_)
  cases b with
  | true=>exact h2 rfl A g1 W env s1 Q E R (st.move t1) fun v g2 s2 t2 r2=>hQ v g2 s2 (t1.then t2) r2
  | false=>exact h3 rfl A g1 W env s1 Q E R (st.move t1) fun v g2 s2 t2 r2=>hQ v g2 s2 (t1.then t2) r2
noncomputable def ATV (S:Sig) (k:Nat) (f:Fi) (Γ:Ctxt) (op:BoolOp) (es:List Expr) (b:Bool):Prop :=
  ∀ (A:Around) (g:Heap) (W:Addr→Prop) (env:Env) (s:Shared) (Q:Bool→Shared→Prop) (E:Value→Shared→Prop),Room S k A→St S f Γ g W env s →
    (∀ g' s',Tr S (Nw s) g s g' s'→Q b s')→wpAny S.M A (allTrue op es env) Q E s
theorem ATV.andNil:ATV S k f Γ .And [] true:=fun A g W env s Q E R st h=>wpAny_allTrue_And_nil (h g s ((st.at R).refl _))
theorem ATV.orNil:ATV S k f Γ .Or [] false:=fun A g W env s Q E R st h=>wpAny_allTrue_Or_nil (h g s ((st.at R).refl _))
theorem ATV.and {b c:Bool} (h1:TV S k f Γ e b) (h2:b = true→ATV S k f Γ .And es c):ATV S k f Γ .And (e :: es) (b && c):=by
  intro A g W env s Q E R st h
  refine wpAny_allTrue_And_cons (h1 A g W env s _ E R st fun g1 s1 t1=>?_)
  cases b with
  | true=>exact h2 rfl A g1 W env s1 Q E R (st.move t1) fun g2 s2 t2=>h g2 s2 (t1.then t2)
  | false=>exact h g1 s1 t1
theorem ATV.or {b c:Bool} (h1:TV S k f Γ e b) (h2:b = false→ATV S k f Γ .Or es c):ATV S k f Γ .Or (e :: es) (b || c):=by
  intro A g W env s Q E R st h
  refine wpAny_allTrue_Or_cons (h1 A g W env s _ E R st fun g1 s1 t1=>?_)
  cases b with
  | false=>exact h2 rfl A g1 W env s1 Q E R (st.move t1) fun g2 s2 t2=>h g2 s2 (t1.then t2)
  | true=>exact h g1 s1 t1
theorem TV.boolOp {op:BoolOp} {b:Bool} (h:ATV S k f Γ op es b):TV S k f Γ (.BoolOp op es pos) b:=by
  intro A g W env s Q E R st hQ
  exact wpAny_isTrue_BoolOp (h A g W env s Q E R st hQ)
noncomputable def BV (S:Sig) (k:Nat) (f:Fi) (Γ:Ctxt) (op:BoolOp) (es:List Expr) (d:D):Prop :=
  ∀ (pos:Pos) (A:Around) (g:Heap) (W:Addr→Prop) (env:Env) (s:Shared) (Q:Value→Shared→Prop) (E:Value→Shared→Prop),Room S k A→St S f Γ g W env s →
    (∀ v g' s',Tr S (Nw s) g s g' s'→Rd g' v d→Q v s')→wpAny S.M A (boolOp pos op (evalEach es env)) Q E s
theorem BV.cons {op:BoolOp} {b:Bool} {e':Expr} (h1:EV S k f Γ e d₁) (h2:OpT S k d₁ b) (h3:(b = (op == .Or))→d = d₁) (h4:(b = (op == .And))→BV S k f Γ op (e' :: es) d):BV S k f Γ op (e :: e' :: es) d:=by
  intro pos A g W env s Q E R st hQ
  show wpAny S.M A (do
    let v ← eval e env
    standAt pos
    let t ← holding [v] (truthy v)
    match op,t with
    | .And,false | .Or,true=>pure v
    | _,_=>boolOp pos op (evalEach (e' :: es) env)) Q E s
  refine wpAny_bind (h1 A g W env s _ E R st fun v g1 s1 t1 r1=>wpAny_bind (wpAny_standAt (wpAny_bind (wpAny_holding (h2 A g1 s1 v _ E (t1.at R) r1 fun g2 s2 t2=>?_)))))
  have go:(b = (op == .And))→wpAny S.M A (boolOp pos op (evalEach (e' :: es) env)) Q E s2:=fun q =>
    h4 q pos A g2 W env s2 Q E R ((st.move t1).move t2) fun v' g3 s3 t3 r3=>hQ v' g3 s3 ((t1.then t2).then t3) r3
  have stop:(b = (op == .Or))→wpAny S.M A (pure v) Q E s2:=fun q=>wpAny_pure (hQ v g2 s2 (t1.then t2) (by rw [h3 q];exact r1.mono t2.mono))
  cases op <;> cases b
  · exact stop rfl
  · exact go rfl
  · exact go rfl
  · exact stop rfl
theorem EV.boolOp {op:BoolOp} (h:BV S k f Γ op es d):EV S k f Γ (.BoolOp op es pos) d:=by
  intro A g W env s Q E R st hQ
  rw [arm_eval_BoolOp]
  exact h pos A g W env s Q E R st hQ
theorem evalArgs_any {M:Model} {A:Around} {E:Value→Shared→Prop} {s:Shared} {fv:Value} {args:List (Bool × Sem Value)} {Q:Args→Shared→Prop} (hp:args.any (·.1) = false)
    (h:wpAny M A (spliced args) (fun vs s₁=>Q ⟨vs,[]⟩ s₁) E s):wpAny M A (evalArgs fv true args []) Q E s:=by
  cases args with
  | nil =>
    unfold evalArgs
    show wpAny M A (spliced [] >>= _) Q E s
    refine wpAny_bind (wpAny_mono h (fun vs s₁ h₁=>?_) fun _ _ x=>x)
    refine wpAny_bind (wpAny_pure ?_)
    refine wpAny_holding ?_
    exact wpAny_bind (wpAny_pure (wpAny_bind (wpAny_pure (wpAny_pure h₁))))
  | cons x rest =>
    obtain ⟨b,t⟩:=x
    cases b with
    | true=>simp at hp
    | false=>exact evalArgs_plain h
noncomputable def Callee (S:Sig) (fv:Value):Prop:=∀ h,S.K.In h→∃ kk,(kk = Keeper.frame ∨ kk = Keeper.machine ∨ kk = Keeper.boundFrame)∧Looks S.M h (keeperOf fv) kk
theorem Callee.builtin {id:String}:Callee S (.builtin id):=fun _ _=>⟨.machine,.inr (.inl rfl),.of_pure rfl⟩
theorem Callee.type {T:String}:Callee S (.type T):=fun _ _=>⟨.machine,.inr (.inl rfl),.of_pure rfl⟩
theorem Callee.fn {fv:Value} (h:keepIn S.K fv = true):Callee S fv:=fun hp X=>keeps_K h hp X
theorem EV.call {fn:Expr} {fv:Value} (hn:∀ env,eval (.Call fn es [] pos) env = (do callWith pos (← eval fn env) [] (backTo pos (starEach es env)) (backToKw pos (keywordEach [] env)))) (h1:EV S k f Γ fn (.raw fv)) (hc:Callee S fv) (h2:EVs S k f Γ es ds) (h3:Ops S k (fun vs=>PySem.call fv vs) ds d) :
    EV S k f Γ (.Call fn es [] pos) d:=by
  intro A g W env s Q E R st hQ
  rw [hn]
  refine wpAny_bind (h1 A g W env s _ E R st fun v g1 s1 t1 r1=>?_)
  cases r1 using Rd.casesRaw
  refine callWith_of (P:=fun h=>S.K.In h) (by show ((backTo pos (starEach es env)).any (·.1) || false) = false;rw [h2.plain];rfl) hc ?_
  refine evalArgs_any (h2.plain _ _) (h2.run pos A g1 W env s1 _ E R (st.move t1) fun vs g2 s2 t2 r2=>⟨t2.base.kin.keeps t2.keep,?_⟩)
  exact h3 A g2 s2 vs Q E (t2.at R) r2 fun v' g3 s3 t3 r3=>hQ v' g3 s3 ((t1.then t2).then t3) r3
noncomputable def TyD:D→String→Prop
  | .str _,T=>T = "str"
  | .int _,T=>T = "int"
  | .list _,T=>T = "list"
  | .tup _,T=>T = "tuple"
  | .rng ..,T=>T = "range"
  | .obj _ o,T=>o.cls = .type T∧o.dict = Option.none
  | .abs P,T=>∀ h v,P h v→∃ a o,v = .ref a∧h.get? a = some o∧o.cls = .type T∧o.dict = Option.none
  | .raw _,_=>False
theorem ref_is {g:Heap} {a:Addr} {o:Obj} {T:String} {s:Shared} (kp:Keep g s.heap) (e:g.get? a = some o) (hc:o.cls = .type T) (hd:o.dict = Option.none):s.TypeIs (.ref a) T∧∀ b,Value.ref a = .ref b→∃ ob,s.heap.get? b = some ob∧ob.dict = Option.none :=
  ⟨⟨o,kp _ _ e,hc⟩,fun b q=>⟨o,by injection q with q;exact q ▸ kp _ _ e,hd⟩⟩
theorem TyD.is {g:Heap} {v:Value} {d:D} {T:String} {s:Shared} (h:TyD d T) (r:Rd g v d) (kp:Keep g s.heap):s.TypeIs v T∧∀ a,v = .ref a→∃ ob,s.heap.get? a = some ob∧ob.dict = Option.none:=by
  cases r with
  | raw=>exact h.elim
  | int i t=>cases h;exact ⟨typeIs_int s i t,nofun⟩
  | str x t=>cases h;exact ⟨typeIs_str s _ t,nofun⟩
  | list e=>exact ref_is kp e (h ▸ rfl) rfl
  | tup e=>exact ref_is kp e (h ▸ rfl) rfl
  | rng e=>exact ref_is kp e (h ▸ rfl) rfl
  | obj e=>exact ref_is kp e h.1 h.2
  | abs f=>exact e2_4 (h _ _ (f s.heap kp)) fun a o q e hc hd=>by subst q;exact ref_is (fun _ _ z=>z) e hc hd
theorem EV.meth {o:Expr} {name:Str} {apos:Pos} {T id:String} {d₀:D} (pa:PlainAttrs T) (slot:Slot T name id) (hty:typeOf (.builtin id) = pure (.type "method_descriptor"))
    (h1:EV S k f Γ o d₀) (ht:TyD d₀ T) (h2:EVs S k f Γ es ds) (h3:Ops S k (fun vs=>PySem.call (.builtin id) vs) (d₀ :: ds) d)
    (hbase:∀ env,attributeBase o name env (eval o env) = eval o env:=by intro _;rfl)
    (hline:(apos.endLine == pos.line) = true:=by rfl)
    (hfew:∀ env,((backTo pos (starEach es env)).all (fun x=>!x.1) && (backToKw pos (keywordEach [] env)).all (fun x=>x.1.isSome)
      && decide (es.length + ([]:List Keyword).length + (if ([]:List Keyword).isEmpty then 0 else 1) < 30)) = true:=by intro _;rfl) :
    EV S k f Γ (.Call (.Attribute o name apos) es [] pos) d:=by
  intro A g W env s Q E R st hQ
  refine wpAny_Call_method (T:=T) (id:=id) (hbase env) (hfew env) hline pa slot hty ?_
  refine h1 A g W env s _ E R st fun ov g1 s1 t1 r1=>?_
  refine e0_2 (ht.is r1 t1.keep) (fun hT hd=>?_)
  refine ⟨hT,hd,?_⟩
  refine callWith_of (P:=fun h=>S.K.In h) (by show ((backTo pos (starEach es env)).any (·.1) || false) = false;rw [h2.plain];rfl) (Callee.builtin (S:=S)) ?_
  refine evalArgs_any (h2.plain _ _) (h2.run pos A g1 W env s1 _ E R (st.move t1) fun vs g2 s2 t2 r2=>⟨t2.base.kin.keeps t2.keep,?_⟩)
  exact h3 A g2 s2 (ov :: vs) Q E (t2.at R) (.cons (r1.mono t2.mono) r2) fun v' g3 s3 t3 r3=>hQ v' g3 s3 ((t1.then t2).then t3) r3
theorem EV.item {T id:String} (h1:EV S k f Γ l d₁) (h2:EV S k f Γ r d₂) (ht:TyD d₁ T) (hl:typeLookup (.type T) "__getitem__" = pure (some (.builtin id))) (h3:Op2 S k getItem d₁ d₂ d)
    (hs:∀ o i,subscripted r false o i = operate [o,i] (getItem o i):=by intro _ _;with_unfolding_all rfl):EV S k f Γ (.Subscript l r pos) d:=by
  intro A g W env s Q E R st hQ
  refine Subscript_ (h1 A g W env s _ E R st fun v1 g1 s1 t1 r1=>h2 A g1 W env s1 _ E R (st.move t1) fun v2 g2 s2 t2 r2=>?_)
  refine tail_any (ht.is (r1.mono t2.mono) t2.keep).1 hl ?_ (hs _ _)
  exact h3 A g2 s2 v1 v2 Q E (t2.at R) (r1.mono t2.mono) r2 fun v g3 s3 t3 r3=>hQ v g3 s3 ((t1.then t2).then t3) r3
end
end
section
open PySem PySem.W PySem.Calls PyProof.Rows
section
variable {S:Sig} {k:Nat} {f:Fi} {Γ Γ' Γ₁ Γ₂:Ctxt} {e l r:Expr} {es:List Expr} {d d₁ d₂:D} {ds:List D} {pos p':Pos} {st:Stmt} {sts:List Stmt} {res:Res}
theorem Tr.set {W:Addr→Prop} {a:Addr} {g:Heap} {s:Shared} {h':Heap} {t:Nat} (kp:Keep g s.heap) (B:Base S g) (T:Tabs S g s) (hs:Heap.SameBut a s.heap h') (ha:W a) (hg:g.get? a = Option.none) (hT:¬ S.T a) (ht:s.toks≤t):Tr S W g s g { s with heap:=h',toks:=t } where
  mono:=.refl g
  keep:=fun b o e=>(hs.2 b (fun q=>by rw [q,hg] at e;cases e)).trans (kp b o e)
  same:=fun b o l n e=>⟨o,(hs.2 b (fun q=>l (q ▸ ha))).trans e,.refl o⟩
  fresh:=fun _ _ e=>.inl e
  size:=Nat.le_of_eq hs.1.symm
  tabs:=fun q hq ps e=>⟨#[],by rw [hs.2 q.2 (fun z=>hT (by rw [← z];exact List.mem_map_of_mem hq)),e,Array.append_empty]⟩
  base:=B
  now:=⟨Nat.lt_of_lt_of_le T.pos ht,fun q hq=>e1_3 (T.all q hq) fun ps e1 e2 e3=>⟨ps,(hs.2 q.2 (fun z=>hT (by rw [← z];exact List.mem_map_of_mem hq))).trans e1,e2,e3⟩⟩
  os:=rfl
  bare:=id
  gens:=Nat.le_refl _
  toks:=ht
theorem get_set {Γ:Ctxt} {i j:Nat} {b c:B} (h:(Γ.set i (some b))[j]? = some (some c)):(j = i∧c = b) ∨ (j ≠ i∧Γ[j]? = some (some c)):=by
  rw [List.getElem?_set] at h
  by_cases q:i = j
  · simp only [q,if_true] at h
    split at h
    · simp only [Option.some.injEq] at h;exact .inl ⟨q.symm,h.symm⟩
    · cases h
  · simp only [q,if_false] at h;exact .inr ⟨fun z=>q z.symm,h⟩
theorem inj_set {ad:Nat→Addr} {i:Nat} {b:B} (hb:∀ ys,b ≠ .own ys) (hI:∀ p q xs ys,Γ[p]? = some (some (.own xs))→Γ[q]? = some (some (.own ys))→ad p = ad q→p = q) (p q:Nat) (xs ys:List D)
    (h1:(Γ.set i (some b))[p]? = some (some (.own xs))) (h2:(Γ.set i (some b))[q]? = some (some (.own ys))):ad p = ad q→p = q :=
  (get_set h1).elim (fun e=>absurd e.2.symm (hb xs)) fun h1=>(get_set h2).elim (fun e=>absurd e.2.symm (hb ys)) fun h2=>hI p q xs ys h1.2 h2.2
theorem inj_if {ad:Nat→Addr} {i:Nat} {zs:List D} {a:Addr} (hb:∀ j ys,Γ[j]? = some (some (.own ys))→ad j ≠ a) (hI:∀ p q xs ys,Γ[p]? = some (some (.own xs))→Γ[q]? = some (some (.own ys))→ad p = ad q→p = q) (p q:Nat) (xs ys:List D)
    (h1:(Γ.set i (some (.own zs)))[p]? = some (some (.own xs))) (h2:(Γ.set i (some (.own zs)))[q]? = some (some (.own ys))) (e:(if p = i then a else ad p) = if q = i then a else ad q):p = q :=
  (get_set h1).elim (fun e1=>(get_set h2).elim (fun e2=>e1.1.trans e2.1.symm) fun n2=>by rw [if_pos e1.1,if_neg n2.1] at e;exact absurd e.symm (hb _ _ n2.2))
    fun n1=>(get_set h2).elim (fun e2=>by rw [if_neg n1.1,if_pos e2.1] at e;exact absurd e (hb _ _ n1.2)) fun n2=>by rw [if_neg n1.1,if_neg n2.1] at e;exact hI _ _ _ _ n1.2 n2.2 e
theorem app_ne {i j q:Nat} (hna:(Γ.all fun b=>match b with | some (.app q)=>q != i | _=>true) = true) (hq:Γ[j]? = some (some (.app q))):q ≠ i:=by
  have h:(q != i) = true:=List.all_eq_true.mp hna _ (List.mem_of_getElem? hq)
  exact bne_iff_ne.mp h
theorem ne_get {h:Heap} {a b:Addr} {o o':Obj} (h1:h.get? a = some o) (h2:h.get? b = some o') (h3:o' ≠ o):b ≠ a:=fun q=>h3 (Option.some.inj (h2.symm.trans (q ▸ h1)))
theorem ns_away {h h':Heap} {L a:Addr} {m:Str→Option Value} {o:Obj} (x:h.Ns L m) (hs:Heap.SameBut a h h') (e:h.get? a = some o) (ho:∀ es ep,o.data ≠ .dict es ep):h'.Ns L m :=
  e3_3 x fun o' es ep e1 hd r=>⟨o',es,ep,(hs.2 _ (ne_get e e1 fun q=>ho es ep (q ▸ hd))).trans e1,hd,r⟩
theorem wp_storeL {A:Around} {g:Heap} {W:Addr→Prop} {env:Env} {s:Shared} {m:Str→Option Value} {ad ad':Nat→Addr} {i:Nat} {x:Str} {v:Value} {b:B} {Q:Unit→Shared→Prop} {E:Value→Shared→Prop}
    (kp:Keep g s.heap) (Bs:Base S g) (T:Tabs S g s) (eI:EnvIs f env) (wide:∀ a,s.heap.objs.size≤a→W a) (clt:∀ x c,env.cells.lookup x = some c→c < s.heap.objs.size) (hx:f.vars[i]? = some x) (hk:f.kinds[i]? = some .local)
    (hns:s.heap.Ns env.locals m) (hb:W env.locals) (hg:g.get? env.locals = Option.none) (hH:∀ i x b,f.vars[i]? = some x→Γ[i]? = some (some b)→Holds g s.heap W env m ad i x b)
    (hI:∀ p q xs ys,(Γ.set i (some b))[p]? = some (some (.own xs))→(Γ.set i (some b))[q]? = some (some (.own ys))→ad' p = ad' q→p = q)
    (hnew:∀ h' m',h'.Ns env.locals m'→m' x = some v→Heap.SameBut env.locals s.heap h'→env.kindOf x = some .local→Holds g h' W env m' ad' i x b)
    (hsame:∀ j xs,j ≠ i→Γ[j]? = some (some (.own xs))→ad' j = ad j) (happ:∀ j q,j ≠ i→Γ[j]? = some (some (.app q))→ad' q = ad q)
    (h:∀ g' s',Tr S W g s g' s'→St S f (Γ.set i (some b)) g' W env s'→Q () s'):wpAny S.M A (storeName env x v) Q E s:=by
  have hki:env.kindOf x = some .local:=(kindOf_eq eI x).trans (f.kind hx hk)
  have nT:¬ S.T env.locals:=by refine e3_3 (hns) (fun o es ep e hd _=>?_);exact T.notT e (by rw [hd];nofun)
  refine wpAny_storeName_local hki hns (fun h' hn hs=>?_) (by rw [eI.kind];rfl)
  have t:Tr S W g s g { s with heap:=h',toks:=s.toks + 1 }:=Tr.set kp Bs T hs hb hg nT (Nat.le_succ _)
  refine h g _ t ⟨t.keep,Bs,t.now,eI,fun a l=>wide a (Nat.le_trans t.size l),fun x c e=>Nat.lt_of_lt_of_le (clt x c e) t.size,_,ad',hn,hb,hg,fun j y c hy hc=>?_,hI⟩
  rcases get_set hc with ⟨rfl,rfl⟩ | ⟨hj,hc'⟩
  · obtain rfl:x = y:=Option.some.inj (hx.symm.trans hy)
    exact hnew _ _ hn (by simp) hs hki
  · have hyx:y ≠ x:=fun q=>hj (f.inj hy (q ▸ hx))
    exact (hH j y c hy hc').go (fun _ _ e=>e) (fun v e=>by simp only [if_neg hyx];exact e)
      (fun c ov _ h2=>h2.sameBut hs fun q=>e1_2 h2 fun o e hd=>e3_2 hns fun o' es ep e' r=>ne_get e' e (fun z=>by rw [← z,hd] at r;cases r.1) q)
      (fun xs e=>⟨hsame j xs hj (e ▸ hc'),fun vs n e1 e2 e3=>⟨(hs.2 _ fun q=>e3_2 hns fun o' es ep e' r=>ne_get e' e1 (fun z=>by rw [← z] at r;cases r.1) q).trans e1,e2,e3⟩⟩)
      (fun q e=>happ j q hj (e ▸ hc')) fun _ _ _ _ h4 h5=>⟨h4,h5⟩
noncomputable def AS (S:Sig) (k:Nat) (f:Fi) (Γ:Ctxt) (t:Expr) (d:D) (Γ':Ctxt):Prop :=
  ∀ (A:Around) (g:Heap) (W:Addr→Prop) (env:Env) (s:Shared) (v:Value) (Q:Unit→Shared→Prop) (E:Value→Shared→Prop),Room S k A→St S f Γ g W env s→Rd g v d →
    (∀ g' s',Tr S W g s g' s'→St S f Γ' g' W env s'→Q () s')→wpAny S.M A (assign t env v) Q E s
noncomputable def ASs (S:Sig) (k:Nat) (f:Fi) (Γ:Ctxt) (ts:List Expr) (ds:List D) (Γ':Ctxt):Prop :=
  (∀ env,(assignEach ts env).findIdx? (·.1) = Option.none)∧(∀ env,(assignEach ts env).length = ts.length)∧ts.length = ds.length ∧
  ∀ (A:Around) (g:Heap) (W:Addr→Prop) (env:Env) (s:Shared) (vs:List Value) (Q:Unit→Shared→Prop) (E:Value→Shared→Prop),Room S k A→St S f Γ g W env s→Rds g vs ds →
    (∀ g' s',Tr S W g s g' s'→St S f Γ' g' W env s'→Q () s')→wpAny S.M A (assignInOrder ((assignEach ts env).map (·.2)) vs) Q E s
theorem wp_storeVal {A:Around} {g:Heap} {W:Addr→Prop} {env:Env} {s:Shared} {i:Nat} {x:Str} {v:Value} {Q:Unit→Shared→Prop} {E:Value→Shared→Prop}
    (hx:f.vars[i]? = some x) (hk:f.kinds[i]? = some .local) (st:St S f Γ g W env s) (hr:Rd g v d)
    (h:∀ g' s',Tr S W g s g' s'→St S f (Γ.set i (some (.val d))) g' W env s'→Q () s'):wpAny S.M A (storeName env x v) Q E s:=by
  refine e2_5 (st.vars) (fun m ad hns hb hg hH hI=>?_)
  exact wp_storeL (b:=.val d) (ad:=ad) (ad':=ad) st.keep st.base st.tabs st.envIs st.wide st.clt hx hk hns hb hg hH (inj_set nofun hI) (fun h' m' hn hv hs hki=>⟨v,by unfold Var;rw [hki];exact hv,hr⟩) (fun _ _ _ _=>rfl) (fun _ _ _ _=>rfl) h
theorem AS.name {x:Str} (i:Nat) (hx:f.vars[i]? = some x) (hk:f.kinds[i]? = some .local):AS S k f Γ (.Name x pos) d (Γ.set i (some (.val d))):=by
  intro A g W env s v Q E R st hr h
  rw [arm_assign_Name]
  exact wpAny_bind (wpAny_standAt (wpAny_bindName (wp_storeVal hx hk st hr h)))
theorem ASs.nil:ASs S k f Γ [] [] Γ:=⟨fun _=>rfl,fun _=>rfl,rfl,fun A g W env s vs Q E R st hr h=>by
  cases hr using Rds.casesNil
  exact wpAny_pure (h g s ((st.at R).refl _) st)⟩
theorem ASs.cons {t:Expr} {ts:List Expr} (h1:AS S k f Γ t d Γ₁) (h2:ASs S k f Γ₁ ts ds Γ') (hs:∀ env,assignEach (t :: ts) env = (false,assign t env) :: assignEach ts env:=by intro _;rfl):ASs S k f Γ (t :: ts) (d :: ds) Γ':=by
  refine e0_4 (h2) (fun a1 a2 a3 a4=>?_)
  refine ⟨fun env=>?_,fun env=>?_,by simp [a3],fun A g W env s vs Q E R st hr h=>?_⟩
  · rw [hs,List.findIdx?_cons];simp [a1]
  · rw [hs,List.length_cons,a2];rfl
  · cases hr using Rds.casesCons with
    | cons r1 r2 =>
      rw [hs]
      show wpAny S.M A (do holding _ (assign t env _);assignInOrder ((assignEach ts env).map (·.2)) _) Q E s
      exact wpAny_bind (wpAny_holding (h1 A g W env s _ _ E R st r1 fun g1 s1 t1 st1=>a4 A g1 W env s1 _ Q E R st1 (r2.mono t1.mono) fun g2 s2 t2 st2=>h g2 s2 (t1.trans t2 (fun _ q=>q)) st2))
theorem AS.tup [Free S] {ts:List Expr} {kk:Nat} (h:ASs S k f Γ ts ds Γ'):AS S k f Γ (.Tuple ts kk pos) (.tup ds) Γ':=by
  intro A g W env s v Q E R st hr hQ
  refine e0_4 (h) (fun a1 a2 a3 a4=>?_)
  cases hr using Rd.casesTup with
  | tup e hl rs =>
    rename_i a vs n
    have hlen:=rs.length
    have ht:s.heap.IsTuple a vs.toArray:=⟨_,st.keep _ _ e,rfl,n,rfl⟩
    rw [arm_assign_Tuple]
    refine wpAny_bind (wpAny_standAt ?_)
    unfold unpack
    rw [show (assignEach ts env).length = vs.toArray.size by rw [a2,a3];simp [hlen],a1 env]
    refine wpAny_bind (wpAny_holding (wpAny_grown (wpAny_unpackItems_tuple (R.handled Free.free) ht fun h' hx G=>?_)))
    have old:Keep s.heap h':=fun b o e=>hx b o (Nat.ne_of_lt (Heap.lt_size e)) e
    refine e1_2 (Tr.grow (s':={ s with heap:=h' }) (fun _=>False) st.keep st.base st.tabs old G.heap rfl rfl (Nat.le_refl _)) (fun g1 t1 _=>?_)
    exact a4 A g1 W env _ _ _ E R (st.move t1) (rs.mono t1.mono) fun g2 s2 t2 st2=>hQ g2 s2 ((t1.weak st.new).trans t2 (fun _ q=>q)) st2
theorem EXs.nil:EXs S k f Γ [] (.next Γ):=fun A g W env s Q E R st h=>wpAny_execs_nil (h _ g s ((st.at R).refl _) ⟨rfl,st⟩)
theorem EXs.cons (h1:EX S k f Γ st (.next Γ₁)) (h2:EXs S k f Γ₁ sts res):EXs S k f Γ (st :: sts) res:=by
  intro A g W env s Q E R st h
  refine wpAny_execs_cons (h1 A g W env s _ E R st fun fl g1 s1 t1 p1=>?_)
  (refine e0_2 (p1) (fun q1q st1=>?_);subst q1q)
  exact h2 A g1 W env s1 Q E R st1 fun fl g2 s2 t2 p2=>h fl g2 s2 (t1.trans t2 (fun _ q=>q)) p2
noncomputable def Res.leaves:Res→Bool
  | .next _=>false
  | _=>true
theorem EXs.stop (h1:EX S k f Γ st res) (hr:res.leaves = true:=by rfl):EXs S k f Γ (st :: sts) res:=by
  intro A g W env s Q E R st h
  refine wpAny_execs_cons (h1 A g W env s _ E R st fun fl g1 s1 t1 p1=>?_)
  have:=h fl g1 s1 t1 p1
  cases res with
  | next _=>(first | cases hr using Rd.casesInt | cases hr using Rd.casesStr | cases hr using Rd.casesRaw | cases hr using Rds.casesNil | cases hr using Rds.casesCons | cases hr using Rd.casesList | cases hr using Rd.casesTup | cases hr)
  | ret d=>(refine e1_2 (p1) (fun v q2q _=>?_);subst q2q);exact this
  | brk Γ=>(refine e0_2 (p1) (fun q3q _=>?_);subst q3q);exact this
  | cont Γ=>(refine e0_2 (p1) (fun q4q _=>?_);subst q4q);exact this
theorem EX.brk:EX S k f Γ (.Break pos) (.brk Γ):=fun A g W env s Q E R st h=>wpAny_Break (h _ g s ((st.at R).refl _) ⟨rfl,st⟩)
theorem EX.ret (h:EV S k f Γ e d):EX S k f Γ (.Return (some e) pos) (.ret d):=fun A g W env s Q E R st hQ =>
  wpAny_Return_some (h A g W env s _ E R st fun v g1 s1 t1 r1=>hQ _ g1 s1 (t1.weak st.new) ⟨v,rfl,r1⟩)
theorem EX.if {c:Expr} {b:Bool} {body orelse:List Stmt} (h1:TV S k f Γ c b) (h2:b = true→EXs S k f Γ body res) (h3:b = false→EXs S k f Γ orelse res):EX S k f Γ (.If c body orelse pos) res:=by
  intro A g W env s Q E R st hQ
  refine wpAny_If (h1 A g W env s _ E R st fun g1 s1 t1=>?_)
  cases b with
  | true=>exact h2 rfl A g1 W env s1 Q E R (st.move t1) fun fl g2 s2 t2 p2=>hQ fl g2 s2 ((t1.weak st.new).trans t2 (fun _ q=>q)) p2
  | false=>exact h3 rfl A g1 W env s1 Q E R (st.move t1) fun fl g2 s2 t2 p2=>hQ fl g2 s2 ((t1.weak st.new).trans t2 (fun _ q=>q)) p2
theorem EX.assert {c:Expr} {msg:Option Expr} (h1:TV S k f Γ c true):EX S k f Γ (.Assert c msg pos) (.next Γ):=by
  intro A g W env s Q E R st hQ
  rw [arm_exec_Assert]
  exact wpAny_bind (wpAny_standAt (wpAny_bind (h1 A g W env s _ E R st fun g1 s1 t1=>wpAny_pure (hQ _ g1 s1 (t1.weak st.new) ⟨rfl,st.move t1⟩))))
theorem EX.assign {t:Expr} (h1:EV S k f Γ e d) (h2:AS S k f Γ t d Γ₁) (hs:∀ env,swapsWithSole [t] e pos.line env = pure false:=by intro _;rfl) (hw:∀ env,swappedStores [t] e env = pure none:=by intro _;rfl)
    (ha:∀ env v,assignAll v ((assignEach [t] env).map (·.2)) = assign t env v:=by intro _ _;rfl):EX S k f Γ (.Assign [t] e pos) (.next Γ₁):=by
  intro A g W env s Q E R st hQ
  refine wpAny_Assign_stores (h1 A g W env s _ E R st fun v g1 s1 t1 r1=>?_) (hs env) (hw env)
  rw [ha]
  exact h2 A g1 W env s1 v _ E R (st.move t1) r1 fun g2 s2 t2 st2=>hQ _ g2 s2 ((t1.weak st.new).trans t2 (fun _ q=>q)) ⟨rfl,st2⟩
theorem not_interactive {env:Env} (h:EnvIs f env):interactive env = false:=by
  unfold interactive
  rw [h.kind];rfl
inductive WL (S:Sig) (k:Nat) (f:Fi) (test:Expr) (body:List Stmt):Ctxt→Res→Prop where
  | stop {Γ:Ctxt}:TV S k f Γ test false→WL S k f test body Γ (.next Γ)
  | next {Γ Γ₁:Ctxt} {r:Res}:TV S k f Γ test true→EXs S k f Γ body (.next Γ₁)→WL S k f test body Γ₁ r→WL S k f test body Γ r
  | cont {Γ Γ₁:Ctxt} {r:Res}:TV S k f Γ test true→EXs S k f Γ body (.cont Γ₁)→WL S k f test body Γ₁ r→WL S k f test body Γ r
  | brk {Γ Γ₁:Ctxt}:TV S k f Γ test true→EXs S k f Γ body (.brk Γ₁)→WL S k f test body Γ (.next Γ₁)
  | ret {Γ:Ctxt} {d:D}:TV S k f Γ test true→EXs S k f Γ body (.ret d)→WL S k f test body Γ (.ret d)
noncomputable def Cd (S:Sig) (k:Nat) (f:Fi) (Γ:Ctxt) (c:Env→Code) (r:Res):Prop :=
  ∀ (A:Around) (g:Heap) (W:Addr→Prop) (env:Env) (s:Shared) (R:Result→Shared→Prop),Room S k A→St S f Γ g W env s →
    (∀ fl g' s',Tr S W g s g' s'→Post S f r g' W env fl s'→R (.ok fl) s')→codeAny S.M A (c env) R s
theorem under_loop (A:Around) (test:Expr) (body orelse:List Stmt) (env:Env):A.under (.whileLoop test body orelse env) = A:=Around.under_of_weight rfl
theorem whileTurn_ok {A:Around} {test:Expr} {body:List Stmt} {env:Env} {Q:PySem.Fin→Shared→Prop} {E:Value→Shared→Prop} {s:Shared}
    (h:wpAny S.M A (whileTurn test body [] env) Q E s) (hE:∀ e s,E e s→False):wpAny S.M A ((whileTurn test body [] env).onRaise (fun x=>do noteFrame x env;theTreesLotGoes x)) Q E s :=
  wpAny_onRaise (wpAny_mono h (fun _ _ x=>x) fun _ _ x=>(hE _ _ x).elim)
theorem WL.code {test:Expr} {body:List Stmt} (w:WL S k f test body Γ res):Cd S k f Γ (fun env=>.whileLoop test body [] env) res:=by
  induction w with
  | stop ht =>
    intro A g W env s R Rm st h
    refine codeAny_of_tree ?_
    rw [under_loop]
    refine wpAny_mono (whileTurn_ok (Q:=fun fin s'=>match fin with | .done f=>R (.ok f) s' | .again c'=>c'.quiet = true∧codeAny S.M A c' R s') (E:=fun _ _=>False) ?_ fun _ _ x=>x) (fun _ _ x=>x) fun _ _ x=>x.elim
    unfold whileTurn
    refine wpAny_bind (ht A g W env s _ _ Rm st fun g1 s1 t1=>?_)
    refine wp_ifF Bool.false_ne_true ?_
    exact wpAny_bind (wpAny_execs_nil (wpAny_pure (h _ g1 s1 (t1.weak st.new) ⟨rfl,st.move t1⟩)))
  | next ht hb _ ih =>
    intro A g W env s R Rm st h
    refine codeAny_of_tree ?_
    rw [under_loop]
    refine wpAny_mono (whileTurn_ok (Q:=fun fin s'=>match fin with | .done f=>R (.ok f) s' | .again c'=>c'.quiet = true∧codeAny S.M A c' R s') (E:=fun _ _=>False) ?_ fun _ _ x=>x) (fun _ _ x=>x) fun _ _ x=>x.elim
    unfold whileTurn
    refine wpAny_bind (ht A g W env s _ _ Rm st fun g1 s1 t1=>?_)
    refine wp_ifT rfl ?_
    refine wpAny_bind (hb A g1 W env s1 _ _ Rm (st.move t1) fun fl g2 s2 t2 p2=>?_)
    (refine e0_2 (p2) (fun q5q st2=>?_);subst q5q)
    refine wpAny_pure ⟨rfl,ih A g2 W env s2 R Rm st2 fun fl g3 s3 t3 p3=>h fl g3 s3 (((t1.weak st.new).trans t2 (fun _ q=>q)).trans t3 (fun _ q=>q)) p3⟩
  | cont ht hb _ ih =>
    intro A g W env s R Rm st h
    refine codeAny_of_tree ?_
    rw [under_loop]
    refine wpAny_mono (whileTurn_ok (Q:=fun fin s'=>match fin with | .done f=>R (.ok f) s' | .again c'=>c'.quiet = true∧codeAny S.M A c' R s') (E:=fun _ _=>False) ?_ fun _ _ x=>x) (fun _ _ x=>x) fun _ _ x=>x.elim
    unfold whileTurn
    refine wpAny_bind (ht A g W env s _ _ Rm st fun g1 s1 t1=>?_)
    refine wp_ifT rfl ?_
    refine wpAny_bind (hb A g1 W env s1 _ _ Rm (st.move t1) fun fl g2 s2 t2 p2=>?_)
    (refine e0_2 (p2) (fun q6q st2=>?_);subst q6q)
    refine wpAny_pure ⟨rfl,ih A g2 W env s2 R Rm st2 fun fl g3 s3 t3 p3=>h fl g3 s3 (((t1.weak st.new).trans t2 (fun _ q=>q)).trans t3 (fun _ q=>q)) p3⟩
  | brk ht hb =>
    intro A g W env s R Rm st h
    refine codeAny_of_tree ?_
    rw [under_loop]
    refine wpAny_mono (whileTurn_ok (Q:=fun fin s'=>match fin with | .done f=>R (.ok f) s' | .again c'=>c'.quiet = true∧codeAny S.M A c' R s') (E:=fun _ _=>False) ?_ fun _ _ x=>x) (fun _ _ x=>x) fun _ _ x=>x.elim
    unfold whileTurn
    refine wpAny_bind (ht A g W env s _ _ Rm st fun g1 s1 t1=>?_)
    refine wp_ifT rfl ?_
    refine wpAny_bind (hb A g1 W env s1 _ _ Rm (st.move t1) fun fl g2 s2 t2 p2=>?_)
    (refine e0_2 (p2) (fun q7q st2=>?_);subst q7q)
    exact wpAny_pure (h _ g2 s2 ((t1.weak st.new).trans t2 (fun _ q=>q)) ⟨rfl,st2⟩)
  | ret ht hb =>
    intro A g W env s R Rm st h
    refine codeAny_of_tree ?_
    rw [under_loop]
    refine wpAny_mono (whileTurn_ok (Q:=fun fin s'=>match fin with | .done f=>R (.ok f) s' | .again c'=>c'.quiet = true∧codeAny S.M A c' R s') (E:=fun _ _=>False) ?_ fun _ _ x=>x) (fun _ _ x=>x) fun _ _ x=>x.elim
    unfold whileTurn
    refine wpAny_bind (ht A g W env s _ _ Rm st fun g1 s1 t1=>?_)
    refine wp_ifT rfl ?_
    refine wpAny_bind (hb A g1 W env s1 _ _ Rm (st.move t1) fun fl g2 s2 t2 p2=>?_)
    (refine e1_2 (p2) (fun v q8q r2=>?_);subst q8q)
    exact wpAny_pure (h _ g2 s2 ((t1.weak st.new).trans t2 (fun _ q=>q)) ⟨v,rfl,r2⟩)
theorem EX.while {test:Expr} {body:List Stmt} (w:WL S k f test body Γ res):EX S k f Γ (.While test body [] pos) res:=by
  intro A g W env s Q E R st hQ
  exact wpAny_While (w.code A g W env s _ R st hQ)
end
end
section
open PySem PySem.W PySem.Calls PyProof.Rows
noncomputable def Same (F:Addr→Prop) (s s':Shared):Prop:=∀ a o,F a→s.heap.get? a = some o→s'.heap.get? a = some o
theorem Same.refl (F:Addr→Prop) (s:Shared):Same F s s:=fun _ _ _ e=>e
theorem Same.trans {F:Addr→Prop} {a b c:Shared} (x:Same F a b) (y:Same F b c):Same F a c:=fun p o h e=>y p o h (x p o h e)
noncomputable def Yl (S:Sig) (k:Nat) (F:Addr→Prop) (I:Addr) (tg:Expr):List D→Heap→Shared→Prop
  | [],g,s=>∀ (A:Around) (g':Heap) (s':Shared) (Q:Option Value→Shared→Prop) (E:Value→Shared→Prop),At S k A g' s'→Keep g g'→Same F s s'→(∀ a,F a→g'.get? a = none) →
      (∀ g₁ s₁,Tr S (fun a=>Nw s' a ∨ F a) g' s' g₁ s₁→Q none s₁)→wpAny S.M A (pyNext (.ref I)) Q E s'
  | d :: ds,g,s=>∀ (A:Around) (g':Heap) (s':Shared) (Q:Option Value→Shared→Prop) (E:Value→Shared→Prop),At S k A g' s'→Keep g g'→Same F s s'→(∀ a,F a→g'.get? a = none) →
      (∀ v g₁ s₁,Tr S (fun a=>Nw s' a ∨ F a) g' s' g₁ s₁→(∀ a,F a→g₁.get? a = none) →
        (∀ (f:Fi) (Γ Γ':Ctxt) (W:Addr→Prop) (env:Env) (Q':Unit→Shared→Prop) (E':Value→Shared→Prop),AS S k f Γ tg d Γ'→St S f Γ g₁ W env s₁→(∀ a,F a→¬ W a)→(∀ x c,env.cells.lookup x = some c→¬ F c) →
          (∀ g₂ s₂,Tr S (fun a=>W a ∨ F a) g₁ s₁ g₂ s₂→(∀ a,F a→g₂.get? a = none)→(∀ a o,F a→s₂.heap.get? a = some o→¬ NsObj o)→St S f Γ' g₂ W env s₂→Yl S k F I tg ds g₂ s₂→Q' () s₂)→wpAny S.M A (do letOwnedTupleGo tg (.ref I) v;assign tg env v) Q' E' s₁) →
        Q (some v) s₁)→wpAny S.M A (pyNext (.ref I)) Q E s'
theorem Yl.mono {S:Sig} {k:Nat} {F:Addr→Prop} {I:Addr} {tg:Expr} {ds:List D} {g g':Heap} {s s':Shared} (y:Yl S k F I tg ds g s) (hk:Keep g g') (hs:Same F s s'):Yl S k F I tg ds g' s':=by
  cases ds with
  | nil=>exact fun A g₁ s₁ Q E a k₁ h₁=>y A g₁ s₁ Q E a (hk.trans k₁) (hs.trans h₁)
  | cons d ds=>exact fun A g₁ s₁ Q E a k₁ h₁=>y A g₁ s₁ Q E a (hk.trans k₁) (hs.trans h₁)
noncomputable def Self (S:Sig) (k:Nat) (F:Addr→Prop) (I:Addr) (g:Heap) (s:Shared):Prop :=
  ∀ (A:Around) (g':Heap) (s':Shared) (Q:Value→Shared→Prop) (E:Value→Shared→Prop),At S k A g' s'→Keep g g'→Same F s s'→Q (.ref I) s'→wpAny S.M A (pyIter (.ref I)) Q E s'
noncomputable def It (S:Sig) (k:Nat) (d:D) (tg:Expr) (ds:List D):Prop :=
  ∀ (A:Around) (g:Heap) (s:Shared) (v:Value) (Q:Value→Shared→Prop) (E:Value→Shared→Prop),At S k A g s→Rd g v d →
    (∀ I F g' s',Tr S (Nw s) g s g' s'→(∀ a,F a→Nw s a∧g'.get? a = none∧a < s'.heap.objs.size)→Self S k F I g' s'→Yl S k F I tg ds g' s'→Q (.ref I) s')→wpAny S.M A (pyIter v) Q E s
section
variable {S:Sig} {k:Nat} {f:Fi} {Γ Γ' Γ₁ Γ₂:Ctxt} {e l r:Expr} {es:List Expr} {d d₁ d₂:D} {ds:List D} {pos p':Pos} {st:Stmt} {sts:List Stmt} {res:Res}
theorem St.widen {g:Heap} {W V:Addr→Prop} {env:Env} {s:Shared} (h:St S f Γ g V env s) (hv:∀ a,V a→W a):St S f Γ g W env s where
  keep:=h.keep
  base:=h.base
  tabs:=h.tabs
  envIs:=h.envIs
  wide:=fun a l=>hv a (h.wide a l)
  clt:=h.clt
  vars:=by
    refine e2_5 (h.vars) (fun m ad h1 h2 h3 h4 h5=>?_)
    refine ⟨m,ad,h1,hv _ h2,h3,fun i x b e e'=>?_,h5⟩
    exact (h4 i x b e e').go (fun _ _ e=>e) (fun _ e=>e) (fun _ _ _ h=>h) (fun _ _=>⟨rfl,fun _ _ e1 e2 e3=>⟨e1,e2,hv _ e3⟩⟩) (fun _ _=>rfl) fun _ _ _ _ h5 h6=>⟨h5,hv _ h6⟩
theorem St.without {g g':Heap} {W:Addr→Prop} {env:Env} {s s':Shared} {F:Addr→Prop} (h:St S f Γ g W env s) (t:Tr S (Nw s) g s g' s') (hF:∀ a,F a→Nw s a∧a < s'.heap.objs.size):St S f Γ g' (fun a=>W a∧¬ F a) env s':=by
  have h':=h.move t
  refine e2_5 (h.vars) (fun m ad h1 h2 h3 h4 h5=>?_)
  have nF:∀ {a o},s.heap.get? a = some o→¬ F a:=fun {a o} e q=>absurd (Heap.lt_size e) (Nat.not_lt.mpr (hF a q).1)
  refine ⟨t.keep,t.base,t.now,h.envIs,fun a l=>⟨h'.wide a l,fun q=>absurd (hF a q).2 (Nat.not_lt.mpr l)⟩,h'.clt,m,ad,t.ns h.tabs h1 (Nat.not_le.mpr h1.lt),⟨h2,e3_2 h1 fun o _ _ e _=>nF e⟩,t.none h3 (Nat.not_le.mpr h1.lt),fun i x b e e'=>?_,h5⟩
  exact (h4 i x b e e').go t.mono (fun _ e=>e) (fun _ _ _ h2=>t.isCell h.tabs h2 (Nat.not_le.mpr h2.lt)) (fun _ _=>⟨rfl,fun _ _ e n w=>⟨t.listO h.tabs e (Nat.not_le.mpr (Heap.lt_size e)),t.none n (Nat.not_le.mpr (Heap.lt_size e)),w,nF e⟩⟩) (fun _ _=>rfl)
    fun _ _ _ h2 n w=>⟨t.none n (Nat.not_le.mpr h2.lt),w,e1_1 h2 fun o e=>nF e.1⟩
theorem St.moveF {g g':Heap} {W:Addr→Prop} {env:Env} {s s':Shared} {F:Addr→Prop} (h:St S f Γ g W env s) (t:Tr S (fun a=>Nw s a ∨ F a) g s g' s') (hF:∀ a,F a→¬ W a) (hc:∀ x c,env.cells.lookup x = some c→¬ F c):St S f Γ g' W env s':=by
  refine e2_5 (h.vars) (fun m ad h1 h2 h3 h4 h5=>?_)
  have nV:∀ {a o},s.heap.get? a = some o→W a→¬ (Nw s a ∨ F a):=fun {a o} e w q=>q.elim (fun q=>absurd (Heap.lt_size e) (Nat.not_lt.mpr q)) fun q=>hF a q w
  refine ⟨t.keep,t.base,t.now,h.envIs,fun a l=>h.wide a (Nat.le_trans t.size l),fun x c e=>Nat.lt_of_lt_of_le (h.clt x c e) t.size,m,ad,t.ns h.tabs h1 (e3_2 h1 fun o _ _ e _=>nV e h2),h2,t.none h3 (e3_2 h1 fun o _ _ e _=>nV e h2),fun i x b e e'=>?_,h5⟩
  exact (h4 i x b e e').go t.mono (fun _ e=>e) (fun c _ h1 h2=>t.isCell h.tabs h2 fun q=>q.elim (fun q=>absurd h2.lt (Nat.not_lt.mpr q)) (hc x c h1)) (fun _ _=>⟨rfl,fun _ _ e n w=>⟨t.listO h.tabs e (nV e w),t.none n (nV e w),w⟩⟩) (fun _ _=>rfl)
    fun c _ _ h2 n w=>⟨t.none n (e1_1 h2 fun o e=>nV e.1 w),w⟩
end
section
variable {S:Sig} {k:Nat} {f:Fi} {Γ Γ' Γ₁ Γ₂:Ctxt} {e l r:Expr} {es:List Expr} {d d₁ d₂:D} {ds:List D} {pos p':Pos} {st:Stmt} {sts:List Stmt} {res:Res} {tg:Expr}
theorem Tr.keepF {F:Addr→Prop} {g g':Heap} {s s':Shared} {V:Addr→Prop} (t:Tr S V g s g' s') (T:Tabs S g s) (hF:∀ a o,F a→s.heap.get? a = some o→¬ V a∧(∀ vs,o.data = .fields vs→¬ S.T a)∧¬ NsObj o):Same F s s':=fun a o h e=>by
  refine e0_3 (hF a o h e) (fun h1 h2 h3=>?_)
  have nT:¬ S.T a:=by
    cases q:o.data with
    | fields vs=>exact h2 vs q
    | _=>exact T.notT e (by rw [q];nofun)
  refine e1_2 (t.same a o h1 nT e) (fun o' e' k=>?_)
  rw [e',k.eq h3]
theorem Yl.walks [Free S] {I:Addr} {fp wr:List Addr} {n:Nat} {P:Nat→Value→Prop} {Stt:Nat→Heap→Prop} (Wk:∀ A:Around,A.handled = none→Walks S.prog S.w A I fp wr n P Stt)
    (hlet:∀ i A E s v (Q:Unit→Shared→Prop),Stt i s.heap→Q () s→wpAny S.M A (letOwnedTupleGo tg (.ref I) v) Q E s) (hT:∀ b ∈ wr,¬ S.T b) (hfl:∀ (b:Addr) (o:Obj),b ∈ wr→∀ i h,Stt i h→h.get? b = some o→¬ NsObj o) (hsize:∀ b ∈ wr,∀ i h,Stt i h→(h.get? b).isSome) :
    ∀ (ds:List D) (i:Nat) (g:Heap) (s:Shared),Keep g s.heap→i + ds.length = n→(∀ j d,ds[j]? = some d→∀ g',Keep g g'→∀ v,P (i + j) v→Rd g' v d)→(∀ b ∈ fp,b ∈ wr ∨ ∃ o,g.get? b = some o)→Stt i s.heap→Yl S k (fun a=>a ∈ wr) I tg ds g s:=by
  have step:∀ {g:Heap} {s:Shared} {h':Heap} {tk:Nat} {A:Around},At S k A g s→(∀ b o,b ∉ wr→s.heap.get? b = some o→h'.get? b = some o)→(∀ a,a ∈ wr→g.get? a = none)→Grown s { s with heap:=h',toks:=tk } →
      ∃ g',Tr S (fun a=>Nw s a ∨ a ∈ wr) g s g' { s with heap:=h',toks:=tk }∧∀ a,a ∈ wr→g'.get? a = none:=by
    intro g s h' tk A a hk hg G
    refine e1_3 (Tr.growF (s':={ s with heap:=h',toks:=tk }) (fun a=>a ∈ wr) (fun _=>False) a.keep a.base a.tabs hk hg hT G.heap rfl rfl G.toks) (fun g' t _ h2=>?_)
    refine ⟨g',t,fun b hb=>?_⟩
    cases e:g'.get? b with
    | none=>rfl
    | some o=>exact (h2 b (by rw [e];nofun)).elim (fun q=>absurd (hg b hb) q) fun q=>q.2.elim
  have frame:∀ {i:Nat} {g g':Heap} {s s':Shared},Keep g s.heap→Keep g' s'.heap→Keep g g'→Same (fun a=>a ∈ wr) s s'→(∀ b ∈ fp,b ∈ wr ∨ ∃ o,g.get? b = some o)→Stt i s.heap→Stt i s'.heap:=by
    intro i g g' s s' k1 k2 kg sm hfp hst
    refine (Wk { handled:=none } rfl).frame _ _ _ hst fun b hb o e=>(hfp b hb).elim (fun w=>sm b o w e) fun ⟨o',e'⟩=>?_
    obtain rfl:o = o':=Option.some.inj (e.symm.trans (k1 b o' e'))
    exact k2 _ _ (kg _ _ e')
  intro ds
  induction ds with
  | nil =>
    intro i g s kp hn hP hfp hst A g' s' Q E a kg sm hF hQ
    have fr:Stt n s'.heap:=frame kp a.keep kg sm hfp (by simpa using hn ▸ hst)
    refine wpAny_grown ((Wk A (a.room.handled Free.free)).done s' _ _ fr fun h' tk hk G=>?_)
    refine e1_2 (step a hk hF G) (fun g₁ t _=>?_)
    exact hQ g₁ _ t
  | cons d ds ih =>
    intro i g s kp hn hP hfp hst A g' s' Q E a kg sm hF hQ
    have fr:Stt i s'.heap:=frame kp a.keep kg sm hfp hst
    simp only [List.length_cons] at hn
    refine wpAny_grown ((Wk A (a.room.handled Free.free)).item i s' _ _ (by lia) fr fun v h' tk hPv hst' hk G=>?_)
    refine e1_2 (step a hk hF G) (fun g₁ t hF₁=>?_)
    refine hQ v g₁ _ t hF₁ fun f Γ Γ' W env Q' E' has st hW hc hQ'=>?_
    refine wpAny_bind (hlet (i + 1) A E' _ v _ hst' ?_)
    refine has A g₁ W env _ v Q' E' a.room st (hP 0 d rfl g₁ (kg.trans t.mono) v hPv) fun g₂ s₂ t₂ st₂=>?_
    have hF₂:∀ b,b ∈ wr→g₂.get? b = none:=fun b hb=>t₂.none (hF₁ b hb) (hW b hb)
    have sm₂:Same (fun a=>a ∈ wr) { s' with heap:=h',toks:=tk } s₂:=t₂.keepF t.now fun b o hb e=>⟨hW b hb,fun _ _=>hT b hb,hfl b o hb _ _ hst' e⟩
    have hfp':∀ b ∈ fp,b ∈ wr ∨ ∃ o,g₁.get? b = some o:=fun b hb=>(hfp b hb).imp id fun ⟨o,e⟩=>⟨o,t.mono _ _ (kg _ _ e)⟩
    have hst₂:Stt (i + 1) s₂.heap:=frame t.keep t₂.keep t₂.mono sm₂ hfp' hst'
    refine hQ' g₂ s₂ (t₂.weak fun _=>.inl) hF₂ (fun b o hb e=>hfl b o hb _ _ hst₂ e) st₂ ?_
    refine ih (i + 1) g₂ s₂ t₂.keep (by lia) (fun j d' hj g₃ k₃ v' hv'=>hP (j + 1) d' (by simpa using hj) g₃ (kg.trans (t.mono.trans (t₂.mono.trans k₃))) v' (by rw [show i + (j + 1) = i + 1 + j by lia];exact hv')) (fun b hb=>(hfp' b hb).imp id fun ⟨o,e⟩=>⟨o,t₂.mono _ _ e⟩) hst₂
theorem Self.walks [Free S] {I:Addr} {fp wr:List Addr} {n:Nat} {P:Nat→Value→Prop} {Stt:Nat→Heap→Prop} (Wk:∀ A:Around,A.handled = none→Walks S.prog S.w A I fp wr n P Stt)
    {g:Heap} {s:Shared} (kp:Keep g s.heap) (hfp:∀ b ∈ fp,b ∈ wr ∨ ∃ o,g.get? b = some o) (hst:Stt 0 s.heap):Self S k (fun a=>a ∈ wr) I g s:=by
  intro A g' s' Q E a kg sm hQ
  refine (Wk A (a.room.handled Free.free)).self 0 s' Q E ((Wk A (a.room.handled Free.free)).frame _ _ _ hst fun b hb o e=>(hfp b hb).elim (fun w=>sm b o w e) fun ⟨o',e'⟩=>?_) hQ
  obtain rfl:o = o':=Option.some.inj (e.symm.trans (kp b o' e'))
  exact a.keep _ _ (kg _ _ e')
noncomputable def Plain (tg:Expr):Prop:=∀ (M:Model) (A:Around) (E:Value→Shared→Prop) (s:Shared) (I:Addr) (v:Value) (Q:Unit→Shared→Prop) (T:String) (vs:Array Value) (o:Obj),s.heap.get? I = some o→o.cls = .type T→o.data = .fields vs →
  (["enumerate","zip","dict_itemiterator","dict_reverseitemiterator","odict_iterator","itertools.zip_longest","itertools.pairwise"].contains T) = false→Q () s→wpAny M A (letOwnedTupleGo tg (.ref I) v) Q E s
theorem plain (tg:Expr):Plain tg:=by
  intro M A E s I v Q T vs o ho hc hd hT hQ
  have key:∀ a,wpAny M A (do
      let o ← load I
      match o.cls,o.data with
      | .type n,.fields vs =>
        if ["enumerate","zip","dict_itemiterator","dict_reverseitemiterator","odict_iterator","itertools.zip_longest","itertools.pairwise"].contains n && vs[0]? == some (rawInt a) then
          rule "for.unpacks-the-owned-tuple"
          updateField I 0 .none
      | _,_=>pure ()) Q E s:=fun a=>by
    refine wpAny_bind (wpAny_load ho ?_)
    rw [hc,hd]
    exact wp_ifF (by rw [hT,Bool.false_and];exact Bool.false_ne_true) (wpAny_pure hQ)
  cases tg <;> first | exact wpAny_pure hQ | (cases v <;> first | exact wpAny_pure hQ | exact key _)
theorem It.list [Free S] {xs:List D}:It S k (.list xs) tg xs:=by
  intro A g s v Q E a r hQ
  cases r using Rd.casesList with
  | list e hl rs =>
    rename_i ad vs n
    have hls:s.heap.IsList ad vs.toArray:=⟨_,a.keep _ _ e,rfl,n,rfl⟩
    refine wpAny_pyIter_list hls ?_
    let s':Shared:={ s with heap:=s.heap.push { cls:=.type "list_iterator",data:=.fields #[.ref ad,.int 0 0] } }
    refine e1_3 (Tr.grow (s':=s') (fun _=>False) a.keep a.base a.tabs (fun b x e=>Heap.get?_push_of_some _ e) (by simp [s']) rfl rfl (Nat.le_refl _)) (fun g' t _ h2=>?_)
    have hlt:ad < s.heap.objs.size:=Heap.lt_size (a.keep _ _ e)
    have nT:∀ b,s.heap.objs.size≤b→¬ S.T b:=fun b hb=>a.tabs.newT hb
    refine hQ s.heap.objs.size (fun b=>b ∈ [s.heap.objs.size]) g' s' t (fun b hb=>?_) ?_ ?_
    · obtain rfl:=List.mem_singleton.mp hb
      exact ⟨Nat.le_refl _,h2 _ (Nat.le_refl _) id,by simp [s']⟩
    · refine Self.walks (fun A hh=>Walks.list hh s.heap.objs.size ad (Nat.ne_of_lt hlt) vs.toArray) t.keep (fun b hb=>?_) ⟨⟨_,Heap.get?_push_size _ rfl,rfl,rfl⟩,hls.push _⟩
      rcases List.mem_cons.mp hb with rfl | hb
      · exact .inl (by simp)
      · obtain rfl:=List.mem_singleton.mp hb
        exact .inr ⟨_,t.mono _ _ e⟩
    · refine Yl.walks (fun A hh=>Walks.list hh s.heap.objs.size ad (Nat.ne_of_lt hlt) vs.toArray) (fun i A E s₁ v Q h q=>?_) (fun b hb=>?_) (fun b o hb i h st eb=>?_) (fun b hb i h st=>?_) xs 0 g' s' t.keep ?_ ?_ ?_ ⟨⟨_,Heap.get?_push_size _ rfl,rfl,rfl⟩,hls.push _⟩
      · (refine e0_2 (h) (fun q2q _=>?_);refine e1_3 (q2q) (fun o ho hc hd=>?_))
        exact plain tg _ _ _ _ _ _ _ _ _ o ho hc hd (by decide) q
      · obtain rfl:=List.mem_singleton.mp hb;exact nT _ (Nat.le_refl _)
      · obtain rfl:=List.mem_singleton.mp hb
        (refine e0_2 (st) (fun q3q _=>?_);refine e1_3 (q3q) (fun o' ho hc hd=>?_))
        rw [eb] at ho;cases ho;exact notNs_fields hd
      · obtain rfl:=List.mem_singleton.mp hb
        (refine e0_2 (st) (fun q4q _=>?_);refine e1_3 (q4q) (fun o' ho hc hd=>?_))
        rw [ho];rfl
      · simp [rs.length]
      · intro j d hj g₂ k₂ v hv
        refine e1_2 (rs.get j hj) (fun v' hv' r'=>?_)
        have:v = v':=by simpa [hv'] using hv.symm
        subst this
        exact r'.mono (t.mono.trans k₂)
      · intro b hb
        rcases List.mem_cons.mp hb with rfl | hb
        · exact .inl (by simp)
        · obtain rfl:=List.mem_singleton.mp hb
          exact .inr ⟨_,t.mono _ _ e⟩
theorem isTuple_push {h:Heap} {t:Addr} {its:Array Value} (x:h.IsTuple t its) (o:Obj):(h.push o).IsTuple t its:=x.at fun o' e=>Heap.get?_push_of_some _ e
theorem It.tup [Free S] {xs:List D}:It S k (.tup xs) tg xs:=by
  intro A g s v Q E a r hQ
  cases r using Rd.casesTup with
  | tup e hl rs =>
    rename_i ad vs n
    have hls:s.heap.IsTuple ad vs.toArray:=⟨_,a.keep _ _ e,rfl,n,rfl⟩
    refine wpAny_pyIter_tuple hls ?_
    let s':Shared:={ s with heap:=s.heap.push { cls:=.type "tuple_iterator",data:=.fields #[.ref ad,.int 0 0] } }
    refine e1_3 (Tr.grow (s':=s') (fun _=>False) a.keep a.base a.tabs (fun b x e=>Heap.get?_push_of_some _ e) (by simp [s']) rfl rfl (Nat.le_refl _)) (fun g' t _ h2=>?_)
    have hlt:ad < s.heap.objs.size:=Heap.lt_size (a.keep _ _ e)
    have nT:∀ b,s.heap.objs.size≤b→¬ S.T b:=fun b hb=>a.tabs.newT hb
    refine hQ s.heap.objs.size (fun b=>b ∈ [s.heap.objs.size]) g' s' t (fun b hb=>?_) ?_ ?_
    · obtain rfl:=List.mem_singleton.mp hb
      exact ⟨Nat.le_refl _,h2 _ (Nat.le_refl _) id,by simp [s']⟩
    · refine Self.walks (fun A hh=>Walks.tuple hh s.heap.objs.size ad (Nat.ne_of_lt hlt) vs.toArray) t.keep (fun b hb=>?_) ⟨⟨_,Heap.get?_push_size _ rfl,rfl,rfl⟩,isTuple_push hls _⟩
      rcases List.mem_cons.mp hb with rfl | hb
      · exact .inl (by simp)
      · obtain rfl:=List.mem_singleton.mp hb
        exact .inr ⟨_,t.mono _ _ e⟩
    · refine Yl.walks (fun A hh=>Walks.tuple hh s.heap.objs.size ad (Nat.ne_of_lt hlt) vs.toArray) (fun i A E s₁ v Q h q=>?_) (fun b hb=>?_) (fun b o hb i h st eb=>?_) (fun b hb i h st=>?_) xs 0 g' s' t.keep ?_ ?_ ?_ ⟨⟨_,Heap.get?_push_size _ rfl,rfl,rfl⟩,isTuple_push hls _⟩
      · (refine e0_2 (h) (fun q6q _=>?_);refine e1_3 (q6q) (fun o ho hc hd=>?_))
        exact plain tg _ _ _ _ _ _ _ _ _ o ho hc hd (by decide) q
      · obtain rfl:=List.mem_singleton.mp hb;exact nT _ (Nat.le_refl _)
      · obtain rfl:=List.mem_singleton.mp hb
        (refine e0_2 (st) (fun q7q _=>?_);refine e1_3 (q7q) (fun o' ho hc hd=>?_))
        rw [eb] at ho;cases ho;exact notNs_fields hd
      · obtain rfl:=List.mem_singleton.mp hb
        (refine e0_2 (st) (fun q8q _=>?_);refine e1_3 (q8q) (fun o' ho hc hd=>?_))
        rw [ho];rfl
      · simp [rs.length]
      · intro j d hj g₂ k₂ v hv
        refine e1_2 (rs.get j hj) (fun v' hv' r'=>?_)
        have:v = v':=by simpa [hv'] using hv.symm
        subst this
        exact r'.mono (t.mono.trans k₂)
      · intro b hb
        rcases List.mem_cons.mp hb with rfl | hb
        · exact .inl (by simp)
        · obtain rfl:=List.mem_singleton.mp hb
          exact .inr ⟨_,t.mono _ _ e⟩
noncomputable def intD (a c:Int) (n:Nat):List D:=(List.range n).map fun i=>.int (a + (i:Nat) * c)
theorem It.range [Free S] {a₀ b₀ c₀:Int} {n:Nat} (hsm:Builtin.Range.small a₀ b₀ c₀ = true) (hn:Builtin.Range.rangeSize a₀ b₀ c₀ = (n:Int)):It S k (.rng a₀ b₀ c₀) tg (intD a₀ c₀ n):=by
  intro A g s v Q E a r hQ
  cases r using Rd.casesRng with
  | rng e =>
    rename_i ad t u w
    have hls:IsRange s.heap ad a₀ b₀ c₀ t u w:=a.keep _ _ e
    refine wpAny_pyIter_range hls hsm ?_
    let s':Shared:={ s with heap:=s.heap.push { cls:=.type "range_iterator",data:=.fields #[rawInt a₀,rawInt (Builtin.Range.rangeSize a₀ b₀ c₀),rawInt c₀] } }
    refine e1_3 (Tr.grow (s':=s') (fun _=>False) a.keep a.base a.tabs (fun b x e=>Heap.get?_push_of_some _ e) (by simp [s']) rfl rfl (Nat.le_refl _)) (fun g' t _ h2=>?_)
    have nT:∀ b,s.heap.objs.size≤b→¬ S.T b:=fun b hb=>a.tabs.newT hb
    refine hQ s.heap.objs.size (fun b=>b ∈ [s.heap.objs.size]) g' s' t (fun b hb=>?_) ?_ ?_
    · obtain rfl:=List.mem_singleton.mp hb
      exact ⟨Nat.le_refl _,h2 _ (Nat.le_refl _) id,by simp [s']⟩
    · refine Self.walks (fun A hh=>Walks.range hh s.heap.objs.size a₀ c₀ n) t.keep (fun b hb=>.inl hb) ?_
      show IsRangeIter s'.heap _ _ _ _
      have e1:a₀ + ((0:Nat):Int) * c₀ = a₀:=by simp
      have e2:(n:Int) - ((0:Nat):Int) = n:=by simp
      rw [e1,e2,← hn]
      exact Heap.get?_push_size _ rfl
    · refine Yl.walks (fun A hh=>Walks.range hh s.heap.objs.size a₀ c₀ n) (fun i A E s₁ v Q h q=>?_) (fun b hb=>?_) (fun b o hb i h st eb=>?_) (fun b hb i h st=>?_) (intD a₀ c₀ n) 0 g' s' t.keep ?_ ?_ ?_ ?_
      · exact plain tg _ _ _ _ _ _ _ _ _ _ h rfl rfl (by decide) q
      · obtain rfl:=List.mem_singleton.mp hb;exact nT _ (Nat.le_refl _)
      · obtain rfl:=List.mem_singleton.mp hb
        have st':h.get? s.heap.objs.size = some _:=st
        rw [eb] at st';cases st';exact notNs_fields rfl
      · obtain rfl:=List.mem_singleton.mp hb
        have st':h.get? s.heap.objs.size = some _:=st
        rw [st'];rfl
      · simp [intD]
      · intro j d hj g₂ k₂ v hv
        (refine e1_1 (hv) (fun t' q10q=>?_);subst q10q)
        have hj':j < n:=by
          have:=(List.getElem?_eq_some_iff.mp hj).1
          simpa [intD] using this
        have:d = .int (a₀ + ((0 + j:Nat):Int) * c₀):=by
          simp [intD,hj'] at hj
          simp [← hj]
        rw [this]
        exact .int _ _
      · intro b hb
        exact .inl hb
      · show IsRangeIter s'.heap _ _ _ _
        have e1:a₀ + ((0:Nat):Int) * c₀ = a₀:=by simp
        have e2:(n:Int) - ((0:Nat):Int) = n:=by simp
        rw [e1,e2,← hn]
        exact Heap.get?_push_size _ rfl
theorem bind_assoc' {α β γ:Type} {M:Model} {A:Around} {E:Value→Shared→Prop} {s:Shared} {a:Sem α} {b:Sem β} {c:β→Sem γ} {Q:γ→Shared→Prop} (h:wpAny M A (do let _ ← a;b) (fun x s'=>wpAny M A (c x) Q E s') E s):wpAny M A (do let _ ← a;let x ← b;c x) Q E s:=by
  intro Γ p hΓ
  have:=h Γ p hΓ
  simp only [Sem.wp_bind'] at this ⊢
  exact Sem.wp_mono _ _ _ (fun x p' s' h'=>Sem.wp_mono _ _ _ (fun y p'' s'' h''=>h'' Γ p'' hΓ) (fun _ _ _ h=>h) _ _ h') (fun _ _ _ h=>h) _ _ this
inductive FL (S:Sig) (k:Nat) (f:Fi) (tg:Expr) (body:List Stmt):Ctxt→List D→Res→Prop where
  | nil {Γ:Ctxt}:FL S k f tg body Γ [] (.next Γ)
  | next {Γ Γ₁ Γ₂:Ctxt} {d:D} {ds:List D} {r:Res}:AS S k f Γ tg d Γ₁→EXs S k f Γ₁ body (.next Γ₂)→FL S k f tg body Γ₂ ds r→FL S k f tg body Γ (d :: ds) r
  | cont {Γ Γ₁ Γ₂:Ctxt} {d:D} {ds:List D} {r:Res}:AS S k f Γ tg d Γ₁→EXs S k f Γ₁ body (.cont Γ₂)→FL S k f tg body Γ₂ ds r→FL S k f tg body Γ (d :: ds) r
  | brk {Γ Γ₁ Γ₂:Ctxt} {d:D} {ds:List D}:AS S k f Γ tg d Γ₁→EXs S k f Γ₁ body (.brk Γ₂)→FL S k f tg body Γ (d :: ds) (.next Γ₂)
  | ret {Γ Γ₁:Ctxt} {d d':D} {ds:List D}:AS S k f Γ tg d Γ₁→EXs S k f Γ₁ body (.ret d')→FL S k f tg body Γ (d :: ds) (.ret d')
theorem under_for (A:Around) (tg:Expr) (it:Value) (body orelse:List Stmt) (env:Env):A.under (.forLoop tg it body orelse env) = A:=Around.under_of_weight rfl
theorem forTurn_ok {A:Around} {it:Value} {body:List Stmt} {env:Env} {Q:PySem.Fin→Shared→Prop} {s:Shared}
    (h:wpAny S.M A (forTurn tg it body [] env) Q (fun _ _=>False) s) {E:Value→Shared→Prop}:wpAny S.M A ((forTurn tg it body [] env).onRaise (fun x=>do noteFrame x env;theTreesLotGoes x)) Q E s :=
  wpAny_onRaise (wpAny_mono h (fun _ _ x=>x) fun _ _ x=>x.elim)
theorem FL.code {body:List Stmt} {I:Addr} {F:Addr→Prop} (fl:FL S k f tg body Γ ds res):∀ (A:Around) (g:Heap) (W:Addr→Prop) (env:Env) (s:Shared) (R:Result→Shared→Prop),Room S k A→St S f Γ g W env s→(∀ a,F a→¬ W a)→(∀ x c,env.cells.lookup x = some c→¬ F c)→(∀ a,F a→g.get? a = none)→(∀ a,F a→¬ S.T a) →
    Yl S k F I tg ds g s→(∀ r g' s',Tr S (fun a=>W a ∨ F a) g s g' s'→Post S f res g' W env r s'→R (.ok r) s')→codeAny S.M A (.forLoop tg (.ref I) body [] env) R s:=by
  induction fl with
  | nil =>
    intro A g W env s R Rm st hW hc hg hT y hR
    refine codeAny_of_tree ?_
    rw [under_for]
    refine forTurn_ok ?_
    unfold forTurn
    refine wpAny_bind (wpAny_standAt (wpAny_bind (wpAny_onRaise ?_)))
    refine y A g s _ _ (st.at Rm) (.refl g) (.refl F s) hg fun g₁ s₁ t₁=>?_
    refine wpAny_pure ⟨rfl,codeAny_block (wpAny_execs_nil ?_)⟩
    exact hR _ g₁ s₁ (t₁.weak fun a=>Or.imp (st.new a) id) ⟨rfl,st.moveF t₁ hW hc⟩
  | next has hb _ ih =>
    intro A g W env s R Rm st hW hc hg hT y hR
    refine codeAny_of_tree ?_
    rw [under_for]
    refine forTurn_ok ?_
    unfold forTurn
    refine wpAny_bind (wpAny_standAt (wpAny_bind (wpAny_onRaise ?_)))
    refine y A g s _ _ (st.at Rm) (.refl g) (.refl F s) hg fun v g₁ s₁ t₁ hg₁ hass=>?_
    dsimp only
    refine bind_assoc' (hass f _ _ W env _ _ has (st.moveF t₁ hW hc) hW hc fun g₂ s₂ t₂ hg₂ hfr st₂ y₂=>?_)
    refine wpAny_bind (hb A g₂ W env s₂ _ _ Rm st₂ fun fl g₃ s₃ t₃ p₃=>?_)
    (refine e0_2 (p₃) (fun q11q st₃=>?_);subst q11q)
    have sm:Same F s₂ s₃:=t₃.keepF st₂.tabs fun a o h e=>⟨hW a h,fun _ _=>hT a h,hfr a o h e⟩
    refine wpAny_pure ⟨rfl,ih A g₃ W env s₃ R Rm st₃ hW hc (fun a h=>t₃.none (hg₂ a h) (hW a h)) hT (y₂.mono t₃.mono sm) fun r g₄ s₄ t₄ p₄=>?_⟩
    exact hR r g₄ s₄ (((t₁.weak fun a=>Or.imp (st.new a) id).trans t₂ fun _ q=>q).trans t₃ (fun _=>.inl) |>.trans t₄ fun _ q=>q) p₄
  | cont has hb _ ih =>
    intro A g W env s R Rm st hW hc hg hT y hR
    refine codeAny_of_tree ?_
    rw [under_for]
    refine forTurn_ok ?_
    unfold forTurn
    refine wpAny_bind (wpAny_standAt (wpAny_bind (wpAny_onRaise ?_)))
    refine y A g s _ _ (st.at Rm) (.refl g) (.refl F s) hg fun v g₁ s₁ t₁ hg₁ hass=>?_
    dsimp only
    refine bind_assoc' (hass f _ _ W env _ _ has (st.moveF t₁ hW hc) hW hc fun g₂ s₂ t₂ hg₂ hfr st₂ y₂=>?_)
    refine wpAny_bind (hb A g₂ W env s₂ _ _ Rm st₂ fun fl g₃ s₃ t₃ p₃=>?_)
    (refine e0_2 (p₃) (fun q12q st₃=>?_);subst q12q)
    have sm:Same F s₂ s₃:=t₃.keepF st₂.tabs fun a o h e=>⟨hW a h,fun _ _=>hT a h,hfr a o h e⟩
    refine wpAny_pure ⟨rfl,ih A g₃ W env s₃ R Rm st₃ hW hc (fun a h=>t₃.none (hg₂ a h) (hW a h)) hT (y₂.mono t₃.mono sm) fun r g₄ s₄ t₄ p₄=>?_⟩
    exact hR r g₄ s₄ (((t₁.weak fun a=>Or.imp (st.new a) id).trans t₂ fun _ q=>q).trans t₃ (fun _=>.inl) |>.trans t₄ fun _ q=>q) p₄
  | brk has hb =>
    intro A g W env s R Rm st hW hc hg hT y hR
    refine codeAny_of_tree ?_
    rw [under_for]
    refine forTurn_ok ?_
    unfold forTurn
    refine wpAny_bind (wpAny_standAt (wpAny_bind (wpAny_onRaise ?_)))
    refine y A g s _ _ (st.at Rm) (.refl g) (.refl F s) hg fun v g₁ s₁ t₁ hg₁ hass=>?_
    dsimp only
    refine bind_assoc' (hass f _ _ W env _ _ has (st.moveF t₁ hW hc) hW hc fun g₂ s₂ t₂ hg₂ hfr st₂ y₂=>?_)
    refine wpAny_bind (hb A g₂ W env s₂ _ _ Rm st₂ fun fl g₃ s₃ t₃ p₃=>?_)
    (refine e0_2 (p₃) (fun q13q st₃=>?_);subst q13q)
    exact wpAny_pure (hR _ g₃ s₃ (((t₁.weak fun a=>Or.imp (st.new a) id).trans t₂ fun _ q=>q).trans t₃ (fun _=>.inl)) ⟨rfl,st₃⟩)
  | ret has hb =>
    intro A g W env s R Rm st hW hc hg hT y hR
    refine codeAny_of_tree ?_
    rw [under_for]
    refine forTurn_ok ?_
    unfold forTurn
    refine wpAny_bind (wpAny_standAt (wpAny_bind (wpAny_onRaise ?_)))
    refine y A g s _ _ (st.at Rm) (.refl g) (.refl F s) hg fun v g₁ s₁ t₁ hg₁ hass=>?_
    dsimp only
    refine bind_assoc' (hass f _ _ W env _ _ has (st.moveF t₁ hW hc) hW hc fun g₂ s₂ t₂ hg₂ hfr st₂ y₂=>?_)
    refine wpAny_bind (hb A g₂ W env s₂ _ _ Rm st₂ fun fl g₃ s₃ t₃ p₃=>?_)
    (refine e1_2 (p₃) (fun v' q14q r₃=>?_);subst q14q)
    exact wpAny_pure (hR _ g₃ s₃ (((t₁.weak fun a=>Or.imp (st.new a) id).trans t₂ fun _ q=>q).trans t₃ (fun _=>.inl)) ⟨v',rfl,r₃⟩)
theorem EX.for {iter:Expr} {body:List Stmt} (h1:EV S k f Γ iter d) (h2:It S k d tg ds) (h3:FL S k f tg body Γ ds res) (hs:∀ env x,foldedSetIterable iter env x = pure x:=by intro _ _;rfl):EX S k f Γ (.For tg iter body [] pos) res:=by
  intro A g W env s Q E R st hQ
  refine wpAny_For (h1 A g W env s _ E R st fun v g₁ s₁ t₁ r₁=>h2 A g₁ s₁ v _ E (t₁.at R) r₁ fun I F g₂ s₂ t₂ hF _ y=>?_) (hs env)
  have st₁:=st.move t₁
  have st₂:=st₁.without t₂ fun a h=>⟨(hF a h).1,(hF a h).2.2⟩
  have hc:∀ x c,env.cells.lookup x = some c→¬ F c:=fun x c e h=>absurd (st₁.clt x c e) (Nat.not_lt.mpr (hF c h).1)
  have hT:∀ a,F a→¬ S.T a:=fun a h=>st₁.tabs.newT (hF _ h).1
  refine h3.code A g₂ _ env s₂ _ R st₂ (fun a h q=>q.2 h) hc (fun a h=>(hF a h).2.1) hT y fun r g₃ s₃ t₃ p₃=>?_
  have inW:∀ a,(W a∧¬ F a) ∨ F a→W a:=fun a q=>q.elim And.left fun h=>st₁.new a (hF a h).1
  refine hQ r g₃ s₃ (((t₁.then t₂).weak st.new).trans t₃ inW) ?_
  cases res with
  | next Γ'=>exact ⟨p₃.1,p₃.2.widen fun _=>And.left⟩
  | ret d=>exact p₃
  | brk Γ'=>exact ⟨p₃.1,p₃.2.widen fun _=>And.left⟩
  | cont Γ'=>exact ⟨p₃.1,p₃.2.widen fun _=>And.left⟩
end
end
section
open PySem PySem.W PySem.Calls PyProof.Rows
theorem bindL_off {kd:Str→Option NameKind} {y:Str} (bs:List (Str × Value)) (m:Str→Option Value) (h:∀ p ∈ bs,p.1 ≠ y):bindL kd bs m y = m y:=by
  induction bs generalizing m with
  | nil=>rfl
  | cons p r ih =>
    show bindL kd r _ y = m y
    rw [ih _ fun p hp=>h p (.tail _ hp)]
    have hn:y ≠ p.1:=fun q=>h p (.head _) q.symm
    split <;> simp [hn]
theorem bindC_off {kd:Str→Option NameKind} {y:Str} (bs:List (Str × Value)) (m:Str→Option Value) (h:∀ p ∈ bs,p.1 ≠ y):bindC kd bs m y = m y:=by
  induction bs generalizing m with
  | nil=>rfl
  | cons p r ih =>
    show bindC kd r _ y = m y
    rw [ih _ fun p hp=>h p (.tail _ hp)]
    have hn:y ≠ p.1:=fun q=>h p (.head _) q.symm
    split <;> simp [hn]
theorem zip_off {y:Str} {names:List Str} {vs:List Value} (h:y ∉ names):∀ p ∈ names.zip vs,p.1 ≠ y:=fun p hp q=>h (q ▸ (List.of_mem_zip hp).1)
theorem bindL_get {kd:Str→Option NameKind} {x:Str} {v:Value} (hk:kd x = some .local) (names:List Str) (vs:List Value) (m:Str→Option Value) (i:Nat) (hd:names.Nodup) (h1:names[i]? = some x) (h2:vs[i]? = some v):bindL kd (names.zip vs) m x = some v:=by
  induction names generalizing vs m i with
  | nil=>exact nomatch h1
  | cons n ns ih =>
    cases vs with
    | nil=>exact nomatch h2
    | cons w ws =>
      cases i with
      | zero =>
        cases h1;cases h2
        show bindL kd (ns.zip ws) _ x = some v
        rw [bindL_off _ _ (zip_off (List.nodup_cons.mp hd).1),if_pos hk]
        simp
      | succ i=>exact ih ws _ i (List.nodup_cons.mp hd).2 h1 h2
theorem bindC_get {kd:Str→Option NameKind} {x:Str} {v:Value} (hk:kd x ≠ some .local) (names:List Str) (vs:List Value) (m:Str→Option Value) (i:Nat) (hd:names.Nodup) (h1:names[i]? = some x) (h2:vs[i]? = some v):bindC kd (names.zip vs) m x = some v:=by
  induction names generalizing vs m i with
  | nil=>exact nomatch h1
  | cons n ns ih =>
    cases vs with
    | nil=>exact nomatch h2
    | cons w ws =>
      cases i with
      | zero =>
        cases h1;cases h2
        show bindC kd (ns.zip ws) _ x = some v
        rw [bindC_off _ _ (zip_off (List.nodup_cons.mp hd).1),if_neg hk]
        simp
      | succ i=>exact ih ws _ i (List.nodup_cons.mp hd).2 h1 h2
noncomputable def ctx0:List NameKind→List D→Ctxt
  | [],_=>[]
  | kd :: ks,d :: ds=>some (if kd = .cell then .cell (some d) else .val d) :: ctx0 ks ds
  | kd :: ks,[]=>(if kd = .cell then some (.cell none) else none) :: ctx0 ks []
theorem ctx0_get (ks:List NameKind) (ds:List D) (i:Nat) (kd:NameKind) (b:B) (h1:ks[i]? = some kd) (h2:(ctx0 ks ds)[i]? = some (some b)) :
    (∃ d,ds[i]? = some d∧b = if kd = .cell then .cell (some d) else .val d) ∨ (ds[i]? = none∧kd = .cell∧b = .cell none):=by
  induction ks generalizing ds i with
  | nil=>exact absurd h1 nofun
  | cons k ks ih =>
    cases i with
    | zero =>
      cases Option.some.inj h1
      cases ds with
      | cons d ds=>exact .inl ⟨d,rfl,(Option.some.inj (Option.some.inj h2)).symm⟩
      | nil =>
        have e:(if kd = .cell then some (.cell none) else none) = some b:=Option.some.inj h2
        by_cases hk:kd = .cell
        · rw [if_pos hk] at e;exact .inr ⟨rfl,hk,(Option.some.inj e).symm⟩
        · rw [if_neg hk] at e;cases e
    | succ i=>cases ds with
      | cons d ds=>exact ih ds i h1 h2
      | nil=>exact ih [] i h1 h2
theorem ctx0_len (ks:List NameKind) (ds:List D):(ctx0 ks ds).length = ks.length:=by
  induction ks generalizing ds with
  | nil=>rfl
  | cons k ks ih=>cases ds <;> exact congrArg (· + 1) (ih _)
noncomputable def FnSt (f:Fi) (names:List Str):Prop:=f.scope.kind = .function∧f.scope.isCoroutine = false∧f.scope.isGenerator = false∧f.vars.take names.length = names∧f.kinds.length = f.vars.length∧f.kinds.all (fun kd=>kd == .local || kd == .cell) = true
section
variable {f:Fi} {names:List Str} (F:FnSt f names)
include F
theorem FnSt.pre:f.vars.take names.length = names:=F.2.2.2.1
theorem FnSt.len:f.kinds.length = f.vars.length:=F.2.2.2.2.1
theorem FnSt.lc:f.kinds.all (fun kd=>kd == .local || kd == .cell) = true:=F.2.2.2.2.2
end
noncomputable def FnAt (S:Sig) (a:Addr) (f:Fi) (names:List Str) (body:List Stmt):Prop :=
  (∃ oc od osl name qual params dV kV doc pm an ct,S.K.lookup a = some ⟨oc,od,.func (fnOf name qual params body f.scope dV kV doc pm an f.code ct),osl⟩∧codeIn S.K f.code qual = true∧f.qual = qual ++ ".<locals>." ∧
    ∀ vs:List Value,vs.length = names.length→bindArgs (fnOf name qual params body f.scope dV kV doc pm an f.code ct) ⟨vs,[]⟩ = pure (names.zip vs))∧FnSt f names
section
variable {S:Sig} {a:Addr} {f:Fi} {names:List Str} {body:List Stmt} (F:FnAt S a f names body)
include F
theorem FnAt.kind:f.scope.kind = .function:=F.2.1
theorem FnAt.co:f.scope.isCoroutine = false:=F.2.2.1
theorem FnAt.gen:f.scope.isGenerator = false:=F.2.2.2.1
theorem FnAt.pre:f.vars.take names.length = names:=F.2.pre
end
theorem FnAt.of {S:Sig} {a:Addr} {f:Fi} {names:List Str} {body:List Stmt} {oc:Value} {od:Option Addr} {osl:Array (Option Value)} {name qual:Str} {params:Arguments} {dV kV doc pm an ct:_}
    (h1:S.K.lookup a = some ⟨oc,od,.func (fnOf name qual params body f.scope dV kV doc pm an f.code ct),osl⟩) (h2:codeIn S.K f.code qual = true) (h3:f.qual = qual ++ ".<locals>.")
    (h4:∀ vs:List Value,vs.length = names.length→bindArgs (fnOf name qual params body f.scope dV kV doc pm an f.code ct) ⟨vs,[]⟩ = pure (names.zip vs)) (kind:f.scope.kind = .function) (co:f.scope.isCoroutine = false) (gen:f.scope.isGenerator = false)
    (pre:f.vars.take names.length = names) (len:f.kinds.length = f.vars.length) (lc:f.kinds.all (fun kd=>kd == .local || kd == .cell) = true):FnAt S a f names body :=
  ⟨⟨oc,od,osl,name,qual,params,dV,kV,doc,pm,an,ct,h1,h2,h3,h4⟩,kind,co,gen,pre,len,lc⟩
theorem Room.under {S:Sig} {k:Nat} {A:Around} {env:Env} (R:Room S (k + 1) A):Room S k (A.deeper env):=⟨R.handled,by have:=R.depth;show A.depth + 1 + k < _;lia,by have:=R.units;show A.units + 3 + 40 * k + 100 < _;lia⟩
theorem ctx0_own {ks:List NameKind} {ds:List D} {i:Nat} {xs:List D} (h:(ctx0 ks ds)[i]? = some (some (.own xs))):False:=by
  have hi:i < ks.length:=by
    have:=(List.getElem?_eq_some_iff.mp h).1
    rwa [ctx0_len] at this
  rcases ctx0_get _ _ _ _ _ (List.getElem?_eq_getElem hi) h with ⟨d',_,q⟩ | ⟨_,_,q⟩
  · split at q <;> cases q
  · cases q
structure NewFrame (f:Fi) (names:List Str) (vs:List Value) (s:Shared) (env:Env) (s':Shared):Prop where
  eI:EnvIs f env
  loc:env.locals = s.heap.objs.size
  frame:env.frame = some env.locals
  cells:env.cells = cellsFrom (s.heap.objs.size + 1) f.scope.names []
  x:InCallC s env.locals (bindL env.kindOf (names.zip vs) fun _=>none) env.cells (bindC env.kindOf (names.zip vs) fun _=>none) s'
theorem Fn.callGo {S:Sig} {a:Addr} {f:Fi} {names:List Str} {body:List Stmt} (F:FnAt S a f names body) {A:Around} {s:Shared} {vs:List Value} {Q:Value→Shared→Prop} {E:Value→Shared→Prop} {R:Shared→Prop} (hvl:vs.length = names.length) (KI:S.K.In s.heap) (hd:A.depth < recursionLimit) (NL:s.heap.NoLimit)
    (hN:∀ {qual:Str} {func:Option Addr} {Q:Env→Shared→Prop} {E:Value→Shared→Prop},(∀ env,env = newEnv f.scope s.heap.objs.size mainGlobals (cellsFrom (s.heap.objs.size + 1) f.scope.names []) qual func f.code none builtinsNs →
      ∀ s',InCallC s env.locals (bindL env.kindOf (names.zip vs) fun _=>none) env.cells (bindC env.kindOf (names.zip vs) fun _=>none) s'→R s'→Q env s')→wpAny S.M A.in1 (newFunctionEnv f.scope mainGlobals [] (names.zip vs) qual func f.code none builtinsNs) Q E s)
    (hb:∀ (env:Env) (s':Shared),NewFrame f names vs s env s'→R s'→Grown s s'→∀ (Q':Flow→Shared→Prop) (E':Value→Shared→Prop),(∀ v s₂,Q v s₂→Q' (.ret v) s₂)→wpAny S.M (A.deeper env) (execs body env) Q' E' s'):wpAny S.M A (call (.ref a) vs) Q E s:=by
  refine byC fun C hC=>?_
  obtain ⟨oc,od,osl,name,qual,params,dV,kV,doc,pm,an,ct,hlook,hcode,hqual,hbind⟩:=F.1
  refine hC ?_
  clear hC
  refine wpAny_call (codeAny_call_function (fd:=fnOf name qual params body f.scope dV kV doc pm an f.code ct) hd (KI _ _ hlook) rfl F.co F.gen rfl (codeRec_of KI hcode) ?_)
  rw [hbind vs hvl]
  refine wpAny_pure (wpAny_grown (hN fun env he s' x r G=>⟨NL.keeps x.toInCall.keep,codeAny_func ?_⟩))
  exact hb env s' ⟨⟨by rw [he];rfl,by rw [he,hqual];rfl,by rw [he];rfl,by rw [he];rfl,by rw [he];rfl,by rw [he];exact F.kind⟩,by rw [he];rfl,by rw [he];rfl,by rw [he];rfl,x⟩ r G _ _ fun v s₂ h=>h
theorem FnSt.kd {f:Fi} {names:List Str} (F:FnSt f names) {i:Nat} {x:Str} (e:f.vars[i]? = some x) {C:Prop} (K:∀ kd,f.kinds[i]? = some kd→(kd = .local ∨ kd = .cell)→f.scope.names.lookup x = some kd→C):C:=by
  have hi:i < f.kinds.length:=by rw [F.len];exact (List.getElem?_eq_some_iff.mp e).1
  refine K f.kinds[i] (List.getElem?_eq_getElem hi) ?_ (f.kind e (List.getElem?_eq_getElem hi))
  have:=List.all_eq_true.mp F.lc _ (List.getElem_mem hi)
  simpa using this
theorem Fn.core {S:Sig} {f:Fi} {names:List Str} {ds:List D} (F:FnSt f names) (hl:names.length = ds.length) {g:Heap} {s s':Shared} {vs:List Value} {env:Env} {n:Nat} (kp:Keep g s.heap) (Bs:Base S g) (T:Tabs S g { s with toks:=n }) (rs:Rds g vs ds)
    (N:NewFrame f names vs s env s') (hz:s.heap.objs.size≤s'.heap.objs.size) (ht:n≤s'.toks):∃ g',Tr S (Nw s) g { s with toks:=n } g' s'∧St S f (ctx0 f.kinds ds) g' (Nw s) env s':=by
  have hloc:=N.loc
  have x:=N.x
  have hkE:∀ x,env.kindOf x = f.scope.names.lookup x:=fun x=>by show env.scope.names.lookup x = _;rw [N.eI.scope]
  (refine e2_1 (x.toInCall.same) (fun h₁ tk q2q=>?_);subst q2q)
  refine e1_3 (Tr.grow (s:={ s with toks:=n }) (s':={ s with heap:=h₁,toks:=tk }) (fun _=>False) kp Bs T x.toInCall.keep hz rfl rfl ht) (fun g' t _ hno=>?_)
  have above:∀ {y c},env.cells.lookup y = some c→s.heap.objs.size≤c:=fun {y c} hc=>by have:=x.above y c (mem_of_lookup hc);rw [hloc] at this;exact Nat.le_of_lt this
  refine ⟨g',t,t.keep,t.base,t.now,N.eI,fun a l=>Nat.le_trans t.size l,fun y c e=>(x.cell y c e).lt,_,fun _=>0,x.toInCall.ns,by show s.heap.objs.size≤env.locals;rw [hloc];exact Nat.le_refl _,hno _ (by rw [hloc];exact Nat.le_refl _) id,fun i y b hy hb'=>?_,fun i j xs ys h1 h2 _=>(ctx0_own h1).elim⟩
  refine F.kd hy fun kd hki hlk hlook'=>?_
  have cell:∀ {od:Option D},kd = .cell→(∀ d,od = some d→∃ v,bindC env.kindOf (names.zip vs) (fun _=>none) y = some v∧Rd g' v d)→Holds g' h₁ (Nw s) env (bindL env.kindOf (names.zip vs) fun _=>none) (fun _=>0) i y (.cell od):=fun {od} e hv=>by
    subst e
    refine e1_1 (Option.isSome_iff_exists.mp (cellsFrom_some f.scope.names (s.heap.objs.size + 1) [] (.inl hlook'))) (fun c hc=>?_)
    rw [← N.cells] at hc
    exact ⟨by rw [hkE,hlook'],c,_,hc,x.cell y c hc,hno _ (above hc) id,above hc,fun z hz=>name_of_addr x.apart (mem_of_lookup hz) (mem_of_lookup hc),hv⟩
  rcases ctx0_get _ _ _ _ _ hki hb' with ⟨d',hd',rfl⟩ | ⟨hd',e,rfl⟩
  · refine e1_2 (rs.get i hd') (fun v hv hr=>?_)
    have hnd:names.Nodup:=by rw [← F.pre];exact f.nodup.sublist (List.take_sublist _ _)
    have hni:names[i]? = some y:=by
      have hi:i < names.length:=by rw [hl];exact (List.getElem?_eq_some_iff.mp hd').1
      rw [← F.pre,List.getElem?_take,if_pos hi,hy]
    rcases hlk with rfl | rfl
    · refine ⟨v,?_,hr.mono t.mono⟩
      unfold Var
      rw [hkE,hlook']
      exact bindL_get (by rw [hkE,hlook']) names vs _ i hnd hni hv
    · exact cell rfl fun d'' e=>by cases e;exact ⟨v,bindC_get (by rw [hkE,hlook'];decide) names vs _ i hnd hni hv,hr.mono t.mono⟩
  · exact cell e nofun
theorem FnSt.binds {f:Fi} {names:List Str} (F:FnSt f names) {vs:List Value} {n:Nat} (p:Str × Value) (hp:p ∈ names.zip vs):f.scope.names.lookup p.1 = some .local ∨ (f.scope.names.lookup p.1 = some .cell∧((cellsFrom n f.scope.names []).lookup p.1).isSome = true):=by
  refine e1_1 (List.getElem_of_mem (List.of_mem_zip hp).1) fun i h=>e1_1 h fun hi e=>?_
  have:f.vars[i]? = some p.1:=by
    have q:(f.vars.take names.length)[i]? = some p.1:=by rw [F.pre,List.getElem?_eq_getElem hi,e]
    rwa [List.getElem?_take,if_pos hi] at q
  refine F.kd this fun kd _ hk hlk=>?_
  rcases hk with rfl | rfl
  · exact .inl hlk
  · exact .inr ⟨hlk,cellsFrom_some _ _ _ (.inl hlk)⟩
theorem Fn.introG {S:Sig} {k:Nat} {a:Addr} {f:Fi} {names:List Str} {body:List Stmt} {ds:List D} {d:D} (F:FnAt S a f names body) (hl:names.length = ds.length) {A:Around} {g:Heap} {s:Shared} {vs:List Value} {Q:Value→Shared→Prop} {E:Value→Shared→Prop} (at':At S (k + 1) A g s) (rs:Rds g vs ds)
    (hb:∀ (env:Env) (g':Heap) (s':Shared) (Q':Flow→Shared→Prop) (E':Value→Shared→Prop),env.frame = some env.locals→env.locals = s.heap.objs.size→Tr S (Nw s) g s g' s'→St S f (ctx0 f.kinds ds) g' (Nw s) env s' →
      (∀ fl g₂ s₂,Tr S (Nw s) g' s' g₂ s₂→Post S f (.ret d) g₂ (Nw s) env fl s₂→Q' fl s₂)→wpAny S.M (A.deeper env) (execs body env) Q' E' s')
    (hQ:∀ v g' s',Tr S (Nw s) g s g' s'→Rd g' v d→Q v s'):wpAny S.M A (call (.ref a) vs) Q E s:=by
  have hvl:vs.length = names.length:=by rw [rs.length,hl]
  refine Fn.callGo F (R:=fun _=>True) hvl (at'.base.kin.keeps at'.keep) (by have:=at'.room.depth;lia) (at'.base.nolimit.keeps at'.keep) (fun h=>wpAny_newFunctionEnv_cells F.kind F.2.binds fun env he s' x=>h env he s' x trivial) fun env s' N _ G Q' E' hq=>?_
  refine e1_2 (Fn.core F.2 hl at'.keep at'.base at'.tabs rs N G.heap G.toks) fun g' t st=>?_
  exact hb env g' s' Q' E' N.frame N.loc t st fun fl g₂ s₂ t₂ p₂=>e1_2 p₂ fun v q r=>by subst q;exact hq v s₂ (hQ v g₂ s₂ (t.trans t₂ fun _ l=>l) r)
theorem Fn.intro {S:Sig} {k:Nat} {a:Addr} {f:Fi} {names:List Str} {body:List Stmt} {ds:List D} {d:D} (F:FnAt S a f names body) (hl:names.length = ds.length) (hb:EXs S k f (ctx0 f.kinds ds) body (.ret d)):Ops S (k + 1) (fun vs=>call (.ref a) vs) ds d :=
  fun A g s vs Q E at' rs hQ=>Fn.introG F hl at' rs (fun env g' s' Q' E' _ _ _ st h=>hb _ g' _ env s' Q' E' at'.room.under st h) hQ
end
section
open PySem PySem.W PySem.Calls PyProof.Rows
section
variable {S:Sig} {k:Nat} {f:Fi} {Γ Γ' Γ₁ Γ₂:Ctxt} {e l r:Expr} {es:List Expr} {d d₁ d₂:D} {ds:List D} {pos p':Pos} {sts:List Stmt} {res:Res}
theorem Tr.take {g:Heap} {s:Shared} {W:Addr→Prop} {a:Addr} {o:Obj} (kp:Keep g s.heap) (B:Base S g) (T:Tabs S g s) (ho:s.heap.get? a = some o) (hT:¬ S.T a) (ha:W a) :
    ∃ g',Tr S W g s g' s∧g'.get? a = some o∧∀ b,b ≠ a→g'.get? b = g.get? b:=by
  have mono:Keep g (cut s.heap fun b=>(g.get? b).isSome || b == a):=fun b o' e=>cut_some.mpr ⟨by simp [e],kp b o' e⟩
  have off:∀ b,b ≠ a→(cut s.heap fun b=>(g.get? b).isSome || b == a).get? b = g.get? b:=fun b hb=>by
    rw [cut_get]
    have:(b == a) = false:=by simpa using hb
    rw [this,Bool.or_false]
    cases e:g.get? b with
    | none=>rfl
    | some o'=>exact kp b o' e
  have hT':∀ q ∈ S.tabs,(cut s.heap fun b=>(g.get? b).isSome || b == a).get? q.2 = Option.none:=fun q hq=>by
    rw [off _ fun z=>hT (z ▸ List.mem_map_of_mem hq)];exact (B.heads q hq).2
  refine ⟨cut s.heap fun b=>(g.get? b).isSome || b == a,⟨mono,fun b o' e=>(cut_some.mp e).2,fun b o' _ _ e=>⟨o',e,.refl o'⟩,fun b o' e=>?_,Nat.le_refl _,fun _ _ ps e=>⟨#[],by rw [e,Array.append_empty]⟩,B.mono mono hT',⟨T.pos,fun q hq=>?_⟩,rfl,id,Nat.le_refl _,Nat.le_refl _⟩,cut_some.mpr ⟨by simp,ho⟩,off⟩
  · by_cases hb:b = a
    · exact .inr (hb ▸ ha)
    · rw [off b hb] at e;exact .inl e
  · refine e1_3 (T.all q hq) (fun ps e1 e2 e3=>?_)
    exact ⟨ps,e1,e2,fun pos cv e=>(e3 pos cv e).keeps mono⟩
theorem Tr.drop {g g' g'':Heap} {s s'':Shared} {V:Addr→Prop} {a:Addr} (B:Base S g) (hg:g.get? a = Option.none) (hoff:∀ b,b ≠ a→g'.get? b = g.get? b) (hd:∀ o,g'.get? a = some o→∀ vs,o.data ≠ .fields vs) (ha:g'.get? a ≠ Option.none) (t:Tr S V g' s g'' s'') :
    ∃ g₃,Tr S V g s g₃ s'':=by
  have get:∀ b,(cut g'' fun b=>!(b == a)).get? b = if b = a then Option.none else g''.get? b:=fun b=>by
    rw [cut_get];by_cases hb:b = a <;> simp [hb]
  have mono:Keep g (cut g'' fun b=>!(b == a)):=fun b o e=>by
    have hb:b ≠ a:=fun q=>by rw [q,hg] at e;cases e
    rw [get,if_neg hb]
    exact t.mono b o ((hoff b hb).trans e)
  refine ⟨cut g'' fun b=>!(b == a),⟨mono,fun b o e=>?_,t.same,fun b o e=>?_,t.size,t.tabs,B.mono mono fun q hq=>?_,⟨t.now.pos,fun q hq=>?_⟩,t.os,t.bare,t.gens,t.toks⟩⟩
  · rw [get] at e;split at e
    · cases e
    · exact t.keep b o e
  · rw [get] at e;split at e
    · cases e
    · rename_i hb
      exact (t.fresh b o e).imp (fun q=>(hoff b hb).symm.trans q) id
  · rw [get];split
    · rfl
    · exact (t.base.heads q hq).2
  · refine e1_3 (t.now.all q hq) (fun ps e1 e2 e3=>?_)
    refine ⟨ps,e1,e2,fun pos cv e=>?_⟩
    refine e4_4 (e3 pos cv e) (fun c o vs tt h1 h2 h3 h4=>?_)
    refine ⟨c,o,vs,tt,h1,?_,h3,h4⟩
    rw [get,if_neg]
    · exact h2
    · rintro rfl
      cases q':g'.get? c with
      | none=>exact ha q'
      | some o' =>
        have:=t.mono _ _ q'
        rw [h2] at this;cases this
        exact hd _ q' _ h3
theorem St.freeze {g:Heap} {W:Addr→Prop} {env:Env} {s:Shared} {j:Nat} {xs:List D} (st:St S f Γ g W env s) (hj:Γ[j]? = some (some (.own xs))) (hx:j < f.vars.length) :
    ∃ a vs n g',g.get? a = Option.none∧g'.get? a = some (listO vs n)∧(∀ b,b ≠ a→g'.get? b = g.get? b)∧Tr S W g s g' s∧St S f (Γ.set j (some (.val (.list xs)))) g' W env s:=by
  refine e2_5 (st.vars) (fun m ad hns hb hg hH hI=>?_)
  have hx':f.vars[j]? = some f.vars[j]:=List.getElem?_eq_getElem hx
  refine (hH j _ _ hx' hj).ownC fun hk hm vs n e hz rs hn hw=>?_
  refine e1_3 (Tr.take st.keep st.base st.tabs e (st.tabs.notT e nofun) hw) (fun g' t h1 h2=>?_)
  refine ⟨ad j,vs,n,g',hn,h1,h2,t,t.keep,t.base,t.now,st.envIs,st.wide,st.clt,m,ad,hns,hb,?_,fun i x b hy hb'=>?_,inj_set nofun hI⟩
  · rw [h2];exact hg
    exact e3_2 hns fun o es ep e' r=>ne_get e e' fun q=>by rw [q] at r;cases r.1
  · rcases get_set hb' with ⟨rfl,rfl⟩ | ⟨hi,hb''⟩
    · have:f.vars[i] = x:=Option.some.inj (hx'.symm.trans hy)
      refine ⟨.ref (ad i),?_,.list h1 hz (rs.mono t.mono)⟩
      unfold Var
      rw [← this,hk];exact hm
    · exact (hH i x b hy hb'').go t.mono (fun _ e=>e) (fun _ _ _ h=>h) (fun ys eb=>⟨rfl,fun _ _ e1 e2 e3=>⟨e1,(h2 _ fun q=>hi (hI _ _ _ _ (eb ▸ hb'') hj q)).trans e2,e3⟩⟩) (fun _ _=>rfl)
        fun _ _ _ h5 h6 h7=>⟨(h2 _ (e1_1 h5 fun o e'=>ne_get e e'.1 fun q=>by rw [q] at e';cases e'.2)).trans h6,h7⟩
theorem EXs.freeze {xs:List D} (j:Nat) (hj:Γ[j]? = some (some (.own xs))) (h:EXs S k f (Γ.set j (some (.val (.list xs)))) sts res) (hx:j < f.vars.length:=by decide):EXs S k f Γ sts res:=by
  intro A g W env s Q E R st hQ
  refine e4_5 (st.freeze hj hx) (fun a vs n g' _ _ _ t st'=>?_)
  exact h A g' W env s Q E R st' fun fl g₂ s₂ t₂ p₂=>hQ fl g₂ s₂ (t.trans t₂ fun _ q=>q) p₂
theorem EV.borrow {xs:List D} (j:Nat) (hj:Γ[j]? = some (some (.own xs))) (h:EV S k f (Γ.set j (some (.val (.list xs)))) e d) (hd:d.flat = true:=by rfl) (hx:j < f.vars.length:=by decide):EV S k f Γ e d:=by
  intro A g W env s Q E R st hQ
  refine e4_5 (st.freeze hj hx) (fun a vs n g' h1 h2 h3 t st'=>?_)
  refine h A g' W env s Q E R st' fun v g₂ s₂ t₂ r₂=>?_
  (refine e1_1 (Tr.drop st.base h1 h3 (fun o e=>by rw [h2] at e;cases e;nofun) (by rw [h2];nofun) t₂) (fun g₃ t₃=>?_))
  exact hQ v g₃ s₂ t₃ (r₂.flat_any hd)
theorem TV.borrow {xs:List D} {b:Bool} (j:Nat) (hj:Γ[j]? = some (some (.own xs))) (h:TV S k f (Γ.set j (some (.val (.list xs)))) e b) (hx:j < f.vars.length:=by decide):TV S k f Γ e b:=by
  intro A g W env s Q E R st hQ
  refine e4_5 (st.freeze hj hx) (fun a vs n g' h1 h2 h3 t st'=>?_)
  refine h A g' W env s Q E R st' fun g₂ s₂ t₂=>?_
  (refine e1_1 (Tr.drop st.base h1 h3 (fun o e=>by rw [h2] at e;cases e;nofun) (by rw [h2];nofun) t₂) (fun g₃ t₃=>?_))
  exact hQ g₃ s₂ t₃
noncomputable def OwnChg (S:Sig) (f:Fi) (Γ:Ctxt) (g₀:Heap) (s₀:Shared) (g:Heap) (W:Addr→Prop) (env:Env) (s:Shared) (j:Nat) (a:Addr):Prop :=
  ∀ h' vs' n' xs' t,h'.get? a = some (listO vs' n')→Heap.SameBut a s.heap h'→vs'.length≤sizeLine→Rds g vs' xs'→s.toks≤t →
    Tr S W g₀ s₀ g { s with heap:=h',toks:=t }∧St S f (Γ.set j (some (.own xs'))) g W env { s with heap:=h',toks:=t }
noncomputable def AppAt (f:Fi) (Γ:Ctxt) (g:Heap) (env:Env) (m:Str→Option Value) (j:Nat) (a:Addr):Prop :=
  ∀ (i:Nat) (y:Str),Γ[i]? = some (some (B.app j))→f.vars[i]? = some y→env.kindOf y = some .local∧∃ q,m y = some (.ref q)∧g.get? q = some (appO a)
theorem St.own {g:Heap} {W:Addr→Prop} {env:Env} {s:Shared} {j:Nat} {x:Str} {xs:List D} {C:Prop} (st:St S f Γ g W env s) (hj:Γ[j]? = some (some (.own xs))) (hx:f.vars[j]? = some x)
    (K:∀ a m vs n,env.kindOf x = some .local→s.heap.Ns env.locals m→m x = some (.ref a)→s.heap.get? a = some (listO vs n)→vs.length≤sizeLine→Rds g vs xs→AppAt f Γ g env m j a→OwnChg S f Γ g s g W env s j a→C):C:=by
  refine e2_5 (st.vars) (fun m ad hns hb hg hH hI=>?_)
  refine (hH j _ _ hx hj).ownC fun hk hm vs n e hz rs hn hw=>?_
  refine K (ad j) m vs n hk hns hm e hz rs (fun i y hi hy=>hH i y _ hy hi) (fun h' vs' n' xs' t e' hs hz' rs' ht=>?_)
  have T:Tr S W g s g { s with heap:=h',toks:=t }:=Tr.set st.keep st.base st.tabs hs hw hn (st.tabs.notT e nofun) ht
  refine ⟨T,T.keep,st.base,T.now,st.envIs,fun a l=>st.wide a (Nat.le_trans T.size l),fun y c e=>Nat.lt_of_lt_of_le (st.clt y c e) T.size,m,ad,ns_away hns hs e nofun,hb,hg,fun i y b hy hb'=>?_,fun p q xs₁ ys₁ e1 e2=>?_⟩
  · rcases get_set hb' with ⟨rfl,rfl⟩ | ⟨hi,hb''⟩
    · obtain rfl:x = y:=Option.some.inj (hx.symm.trans hy)
      exact ⟨hk,hm,vs',n',e',hz',rs',hn,hw⟩
    · exact (hH i y b hy hb'').go (fun _ _ e=>e) (fun _ e=>e) (fun _ _ _ hc=>hc.sameBut hs (e1_1 hc fun o e1=>ne_get e e1.1 fun q=>by rw [q] at e1;cases e1.2))
        (fun ys eb=>⟨rfl,fun _ _ a1 a2 a3=>⟨(hs.2 _ fun q=>hi (hI _ _ _ _ (eb ▸ hb'') hj q)).trans a1,a2,a3⟩⟩) (fun _ _=>rfl) fun _ _ _ _ h4 h5=>⟨h4,h5⟩
  · have got:∀ {p:Nat} {ys:List D},(Γ.set j (some (.own xs')))[p]? = some (some (.own ys))→∃ zs,Γ[p]? = some (some (.own zs)):=fun {p ys} e =>
      (get_set e).elim (fun e=>⟨xs,e.1 ▸ hj⟩) fun e=>⟨ys,e.2⟩
    exact e1_1 (got e1) fun _ e1=>e1_1 (got e2) fun _ e2=>hI p q _ _ e1 e2
theorem St.nmRun {g:Heap} {W:Addr→Prop} {env:Env} {s:Shared} {x:Str} {v:Value} {m:Str→Option Value} {A:Around} {npos:Pos} {Q E:Value→Shared→Prop} (st:St S f Γ g W env s) (hk:env.kindOf x = some .local) (hns:s.heap.Ns env.locals m) (hm:m x = some v)
    (hdb:(x == ("__debug__":Str)) = false) (hQ:Q v s):wpAny S.M A (eval (.Name x npos) env) Q E s :=
  wpAny_Name (wpAny_loadName_local st.envIs.kind hk hns hm hQ) hdb
structure OwnIn (S:Sig) (f:Fi) (Γ:Ctxt) (g:Heap) (W:Addr→Prop) (env:Env) (s:Shared) (j:Nat) (x:Str) (xs:List D) (a:Addr):Prop where
  ho:∃ vs n,s.heap.get? a = some (listO vs n)
  name:∀ {A:Around} {npos:Pos} {Q E:Value→Shared→Prop},(x == ("__debug__":Str)) = false→Q (.ref a) s→wpAny S.M A (eval (.Name x npos) env) Q E s
  app:∀ (i:Nat) (y:Str),Γ[i]? = some (some (B.app j))→f.vars[i]? = some y→∃ q,g.get? q = some (appO a)∧∀ {A:Around} {npos:Pos} {Q E:Value→Shared→Prop},(y == ("__debug__":Str)) = false→Q (.ref q) s→wpAny S.M A (eval (.Name y npos) env) Q E s
  later:∀ {g2:Heap} {s2:Shared} {C:Prop},Tr S (Nw s) g s g2 s2→(∀ vs n,s2.heap.get? a = some (listO vs n)→vs.length≤sizeLine→Rds g2 vs xs→OwnChg S f Γ g s g2 W env s2 j a→C)→C
theorem St.ownIn {g:Heap} {W:Addr→Prop} {env:Env} {s:Shared} {j:Nat} {x:Str} {xs:List D} {C:Prop} (st:St S f Γ g W env s) (hj:Γ[j]? = some (some (.own xs))) (hx:f.vars[j]? = some x) (K:∀ a,OwnIn S f Γ g W env s j x xs a→C):C :=
  st.own hj hx fun a m vs n hk hns hm ho _ _ ha _=>K a ⟨⟨vs,n,ho⟩,st.nmRun hk hns hm,fun i y hi hy=>e0_2 (ha i y hi hy) fun hk e=>e1_2 e fun q e h=>⟨q,h,st.nmRun hk hns e⟩,fun {g2 s2 C} t2 K=>by
    refine (st.move t2).own hj hx fun a₂ m₂ vs₂ n₂ _ hns₂ hm₂ ho₂ hz₂ rs₂ _ hch=>?_
    have e:=hns₂.agree (t2.ns st.tabs hns (Nat.not_le.mpr hns.lt)) x
    rw [hm₂,hm] at e;cases e
    exact K vs₂ n₂ ho₂ hz₂ rs₂ fun h' vs' n' xs' t e1 e2 e3 e4 e5=>e0_2 (hch h' vs' n' xs' t e1 e2 e3 e4 e5) fun T st3=>⟨(t2.weak st.new).trans T fun _ q=>q,st3⟩⟩
noncomputable def OwnOp (S:Sig) (k:Nat) (t:Value→List Value→Sem Value) (xs:List D) (ds:List D) (xs':List D) (d:D):Prop :=
  ∀ (A:Around) (g:Heap) (s:Shared) (a:Addr) (vs:List Value) (n:Nat) (args:List Value) (Q:Value→Shared→Prop) (E:Value→Shared→Prop),At S k A g s→s.heap.get? a = some (listO vs n)→vs.length≤sizeLine→Rds g vs xs→Rds g args ds →
    (∀ v h' vs' n' t',h'.get? a = some (listO vs' n')→Heap.SameBut a s.heap h'→vs'.length≤sizeLine→Rds g vs' xs'→s.toks≤t'→Rd g v d→Q v { s with heap:=h',toks:=t' })→wpAny S.M A (t (.ref a) args) Q E s
theorem EX.ownMeth {x name:Str} {apos npos:Pos} {id:String} {xs xs':List D} (j:Nat) (slot:Slot "list" name id) (hty:typeOf (.builtin id) = pure (.type "method_descriptor")) (hx:f.vars[j]? = some x) (hj:Γ[j]? = some (some (.own xs)))
    (h2:EVs S k f Γ es ds) (h3:OwnOp S k (fun o vs=>PySem.call (.builtin id) (o :: vs)) xs ds xs' d)
    (hdb:(x == ("__debug__":Str)) = false:=by decide)
    (hline:(apos.endLine == pos.line) = true:=by rfl)
    (hfew:∀ env,((backTo pos (starEach es env)).all (fun x=>!x.1) && (backToKw pos (keywordEach [] env)).all (fun x=>x.1.isSome)
      && decide (es.length + ([]:List Keyword).length + (if ([]:List Keyword).isEmpty then 0 else 1) < 30)) = true:=by intro _;rfl)
    (hs:∀ env,swapsWith (.Call (.Attribute (.Name x npos) name apos) es [] pos) none p'.line env = pure false:=by intro _;rfl) :
    EX S k f Γ (.Expr (.Call (.Attribute (.Name x npos) name apos) es [] pos) p') (.next (Γ.set j (some (.own xs')))):=by
  intro A g W env s Q E R st hQ
  refine wpAny_Expr_any ?_ (not_interactive st.envIs) (hs env)
  refine wpAny_Call_method (T:="list") (id:=id) (by rfl) (hfew env) hline PySem.F.plainAttrs_list slot hty ?_
  refine st.ownIn hj hx fun a O=>O.name hdb ?_
  refine ⟨e2_1 O.ho fun vs n ho=>⟨_,ho,rfl⟩,fun a' q=>by cases q;exact e2_1 O.ho fun vs n ho=>⟨_,ho,rfl⟩,?_⟩
  refine callWith_of (P:=fun h=>S.K.In h) (by show ((backTo pos (starEach es env)).any (·.1) || false) = false;rw [h2.plain];rfl) (Callee.builtin (S:=S)) ?_
  refine evalArgs_any (h2.plain _ _) (h2.run pos A g W env s _ E R st fun args g2 s2 t2 r2=>⟨t2.base.kin.keeps t2.keep,?_⟩)
  refine O.later t2 fun vs₂ n₂ ho₂ hz₂ rs₂ ch=>?_
  exact h3 A g2 s2 a _ _ args _ E (t2.at R) ho₂ hz₂ rs₂ r2 fun v h' vs' n' t' e1 e2 e3 e4 e5 _=>e0_2 (ch h' vs' n' xs' t' e1 e2 e3 e4 e5) fun T st3=>hQ _ g2 _ T ⟨rfl,st3⟩
theorem OwnOp.append {xs:List D} {d:D} (hz:xs.length < sizeLine):OwnOp S k (fun o vs=>PySem.call (.builtin "list.append") (o :: vs)) xs [d] (xs ++ [d]) .none:=by
  intro A g s a vs n args Q E at' ho hl rs ra hQ
  cases ra using Rds.casesCons with
  | cons r1 r2 =>
    cases r2 using Rds.casesNil
    rename_i v
    have hlen:=rs.length
    refine wpAny_list_append_plain ⟨n,ho⟩ (fun h' hp hs=>?_) (by simpa using hl)
    refine e1_1 (hp) (fun n' e=>?_)
    exact hQ _ h' (vs ++ [v]) n' _ (by simpa using e) hs (by simp;omega) (rs.append (.cons r1 .nil)) (Nat.le_refl _) (.raw _)
theorem EX.ownNew {x:Str} {npos:Pos} (i:Nat) (hx:f.vars[i]? = some x) (hk:f.kinds[i]? = some .local) (h:EVs S k f Γ es ds)
    (hna:(Γ.all fun b=>match b with | some (.app q)=>q != i | _=>true) = true:=by rfl) (hl:ds.length≤sizeLine:=by decide)
    (hs:∀ env,swapsWithSole [.Name x npos] (.List es pos) p'.line env = pure false:=by intro _;rfl) (hw:∀ env,swappedStores [.Name x npos] (.List es pos) env = pure none:=by intro _;rfl)
    (ha:∀ env v,assignAll v ((assignEach [.Name x npos] env).map (·.2)) = PySem.assign (.Name x npos) env v:=by intro _ _;rfl) (hΓ:Γ.length≤f.vars.length:=by decide) :
    EX S k f Γ (.Assign [.Name x npos] (.List es pos) p') (.next (Γ.set i (some (.own ds)))):=by
  intro A g W env s Q E R st hQ
  refine wpAny_Assign_stores ?_ (hs env) (hw env)
  refine wpAny_List_spliced (h.run pos A g W env s _ E R st fun vs g1 s1 t1 r1=>?_)
  have hlen:=r1.length
  refine ⟨by omega,?_⟩
  rw [ha env,arm_assign_Name]
  refine wpAny_bind (wpAny_standAt (wpAny_bindName ?_))
  have a1:=t1.at R
  have st1:=st.move t1
  refine e1_3 (Tr.grow (s':={ s1 with heap:=s1.heap.push (listO vs 0) }) (fun _=>False) a1.keep a1.base a1.tabs (fun b x e=>Heap.get?_push_of_some _ e) (by simp) rfl rfl (Nat.le_refl _)) (fun g2 t2 _ hno=>?_)
  have st2:=st1.move t2
  refine e2_5 (st1.vars) (fun m ad hns hb hg hH hI=>?_)
  have hbig:∀ {j ys},Γ[j]? = some (some (.own ys))→ad j < s1.heap.objs.size:=fun {j ys} e=>by
    have hj:j < f.vars.length:=Nat.lt_of_lt_of_le (List.getElem?_eq_some_iff.mp e).1 hΓ
    exact (hH j _ _ (List.getElem?_eq_getElem hj) e).2.2.lt
  refine wp_storeL (b:=.own ds) (ad:=ad) (ad':=fun p=>if p = i then s1.heap.objs.size else ad p) t2.keep t2.base t2.now st2.envIs st2.wide st2.clt hx hk (t2.ns st1.tabs hns (Nat.not_le.mpr hns.lt)) hb (t2.none hg (Nat.not_le.mpr hns.lt)) (fun i x b e e'=>t2.holds st1.tabs (hH i x b e e')) (inj_if (fun j ys e=>Nat.ne_of_lt (hbig e)) hI) (fun h' m' hn hv hs' hki=>?_) (fun j xs hj _=>by simp [hj]) (fun j q hj hq=>by simp [app_ne hna hq]) fun g3 s3 t3 st3=>hQ _ g3 s3 (((t1.then t2).weak st.new).trans t3 fun _ z=>z) ⟨rfl,st3⟩
  refine ⟨hki,by simpa using hv,vs,0,?_,by omega,r1.mono t2.mono,by simpa using hno _ (Nat.le_refl _) id,by simpa using st1.wide _ (Nat.le_refl _)⟩
  simp only [if_true]
  refine (hs'.2 _ fun q=>?_).trans (Heap.get?_push_size _ rfl)
  have:=hns.lt;rw [← q] at this;exact absurd this (Nat.lt_irrefl _)
end
end
section
open PySem PySem.W PySem.Calls PyProof.Rows
theorem slot_mdget:Slot "method_descriptor" "__get__" "method_descriptor.__get__" :=
  .of (owner:="method_descriptor") (n:="__get__") (by rw [typeLookup_type,builtinLookup_eq_fast];kernel_rfl) (by decide +kernel) (by decide +kernel) (by decide +kernel)
    (by first | exact .inl (by decide +kernel) | exact .inr (by decide +kernel)) (by rw [isSubtype_type];kernel_rfl)
theorem entry_mdget:entryFor table "method_descriptor.__get__" = some Builtin.«method_descriptor.__get__»:=entryFor_of_tree (by kernel_rfl)
theorem args_mdget (a b c:Value):argsOk "method_descriptor.__get__" ⟨[a,b,c],[]⟩:=by unfold argsOk;kernel_rfl
theorem none_mdset:typeLookup (.type "method_descriptor") "__set__" = pure none:=by rw [typeLookup_type,builtinLookup_eq_fast];kernel_rfl
theorem none_mddel:typeLookup (.type "method_descriptor") "__delete__" = pure none:=by rw [typeLookup_type,builtinLookup_eq_fast];kernel_rfl
theorem look_append:typeLookup (.type "list") "append" = pure (some (.builtin "list.append")):=by rw [typeLookup_type,builtinLookup_eq_fast];kernel_rfl
theorem ty_append:typeOf (.builtin "list.append") = pure (.type "method_descriptor"):=PySem.F.type_list_append
theorem mdget_run {prog:Program} {w:World} {A:Around} {E:Value→Shared→Prop} {s:Shared} {l:Addr} {vs:List Value} {n:Nat} {P:PySem.Fin→Shared→Prop} (ho:s.heap.get? l = some (listO vs n))
    (h:P (.done (.ret (.ref s.heap.objs.size))) { s with heap:=s.heap.push (appO l) }):wpAny (model prog w) A (Builtin.«method_descriptor.__get__» ⟨[.builtin "list.append",.ref l,.type "list"],[]⟩) P E s:=by
  unfold Builtin.«method_descriptor.__get__»
  refine wpAny_bind (wpAny_of_eq (a:=(.builtin "list.append",some (.ref l),some (.type "list"))) (by first | rfl | kernel_rfl) ?_)
  dsimp only
  refine wp_ifF (by decide +kernel) ?_
  refine wpAny_bind (m:=_) (f:=fun _=>newFields "builtin_function_or_method" [.builtin "list.append",.ref l] >>= fun v=>ret v) ?_
  refine wpAny_bind (m:=_) (f:=fun (q:Str × Value)=>isInstance (.ref l) q.2 >>= fun b=>_) (wpAny_of_eq (a:=(("append":Str),.type "list")) (by kernel_rfl) ?_)
  refine wpAny_bind (wpAny_isInstance (T:="list") (b:=true) ⟨_,ho,rfl⟩ ?_ ?_)
  · rw [isSubtype_type];kernel_rfl
  refine wpAny_pure ?_
  exact wpAny_bind (wpAny_newObj_type (wpAny_pure h))
theorem look_get:specialOf (.builtin "list.append") "__get__" = pure (some (.builtin "method_descriptor.__get__")):=by
  unfold specialOf
  rw [ty_append]
  show typeLookup _ _ = _
  exact slot_mdget.lookup
theorem look_set:specialOf (.builtin "list.append") "__set__" = pure none:=by
  unfold specialOf
  rw [ty_append]
  exact none_mdset
theorem look_del:specialOf (.builtin "list.append") "__delete__" = pure none:=by
  unfold specialOf
  rw [ty_append]
  exact none_mddel
theorem getattribute_run {prog:Program} {w:World} {A:Around} {E:Value→Shared→Prop} {s:Shared} {l:Addr} {vs:List Value} {n:Nat} {t:Tok} {P:PySem.Fin→Shared→Prop} (ho:s.heap.get? l = some (listO vs n))
    (h:P (.done (.ret (.ref s.heap.objs.size))) { s with heap:=s.heap.push (appO l) }):wpAny (model prog w) A (Builtin.«object.__getattribute__» ⟨[.ref l,.str "append" t],[]⟩) P E s:=by
  obtain ⟨hp,g,d,tk,os⟩:=s
  have hT:∀ tk',(⟨hp,g,d,tk',os⟩:Shared).TypeIs (.ref l) "list":=fun _=>⟨_,ho,rfl⟩
  have f1:=look_append
  have f2:=look_get
  have f3:=look_set
  have f4:=look_del
  unfold Builtin.«object.__getattribute__»
  repeat (any_goals (first | assumption | wp_step))
  refine codeAny_call_builtin slot_mdget.plain entry_mdget (slot_mdget.check _ _ _ _ _ _ _ _ ty_append (args_mdget _ _ _) ?_)
  refine mdget_run (n:=n) (vs:=vs) ho ?_
  exact wpAny_pure h
theorem getAttr_append {prog:Program} {w:World} {A:Around} {E:Value→Shared→Prop} {s:Shared} {l:Addr} {vs:List Value} {n:Nat} {ex:Bool} {Q:Value→Shared→Prop} (ho:s.heap.get? l = some (listO vs n))
    (h:Q (.ref s.heap.objs.size) { s with heap:=s.heap.push (appO l),toks:=s.toks + 1 }):wpAny (model prog w) A (getAttr (.ref l) "append" ex) Q E s:=by
  obtain ⟨hp,g,d,tk,os⟩:=s
  have hT:∀ tk',(⟨hp,g,d,tk',os⟩:Shared).TypeIs (.ref l) "list":=fun _=>⟨_,ho,rfl⟩
  have f3:=F.slot_list_getattribute.lookup
  have f4:=F.slot_list_getattribute.bind (.ref l)
  unfold getAttr getAttrBy
  repeat (any_goals (first | assumption | exact hT _ | wp_step))
  refine wp_ifF (by rw [show onTheHeap (Value.builtin "list.__getattribute__") = false from rfl,Bool.and_false];exact Bool.false_ne_true) ?_
  unfold boundAndCalled
  refine wpAny_bind (wpAny_of_eq f4 ?_)
  refine wpAny_call_entry F.slot_list_getattribute (hT _) am_entry_list_getattribute (getattribute_run (n:=n) (vs:=vs) ho ⟨_,rfl,?_⟩) (F.args_list_getattribute_2 _ _)
  exact wpAny_pure h
section
variable {S:Sig} {k:Nat} {f:Fi} {Γ Γ' Γ₁ Γ₂:Ctxt} {e l r:Expr} {es:List Expr} {d d₁ d₂:D} {ds:List D} {pos p':Pos} {sts:List Stmt} {res:Res}
theorem EX.appBind {x y:Str} {npos npos':Pos} {xs:List D} (i j:Nat) (hx:f.vars[j]? = some x) (hj:Γ[j]? = some (some (.own xs))) (hy:f.vars[i]? = some y) (hk:f.kinds[i]? = some .local) (hij:i ≠ j)
    (hdb:(x == ("__debug__":Str)) = false:=by decide) (hna:(Γ.all fun b=>match b with | some (.app q)=>q != i | _=>true) = true:=by rfl)
    (hs:∀ env,swapsWithSole [.Name y npos] (.Attribute (.Name x npos') "append" pos) p'.line env = pure false:=by intro _;rfl) (hw:∀ env,swappedStores [.Name y npos] (.Attribute (.Name x npos') "append" pos) env = pure none:=by intro _;rfl)
    (ha:∀ env v,assignAll v ((assignEach [.Name y npos] env).map (·.2)) = PySem.assign (.Name y npos) env v:=by intro _ _;rfl) :
    EX S k f Γ (.Assign [.Name y npos] (.Attribute (.Name x npos') "append" pos) p') (.next (Γ.set i (some (.app j)))):=by
  intro A g W env s Q E R st hQ
  refine wpAny_Assign_stores ?_ (hs env) (hw env)
  refine e2_5 (st.vars) (fun m ad hns hb hg hH hI=>?_)
  refine (hH j _ _ hx hj).ownC fun hki hm vs n ho _ _ _ _=>?_
  refine Attribute_name (wpAny_Name (wpAny_loadName_local st.envIs.kind hki hns hm ?_) hdb)
  refine getAttr_append (n:=n) (vs:=vs) ho ?_
  refine e1_2 ((st.at R).push (appO (ad j)) (t:=s.toks + 1)) (fun g2 t2 e2=>?_)
  have st2:=st.move t2
  rw [ha env,arm_assign_Name]
  refine wpAny_bind (wpAny_standAt (wpAny_bindName ?_))
  refine wp_storeL (b:=.app j) (ad:=ad) (ad':=ad) t2.keep t2.base t2.now st2.envIs st2.wide st2.clt hy hk (t2.ns st.tabs hns (Nat.not_le.mpr hns.lt)) hb (t2.none hg (Nat.not_le.mpr hns.lt)) (fun i x b e e'=>t2.holds st.tabs (hH i x b e e')) (inj_set nofun hI) (fun h' m' hn hv hs' hki=>⟨hki,_,hv,e2⟩) (fun _ _ _ _=>rfl) (fun _ _ _ _=>rfl) fun g3 s3 t3 st3=>hQ _ g3 s3 ((t2.weak st.new).trans t3 fun _ z=>z) ⟨rfl,st3⟩
theorem sig_append:Manifest.signature? "list.append" = some ⟨.oneArg,"list.append","append",.self,[⟨"object",.posOnly,true⟩]⟩:=by
  rw [signature?_of (id:="list.append") (n:=['d','n','e','p','p','a']) (o:=['t','s','i','l']) (by kernel_rfl) PySem.F.owner_list];kernel_rfl
theorem kind_append:builtinKind "list.append" = some .method:=by kernel_rfl
theorem check_append {M:Model} {A:Around} {E:Value→Shared→Prop} {s:Shared} {l:Addr} {v:Value} {vs:List Value} {n:Nat} {Q:Unit→Shared→Prop} (ho:s.heap.get? l = some (listO vs n)) (h:Q () s):wpAny M A (checkBoundCall "list.append" ⟨[.ref l,v],[]⟩) Q E s:=by
  obtain ⟨hp,g,d,tk,os⟩:=s
  have hT:∀ tk',(⟨hp,g,d,tk',os⟩:Shared).TypeIs (.ref l) "list":=fun _=>⟨_,ho,rfl⟩
  unfold checkBoundCall
  rw [sig_append,kind_append]
  dsimp only
  refine wp_ifF (by decide) ?_
  refine wpAny_bind (wpAny_isInstance (T:="list") (b:=false) (hT _) (by rw [isSubtype_type];kernel_rfl) ?_)
  refine wp_ifF (by decide +kernel) ?_
  repeat (any_goals (first | assumption | exact hT _ | wp_step))
theorem app_cls1:(Value.type "builtin_function_or_method" == Value.type "method" || Value.type "builtin_function_or_method" == Value.type "builtin_function_or_method" || Value.type "builtin_function_or_method" == Value.type "method-wrapper") = true:=by decide
theorem app_cls2:(Value.type "builtin_function_or_method" != Value.type "method") = true:=by decide
theorem app_cls3:(Value.type "builtin_function_or_method" == Value.type "builtin_function_or_method" || Value.type "builtin_function_or_method" == Value.type "method-wrapper") = true:=by decide
theorem call_app {A:Around} {E:Value→Shared→Prop} {s:Shared} {q l:Addr} {v:Value} {vs:List Value} {n:Nat} {Q:Value→Shared→Prop} (hq:s.heap.get? q = some (appO l)) (ho:s.heap.get? l = some (listO vs n)) (hz:vs.length≤sizeLine)
    (h:∀ h' n',h'.get? l = some (listO (vs ++ [v]) n')→Heap.SameBut l s.heap h'→Q .none { s with heap:=h' }):wpAny S.M A (call (.ref q) [v]) Q E s:=by
  refine wpAny_call (codeAny_of_tree ?_)
  show wpAny _ A.in1 (callAny (.ref q) ⟨[v],[]⟩) _ _ s
  unfold callAny
  refine wpAny_bind (wpAny_load hq (wp_ifT app_cls1 (wp_ifT app_cls2 (wpAny_bind (check_append (vs:=vs) (n:=n) ho ?_)))))
  refine wpAny_bind (wpAny_pure (wpAny_pure ?_))
  refine ⟨Code.quiet_builtin _ (by decide +kernel),codeAny_builtin entry_list_append ?_⟩
  show wpAny _ _ (updateSeq l (·.push v) >>= fun _=>ret .none) _ _ s
  refine wpAny_bind ?_
  refine wpAny_updateSeq ho rfl (wpAny_pure ?_) (hz:=by simpa using hz)
  have e:=Heap.get?_update_self (Obj.mapSeq (·.push v)) ho (by rw [Obj.mapSeq_push_plain];rfl)
  rw [Obj.mapSeq_push_plain] at e
  exact h _ (n + 1) (by rw [e];simp) (Heap.SameBut.update ..)
theorem callWith_app {A:Around} {E:Value→Shared→Prop} {s:Shared} {q l:Addr} {args:List (Bool × Sem Value)} {Q:Value→Shared→Prop} (hplain:args.any (·.1) = false)
    (h:wpAny S.M A (evalArgs (.ref q) true args []) (fun x s₁=>s₁.heap.get? q = some (appO l)∧wpAny S.M A (call (.ref q) x.pos x.kw) Q E s₁) E s):wpAny S.M A (callWith pos (.ref q) [] args []) Q E s:=by
  unfold callWith
  refine wpAny_bind (wpAny_holding (wpAny_mono h (fun x s₁ h₁=>wpAny_bind (wpAny_standAt ?_)) fun _ _ x=>x))
  refine e0_2 (h₁) (fun ho hcall=>?_)
  have hs:(args.any (·.1) || ([]:List (Option Str × Sem Value)).any (·.1.isNone)) = false:=by rw [hplain];rfl
  rw [hs]
  refine wpAny_bind (show wpAny S.M A (keeperOf (.ref q)) _ _ _ from wpAny_bind (wpAny_load ho (wp_ifT app_cls2 (wpAny_of_eq (a:=Keeper.machine) (congrArg pure (if_pos app_cls3)) ?_))))
  exact wpAny_bind (wpAny_mono hcall (fun r s₂ hr=>wpAny_bind (wpAny_holding (wpAny_point (wpAny_pure hr)))) fun _ _ x=>x)
theorem EX.appCall {y:Str} {npos:Pos} {xs:List D} (i j:Nat) (hy:f.vars[i]? = some y) (hi:Γ[i]? = some (some (.app j))) (hj:Γ[j]? = some (some (.own xs))) (h2:EV S k f Γ e d) (hz:xs.length < sizeLine) (hjl:j < f.vars.length:=by decide)
    (hdb:(y == ("__debug__":Str)) = false:=by decide) (hn:∀ env,eval (.Call (.Name y npos) [e] [] pos) env = (do callWith pos (← eval (.Name y npos) env) [] (backTo pos (starEach [e] env)) (backToKw pos (keywordEach [] env))):=by intro _;rfl)
    (hse:∀ env,starEach [e] env = [(false,eval e env)]:=by intro _;rfl)
    (hs:∀ env,swapsWith (.Call (.Name y npos) [e] [] pos) none p'.line env = pure false:=by intro _;rfl) :
    EX S k f Γ (.Expr (.Call (.Name y npos) [e] [] pos) p') (.next (Γ.set j (some (.own (xs ++ [d]))))):=by
  intro A g W env s Q E R st hQ
  refine wpAny_Expr_any ?_ (not_interactive st.envIs) (hs env)
  rw [hn]
  refine st.ownIn hj (List.getElem?_eq_getElem hjl) fun a O=>e1_2 (O.app i y hi hy) fun q hq hnm=>wpAny_bind (hnm hdb ?_)
  rw [hse]
  refine callWith_app (l:=a) rfl ?_
  refine evalArgs_any rfl ?_
  show wpAny S.M A (spliced [(false,eval e env)]) _ _ _
  refine spliced_cons (h2 A g W env s _ E R st fun v g2 s2 t2 r2=>spliced_nil ?_)
  have hq2:=t2.keep _ _ (t2.mono _ _ hq)
  refine ⟨hq2,O.later t2 fun vs₂ n₂ ho₂ hz₂ rs₂ ch=>?_⟩
  refine call_app hq2 ho₂ hz₂ fun h' n' e1 e2=>?_
  have hl:=rs₂.length
  exact e0_2 (ch h' (vs₂ ++ [v]) n' (xs ++ [d]) s2.toks e1 e2 (by simp;lia) (rs₂.append (.cons r2 .nil)) (Nat.le_refl _)) fun T st3=>hQ _ g2 _ T ⟨rfl,st3⟩
noncomputable def idx (n:Nat) (i:Int):Nat:=if i < 0 then (i + (n:Int)).toNat else i.toNat
theorem idx_lt {n:Nat} {i:Int} (h:idx n i < n):i < (n:Int):=by
  by_cases hi:i < 0
  · exact Int.lt_of_lt_of_le hi (Int.natCast_nonneg n)
  · unfold idx at h;rw [if_neg hi] at h;exact Int.lt_of_toNat_lt h
theorem seqIndex_idx {n:Nat} {i:Int} (h0:-(n:Int)≤i) (h1:idx n i < n):seqIndex? i n = some (idx n i):=by
  have h2:=idx_lt h1
  unfold idx
  by_cases hi:i < 0
  · rw [PySem.seqIndex_neg hi h0,if_pos hi]
  · rw [if_neg hi];exact PySem.seqIndex_of (Int.not_lt.mp hi) h2
theorem wp_setAt {A:Around} {E:Value→Shared→Prop} {s:Shared} {a:Addr} {vs:List Value} {n:Nat} {i:Int} {t:Tok} {v:Value} {Q:Unit→Shared→Prop} (ho:s.heap.get? a = some (listO vs n)) (hz:vs.length≤sizeLine) (h0:-(vs.length:Int)≤i) (h1:i < vs.length)
    (hQ:∀ h' n',h'.get? a = some (listO (vs.set (idx vs.length i) v) n')→Heap.SameBut a s.heap h'→Q () { s with heap:=h' }):wpAny S.M A (setItem (.ref a) (.int i t) v) Q E s:=by
  have hsz:=sizeLine_eq
  have e:∀ j,(vs.toArray.setIfInBounds j v) = (vs.set j v).toArray:=fun j=>by
    apply Array.toList_inj.mp
    simp
  by_cases hi:i < 0
  · refine ki_setBack (n:=n) (items:=vs.toArray) ho hi (by simpa using h0) (by lia) ?_
    refine hQ _ n ?_ (Heap.SameBut.update ..)
    have q:=PySem.IsL.update (n:=n) ho (fun xs=>xs.setIfInBounds (i + vs.toArray.size).toNat v)
    simp only [e] at q
    have hi':idx vs.length i = (i + vs.toArray.size).toNat:=by simp [idx,hi]
    rw [hi']
    simpa using q
  · refine ki_setAt (n:=n) (items:=vs.toArray) ho (by lia) (by lia) (by simpa using h1) ?_
    refine hQ _ n ?_ (Heap.SameBut.update ..)
    have q:=PySem.IsL.update (n:=n) ho (fun xs=>xs.setIfInBounds i.toNat v)
    simp only [e] at q
    have hi':idx vs.length i = i.toNat:=by simp [idx,hi]
    rw [hi']
    simpa using q
theorem wp_getAt {A:Around} {E:Value→Shared→Prop} {s:Shared} (a:Addr) {vs:List Value} {n:Nat} {i:Int} {t:Tok} {v:Value} {Q:Value→Shared→Prop} (ho:s.heap.get? a = some (listO vs n)) (hz:vs.length≤sizeLine) (h0:-(vs.length:Int)≤i) (h1:i < vs.length) (hv:vs[idx vs.length i]? = some v)
    (hQ:Q v s):wpAny S.M A (getItem (.ref a) (.int i t)) Q E s:=by
  have hsz:=sizeLine_eq
  have hl:s.heap.IsList a vs.toArray:=⟨_,ho,rfl,n,rfl⟩
  by_cases hi:i < 0
  · refine wpAny_getItem_list_neg hl hi (by simpa using h0) (by lia) ?_ hQ
    have hi':idx vs.length i = (i + vs.toArray.size).toNat:=by simp [idx,hi]
    rw [hi'] at hv
    simpa using hv
  · refine wpAny_getItem_list hl (by lia) (by lia) ?_ hQ
    have hi':idx vs.length i = i.toNat:=by simp [idx,hi]
    rw [hi'] at hv
    simpa using hv
theorem Rds.set {g:Heap} {v:Value} {d:D} (h:Rd g v d) {vs:List Value} {ds:List D} (rs:Rds g vs ds) (i:Nat):Rds g (vs.set i v) (ds.set i d):=by
  induction vs generalizing ds i with
  | nil =>
    cases ds with
    | nil=>exact .nil
    | cons d ds=>exact nomatch rs.length
  | cons x xs ih =>
    cases ds with
    | nil=>exact nomatch rs.length
    | cons d ds =>
      cases rs using Rds.casesCons with
      | cons a b =>
        cases i with
        | zero=>exact .cons h b
        | succ i=>exact .cons a (ih b i)
theorem Rds.erase {g:Heap} {vs:List Value} {ds:List D} (rs:Rds g vs ds) (i:Nat):Rds g (vs.eraseIdx i) (ds.eraseIdx i):=by
  induction vs generalizing ds i with
  | nil =>
    cases ds with
    | nil=>exact .nil
    | cons d ds=>exact nomatch rs.length
  | cons x xs ih =>
    cases ds with
    | nil=>exact nomatch rs.length
    | cons d ds =>
      cases rs using Rds.casesCons with
      | cons a b =>
        cases i with
        | zero=>exact b
        | succ i=>exact .cons a (ih b i)
theorem AS.item {x:Str} {npos:Pos} {xs:List D} {i:Int} (j:Nat) (hx:f.vars[j]? = some x) (hj:Γ[j]? = some (some (.own xs))) (h2:EV S k f Γ e (.int i)) (h0:-(xs.length:Int)≤i) (h1:i < xs.length)
    (hdb:(x == ("__debug__":Str)) = false:=by decide):AS S k f Γ (.Subscript (.Name x npos) e pos) d (Γ.set j (some (.own (xs.set (idx xs.length i) d)))):=by
  intro A g W env s v Q E R st hr hQ
  rw [arm_assign_Subscript]
  refine st.ownIn hj hx fun a O=>wpAny_bind (wpAny_holding (O.name hdb ?_))
  refine wpAny_bind (wpAny_holding (h2 A g W env s _ E R st fun iv g2 s2 t2 r2=>wpAny_bind (wpAny_standAt (wpAny_bind (wpAny_holding ?_)))))
  refine O.later t2 fun vs₂ n₂ ho₂ hz₂ rs₂ ch=>?_
  have hl:=rs₂.length
  cases r2 using Rd.casesInt
  refine wp_setAt ho₂ hz₂ (by rw [hl];exact h0) (by rw [hl];exact h1) fun h' n' e1 e2=>wpAny_release ?_
  rw [hl] at e1
  exact e0_2 (ch h' _ n' (xs.set (idx xs.length i) d) s2.toks e1 e2 (by rw [List.length_set];exact hz₂) (Rds.set (hr.mono t2.mono) rs₂ _) (Nat.le_refl _)) fun T st3=>hQ g2 _ T st3
theorem wp_delAt {A:Around} {E:Value→Shared→Prop} {s:Shared} {a:Addr} {vs:List Value} {n:Nat} {i:Int} {t:Tok} {Q:Unit→Shared→Prop} (ho:s.heap.get? a = some (listO vs n)) (hz:vs.length≤sizeLine) (h0:0≤i) (h1:i < vs.length)
    (hQ:∀ h' n',h'.get? a = some (listO (vs.eraseIdx i.toNat) n')→Heap.SameBut a s.heap h'→Q () { s with heap:=h' }):wpAny S.M A (delItem (.ref a) (.int i t)) Q E s:=by
  have hsz:=sizeLine_eq
  (refine e1_1 (Int.eq_ofNat_of_zero_le h0) (fun j q1q=>?_);subst q1q)
  have hj:j < vs.length:=by lia
  refine wpAny_delItem_plain (k:=j) ⟨n,ho⟩ (fitsIndex_of h0 (by lia)) (PySem.seqIndex_of h0 (by simpa using h1)) (fun h' hp hs=>?_) (by simpa using hz)
  refine e1_1 (hp) (fun n' e=>?_)
  refine hQ h' n' ?_ hs
  rw [e]
  congr 2
  apply congrArg (fun z=>Data.seq z n')
  exact List.eraseIdxIfInBounds_toArray ..
theorem EX.delItem {x:Str} {npos:Pos} {xs:List D} {i:Int} (j:Nat) (hx:f.vars[j]? = some x) (hj:Γ[j]? = some (some (.own xs))) (h2:EV S k f Γ e (.int i)) (h0:0≤i) (h1:i < xs.length)
    (hdb:(x == ("__debug__":Str)) = false:=by decide):EX S k f Γ (.Delete [.Subscript (.Name x npos) e pos] p') (.next (Γ.set j (some (.own (xs.eraseIdx i.toNat))))):=by
  intro A g W env s Q E R st hQ
  refine wpAny_Delete (wpAny_deleteEach_cons ?_)
  rw [arm_delete_Subscript]
  refine st.ownIn hj hx fun a O=>wpAny_bind (O.name hdb ?_)
  refine wpAny_bind (wpAny_holding (h2 A g W env s _ E R st fun iv g2 s2 t2 r2=>wpAny_bind (wpAny_standAt ?_)))
  refine O.later t2 fun vs₂ n₂ ho₂ hz₂ rs₂ ch=>?_
  have hl:=rs₂.length
  cases r2 using Rd.casesInt
  refine wpAny_bind (wpAny_holding (wp_delAt ho₂ hz₂ h0 (by rw [hl];exact h1) fun h' n' e1 e2=>wpAny_release ?_))
  exact e0_2 (ch h' _ n' (xs.eraseIdx i.toNat) s2.toks e1 e2 (Nat.le_trans (List.length_eraseIdx_le ..) hz₂) (Rds.erase rs₂ _) (Nat.le_refl _)) fun T st3=>wpAny_deleteEach_nil (hQ _ g2 _ T ⟨rfl,st3⟩)
end
end
section
open PySem PySem.W PySem.Calls PyProof.Rows
section
variable {S:Sig} {k:Nat} {f:Fi} {Γ Γ':Ctxt} {e l r:Expr} {es:List Expr} {d d₁ d₂:D} {ds:List D} {pos:Pos}
theorem Op2.addI {a b:Int}:Op2 S k (binaryOp .Add) (.int a) (.int b) (.int (a + b)):=by
  intro A g s v₁ v₂ Q E at' r1 r2 h
  cases r1 using Rd.casesInt;cases r2 using Rd.casesInt
  exact P.add_int (h _ g _ (at'.tick _ (Nat.le_succ _)) (.int _ _))
theorem Op2.subI {a b:Int}:Op2 S k (binaryOp .Sub) (.int a) (.int b) (.int (a - b)):=by
  intro A g s v₁ v₂ Q E at' r1 r2 h
  cases r1 using Rd.casesInt;cases r2 using Rd.casesInt
  exact P.sub_int (h _ g _ (at'.tick _ (Nat.le_succ _)) (.int _ _))
theorem Op2.eqI {a b:Int}:Op2 S k (compareOp .Eq) (.int a) (.int b) (.bool (a == b)):=by
  intro A g s v₁ v₂ Q E at' r1 r2 h
  cases r1 using Rd.casesInt;cases r2 using Rd.casesInt
  exact P.eq_int (h _ g _ (at'.refl _) (.raw _))
theorem Op2.neI {a b:Int}:Op2 S k (compareOp .NotEq) (.int a) (.int b) (.bool (a != b)):=by
  intro A g s v₁ v₂ Q E at' r1 r2 h
  cases r1 using Rd.casesInt;cases r2 using Rd.casesInt
  exact P.ne_int (h _ g _ (at'.refl _) (.raw _))
theorem Op2.ltI {a b:Int}:Op2 S k (compareOp .Lt) (.int a) (.int b) (.bool (decide (a < b))):=by
  intro A g s v₁ v₂ Q E at' r1 r2 h
  cases r1 using Rd.casesInt;cases r2 using Rd.casesInt
  exact P.lt_int (h _ g _ (at'.refl _) (.raw _))
theorem Op2.geI {a b:Int}:Op2 S k (compareOp .GtE) (.int a) (.int b) (.bool (decide (a ≥ b))):=by
  intro A g s v₁ v₂ Q E at' r1 r2 h
  cases r1 using Rd.casesInt;cases r2 using Rd.casesInt
  exact P.ge_int (h _ g _ (at'.refl _) (.raw _))
theorem Op1.negI {a:Int}:Op1 S k (unaryOp .USub) (.int a) (.int (-a)):=by
  intro A g s v₁ Q E at' r1 h
  cases r1 using Rd.casesInt
  exact P.neg_int (h _ g _ (at'.tick _ (Nat.le_succ _)) (.int _ _))
theorem Op2.modI {a b:Int} (hb:b ≠ 0) (hs:b.natAbs.log2 < 200:=by decide +kernel):Op2 S k (binaryOp .Mod) (.int a) (.int b) (.int (a.fmod b)):=by
  intro A g s v₁ v₂ Q E at' r1 r2 h
  cases r1 using Rd.casesInt;cases r2 using Rd.casesInt
  exact mod_int' hb (h _ g _ (at'.tick _ (Nat.le_succ _)) (.int _ _))
theorem Op2.idivI {a b:Int} (hb:b ≠ 0) (hs:b.natAbs.log2 < 9000:=by decide +kernel):Op2 S k (binaryOp .FloorDiv) (.int a) (.int b) (.int (a.fdiv b)):=by
  intro A g s v₁ v₂ Q E at' r1 r2 h
  cases r1 using Rd.casesInt;cases r2 using Rd.casesInt
  exact floordiv_int hb (h _ g _ (at'.tick _ (Nat.le_succ _)) (.int _ _)) (.inl (PyProof.noPylong_of_log2 hs))
theorem strEq (a b:List Nat):((⟨a.toArray⟩:Str).cps.toList == (⟨b.toArray⟩:Str).cps.toList) = (a == b):=by simp
theorem Op2.eqS {a b:List Nat}:Op2 S k (compareOp .Eq) (.str a) (.str b) (.bool (a == b)):=by
  intro A g s v₁ v₂ Q E at' r1 r2 h
  cases r1 using Rd.casesStr;cases r2 using Rd.casesStr
  exact P.eq_str (h _ g _ (at'.refl _) (by rw [strEq];exact .raw _))
theorem Op2.neS {a b:List Nat}:Op2 S k (compareOp .NotEq) (.str a) (.str b) (.bool (a != b)):=by
  intro A g s v₁ v₂ Q E at' r1 r2 h
  cases r1 using Rd.casesStr;cases r2 using Rd.casesStr
  refine P.ne_str (h _ g _ (at'.refl _) ?_)
  have:((⟨a.toArray⟩:Str).cps.toList != (⟨b.toArray⟩:Str).cps.toList) = (a != b):=by simp
  rw [this];exact .raw _
theorem strApp (a b:List Nat):(⟨a.toArray⟩:Str) ++ ⟨b.toArray⟩ = ⟨(a ++ b).toArray⟩:=by
  show (⟨a.toArray ++ b.toArray⟩:Str) = _
  simp
theorem Op2.addS {a b:List Nat} (hz:a.length + b.length≤sizeLine):Op2 S k (binaryOp .Add) (.str a) (.str b) (.str (a ++ b)):=by
  intro A g s v₁ v₂ Q E at' r1 r2 h
  cases r1 using Rd.casesStr;cases r2 using Rd.casesStr
  refine wpAny_grown (PyProof.Rows.add_str (fun t' tk G=>?_) (by simpa [Str.length] using hz))
  refine h _ g _ (at'.tick _ G.toks) ?_
  have:=Rd.str (g:=g) (a ++ b) t' (by simpa using hz)
  rw [strApp];exact this
theorem Op2.iaddS {a b:List Nat} (hz:a.length + b.length≤sizeLine):Op2 S k (inplaceOp .Add) (.str a) (.str b) (.str (a ++ b)):=by
  intro A g s v₁ v₂ Q E at' r1 r2 h
  cases r1 using Rd.casesStr;cases r2 using Rd.casesStr
  refine wpAny_grown (PyProof.Rows.iadd_str (fun t' tk G=>?_) (by simpa [Str.length] using hz))
  refine h _ g _ (at'.tick _ G.toks) ?_
  have:=Rd.str (g:=g) (a ++ b) t' (by simpa using hz)
  rw [strApp];exact this
theorem Ops.lenS {a:List Nat}:Ops S k (fun vs=>call (.builtin "len") vs) [.str a] (.int a.length):=by
  intro A g s vs Q E at' rs h
  cases rs using Rds.casesCons with
  | cons r1 r2 =>
    cases r2 using Rds.casesNil;cases r1 using Rd.casesStr
    rename_i t hs
    have hz:=sizeLine_eq
    refine P.len_str (by show ¬ ((a.toArray.size:Int) ≥ 2 ^ 63);simp only [List.size_toArray];lia) ?_
    refine h _ g _ (at'.tick _ (by lia)) ?_
    have:=Rd.int (g:=g) (a.length:Int) (s.toks + 1)
    simpa [Str.length] using this
theorem Op2.itemS {a:List Nat} {i:Int} {c:Nat} (hc:a[idx a.length i]? = some c) (h0:-(a.length:Int)≤i):Op2 S k getItem (.str a) (.int i) (.str [c]):=by
  intro A g s v₁ v₂ Q E at' r1 r2 h
  cases r1 using Rd.casesStr;cases r2 using Rd.casesInt
  rename_i t hs u
  have hz:=sizeLine_eq
  have hl:idx a.length i < a.length:=(List.getElem?_eq_some_iff.mp hc).1
  refine P.getItem_str (c:=c) ?_ ?_ (h _ g _ (at'.tick _ (Nat.le_succ _)) ?_)
  · have:=idx_lt hl
    simp only [Bool.or_eq_false_iff,decide_eq_false_iff_not]
    constructor <;> lia
  · show (seqIndex? i a.toArray.size).bind (a.toArray[·]?) = some c
    rw [List.size_toArray,seqIndex_idx h0 hl]
    exact (List.getElem?_toArray ..).trans hc
  · have:=Rd.str (g:=g) [c] s.toks (by show 1≤sizeLine;lia)
    simpa using this
noncomputable def pick {α:Type} (lo hi:Option Int) (l:List α):List α:=(l.drop (kms_lo lo l.length)).take (kms_hi hi l.length - kms_lo lo l.length)
theorem Rds.pick {g:Heap} {vs:List Value} {ds:List D} (h:Rds g vs ds) (lo hi:Option Int):Rds g (pick lo hi vs) (pick lo hi ds):=by
  unfold Mine.pick
  rw [h.length]
  exact (h.drop _).take _
theorem neg_le (n m:Nat):-(n:Int)≤(m:Int):=Int.le_trans (Int.neg_nonpos_of_nonneg (Int.natCast_nonneg n)) (Int.natCast_nonneg m)
theorem pick_length_le {α:Type} (lo hi:Option Int) (l:List α):(pick lo hi l).length≤l.length:=by
  unfold pick
  exact Nat.le_trans (List.length_take_le' ..) (by rw [List.length_drop];exact Nat.sub_le ..)
structure PV (S:Sig) (k:Nat) (f:Fi) (Γ:Ctxt) (o:Option Expr) (i:Option Int):Prop where
  run:∀ (A:Around) (g:Heap) (W:Addr→Prop) (env:Env) (s:Shared) (Q:Value→Shared→Prop) (E:Value→Shared→Prop),Room S k A→St S f Γ g W env s →
    (∀ p g' s',Tr S (Nw s) g s g' s'→p.map Prod.fst = i→Q (partValue p) s')→wpAny S.M A (evalPart o env) Q E s
theorem PV.none:PV S k f Γ none none:=⟨fun A g W env s Q E R st h=>wpAny_pure (h Option.none g s ((st.at R).refl _) rfl)⟩
theorem PV.some {i:Int} (h1:EV S k f Γ e (.int i)):PV S k f Γ (some e) (some i):=⟨fun A g W env s Q E R st h=>by
  rw [evalPart_some]
  exact h1 A g W env s Q E R st fun v g' s' t r=>by cases r using Rd.casesInt;exact h (Option.some (_,_)) g' s' t rfl⟩
theorem kms_hi_le (v:Option Int) (n:Nat):kms_hi v n≤n:=by
  unfold kms_hi
  split
  · exact Nat.le_refl _
  · split
    · exact Nat.sub_le ..
    · exact Nat.min_le_right ..
theorem picked_range {a:List Nat} {p q:Option (Int × Tok)}:slicePicked (⟨a.toArray⟩:Str) p q Option.none = sliceRange ((kms_lo (p.map Prod.fst) a.length:Nat):Int) ((kms_hi (q.map Prod.fst) a.length:Nat):Int) 1:=by
  have e:=kms_bounds (p.map Prod.fst) (q.map Prod.fst) a.length
  have h:slicePicked (⟨a.toArray⟩:Str) p q Option.none = sliceRange (sliceBounds (p.map Prod.fst) (q.map Prod.fst) none a.length).1 (sliceBounds (p.map Prod.fst) (q.map Prod.fst) none a.length).2.1 (sliceBounds (p.map Prod.fst) (q.map Prod.fst) none a.length).2.2:=by
    cases p <;> cases q <;> rfl
  rw [h,e]
theorem picked_eq {a:List Nat} {p q:Option (Int × Tok)}:(slicePicked (⟨a.toArray⟩:Str) p q Option.none).filterMap ((⟨a.toArray⟩:Str).cps[·]?) = pick (p.map Prod.fst) (q.map Prod.fst) a:=by
  rw [picked_range,sliceRange_one,pick_run]
  simp [pick]
theorem pick_len {α:Type} (lo hi:Option Int) (l:List α):(pick lo hi l).length = kms_hi hi l.length - kms_lo lo l.length:=by
  unfold pick
  rw [List.length_take,List.length_drop,Nat.min_eq_left (Nat.sub_le_sub_right (kms_hi_le hi l.length) _)]
theorem picked_len {a:List Nat} {p q:Option (Int × Tok)}:(slicePicked (⟨a.toArray⟩:Str) p q Option.none).length = (pick (p.map Prod.fst) (q.map Prod.fst) a).length:=by
  rw [picked_range,sliceRange_one,List.length_map,List.length_range,pick_len]
theorem slice_whole {α:Type} (lo hi:Option Int) (l:List α) (h:(pick lo hi l).length = l.length):pick lo hi l = l:=by
  rw [pick_len] at h
  have h2:=kms_hi_le hi l.length
  have h3:kms_lo lo l.length = 0 ∨ l = []:=by
    cases l with
    | nil=>exact .inr rfl
    | cons x l=>exact .inl (by rcases Nat.eq_zero_or_pos (kms_lo lo (x :: l).length) with e | e;exact e;exact absurd h (Nat.ne_of_lt (Nat.lt_of_le_of_lt (Nat.sub_le_sub_right h2 _) (Nat.sub_lt (Nat.succ_pos _) e))))
  rcases h3 with h0 | rfl
  · rw [h0,Nat.sub_zero] at h
    unfold pick
    rw [h0,List.drop_zero,Nat.sub_zero,h,List.take_length]
  · unfold pick;rw [List.drop_nil,List.take_nil]
theorem EV.sliceS {a:List Nat} {lo hi:Option Expr} {i j:Option Int} {p:Pos} (h1:EV S k f Γ e (.str a)) (h2:PV S k f Γ lo i) (h3:PV S k f Γ hi j) (ht:∀ o r,letTemporaryGo e o r = pure ():=by intro _ _;rfl) :
    EV S k f Γ (.Subscript e (.Slice lo hi none p) pos) (.str (pick i j a)):=by
  intro A g W env s Q E R st hQ
  refine wpAny_Subscript_str_slice (h1 A g W env s _ E R st fun v g1 s1 t1 r1=>h2.run A g1 W env s1 _ E R (st.move t1) fun p2 g2 s2 t2 e2=>h3.run A g2 W env s2 _ E R ((st.move t1).move t2) fun p3 g3 s3 t3 e3=>?_) ht
  cases r1 using Rd.casesStr
  rename_i t hs
  refine ⟨_,t,p2,p3,rfl,rfl,rfl,?_⟩
  have a3:=(((st.move t1).move t2).move t3).at R
  have T:=(t1.then t2).then t3
  have hp:=picked_eq (a:=a) (p:=p2) (q:=p3)
  rw [e2,e3] at hp
  unfold sliceMade
  split
  · rename_i hw
    refine e1_2 (a3.push { cls:=.type "slice",data:=.fields #[partValue p2,partValue p3,.none] } (t:=s3.toks)) (fun g4 t4 _=>?_)
    refine hQ _ g4 _ (T.then t4) ?_
    have:(pick i j a) = a:=by
      apply slice_whole
      have hl:=picked_len (a:=a) (p:=p2) (q:=p3)
      rw [e2,e3] at hl
      rw [← hl]
      simpa [Str.length] using hw
    rw [this];exact .str a t hs
  · refine e1_2 (a3.push { cls:=.type "slice",data:=.fields #[partValue p2,partValue p3,.none] } (t:=s3.toks + 1)) (fun g4 t4 _=>?_)
    rw [hp]
    have hl:=Nat.le_trans (pick_length_le i j a) hs
    refine ⟨by show (pick i j a).toArray.size≤_;simpa using hl,hQ _ g4 _ (T.then t4) (.str _ _ hl)⟩
end
section
variable {S:Sig} {k:Nat} {f:Fi} {Γ Γ':Ctxt} {e l r:Expr} {es:List Expr} {d d₁ d₂:D} {ds:List D} {pos:Pos}
theorem Ops.isinstSS {a:List Nat}:Ops S k (fun vs=>call (.builtin "isinstance") vs) [.str a,.raw (.type "str")] (.bool true):=by
  intro A g s vs Q E at' rs h
  cases rs using Rds.casesCons with
  | cons r1 r2 =>
    cases r2 using Rds.casesCons with
    | cons r2 r3 =>
      cases r3 using Rds.casesNil;cases r1 using Rd.casesStr;cases r2 using Rd.casesRaw
      exact IsiPair.str_str (h _ g _ (at'.refl _) (.raw _))
end
end
section
open PySem PySem.W PySem.Calls PyProof.Rows
mutual
noncomputable def D.py:D→PyData
  | .raw (.bool b)=>.bool b
  | .raw _=>.none
  | .int i=>.int i
  | .str s=>.str ⟨s.toArray⟩
  | .list xs=>.list (D.pys xs)
  | .tup xs=>.tuple (D.pys xs)
  | .rng ..=>.none
  | .obj ..=>.none
  | .abs _=>.none
noncomputable def D.pys:List D→List PyData
  | []=>[]
  | d :: ds=>D.py d :: D.pys ds
end
noncomputable def okC (s:List Nat):Bool:=s.all fun c=>decide (c < 0x110000)
noncomputable def D.ok (m:Bool):Nat→D→Bool
  | _,.raw .none=>true
  | _,.raw (.bool _)=>m
  | _,.int _=>!m
  | _,.str s=>okC s
  | n + 1,.tup ds=>ds.all (D.ok m n)
  | n + 1,.list ds=>ds.all (D.ok m n)
  | _,_=>false
theorem strOk_of {s:List Nat} (h:okC s = true):PyData.strOk ⟨s.toArray⟩ = true:=by
  unfold okC at h
  unfold PyData.strOk
  simp at h ⊢
  exact h
theorem D.okRec {m:Bool} {P:Nat→D→Prop} (h0:∀ n,P n (.raw .none)) (h1:∀ n b,m = true→P n (.raw (.bool b))) (h2:∀ n i,m = false→P n (.int i)) (h3:∀ n s,okC s = true→P n (.str s))
    (h4:∀ n ds,(∀ d ∈ ds,D.ok m n d = true)→(∀ d ∈ ds,P n d)→P (n + 1) (.tup ds)) (h5:∀ n ds,(∀ d ∈ ds,D.ok m n d = true)→(∀ d ∈ ds,P n d)→P (n + 1) (.list ds)):∀ n d,D.ok m n d = true→P n d:=by
  have flat:∀ n d,(∀ ds,d ≠ .tup ds)→(∀ ds,d ≠ .list ds)→D.ok m n d = true→P n d:=fun n d n1 n2 h=>by
    have h:D.ok m 0 d = true:=by cases n;exact h;(cases d <;> first | exact h | exact absurd rfl (n1 _) | exact absurd rfl (n2 _) | skip);rename_i v;cases v <;> exact h
    cases d with
    | raw v=>cases v <;> first | exact h0 n | exact h1 n _ h | exact absurd h Bool.false_ne_true
    | int i=>exact h2 n i (by cases m;rfl;cases h)
    | str s=>exact h3 n s h
    | tup ds=>exact absurd rfl (n1 ds)
    | list ds=>exact absurd rfl (n2 ds)
    | _=>exact absurd h Bool.false_ne_true
  intro n
  induction n with
  | zero=>exact fun d h=>flat 0 d (fun ds e=>by subst e;exact absurd h Bool.false_ne_true) (fun ds e=>by subst e;exact absurd h Bool.false_ne_true) h
  | succ n ih =>
    intro d h
    cases d with
    | tup ds=>have q:=List.all_eq_true.mp h;exact h4 n ds q fun d hd=>ih d (q d hd)
    | list ds=>have q:=List.all_eq_true.mp h;exact h5 n ds q fun d hd=>ih d (q d hd)
    | _=>exact flat (n + 1) _ nofun nofun h
theorem D.okMap {m:Bool} {n:Nat} {α:Type} {g:α→D} {xs:List α} (h:∀ x ∈ xs,D.ok m n (g x) = true):D.ok m (n + 1) (.list (xs.map g)) = true :=
  List.all_eq_true.mpr fun d hd=>e1_2 (List.mem_map.mp hd) fun y hy e=>by subst e;exact h y hy
theorem D.ok2 {m:Bool} {n:Nat} {a b:D} (h1:D.ok m n a = true) (h2:D.ok m n b = true):D.ok m (n + 1) (.list [a,b]) = true:=by
  show (D.ok m n a && (D.ok m n b && true)) = true;rw [h1,h2];rfl
theorem D.okT2 {m:Bool} {n:Nat} {a b:D} (h1:D.ok m n a = true) (h2:D.ok m n b = true):D.ok m (n + 1) (.tup [a,b]) = true:=D.ok2 h1 h2
theorem py_allP {g h:Heap} {ds:List D} (ih:∀ d ∈ ds,∀ v,Rd g v d→∃ as,Reads h v (D.py d) as) {vs:List Value} (r:Rds g vs ds):∃ as,ReadsAll h vs (D.pys ds) as:=by
  induction ds generalizing vs with
  | nil=>cases r using Rds.casesNil;exact ⟨_,.nil⟩
  | cons d ds hi =>
    cases r using Rds.casesCons with
    | cons a b=>exact e1_1 (ih d (.head _) _ a) fun as q=>e1_1 (hi (fun d hd=>ih d (.tail _ hd)) b) fun bs r=>⟨_,.cons q r⟩
theorem py_reads {g h:Heap} (k:Keep g h) {m:Bool} {v:Value} {d:D} (n:Nat) (r:Rd g v d) (hd:D.ok m n d = true):∃ as,Reads h v (D.py d) as :=
  D.okRec (P:=fun _ d=>∀ v,Rd g v d→∃ as,Reads h v (D.py d) as) (fun _ v r=>by cases r using Rd.casesRaw;exact ⟨_,.none⟩) (fun _ b _ v r=>by cases r using Rd.casesRaw;exact ⟨_,.bool _⟩) (fun _ i _ v r=>by cases r using Rd.casesInt;exact ⟨_,.int _ _⟩) (fun _ s _ v r=>by cases r using Rd.casesStr;exact ⟨_,.str _ _⟩)
    (fun _ ds _ ih v r=>by cases r using Rd.casesTup with | tup e hl rs=>exact e1_1 (py_allP ih rs) fun as q=>⟨as,reads_tuple_at (k _ _ e) rfl rfl q⟩)
    (fun _ ds _ ih v r=>by cases r using Rd.casesList with | list e hl rs=>exact e1_1 (py_allP ih rs) fun as q=>⟨_,reads_list_at (k _ _ e) rfl rfl q⟩) n d hd v r
theorem py_layAll {n:Nat}:∀ {ds:List D},(∀ d ∈ ds,(D.py d).canLay0 = true∧(D.py d).depth≤n)→PyData.canLayAll0 (D.pys ds) = true∧PyData.depthAll (D.pys ds)≤n:=fun {ds} h=>by
  induction ds with
  | nil=>exact ⟨rfl,Nat.zero_le _⟩
  | cons d ds hi =>
    have h1:=h d (.head _)
    have h2:=hi fun e he=>h e (.tail _ he)
    exact ⟨(Bool.and_eq_true _ _).mpr ⟨h1.1,h2.1⟩,Nat.max_le.mpr ⟨h1.2,h2.2⟩⟩
theorem py_lay {m:Bool}:∀ (n:Nat) (d:D),D.ok m n d = true→(D.py d).canLay0 = true∧(D.py d).depth≤n :=
  D.okRec (fun _=>⟨rfl,Nat.zero_le _⟩) (fun _ _ _=>⟨rfl,Nat.zero_le _⟩) (fun _ _ _=>⟨rfl,Nat.zero_le _⟩) (fun _ _ h=>⟨strOk_of h,Nat.zero_le _⟩)
    (fun n ds _ ih=>e0_2 (py_layAll ih) fun a b=>⟨a,Nat.succ_le_succ b⟩) fun n ds _ ih=>e0_2 (py_layAll ih) fun a b=>⟨a,Nat.succ_le_succ b⟩
theorem iffF {b:Bool} {p:Prop} (h:b = false) (n:¬ p):b = true ↔ p:=⟨fun q=>absurd (h.symm.trans q) Bool.false_ne_true,fun q=>absurd q n⟩
theorem py_eqvAll {ds:List D} (ih:∀ d ∈ ds,∀ e,(∃ k,D.ok m k e = true)→(PyData.eqv (D.py d) (D.py e) = true ↔ d = e)):∀ {es:List D} {k:Nat},(∀ e ∈ es,D.ok m k e = true)→(PyData.eqvAll (D.pys ds) (D.pys es) = true ↔ ds = es):=by
  induction ds with
  | nil=>intro es k _;cases es;exact ⟨fun _=>rfl,fun _=>rfl⟩;exact iffF rfl nofun
  | cons d ds hi =>
    intro es k h
    cases es with
    | nil=>exact iffF rfl nofun
    | cons e es =>
      have q1:=ih d (.head _) e ⟨k,h e (.head _)⟩
      have q2:=hi (fun d hd=>ih d (.tail _ hd)) fun e he=>h e (.tail _ he)
      exact (Bool.and_eq_true _ _).to_iff.trans ((and_congr q1 q2).trans (List.cons.injEq ..).symm.to_iff)
theorem py_eqv {m:Bool} (n:Nat) (d e:D) (k:Nat) (h1:D.ok m n d = true) (h2:D.ok m k e = true):PyData.eqv (D.py d) (D.py e) = true ↔ d = e :=
  D.okRec (m:=m) (P:=fun _ d=>∀ e,(∃ k,D.ok m k e = true)→(PyData.eqv (D.py d) (D.py e) = true ↔ d = e))
    (fun _ e h=>e1_1 h fun k h=>D.okRec (P:=fun _ e=>PyData.eqv (D.py (.raw .none)) (D.py e) = true ↔ D.raw .none = e) (fun _=>⟨fun _=>rfl,fun _=>rfl⟩) (fun _ _ _=>iffF rfl nofun) (fun _ _ _=>iffF rfl nofun) (fun _ _ _=>iffF rfl nofun) (fun _ _ _ _=>iffF rfl nofun) (fun _ _ _ _=>iffF rfl nofun) k e h)
    (fun _ b hb e h=>e1_1 h fun k h=>D.okRec (P:=fun _ e=>PyData.eqv (D.py (.raw (.bool b))) (D.py e) = true ↔ D.raw (.bool b) = e) (fun _=>iffF rfl nofun) (fun _ _ _=>⟨fun h=>by rw [eq_of_beq h],fun h=>by cases h;exact beq_self_eq_true b⟩) (fun _ _ hm=>absurd (hb.symm.trans hm) nofun) (fun _ _ _=>iffF rfl nofun) (fun _ _ _ _=>iffF rfl nofun) (fun _ _ _ _=>iffF rfl nofun) k e h)
    (fun _ i hi e h=>e1_1 h fun k h=>D.okRec (P:=fun _ e=>PyData.eqv (D.py (.int i)) (D.py e) = true ↔ D.int i = e) (fun _=>iffF rfl nofun) (fun _ _ hm=>absurd (hi.symm.trans hm) nofun) (fun _ _ _=>⟨fun h=>by rw [eq_of_beq h],fun h=>by cases h;exact beq_self_eq_true i⟩) (fun _ _ _=>iffF rfl nofun) (fun _ _ _ _=>iffF rfl nofun) (fun _ _ _ _=>iffF rfl nofun) k e h)
    (fun _ s _ e h=>e1_1 h fun k h=>D.okRec (P:=fun _ e=>PyData.eqv (D.py (.str s)) (D.py e) = true ↔ D.str s = e) (fun _=>iffF rfl nofun) (fun _ _ _=>iffF rfl nofun) (fun _ _ _=>iffF rfl nofun) (fun _ t _=>⟨fun h=>by injection (eq_of_beq (show ((⟨s.toArray⟩:Str) == ⟨t.toArray⟩) = true from h)) with h;rw [show s = t from congrArg Array.toList h],fun h=>by cases h;exact beq_self_eq_true (⟨s.toArray⟩:Str)⟩) (fun _ _ _ _=>iffF rfl nofun) (fun _ _ _ _=>iffF rfl nofun) k e h)
    (fun _ ds _ ih e h=>e1_1 h fun k h=>D.okRec (P:=fun _ e=>PyData.eqv (D.py (.tup ds)) (D.py e) = true ↔ D.tup ds = e) (fun _=>iffF rfl nofun) (fun _ _ _=>iffF rfl nofun) (fun _ _ _=>iffF rfl nofun) (fun _ _ _=>iffF rfl nofun) (fun _ es h _=>(py_eqvAll ih h).trans (D.tup.injEq ..).symm.to_iff) (fun _ _ _ _=>iffF rfl nofun) k e h)
    (fun _ ds _ ih e h=>e1_1 h fun k h=>D.okRec (P:=fun _ e=>PyData.eqv (D.py (.list ds)) (D.py e) = true ↔ D.list ds = e) (fun _=>iffF rfl nofun) (fun _ _ _=>iffF rfl nofun) (fun _ _ _=>iffF rfl nofun) (fun _ _ _=>iffF rfl nofun) (fun _ _ _ _=>iffF rfl nofun) (fun _ es h _=>(py_eqvAll ih h).trans (D.list.injEq ..).symm.to_iff) k e h)
    n d h1 e ⟨k,h2⟩
theorem Room.u64 {k:Nat} {A:Around} (h:Room S k A):A.units + 65 < cLine:=by
  have:=h.units
  lia
section
variable {S:Sig} {k:Nat} {f:Fi} {Γ Γ':Ctxt} {e l r:Expr} {es:List Expr} {d d₁ d₂:D} {ds:List D} {pos:Pos}
open Classical in
theorem py_dec {m:Bool} {n:Nat} {d e:D} (h1:D.ok m n d = true) (h2:D.ok m n e = true):PyData.eqv (D.py d) (D.py e) = decide (d = e):=by
  have q:=py_eqv n d e n h1 h2
  by_cases hq:d = e
  · rw [decide_eq_true hq];exact q.mpr hq
  · rw [decide_eq_false hq];exact Bool.eq_false_iff.mpr fun x=>hq (q.mp x)
theorem py_shaped {m:Bool} {d:D} (h:D.ok m 8 d = true):SeqAt.shaped (D.py d) = true:=by
  have l:=py_lay 8 d h
  unfold SeqAt.shaped;rw [l.1,Bool.true_and];exact decide_eq_true (Nat.le_trans l.2 (by decide))
open Classical in
theorem Op2.neD (m:Bool) (h1:D.ok m 8 d₁ = true) (h2:D.ok m 8 d₂ = true):Op2 S k (compareOp .NotEq) d₁ d₂ (.bool (!decide (d₁ = d₂))):=by
  intro A g s v₁ v₂ Q E at' r1 r2 h
  refine e1_1 (py_reads at'.keep 8 r1 h1) (fun as a=>?_)
  refine e1_1 (py_reads at'.keep 8 r2 h2) (fun bs b=>?_)
  refine ne_dataH a b (py_shaped h1) (py_shaped h2) (by have:=at'.room.u64;lia) ?_
  rw [py_dec h1 h2]
  exact h _ g _ (at'.refl _) (.raw _)
theorem py_any {m:Bool} {d:D} (hd:D.ok m 8 d = true) (ds:List D) (h:∀ e ∈ ds,D.ok m 8 e = true):(D.pys ds).any (fun y=>PyData.eqv y (D.py d)) = true ↔ d ∈ ds:=by
  induction ds with
  | nil=>exact iffF rfl nofun
  | cons e ds ih =>
    have q:=ih fun x hx=>h x (.tail _ hx)
    have q1:=py_eqv 8 e d 8 (h e (.head _)) hd
    exact (Bool.or_eq_true _ _).to_iff.trans ((or_congr (q1.trans eq_comm) q).trans List.mem_cons.symm)
open Classical in
theorem py_mem {m:Bool} {d:D} (hd:D.ok m 8 d = true) {ds:List D} (h:∀ e ∈ ds,D.ok m 8 e = true):((D.pys ds).any fun y=>PyData.eqv y (D.py d)) = decide (d ∈ ds):=by
  by_cases hq:d ∈ ds
  · rw [decide_eq_true hq];exact (py_any hd ds h).mpr hq
  · rw [decide_eq_false hq];exact Bool.eq_false_iff.mpr fun z=>hq ((py_any hd ds h).mp z)
theorem py_layL {m:Bool} {ds:List D} (h:∀ d ∈ ds,D.ok m 8 d = true):PyData.canLayAll0 (D.pys ds) = true∧PyData.depthAll (D.pys ds)≤9:=by
  have l:=py_lay (m:=m) 9 (.list ds) (List.all_eq_true.mpr h)
  exact ⟨l.1,Nat.le_of_succ_le_succ (Nat.le_succ_of_le l.2)⟩
open Classical in
theorem Op2.inT (m:Bool) (h1:D.ok m 8 d = true) (h2:∀ e ∈ ds,D.ok m 8 e = true):Op2 S k (compareOp .In) d (.tup ds) (.bool (decide (d ∈ ds))):=by
  intro A g s v₁ v₂ Q E at' r1 r2 h
  refine e1_1 (py_reads at'.keep 8 r1 h1) (fun as a=>?_)
  refine e1_1 (py_reads at'.keep (m:=m) 9 r2 (List.all_eq_true.mpr h2)) (fun bs b=>?_)
  have l:=py_layL h2
  have ld:=py_lay 8 d h1
  have u:=at'.room.u64
  refine SeqAt.in_tuple_reads (xs:=D.pys ds) b a l.1 ld.1 ?_ (by rw [py_mem h1 h2];exact h _ g _ (at'.refl _) (.raw _))
  have:=Nat.min_le_right (PyData.depthAll (D.pys ds)) (D.py d).depth
  have:=ld.2
  lia
end
end
section
open PySem PySem.W PySem.Calls PyProof.Rows Builtin Builtin.Str StrLaws
noncomputable def splitC (c:Nat):List Nat→List (List Nat)
  | []=>[[]]
  | x :: xs=>if x = c then [] :: splitC c xs else match splitC c xs with
    | []=>[[x]]
    | p :: ps=>(x :: p) :: ps
theorem splitC_ne (c:Nat):∀ xs,splitC c xs ≠ []
  | []=>by simp [splitC]
  | x :: xs=>by
    unfold splitC
    split
    · simp
    · split <;> simp
noncomputable def cutsC (c:Nat):Nat→List Nat→List Nat
  | _,[]=>[]
  | o,x :: xs=>if x = c then o :: cutsC c (o + 1) xs else cutsC c (o + 1) xs
theorem occ_run (xs:List Nat) (c hi limit:Nat) (hh:hi≤xs.length):∀ (l:List Nat) (found:Array Nat) (free:Nat),(∀ i ∈ l,free≤i)→l.Pairwise (· < ·) →
    (forIn l (found,free) (occBody ⟨xs.toArray⟩ ⟨#[c]⟩ hi limit)).run.fst.toList = found.toList ++ ((l.filter fun i=>decide (i < hi∧xs[i]? = some c)).take (limit - found.size))
  | [],found,free,_,_=>by simp
  | a :: l,found,free,hf,hp=>by
    rw [List.forIn_cons]
    have hl:∀ i ∈ l,a < i:=fun i hi=>(List.pairwise_cons.mp hp).1 i hi
    have sub:subAt ⟨xs.toArray⟩ ⟨#[c]⟩ a = true ↔ xs[a]? = some c:=by
      have:=subAt_one ⟨xs.toArray⟩ c a
      simp [Str.length] at this ⊢
      constructor
      · intro h
        by_cases hb:a + 1≤xs.length
        · exact (this.mp ⟨by lia,h⟩)
        · exfalso
          unfold subAt at h
          simp [Str.length] at h
          have:=congrArg List.length h
          simp at this;lia
      · intro h;exact (this.mpr h).2
    by_cases hc:(((found,free).fst.size < limit∧(found,free).snd≤a)∧a + (⟨#[c]⟩:Str).length≤hi)∧subAt ⟨xs.toArray⟩ ⟨#[c]⟩ a = true
    · have e:occBody ⟨xs.toArray⟩ ⟨#[c]⟩ hi limit a (found,free) = pure (.yield (found.push a,a + 1)):=by unfold occBody;rw [if_pos hc];rfl
      rw [e]
      show (forIn (m:=Id) l (found.push a,a + 1) (occBody ⟨xs.toArray⟩ ⟨#[c]⟩ hi limit)).run.fst.toList = _
      rw [occ_run xs c hi limit hh l _ _ (fun i hi=>hl i hi) (List.pairwise_cons.mp hp).2]
      have h1:a < hi∧xs[a]? = some c:=⟨by have:=hc.1.2;simp [Str.length] at this;lia,sub.mp hc.2⟩
      have h2:limit - found.size = (limit - (found.push a).size) + 1:=by rw [Array.size_push,Nat.sub_add_eq,Nat.sub_add_cancel (Nat.sub_pos_of_lt hc.1.1.1)]
      rw [List.filter_cons_of_pos (by simpa using h1),h2,List.take_succ_cons]
      simp
    · have e:occBody ⟨xs.toArray⟩ ⟨#[c]⟩ hi limit a (found,free) = pure (.yield (found,free)):=by unfold occBody;rw [if_neg hc]
      rw [e]
      show (forIn (m:=Id) l (found,free) (occBody ⟨xs.toArray⟩ ⟨#[c]⟩ hi limit)).run.fst.toList = _
      rw [occ_run xs c hi limit hh l _ _ (fun i hi=>hf i (.tail _ hi)) (List.pairwise_cons.mp hp).2]
      by_cases h1:a < hi∧xs[a]? = some c
      · have:limit - found.size = 0:=by
          have h3:¬ found.size < limit:=fun h4=>hc ⟨⟨⟨h4,hf a (.head _)⟩,by simp [Str.length];lia⟩,sub.mpr h1.2⟩
          lia
        rw [this];simp
      · rw [List.filter_cons_of_neg (by simpa using h1)]
theorem occ1 (xs:List Nat) (c lo hi limit:Nat) (hh:hi≤xs.length):occurrences ⟨xs.toArray⟩ ⟨#[c]⟩ lo hi limit = ((List.range' lo (hi + 1 - lo)).filter fun i=>decide (i < hi∧xs[i]? = some c)).take limit:=by
  rw [occ_eq,occ_run xs c hi limit hh _ _ _ (fun i hi=>by simp [List.mem_range'] at hi;lia) List.pairwise_lt_range']
  simp
theorem cuts_eq (c:Nat):∀ (xs:List Nat) (pre:List Nat),((List.range' pre.length (xs.length + 1)).filter fun i=>decide (i < pre.length + xs.length∧(pre ++ xs)[i]? = some c)) = cutsC c pre.length xs
  | [],pre=>by simp [cutsC,List.range'_succ]
  | x :: xs,pre=>by
    have ih:=cuts_eq c xs (pre ++ [x])
    simp only [List.length_append,List.length_cons,List.length_nil,List.append_assoc,List.singleton_append] at ih
    rw [List.length_cons,List.range'_succ]
    have e:pre.length + (xs.length + 1) = pre.length + (0 + 1) + xs.length:=by lia
    rw [show pre.length + (0 + 1) = pre.length + 1 by lia] at ih e
    by_cases h:x = c
    · rw [List.filter_cons_of_pos (by simp [h]),e,ih]
      simp only [cutsC,h,if_true]
    · rw [List.filter_cons_of_neg (by simp [h]),e,ih]
      simp only [cutsC,h,if_false]
theorem occ_all (xs:List Nat) (c limit:Nat) (hl:xs.length≤limit):occurrences ⟨xs.toArray⟩ ⟨#[c]⟩ 0 xs.length limit = cutsC c 0 xs:=by
  rw [occ1 xs c 0 xs.length limit (Nat.le_refl _)]
  have:=cuts_eq c xs []
  simp only [List.length_nil,Nat.zero_add,List.nil_append] at this
  rw [show xs.length + 1 - 0 = xs.length + 1 by lia,this]
  apply List.take_of_length_le
  have:∀ (xs:List Nat) o,(cutsC c o xs).length≤xs.length:=by
    intro xs
    induction xs with
    | nil=>intro o;simp [cutsC]
    | cons x xs ih=>intro o;unfold cutsC;have:=ih (o + 1);split <;> simp <;> lia
  exact Nat.le_trans (this _ _) hl
theorem parts_eq (c:Nat):∀ (xs pre mid:List Nat),(((pre.length :: (cutsC c (pre.length + mid.length) xs).map (· + 1)).zip (cutsC c (pre.length + mid.length) xs ++ [(pre ++ mid ++ xs).length])).map fun (p:Nat × Nat)=>((pre ++ mid ++ xs).take p.2).drop p.1) =
    match splitC c xs with
    | []=>[mid]
    | p :: ps=>(mid ++ p) :: ps
  | [],pre,mid=>by
    simp only [cutsC,splitC,List.map_nil,List.nil_append,List.zip_cons_cons,List.zip_nil_right,List.map_cons,List.append_nil]
    rw [List.take_of_length_le (Nat.le_refl _)];simp
  | x :: xs,pre,mid=>by
    by_cases h:x = c
    · subst h
      have ih:=parts_eq x xs (pre ++ mid ++ [x]) []
      simp only [List.length_append,List.length_cons,List.length_nil,List.append_nil,Nat.add_zero,Nat.zero_add,List.append_assoc,List.singleton_append] at ih
      simp only [cutsC,splitC,if_true,List.map_cons,List.cons_append,List.zip_cons_cons]
      simp only [List.length_append,List.length_cons,List.append_assoc]
      rw [show pre.length + mid.length + 1 = pre.length + (mid.length + 1) by lia]
      rw [ih]
      cases hs:splitC x xs with
      | nil=>exact absurd hs (splitC_ne x xs)
      | cons p ps =>
        simp only [List.append_nil,List.nil_append,List.cons.injEq,and_true]
        rw [← List.append_assoc,List.take_append_of_le_length (by simp),List.take_of_length_le (by simp)]
        simp
    · have ih:=parts_eq c xs pre (mid ++ [x])
      simp only [List.length_append,List.length_cons,List.length_nil,List.append_assoc,List.singleton_append,Nat.zero_add] at ih
      simp only [cutsC,splitC,h,if_false,List.append_assoc,List.length_append,List.length_cons]
      rw [show pre.length + mid.length + 1 = pre.length + (mid.length + 1) by lia,ih]
      cases hs:splitC c xs with
      | nil=>exact absurd hs (splitC_ne c xs)
      | cons p ps=>simp
theorem parts_split (c:Nat) (xs:List Nat) (limit:Nat) (hl:xs.length≤limit):partsBetween ⟨xs.toArray⟩ (occurrences ⟨xs.toArray⟩ ⟨#[c]⟩ 0 xs.length limit) 1 = (splitC c xs).map fun p=>⟨p.toArray⟩:=by
  rw [occ_all xs c limit hl]
  have:=parts_eq c xs [] []
  simp only [List.length_nil,List.nil_append,Nat.zero_add] at this
  unfold partsBetween
  have e:(match splitC c xs with | []=>[[]] | p :: ps=>p :: ps) = splitC c xs:=by
    cases hs:splitC c xs with
    | nil=>exact absurd hs (splitC_ne c xs)
    | cons p ps=>rfl
  rw [e] at this
  rw [← this,List.map_map]
  apply List.map_congr_left
  intro p _
  simp [strSub,List.drop_take]
noncomputable def joinL (sep:List Nat):List (List Nat)→List Nat
  | []=>[]
  | [p]=>p
  | p :: q :: r=>p ++ sep ++ joinL sep (q :: r)
theorem glued_fold (sep:List Nat):∀ (ps:List (List Nat)) (acc:List Nat),(ps.map fun p=>(⟨p.toArray⟩:Str)).foldl (fun (a:Array Nat) (p:Str)=>a ++ (⟨sep.toArray⟩:Str).cps ++ p.cps) acc.toArray = (acc ++ (ps.map fun p=>sep ++ p).flatten).toArray
  | [],acc=>by simp
  | p :: ps,acc=>by
    have:=glued_fold sep ps (acc ++ sep ++ p)
    simp only [List.map_cons,List.foldl_cons]
    simp at this ⊢
    exact this
theorem joinL_cons (sep p:List Nat) (ps:List (List Nat)):joinL sep (p :: ps) = p ++ (ps.map fun p=>sep ++ p).flatten:=by
  induction ps generalizing p with
  | nil=>simp [joinL]
  | cons q r ih=>simp [joinL,ih q]
theorem glued_eq (sep:List Nat) (ps:List (List Nat)):glued ⟨sep.toArray⟩ (ps.map fun p=>⟨p.toArray⟩) = ⟨(joinL sep ps).toArray⟩:=by
  cases ps with
  | nil=>rfl
  | cons p ps =>
    unfold glued
    have:=glued_fold sep ps p
    simp only [List.map_cons,List.drop_succ_cons,List.drop_zero,List.headD_cons]
    rw [joinL_cons]
    exact congrArg Str.mk this
noncomputable def replC (c:Nat) (y:List Nat) (xs:List Nat):List Nat:=xs.flatMap fun x=>if x = c then y else [x]
theorem join_split (c:Nat) (y:List Nat):∀ xs,joinL y (splitC c xs) = replC c y xs
  | []=>by simp [splitC,joinL,replC]
  | x :: xs=>by
    have ih:=join_split c y xs
    cases hs:splitC c xs with
    | nil=>exact absurd hs (splitC_ne c xs)
    | cons p ps =>
      rw [hs] at ih
      by_cases h:x = c
      · simp only [splitC,h,if_true,hs]
        rw [joinL_cons]
        rw [joinL_cons] at ih
        simp only [replC,List.flatMap_cons,if_true] at ih ⊢
        simp [← ih]
      · simp only [splitC,h,if_false,hs]
        rw [joinL_cons]
        rw [joinL_cons] at ih
        simp only [replC,List.flatMap_cons,h,if_false] at ih ⊢
        simp [← ih]
end
section
open PySem PySem.W PySem.Calls PyProof.Rows
section
variable {S:Sig} {k:Nat} {f:Fi} {Γ Γ':Ctxt} {e l r:Expr} {es:List Expr} {d d₁ d₂:D} {ds:List D} {pos:Pos}
theorem At.pushT {k:Nat} {A:Around} {g:Heap} {s:Shared} (a:At S k A g s) (o:Obj) (t:Nat) (ht:s.toks≤t) (hf:o.isFreed = false:=by rfl) :
    ∃ g',Tr S (Nw s) g s g' { s with heap:=s.heap.push o,toks:=t }∧g'.get? s.heap.objs.size = some o:=a.push o hf ht
theorem Rds.toStrs {g:Heap} {vs:List Value} {ps:List (List Nat)} (h:Rds g vs (ps.map .str)):∃ l:List (Str × Tok),vs = strValues l∧l.map (·.1) = ps.map fun p=>⟨p.toArray⟩:=by
  induction ps generalizing vs with
  | nil=>cases h using Rds.casesNil;exact ⟨[],rfl,rfl⟩
  | cons p ps ih =>
    cases h using Rds.casesCons with
    | cons a b =>
      cases a using Rd.casesStr with
      | str t hs =>
        (refine e1_2 (ih b) (fun l q1q e=>?_);subst q1q)
        exact ⟨(⟨p.toArray⟩,t) :: l,rfl,by rw [List.map_cons,e];rfl⟩
theorem joinL_len (sep:List Nat):∀ ps:List (List Nat),(joinL sep ps).length≤(ps.map fun p=>p.length + sep.length).sum
  | []=>by simp [joinL]
  | [p]=>by simp [joinL]
  | p :: q :: r=>by
    have:=joinL_len sep (q :: r)
    simp [joinL] at this ⊢;lia
theorem foldl_len (n:Nat):∀ (l:List Str) (a:Nat),l.foldl (fun (x:Nat) (p:Str)=>x + p.length + n) a = a + (l.map fun p=>p.length + n).sum
  | [],a=>by simp
  | p :: l,a=>by rw [List.foldl_cons,foldl_len n l];simp;lia
theorem wp_joinList {A:Around} {E:Value→Shared→Prop} {s:Shared} {a:Addr} {sep:List Nat} {ps:List (List Nat)} {t:Tok} {l:List (Str × Tok)} {Q:Value→Shared→Prop} (hz:(ps.map fun p=>p.length + sep.length).sum≤sizeLine) (hL:s.heap.IsList a (strValues l).toArray) (el:l.map (·.1) = ps.map fun p=>⟨p.toArray⟩)
    (h:∀ u tk,s.toks≤tk→(joinL sep ps).length≤sizeLine→Q (.str ⟨(joinL sep ps).toArray⟩ u) { s with toks:=tk }):wpAny S.M A (call (.builtin "str.join") [.str ⟨sep.toArray⟩ t,.ref a]) Q E s:=by
  have hlong:Builtin.Str.tooLong ((l.map (·.1)).toArray.foldl (· + ·.length + (⟨sep.toArray⟩:Str).length) 0) = false:=by
    rw [el]
    simp only [List.foldl_toArray]
    rw [foldl_len]
    simp [Builtin.Str.tooLong,Str.length]
    simpa [Function.comp_def] using hz
  have hj:=joinL_len sep ps
  refine call_meets PySem.F.slot_str_join (typeIs_str _ _ _) PySem.F.entry_str_join (PySem.F.args_str_join_2 _ _) (meets_str_join_list _ t a l hlong) ⟨hL,?_⟩
  have gen:l.length ≠ 1→(joinMade ⟨sep.toArray⟩ l).post (fun v s'=>wants Q E (.ok (.ret v)) s') s:=fun hne=>by
    have em:joinMade ⟨sep.toArray⟩ l = .str (Builtin.Str.glued ⟨sep.toArray⟩ (l.map (·.1))):=by
      cases l with
      | nil=>rfl
      | cons p r=>cases r with
        | nil=>exact absurd rfl hne
        | cons q r=>rfl
    rw [em,el,glued_eq]
    refine ⟨by show (joinL sep ps).toArray.size≤_;simp;lia,?_⟩
    exact h _ _ (Nat.le_succ _) (by lia)
  rcases l with _ | ⟨p,_ | ⟨q,r⟩⟩
  · exact gen (by simp)
  · rcases ps with _ | ⟨q,_ | ⟨q',r⟩⟩
    · simp at el
    · simp at el
      obtain ⟨x,u⟩:=p
      simp at el
      subst el
      have hq:q.length≤sizeLine:=by simp at hz;lia
      exact h u s.toks (Nat.le_refl _) hq
    · simp at el
  · exact gen (by simp)
theorem Ops.joinS {sep:List Nat} {ps:List (List Nat)} (hz:(ps.map fun p=>p.length + sep.length).sum≤sizeLine):Ops S k (fun vs=>call (.builtin "str.join") vs) [.str sep,.list (ps.map .str)] (.str (joinL sep ps)):=by
  intro A g s vs Q E at' rs h
  cases rs using Rds.casesCons with
  | cons r1 r2 =>
    cases r2 using Rds.casesCons with
    | cons r2 r3 =>
      cases r3 using Rds.casesNil
      cases r1 using Rd.casesStr with
      | str t hs0 =>
      cases r2 using Rd.casesList with
      | list e hl rs =>
        rename_i a ws n
        (refine e1_2 (rs.toStrs) (fun l q2q el=>?_);subst q2q)
        exact wp_joinList hz ⟨_,at'.keep _ _ e,rfl,n,rfl⟩ el fun u tk ht hj=>h _ g _ (at'.tick _ ht) (.str _ u hj)
end
end
section
open PySem PySem.W PySem.Calls PyProof.Rows
structure Nm (f:Fi) (x:Str) (i:Nat) (kd:NameKind):Prop where
  hx:f.vars[i]? = some x
  hk:f.kinds[i]? = some kd
  d1:(x == ("__debug__":Str)) = false
  d2:(x == ("__classdict__":Str)) = false
noncomputable def Raw (S:Sig) (f:Fi) (x:Str) (v:Value):Prop:=∀ k Γ pos,EV S k f Γ (.Name x pos) (.raw v)
noncomputable def Cs (x:Str) (cs:List Nat):Prop:=x.cps.toList = cs
section
variable {S:Sig} {k:Nat} {f:Fi} {Γ Γ' Γ₁ Γ₂:Ctxt} {e l r:Expr} {es:List Expr} {d d₁ d₂:D} {ds:List D} {pos p':Pos} {sts body orelse:List Stmt} {res:Res} {b c:Bool} {x:Str} {kd:NameKind} {i:Nat} {v:Value}
theorem EV.nm (n:Nm f x i kd) (hl:Γ[i]? = some (some (.val d))):EV S k f Γ (.Name x pos) d:=.name i n.hx hl n.d1 n.d2
theorem Raw.ev (n:Raw S f x v):EV S k f Γ (.Name x pos) (.raw v):=n k Γ pos
theorem EV.cS {cs:List Nat} {kk:Nat} (h:Cs x cs) (hl:cs.length≤sizeLine:=by decide):EV S k f Γ (.Constant (.str x) kk pos) (.str cs):=.cStr h hl
theorem AS.nm (n:Nm f x i .local):AS S k f Γ (.Name x pos) d (Γ.set i (some (.val d))):=.name i n.hx n.hk
theorem TV.is (h:TV S k f Γ e b) (hb:b = c):TV S k f Γ e c:=hb ▸ h
theorem ATV.andT (h1:TV S k f Γ e true) (h2:ATV S k f Γ .And es c):ATV S k f Γ .And (e :: es) c:=by
  have:=ATV.and h1 fun _=>h2
  simpa using this
theorem ATV.andF (h1:TV S k f Γ e false):ATV S k f Γ .And (e :: es) false:=by
  have:=ATV.and (c:=false) (es:=es) h1 (by nofun)
  simpa using this
theorem ATV.orT (h1:TV S k f Γ e true):ATV S k f Γ .Or (e :: es) true:=by
  have:=ATV.or (c:=true) (es:=es) h1 (by nofun)
  simpa using this
theorem ATV.orF (h1:TV S k f Γ e false) (h2:ATV S k f Γ .Or es c):ATV S k f Γ .Or (e :: es) c:=by
  have:=ATV.or h1 fun _=>h2
  simpa using this
theorem EX.ifT {cnd:Expr} (h1:TV S k f Γ cnd true) (h2:EXs S k f Γ body res):EX S k f Γ (.If cnd body orelse pos) res:=.if h1 (fun _=>h2) (by nofun)
theorem EX.ifF {cnd:Expr} (h1:TV S k f Γ cnd false) (h2:EXs S k f Γ orelse res):EX S k f Γ (.If cnd body orelse pos) res:=.if h1 (by nofun) (fun _=>h2)
theorem EV.ifT {cnd:Expr} (h1:TV S k f Γ cnd true) (h2:EV S k f Γ l d):EV S k f Γ (.IfExp cnd l r pos) d:=.ifExp h1 (fun _=>h2) (by nofun)
theorem EV.ifF {cnd:Expr} (h1:TV S k f Γ cnd false) (h2:EV S k f Γ r d):EV S k f Γ (.IfExp cnd l r pos) d:=.ifExp h1 (by nofun) (fun _=>h2)
theorem BV.orStop {e':Expr} (h1:EV S k f Γ e d) (h2:OpT S k d true):BV S k f Γ .Or (e :: e' :: es) d:=.cons h1 h2 (fun _=>rfl) (by nofun)
theorem BV.orGo {e':Expr} (h1:EV S k f Γ e d₁) (h2:OpT S k d₁ false) (h3:BV S k f Γ .Or (e' :: es) d):BV S k f Γ .Or (e :: e' :: es) d:=.cons h1 h2 (by nofun) (fun _=>h3)
noncomputable def Tested (e:Expr):Prop:=∀ env w,isTrue e env w = (do let v ← w;standAt e.pos;holding [v] (truthy v))
theorem tested_Name {x:Str}:Tested (.Name x pos):=fun _ _=>rfl
theorem tested_Call {fn:Expr} {kw:List Keyword}:Tested (.Call fn es kw pos):=fun _ _=>rfl
theorem tested_Const {cc:Const} {n:Nat}:Tested (.Constant cc n pos):=fun _ _=>rfl
theorem Ops.lenL {xs:List D}:Ops S k (fun vs=>call (.builtin "len") vs) [.list xs] (.int xs.length):=by
  intro A g s vs Q E at' rs h
  cases rs using Rds.casesCons with
  | cons r1 r2 =>
    cases r2 using Rds.casesNil
    cases r1 using Rd.casesList with
    | list e hl rs =>
      rename_i a ws n
      have hlen:=rs.length
      have hz:=sizeLine_eq
      refine PySem.Calls.call_len_list (items:=ws.toArray) ⟨_,at'.keep _ _ e,rfl,n,rfl⟩ (by simp only [List.size_toArray];lia) ?_
      refine h _ g _ (at'.tick _ (by lia)) ?_
      have:=Rd.int (g:=g) (xs.length:Int) (s.toks + 1)
      simpa [hlen] using this
theorem Op2.itemL {xs:List D} {i:Int} (hd:xs[idx xs.length i]? = some d) (h0:-(xs.length:Int)≤i):Op2 S k getItem (.list xs) (.int i) d:=by
  intro A g s v₁ v₂ Q E at' r1 r2 h
  cases r2 using Rd.casesInt
  cases r1 using Rd.casesList with
  | list e hl rs =>
    rename_i u a ws n
    have hlen:=rs.length
    refine e1_2 (rs.get _ hd) (fun v hv hr=>?_)
    have hi:idx xs.length i < xs.length:=(List.getElem?_eq_some_iff.mp hd).1
    refine wp_getAt a (at'.keep _ _ e) hl (by rw [hlen];exact h0) ?_ (by rw [hlen];exact hv) (h v g s (at'.refl _) hr)
    rw [hlen];exact idx_lt hi
theorem Op2.itemT {xs:List D} {i:Int} (hd:xs[idx xs.length i]? = some d) (h0:-(xs.length:Int)≤i):Op2 S k getItem (.tup xs) (.int i) d:=by
  intro A g s v₁ v₂ Q E at' r1 r2 h
  cases r2 using Rd.casesInt
  cases r1 using Rd.casesTup with
  | tup e hl rs =>
    rename_i u a ws n
    have hlen:=rs.length
    have hz:=sizeLine_eq
    refine e1_2 (rs.get _ hd) (fun v hv hr=>?_)
    have hi:idx xs.length i < xs.length:=(List.getElem?_eq_some_iff.mp hd).1
    have hs:seqIndex? i ws.length = some (idx xs.length i):=by rw [hlen];exact seqIndex_idx h0 hi
    refine P.getItem_tuple (n:=n) (k:=idx xs.length i) (y:=v) (at'.keep _ _ e) (by lia) ?_ (by simpa using hs) (by simpa using hv) (h v g s (at'.refl _) hr)
    have:=idx_lt hi;lia
theorem Op2.addL {xs ys:List D} (hz:xs.length + ys.length≤sizeLine):Op2 S k (binaryOp .Add) (.list xs) (.list ys) (.list (xs ++ ys)):=by
  intro A g s v₁ v₂ Q E at' r1 r2 h
  cases r1 using Rd.casesList with
  | list e hl rs =>
  cases r2 using Rd.casesList with
  | list e' hl' rs' =>
    rename_i a ws n b us m
    have l1:=rs.length
    have l2:=rs'.length
    refine P.add_list (n:=n) (n2:=m) (at'.keep _ _ e) (at'.keep _ _ e') ?_ (by simp;lia)
    refine e1_2 (at'.pushT (listO (ws ++ us) 0) s.toks (Nat.le_refl _)) (fun g' t' e''=>?_)
    have key:=h _ g' _ t' (.list e'' (by simp;lia) ((rs.append rs').mono t'.mono))
    simpa using key
theorem EV.sliceL {xs:List D} {lo hi:Option Expr} {i j:Option Int} {p:Pos} (h1:EV S k f Γ e (.list xs)) (h2:PV S k f Γ lo i) (h3:PV S k f Γ hi j) (ht:∀ o r,letTemporaryGo e o r = pure ():=by intro _ _;rfl) :
    EV S k f Γ (.Subscript e (.Slice lo hi none p) pos) (.list (pick i j xs)):=by
  intro A g W env s Q E R st hQ
  refine wpAny_Subscript_list_slice (h1 A g W env s _ E R st fun v g1 s1 t1 r1=>h2.run A g1 W env s1 _ E R (st.move t1) fun p2 g2 s2 t2 e2=>h3.run A g2 W env s2 _ E R ((st.move t1).move t2) fun p3 g3 s3 t3 e3=>?_) ht
  have a3:=(((st.move t1).move t2).move t3).at R
  have T:=(t1.then t2).then t3
  have r3:=r1.mono (t2.mono.trans t3.mono)
  have part:∀ {p:Option (Int × Tok)} {i:Option Int},p.map Prod.fst = i→IsPart (partValue p) i:=fun {p i} e=>by
    cases p with
    | none=>simp at e;subst e;exact .none
    | some q=>simp at e;subst e;exact .int _ _
  cases r3 using Rd.casesList with
  | list e hl rs =>
    rename_i a ws n
    refine ⟨a,ws.toArray,i,j,rfl,⟨_,t3.keep _ _ e,rfl,n,rfl⟩,by simpa using hl,part e2,part e3,?_⟩
    rw [kms_pick_eq]
    refine e1_2 (a3.push { cls:=.type "slice",data:=.fields #[partValue p2,partValue p3,.none] } (t:=s3.toks)) (fun g4 t4 _=>?_)
    refine e1_2 ((t4.at R).push (listO (pick i j ws) 0) (t:=s3.toks) (ht:=Nat.le_refl _)) (fun g5 t5 e5=>?_)
    rw [Heap.size_push] at e5
    exact hQ _ g5 _ ((T.then t4).then t5) (.list e5 (Nat.le_trans (pick_length_le _ _ _) hl) ((rs.mono (t4.mono.trans t5.mono)).pick i j))
theorem At.pushR {A:Around} {g:Heap} {s:Shared} (a:At S k A g s) (b c d:Int) (t u v:Tok) (tk:Nat) (ht:s.toks≤tk) :
    ∃ g',Tr S (Nw s) g s g' { s with heap:=s.heap.push { cls:=.type "range",data:=.fields #[.int b t,.int c u,.int d v] },toks:=tk }∧Rd g' (.ref s.heap.objs.size) (.rng b c d):=by
  refine e1_2 (a.push { cls:=.type "range",data:=.fields #[.int b t,.int c u,.int d v] } (t:=tk) (ht:=ht)) (fun g' t' e'=>?_)
  exact ⟨g',t',.rng e'⟩
theorem Ops.range3 {m n c:Int} (hc:c ≠ 0) (hs:c.natAbs.log2 < 9000:=by decide +kernel):Ops S k (fun vs=>call (.type "range") vs) [.int m,.int n,.int c] (.rng m n c):=by
  intro A g s vs Q E at' rs h
  cases rs using Rds.casesCons with
  | cons r1 r2 =>
    cases r2 using Rds.casesCons with
    | cons r2 r3 =>
      cases r3 using Rds.casesCons with
      | cons r3 r4 =>
        cases r4 using Rds.casesNil;cases r1 using Rd.casesInt;cases r2 using Rd.casesInt;cases r3 using Rd.casesInt
        rename_i t u v
        refine call_range_3 hc ?_ (.inl (PyProof.noPylong_of_log2 hs))
        refine e1_2 (at'.pushR m n c t u v s.toks (Nat.le_refl _)) (fun g' t' r'=>?_)
        exact h _ g' _ t' r'
inductive Rest (S:Sig) (k:Nat) (f:Fi) (sts:List Stmt) (res:Res):Res→Prop where
  | next {Γ:Ctxt}:EXs S k f Γ sts res→Rest S k f sts res (.next Γ)
  | stop {r:Res}:r = res→res.leaves = true→Rest S k f sts res r
theorem EXs.seq {st:Stmt} {r:Res} (h1:EX S k f Γ st r) (h2:Rest S k f sts res r):EXs S k f Γ (st :: sts) res:=by
  cases h2 with
  | next h=>exact .cons h1 h
  | stop e h=>subst e;exact .stop h1 h
theorem EXs.to {r:Res} (h:EXs S k f Γ sts r) (e:r = res):EXs S k f Γ sts res:=e ▸ h
theorem EX.ifB {cnd:Expr} {r:Res} (h1:TV S k f Γ cnd b) (h2:(b = true∧EXs S k f Γ body r) ∨ (b = false∧EXs S k f Γ orelse r)):EX S k f Γ (.If cnd body orelse pos) r:=by
  rcases h2 with ⟨rfl,h⟩ | ⟨rfl,h⟩
  · exact .ifT h1 h
  · exact .ifF h1 h
theorem EV.ifB {cnd:Expr} (h1:TV S k f Γ cnd b) (h2:(b = true∧EV S k f Γ l d) ∨ (b = false∧EV S k f Γ r d)):EV S k f Γ (.IfExp cnd l r pos) d:=by
  rcases h2 with ⟨rfl,h⟩ | ⟨rfl,h⟩
  · exact .ifT h1 h
  · exact .ifF h1 h
theorem ATV.andB (h1:TV S k f Γ e b) (h2:(b = true∧ATV S k f Γ .And es c) ∨ (b = false∧c = false)):ATV S k f Γ .And (e :: es) c:=by
  rcases h2 with ⟨rfl,h⟩ | ⟨rfl,rfl⟩
  · exact .andT h1 h
  · exact .andF h1
theorem ATV.orB (h1:TV S k f Γ e b) (h2:(b = true∧c = true) ∨ (b = false∧ATV S k f Γ .Or es c)):ATV S k f Γ .Or (e :: es) c:=by
  rcases h2 with ⟨rfl,rfl⟩ | ⟨rfl,h⟩
  · exact .orT h1
  · exact .orF h1 h
theorem BV.orB {e':Expr} (h1:EV S k f Γ e d₁) (h2:OpT S k d₁ b) (h3:(b = true∧d = d₁) ∨ (b = false∧BV S k f Γ .Or (e' :: es) d)):BV S k f Γ .Or (e :: e' :: es) d:=by
  rcases h3 with ⟨rfl,rfl⟩ | ⟨rfl,h⟩
  · exact .orStop h1 h2
  · exact .orGo h1 h2 h
end
end
section
open PySem PySem.W PySem.Calls PyProof.Rows
inductive OwnV (f:Fi) (i:Nat):Prop where
  | intro:OwnV f i
section
variable {S:Sig} {k:Nat} {f:Fi} {Γ Γ' Γ₁ Γ₂:Ctxt} {e l r:Expr} {es:List Expr} {d d₁ d₂:D} {ds xs:List D} {pos p' npos apos:Pos} {sts body orelse:List Stmt} {res:Res} {b c:Bool} {x y:Str} {kd:NameKind} {i j:Nat} {v:Value} {op:Operator}
theorem Nm.lt (n:Nm f x i kd):i < f.vars.length:=(List.getElem?_eq_some_iff.mp n.hx).1
theorem EXs.freezeN (n:Nm f x j kd) (hj:Γ[j]? = some (some (.own xs))) (h:EXs S k f (Γ.set j (some (.val (.list xs)))) sts res):EXs S k f Γ sts res:=.freeze j hj h n.lt
theorem EV.borrowN (n:Nm f x j kd) (o:OwnV f j) (hj:Γ[j]? = some (some (.own xs))) (h:EV S k f (Γ.set j (some (.val (.list xs)))) e d) (hd:d.flat = true):EV S k f Γ e d:=.borrow j hj h hd n.lt
theorem TV.borrowN (n:Nm f x j kd) (o:OwnV f j) (hj:Γ[j]? = some (some (.own xs))) (h:TV S k f (Γ.set j (some (.val (.list xs)))) e b):TV S k f Γ e b:=.borrow j hj h n.lt
theorem EX.ownN (n:Nm f x i .local) (o:OwnV f i) (h:EVs S k f Γ es ds)
    (hna:(Γ.all fun b=>match b with | some (.app q)=>q != i | _=>true) = true) (hl:ds.length≤sizeLine) (hΓ:Γ.length≤f.vars.length)
    (hs:∀ env,swapsWithSole [.Name x npos] (.List es pos) p'.line env = pure false) (hw:∀ env,swappedStores [.Name x npos] (.List es pos) env = pure none) :
    EX S k f Γ (.Assign [.Name x npos] (.List es pos) p') (.next (Γ.set i (some (.own ds)))):=.ownNew i n.hx n.hk h hna hl hs hw (fun _ _=>rfl) hΓ
theorem EX.appendN (n:Nm f x j .local) (hj:Γ[j]? = some (some (.own xs))) (h:EV S k f Γ e d) (hz:xs.length < sizeLine)
    (hse:∀ env,starEach [e] env = (false,eval e env) :: starEach [] env) (hline:(apos.endLine == pos.line) = true)
    (hs:∀ env,swapsWith (.Call (.Attribute (.Name x npos) "append" apos) [e] [] pos) none p'.line env = pure false) :
    EX S k f Γ (.Expr (.Call (.Attribute (.Name x npos) "append" apos) [e] [] pos) p') (.next (Γ.set j (some (.own (xs ++ [d]))))) :=
  .ownMeth j PySem.F.slot_list_append PySem.F.type_list_append n.hx hj (EVs.cons h .nil hse) (OwnOp.append hz) n.d1 hline (fun env=>by rw [hse];rfl) hs
theorem EX.appBindN (n:Nm f x j .local) (m:Nm f y i .local) (hj:Γ[j]? = some (some (.own xs))) (hij:i ≠ j)
    (hna:(Γ.all fun b=>match b with | some (.app q)=>q != i | _=>true) = true)
    (hs:∀ env,swapsWithSole [.Name y npos] (.Attribute (.Name x apos) "append" pos) p'.line env = pure false) (hw:∀ env,swappedStores [.Name y npos] (.Attribute (.Name x apos) "append" pos) env = pure none) :
    EX S k f Γ (.Assign [.Name y npos] (.Attribute (.Name x apos) "append" pos) p') (.next (Γ.set i (some (.app j)))):=.appBind i j n.hx hj m.hx m.hk hij n.d1 hna hs hw (fun _ _=>rfl)
theorem EX.appCallN (n:Nm f y i .local) (hi:Γ[i]? = some (some (.app j))) (hj:Γ[j]? = some (some (.own xs))) (h2:EV S k f Γ e d) (hz:xs.length < sizeLine) (hjl:Nm f x j kd)
    (hse:∀ env,starEach [e] env = [(false,eval e env)])
    (hs:∀ env,swapsWith (.Call (.Name y npos) [e] [] pos) none p'.line env = pure false) :
    EX S k f Γ (.Expr (.Call (.Name y npos) [e] [] pos) p') (.next (Γ.set j (some (.own (xs ++ [d]))))):=.appCall i j n.hx hi hj h2 hz hjl.lt n.d1 (fun _=>rfl) hse hs
theorem AS.itemN {i:Int} (n:Nm f x j .local) (hj:Γ[j]? = some (some (.own xs))) (h2:EV S k f Γ e (.int i)) (h0:-(xs.length:Int)≤i) (h1:i < xs.length) :
    AS S k f Γ (.Subscript (.Name x npos) e pos) d (Γ.set j (some (.own (xs.set (idx xs.length i) d)))):=.item j n.hx hj h2 h0 h1 n.d1
theorem EX.delItemN {i:Int} (n:Nm f x j .local) (hj:Γ[j]? = some (some (.own xs))) (h2:EV S k f Γ e (.int i)) (h0:0≤i) (h1:i < xs.length) :
    EX S k f Γ (.Delete [.Subscript (.Name x npos) e pos] p') (.next (Γ.set j (some (.own (xs.eraseIdx i.toNat))))):=.delItem j n.hx hj h2 h0 h1 n.d1
theorem FL.fold {σ τ α:Type} {tg:Expr} (G:σ→τ→Ctxt) (it:α→D) (step:σ→α→σ) (I:Nat→σ→Prop) (all:List α)
    (hb:∀ n s t a,a ∈ all→I (n + 1) s→I n (step s a)∧∃ Γ₁ t',AS S k f (G s t) tg (it a) Γ₁∧(EXs S k f Γ₁ body (.next (G (step s a) t')) ∨ EXs S k f Γ₁ body (.cont (G (step s a) t')))) :
    ∀ (as:List α) (s:σ) (t:τ),(∀ a ∈ as,a ∈ all)→I as.length s→I 0 (as.foldl step s)∧∃ t',FL S k f tg body (G s t) (as.map it) (.next (G (as.foldl step s) t'))
  | [],s,t,_,h=>⟨h,t,.nil⟩
  | a :: as,s,t,hm,h=>by
    obtain ⟨h1,Γ₁,t',h2,h3⟩:=hb as.length s t a (hm a (.head _)) h
    obtain ⟨h4,t'',h5⟩:=FL.fold G it step I all hb as (step s a) t' (fun b hb'=>hm b (.tail _ hb')) h1
    refine ⟨h4,t'',?_⟩
    rcases h3 with h3 | h3
    · exact .next h2 h3 h5
    · exact .cont h2 h3 h5
theorem EXs.forFold {σ τ α:Type} {iter tg:Expr} (G:σ→τ→Ctxt) (it:α→D) (step:σ→α→σ) (I:Nat→σ→Prop) (as:List α) (s:σ) (t:τ) (hΓ:Γ = G s t)
    (h1:EV S k f Γ iter d) (h2:It S k d tg (as.map it)) (hI:I as.length s)
    (hb:∀ n s t a,a ∈ as→I (n + 1) s→I n (step s a)∧∃ Γ₁ t',AS S k f (G s t) tg (it a) Γ₁∧(EXs S k f Γ₁ body (.next (G (step s a) t')) ∨ EXs S k f Γ₁ body (.cont (G (step s a) t'))))
    (hr:∀ t',I 0 (as.foldl step s)→EXs S k f (G (as.foldl step s) t') sts res) (hs:∀ env x,foldedSetIterable iter env x = pure x:=by intro _ _;rfl) :
    EXs S k f Γ (.For tg iter body [] pos :: sts) res:=by
  subst hΓ
  obtain ⟨h3,t',h4⟩:=FL.fold (S:=S) (k:=k) (f:=f) (tg:=tg) (body:=body) G it step I as hb as s t (fun _ h=>h) hI
  exact .cons (EX.for h1 h2 h4 hs) (hr t' h3)
end
theorem last_item (xs:List D) (d:D):(xs ++ [d])[idx (xs ++ [d]).length (-1)]? = some d:=by
  have:idx (xs ++ [d]).length (-1) = xs.length:=by simp [idx];lia
  rw [this];simp
theorem nil_or_snoc {α:Type} (xs:List α):xs = [] ∨ ∃ ini last,xs = ini ++ [last]:=by
  rcases List.eq_nil_or_concat xs with h | ⟨i,l,h⟩
  · exact .inl h
  · exact .inr ⟨i,l,by rw [h,List.concat_eq_append]⟩
theorem dec_nil (xs:List D) (h:xs = []):decide (xs ≠ []) = false:=by simp [h]
theorem dec_nil' (xs:List D) (h:xs = []):(!decide (xs ≠ [])) = true:=by simp [h]
theorem dec_snoc (xs:List D) (h:xs ≠ []):decide (xs ≠ []) = true:=by simp [h]
theorem dec_snoc' (xs:List D) (h:xs ≠ []):(!decide (xs ≠ [])) = false:=by simp [h]
theorem pick_from {α:Type} (l:List α) (n:Nat):pick (some (n:Int)) none l = l.drop n:=by
  unfold pick kms_lo kms_hi
  simp
  rw [if_neg (Int.not_lt.mpr (Int.natCast_nonneg n))]
  rw [kmk_drop_min,List.take_of_length_le]
  rw [List.length_drop];exact Nat.sub_le_sub_left (Nat.min_le_left ..) _
theorem pick_mid {α:Type} (l:List α) (m n:Nat):pick (some (m:Int)) (some (n:Int)) l = (l.take n).drop m:=by
  unfold pick kms_lo kms_hi
  simp only []
  rw [if_neg (by lia),if_neg (by lia)]
  simp only [Int.toNat_natCast]
  rw [kmk_drop_min,List.drop_take]
  by_cases h:n≤l.length
  · by_cases h2:m≤l.length
    · rw [Nat.min_eq_left h,Nat.min_eq_left h2]
    · rw [List.drop_of_length_le (by lia)];simp
  · by_cases h2:m≤l.length
    · rw [Nat.min_eq_right (by lia),Nat.min_eq_left h2,List.take_of_length_le (by simp),List.take_of_length_le (by simp;lia)]
    · rw [List.drop_of_length_le (by lia)];simp
end
section
open PySem PySem.W PySem.Calls PyProof.Rows
section
variable {S:Sig} {k:Nat} {f fc:Fi} {Γ Γ' Γ₁ Γ₂ Γc:Ctxt} {e elt iter tg:Expr} {ifs:List Expr} {d d₁ d₂:D} {ds outs:List D} {pos p':Pos} {scope:Scope} {b:Bool}
noncomputable def Ts (S:Sig) (k:Nat) (f:Fi) (Γ:Ctxt) (ifs:List Expr) (b:Bool):Prop :=
  ∀ (A:Around) (g:Heap) (W:Addr→Prop) (env:Env) (s:Shared) (Q:Bool→Shared→Prop) (E:Value→Shared→Prop),Room S k A→St S f Γ g W env s →
    (∀ g' s',Tr S (Nw s) g s g' s'→Q b s')→wpAny S.M A (forIn ifs true fun c r=>if r = true then do let ok ← isTrue c env (eval c env);pure (ForInStep.yield ok) else pure (ForInStep.yield r)) Q E s
theorem Ts.nil:Ts S k f Γ [] true:=fun A g W env s Q E R st h=>wpAny_tests_nil (h g s ((st.at R).refl _))
theorem Ts.one (h1:TV S k f Γ e b):Ts S k f Γ [e] b:=fun A g W env s Q E R st h=>wpAny_tests_one (h1 A g W env s Q E R st h)
inductive CL (S:Sig) (k:Nat) (f:Fi) (tg elt:Expr) (ifs:List Expr):Ctxt→List D→List D→Prop where
  | nil {Γ:Ctxt}:CL S k f tg elt ifs Γ [] []
  | take {Γ Γ₁:Ctxt} {d d':D} {ds outs:List D}:AS S k f Γ tg d Γ₁→Ts S k f Γ₁ ifs true→EV S k f Γ₁ elt d'→CL S k f tg elt ifs Γ₁ ds outs→CL S k f tg elt ifs Γ (d :: ds) (d' :: outs)
  | skip {Γ Γ₁:Ctxt} {d:D} {ds outs:List D}:AS S k f Γ tg d Γ₁→Ts S k f Γ₁ ifs false→CL S k f tg elt ifs Γ₁ ds outs→CL S k f tg elt ifs Γ (d :: ds) outs
theorem under_comp (A:Around) (elt:Expr) (gs:List Comprehension) (sc:Scope) (p:Pos) (it acc:Value) (env:Env):A.under (.compLoop (.ListComp elt gs sc p) 0 it acc env) = A:=Around.under_of_weight rfl
theorem compTurn_ok {A:Around} {c:Expr} {it acc:Value} {env:Env} {Q:PySem.Fin→Shared→Prop} {s:Shared}
    (h:wpAny S.M A (compTurn c 0 it acc env) Q (fun _ _=>False) s) {E:Value→Shared→Prop}:wpAny S.M A ((compTurn c 0 it acc env).onRaise (fun x=>do noteFrame x env;theTreesLotGoes x)) Q E s :=
  wpAny_onRaise (wpAny_mono h (fun _ _ x=>x) fun _ _ x=>x.elim)
structure AccAt (F W:Addr→Prop) (g:Heap) (env:Env) (s:Shared) (ax:Addr) (xs:List D):Prop where
  ex:∃ ws n,s.heap.get? ax = some (listO ws n)∧Rds g ws xs
  out:g.get? ax = Option.none
  nF:¬ F ax
  nW:¬ W ax
  nc:∀ x c,env.cells.lookup x = some c→c ≠ ax
theorem AccAt.move {F W V:Addr→Prop} {g g':Heap} {env:Env} {s s':Shared} {a:Addr} {xs:List D} (x:AccAt F W g env s a xs) (t:Tr S V g s g' s') (T:Tabs S g s) (hV:¬ V a):AccAt F W g' env s' a xs:=by
  exact ⟨e2_2 x.ex fun ws n e rs=>⟨ws,n,t.listO T e hV,rs.mono t.mono⟩,t.none x.out hV,x.nF,x.nW,x.nc⟩
theorem AccAt.old {F W:Addr→Prop} {g:Heap} {env:Env} {s:Shared} {a:Addr} {xs:List D} (x:AccAt F W g env s a xs):¬ Nw s a:=fun q=>e2_1 x.ex fun ws n e=>absurd (Heap.lt_size e.1) (Nat.not_lt.mpr q)
theorem CL.code {I:Addr} {F:Addr→Prop} {scope:Scope} {ax:Addr} (cl:CL S k f tg elt ifs Γ ds outs):∀ (A:Around) (g:Heap) (W:Addr→Prop) (env:Env) (s:Shared) (R:Result→Shared→Prop) (xs:List D),Room S k A→St S f Γ g W env s→(∀ a,F a→¬ W a)→(∀ x c,env.cells.lookup x = some c→¬ F c)→(∀ a,F a→g.get? a = none)→(∀ a,F a→¬ S.T a) →
    AccAt F W g env s ax xs→xs.length + ds.length≤sizeLine→Yl S k F I tg ds g s →
    (∀ g' s',Tr S (fun a=>(W a ∨ F a) ∨ a = ax) g s g' s'→(∃ Γ',St S f Γ' g' W env s')→AccAt F W g' env s' ax (xs ++ outs)→R (.ok .next) s')→codeAny S.M A (.compLoop (.ListComp elt [⟨tg,iter,ifs,0⟩] scope pos) 0 (.ref I) (.ref ax) env) R s:=by
  induction cl with
  | nil =>
    intro A g W env s R xs Rm st hW hc hg hT ac hz y hR
    refine codeAny_of_tree ?_
    rw [under_comp]
    refine compTurn_ok ?_
    rw [compTurn_list]
    refine wpAny_bind (wpAny_standAt (wpAny_bind ?_))
    refine y A g s _ _ (st.at Rm) (.refl g) (.refl F s) hg fun g₁ s₁ t₁=>?_
    have nV:¬ (Nw s ax ∨ F ax):=fun q=>q.elim ac.old ac.nF
    refine wpAny_pure (hR g₁ s₁ (t₁.weak fun a q=>.inl (q.imp (st.new a) id)) ⟨_,st.moveF t₁ hW hc⟩ ?_)
    rw [List.append_nil]
    exact ac.move t₁ st.tabs nV
  | take has hts hel _ ih =>
    intro A g W env s R xs Rm st hW hc hg hT ac hz y hR
    refine codeAny_of_tree ?_
    rw [under_comp]
    refine compTurn_ok ?_
    rw [compTurn_list]
    refine wpAny_bind (wpAny_standAt (wpAny_bind ?_))
    refine y A g s _ _ (st.at Rm) (.refl g) (.refl F s) hg fun v g₁ s₁ t₁ hg₁ hass=>?_
    have ac₁:=ac.move t₁ st.tabs fun q=>q.elim (ac.old) ac.nF
    have st₁:=st.moveF t₁ hW hc
    dsimp only
    refine bind_assoc' (hass f _ _ W env _ _ has st₁ hW hc fun g₂ s₂ t₂ hg₂ hfr st₂ y₂=>?_)
    have ac₂:=ac₁.move t₂ st₁.tabs fun q=>q.elim ac.nW ac.nF
    refine wpAny_bind (hts A g₂ W env s₂ _ _ Rm st₂ fun g₃ s₃ t₃=>?_)
    have st₃:=st₂.move t₃
    have ac₃:=ac₂.move t₃ st₂.tabs (ac₂.old)
    refine wp_ifT rfl ?_
    refine wpAny_bind (wpAny_bind (hel A g₃ W env s₃ _ _ Rm st₃ fun x g₄ s₄ t₄ r₄=>?_))
    have st₄:=st₃.move t₄
    have ac₄:=ac₃.move t₄ st₃.tabs (ac₃.old)
    refine e2_2 ac₄.ex fun ws n e rs=>?_
    have hlen:=rs.length
    simp only [List.length_cons] at hz
    refine wpAny_bind (wpAny_list_append_plain ⟨n,e⟩ (fun h' hp hs=>?_) (by simp only [List.size_toArray];lia))
    refine e1_1 (hp) (fun n' e'=>?_)
    have t₅:Tr S (fun a=>a = ax) g₄ s₄ g₄ { s₄ with heap:=h',toks:=s₄.toks }:=Tr.set st₄.keep st₄.base st₄.tabs hs rfl ac₄.out (st₄.tabs.notT e nofun) (Nat.le_refl _)
    have st₅:St S f _ g₄ W env { s₄ with heap:=h' }:=st₄.moveF (F:=fun a=>a = ax) (t₅.weak fun _=>.inr) (fun a q w=>ac₄.nW (q ▸ w)) (fun x c q=>ac₄.nc x c q)
    have ac₅:AccAt F W g₄ env { s₄ with heap:=h' } ax (xs ++ [_]):=⟨⟨ws ++ [x],n',by simpa using e',rs.append (.cons r₄ .nil)⟩,ac₄.out,ac₄.nF,ac₄.nW,ac₄.nc⟩
    have sm:Same F s₂ { s₄ with heap:=h' }:=by
      have a:=(t₃.then t₄).keepF st₂.tabs (F:=F) fun a o h e=>⟨fun q=>hW a h (st₂.new a q),fun _ _=>hT a h,hfr a o h e⟩
      exact a.trans fun a o h e=>(hs.2 a fun q=>ac₄.nF (q ▸ h)).trans e
    refine wpAny_pure (wpAny_pure ⟨rfl,ih A g₄ W env _ R (xs ++ [_]) Rm st₅ hW hc (fun a h=>t₄.none (t₃.none (hg₂ a h) fun q=>hW a h (st₂.new a q)) fun q=>hW a h (st₃.new a q)) hT ac₅ (by simp;lia) (y₂.mono (t₃.mono.trans t₄.mono) sm) fun g₆ s₆ t₆ st₆ ac₆=>?_⟩)
    refine hR g₆ s₆ ((((((t₁.weak fun a q=>.inl (q.imp (st.new a) id)).trans t₂ fun a q=>.inl q).trans t₃ fun a q=>.inl (.inl (st₂.new a q))).trans t₄ fun a q=>.inl (.inl (st₃.new a q))).trans t₅ fun a q=>.inr q).trans t₆ fun a q=>q) st₆ (by simpa using ac₆)
  | skip has hts _ ih =>
    intro A g W env s R xs Rm st hW hc hg hT ac hz y hR
    refine codeAny_of_tree ?_
    rw [under_comp]
    refine compTurn_ok ?_
    rw [compTurn_list]
    refine wpAny_bind (wpAny_standAt (wpAny_bind ?_))
    refine y A g s _ _ (st.at Rm) (.refl g) (.refl F s) hg fun v g₁ s₁ t₁ hg₁ hass=>?_
    have ac₁:=ac.move t₁ st.tabs fun q=>q.elim (ac.old) ac.nF
    have st₁:=st.moveF t₁ hW hc
    dsimp only
    refine bind_assoc' (hass f _ _ W env _ _ has st₁ hW hc fun g₂ s₂ t₂ hg₂ hfr st₂ y₂=>?_)
    have ac₂:=ac₁.move t₂ st₁.tabs fun q=>q.elim ac.nW ac.nF
    refine wpAny_bind (hts A g₂ W env s₂ _ _ Rm st₂ fun g₃ s₃ t₃=>?_)
    have st₃:=st₂.move t₃
    have ac₃:=ac₂.move t₃ st₂.tabs (ac₂.old)
    refine wp_ifF Bool.false_ne_true ?_
    have sm:Same F s₂ s₃:=t₃.keepF st₂.tabs fun a o h e=>⟨fun q=>hW a h (st₂.new a q),fun _ _=>hT a h,hfr a o h e⟩
    simp only [List.length_cons] at hz
    refine wpAny_pure ⟨rfl,ih A g₃ W env _ R xs Rm st₃ hW hc (fun a h=>t₃.none (hg₂ a h) fun q=>hW a h (st₂.new a q)) hT ac₃ (by lia) (y₂.mono t₃.mono sm) fun g₆ s₆ t₆ st₆ ac₆=>?_⟩
    exact hR g₆ s₆ ((((t₁.weak fun a q=>.inl (q.imp (st.new a) id)).trans t₂ fun a q=>.inl q).trans t₃ fun a q=>.inl (.inl (st₂.new a q))).trans t₆ fun a q=>q) st₆ ac₆
noncomputable def relabelS (scope outer:Scope):Scope :=
  { scope with names:=scope.names.map fun (n,k)=>if (k == .free && outer.kind == .function && outer.names.lookup n == some .cell) then (n,.cell) else (n,k) }
noncomputable def clOf (cells:List (Str × Addr)):List (Str × NameKind)→List (Str × Addr)→List (Str × Addr)
  | [],acc=>acc
  | (n,k) :: r,acc=>clOf cells r (if k == .free then (n,(cells.lookup n).getD 0) :: acc else acc)
theorem closureFor_eq {scope:Scope} {env:Env} (h:∀ x ∈ scope.names,x.2 = .free→∃ c,env.cells.lookup x.1 = some c):closureFor scope env = pure (clOf env.cells scope.names []):=by
  have key:∀ (names:List (Str × NameKind)) (acc:List (Str × Addr)),(∀ x ∈ names,x.2 = .free→∃ c,env.cells.lookup x.1 = some c) →
      (forIn names acc fun (p:Str × NameKind) (cs:List (Str × Addr))=>(if p.2 == NameKind.free then (do let c ← cellOf env p.1;pure (ForInStep.yield ((p.1,c) :: cs))) else pure (ForInStep.yield cs):Sem (ForInStep (List (Str × Addr))))) = pure (clOf env.cells names acc):=by
    intro names
    induction names with
    | nil=>intro acc _;rfl
    | cons x r ih =>
      intro acc hx
      obtain ⟨n,kk⟩:=x
      rw [List.forIn_cons]
      by_cases hk:kk = .free
      · subst hk
        refine e1_1 (hx (n,.free) (.head _) rfl) (fun c hc=>?_)
        have e:cellOf env n = pure c:=by unfold cellOf;rw [hc]
        have e2:clOf env.cells ((n,.free) :: r) acc = clOf env.cells r ((n,c) :: acc):=by show clOf env.cells r ((n,(env.cells.lookup n).getD 0) :: acc) = _;rw [hc];rfl
        rw [e2]
        simp only [beq_self_eq_true,if_true,e]
        exact ih _ fun y hy=>hx y (.tail _ hy)
      · have hb:(kk == NameKind.free) = false:=by simpa using hk
        have e2:clOf env.cells ((n,kk) :: r) acc = clOf env.cells r acc:=congrArg (clOf env.cells r) (if_neg (by rw [hb];exact Bool.false_ne_true))
        rw [e2]
        simp only [hb,Bool.false_eq_true,if_false]
        exact ih _ fun y hy=>hx y (.tail _ hy)
  unfold closureFor
  have:=key scope.names [] h
  exact (congrArg (fun m:Sem (List (Str × Addr))=>m >>= fun s=>pure s) this).trans rfl
theorem clOf_mem (cells:List (Str × Addr)):∀ (names:List (Str × NameKind)) (acc:List (Str × Addr)) (p:Str × Addr),p ∈ clOf cells names acc→p ∈ acc ∨ ((p.1,NameKind.free) ∈ names∧p.2 = (cells.lookup p.1).getD 0)
  | [],acc,p,h=>.inl h
  | (n,k) :: r,acc,p,h=>by
    rcases clOf_mem cells r _ p h with h' | h'
    · split at h'
      · rename_i hk
        have hk:k = .free:=by simpa using hk
        subst hk
        rcases List.mem_cons.mp h' with rfl | h'
        · exact .inr ⟨.head _,rfl⟩
        · exact .inl h'
      · exact .inl h'
    · exact .inr ⟨.tail _ h'.1,h'.2⟩
theorem clOf_keeps (cells:List (Str × Addr)):∀ (names:List (Str × NameKind)) (acc:List (Str × Addr)) (p:Str × Addr),p ∈ acc→p ∈ clOf cells names acc
  | [],acc,p,h=>h
  | (n,k) :: r,acc,p,h=>clOf_keeps cells r _ p (by split;exact .tail _ h;exact h)
theorem clOf_has (cells:List (Str × Addr)) {y:Str}:∀ (names:List (Str × NameKind)) (acc:List (Str × Addr)),(y,NameKind.free) ∈ names→∃ c,(y,c) ∈ clOf cells names acc
  | (n,k) :: r,acc,h=>by
    rcases List.mem_cons.mp h with e | h
    · cases e
      exact ⟨(cells.lookup y).getD 0,clOf_keeps cells r _ _ (by simp)⟩
    · exact clOf_has cells r _ h
theorem lookup_of_mem {y:Str} {c:Addr}:∀ {l:List (Str × Addr)},(y,c) ∈ l→∃ c',l.lookup y = some c'
  | (n,a) :: r,h=>by
    rw [List.lookup_cons]
    cases hb:y == n with
    | true=>exact ⟨a,rfl⟩
    | false =>
      rcases List.mem_cons.mp h with e | h
      · cases e;simp at hb
      · exact lookup_of_mem h
theorem clOf_lookup {cells:List (Str × Addr)} {names:List (Str × NameKind)} {y:Str} {c:Addr} (h:(y,NameKind.free) ∈ names) (hc:cells.lookup y = some c):(clOf cells names []).lookup y = some c:=by
  refine e1_1 (clOf_has cells names [] h) (fun c' h'=>?_)
  refine e1_1 (lookup_of_mem h') (fun c₂ h₂=>?_)
  rcases clOf_mem cells names [] _ (mem_of_lookup h₂) with q | q
  · cases q
  · have q:=q.2
    simp only [hc,Option.getD_some] at q
    rw [h₂,q]
inductive Cap (f:Fi) (Γ:Ctxt) (y:Str) (d:D):Prop where
  | cell (o:Nat):f.vars[o]? = some y→Γ[o]? = some (some (.cell (some d)))→Cap f Γ y d
  | val (o:Nat) (kd:NameKind):f.vars[o]? = some y→Γ[o]? = some (some (.val d))→f.kinds[o]? = some kd→(kd = .cell ∨ kd = .free)→Cap f Γ y d
theorem St.cap {g:Heap} {W:Addr→Prop} {env:Env} {s:Shared} {y:Str} (st:St S f Γ g W env s) (c:Cap f Γ y d):∃ c v,env.cells.lookup y = some c∧s.heap.IsCell c (some v)∧Rd g v d:=by
  refine e2_5 (st.vars) (fun m ad hns hb hg hH hI=>?_)
  cases c with
  | cell o h1 h2 =>
    refine (hH o y _ h1 h2).cellC fun _ c ov a1 a2 _ _ _ a3=>?_
    (refine e1_2 (a3 d rfl) (fun v q6q r=>?_);subst q6q)
    exact ⟨c,v,a1,a2,r⟩
  | val o kd h1 h2 h3 h4 =>
    refine e1_2 (hH o y _ h1 h2) (fun v hv r=>?_)
    have hk:env.kindOf y = some kd:=(kindOf_eq st.envIs y).trans (f.kind h1 h3)
    unfold Var at hv
    rw [hk] at hv
    rcases h4 with rfl | rfl
    · refine e1_2 (hv) (fun c a1 a2=>?_);exact ⟨c,v,a1,a2,r⟩
    · refine e1_2 (hv) (fun c a1 a2=>?_);exact ⟨c,v,a1,a2,r⟩
inductive AllCap (f:Fi) (Γ:Ctxt):List (Str × NameKind)→Prop where
  | nil:AllCap f Γ []
  | free {y:Str} {d:D} {r:List (Str × NameKind)}:Cap f Γ y d→AllCap f Γ r→AllCap f Γ ((y,.free) :: r)
  | other {y:Str} {kd:NameKind} {r:List (Str × NameKind)}:(kd == .free) = false→(kd == .cell) = false→AllCap f Γ r→AllCap f Γ ((y,kd) :: r)
theorem AllCap.free' {r:List (Str × NameKind)} (h:AllCap f Γ r):∀ x ∈ r,x.2 = .free→∃ d,Cap f Γ x.1 d:=by
  induction h with
  | nil=>intro x hx;cases hx
  | free c _ ih =>
    intro x hx e
    rcases List.mem_cons.mp hx with rfl | hx
    · exact ⟨_,c⟩
    · exact ih x hx e
  | other a _ _ ih =>
    intro x hx e
    rcases List.mem_cons.mp hx with rfl | hx
    · simp at e;subst e;simp at a
    · exact ih x hx e
theorem AllCap.noCell {r:List (Str × NameKind)} (h:AllCap f Γ r):∀ x ∈ r,x.2 ≠ .cell:=by
  induction h with
  | nil=>intro x hx;cases hx
  | free c _ ih =>
    intro x hx
    rcases List.mem_cons.mp hx with rfl | hx
    · simp
    · exact ih x hx
  | other _ a _ ih =>
    intro x hx
    rcases List.mem_cons.mp hx with rfl | hx
    · intro e;simp at e;subst e;simp at a
    · exact ih x hx
inductive CapL (f:Fi) (Γ:Ctxt) (sc:Scope) (names:List (Str × NameKind)):List Str→Ctxt→Prop where
  | nil:CapL f Γ sc names [] []
  | skip {y:Str} {vs:List Str} {Γc:Ctxt}:CapL f Γ sc names vs Γc→CapL f Γ sc names (y :: vs) (none :: Γc)
  | cap {y:Str} {d:D} {vs:List Str} {Γc:Ctxt}:(names.any fun x=>x.1 == y && x.2 == .free) = true→(sc.names.lookup y == some .cell || sc.names.lookup y == some .free) = true→Cap f Γ y d→CapL f Γ sc names vs Γc→CapL f Γ sc names (y :: vs) (some (.val d) :: Γc)
theorem CapL.get {sc:Scope} {names:List (Str × NameKind)} {vs:List Str} {Γc:Ctxt} (h:CapL f Γ sc names vs Γc):∀ (i:Nat) (y:Str) (b:B),vs[i]? = some y→Γc[i]? = some (some b) →
    (y,NameKind.free) ∈ names∧(sc.names.lookup y = some .cell ∨ sc.names.lookup y = some .free)∧∃ d,b = .val d∧Cap f Γ y d:=by
  induction h with
  | nil=>exact fun i y b e _=>by cases e
  | skip _ ih =>
    intro i y b e1 e2
    cases i with
    | zero=>cases e2
    | succ i=>exact ih i y b e1 e2
  | cap a1 a2 c _ ih =>
    intro i y b e1 e2
    cases i with
    | succ i=>exact ih i y b e1 e2
    | zero =>
      cases e1
      cases e2
      refine ⟨?_,?_,_,rfl,c⟩
      · (refine e1_2 (List.any_eq_true.mp a1) (fun q7q hx hy=>?_);obtain ⟨n,kk⟩:=q7q)
        rw [Bool.and_eq_true,beq_iff_eq,beq_iff_eq] at hy
        (refine e0_2 (hy) (fun q8q q9q=>?_);subst q8q;subst q9q)
        exact hx
      · rw [Bool.or_eq_true,beq_iff_eq,beq_iff_eq] at a2;exact a2
theorem CapL.len {sc:Scope} {names:List (Str × NameKind)} {vs:List Str} {Γc:Ctxt} (h:CapL f Γ sc names vs Γc):Γc.length = vs.length:=by
  induction h with
  | nil=>rfl
  | skip _ ih=>simp [ih]
  | cap _ _ _ _ ih=>simp [ih]
theorem CL.le (h:CL S k f tg elt ifs Γ ds outs):outs.length≤ds.length:=by
  induction h with
  | nil=>simp
  | take _ _ _ _ ih=>simp;exact ih
  | skip _ _ _ ih=>simp;lia
noncomputable def ItE (S:Sig) (k:Nat) (f:Fi) (Γ:Ctxt) (iter tg:Expr) (ds:List D):Prop :=
  ∀ (A:Around) (g:Heap) (W:Addr→Prop) (env:Env) (s:Shared) (Q:Value→Shared→Prop) (E:Value→Shared→Prop),Room S k A→St S f Γ g W env s →
    (∀ I F g₁ s₁ g₂ s₂,Tr S (Nw s) g s g₁ s₁→Tr S (Nw s₁) g₁ s₁ g₂ s₂→(∀ a,F a→Nw s₁ a∧g₂.get? a = Option.none∧a < s₂.heap.objs.size)→Self S k F I g₂ s₂→Yl S k F I tg ds g₂ s₂→Q (.ref I) s₂) →
      wpAny S.M A (eval iter env) (fun v s'=>wpAny S.M A (pyIter v) Q E s') E s
theorem ItE.of {S:Sig} {k:Nat} {f:Fi} {Γ:Ctxt} {iter tg:Expr} {d:D} {ds:List D} (h1:EV S k f Γ iter d) (h2:It S k d tg ds):ItE S k f Γ iter tg ds:=by
  intro A g W env s Q E R st hQ
  exact h1 A g W env s _ E R st fun v g₁ s₁ t₁ r₁=>h2 A g₁ s₁ v _ E (t₁.at R) r₁ fun I F g₂ s₂ t₂ hF slf y=>hQ I F g₁ s₁ g₂ s₂ t₁ t₂ hF slf y
theorem comp_loop {fc:Fi} {F:Addr→Prop} {I C ax:Addr} {env1:Env} {use:Option (Value→Sem Unit)} {A:Around} {g g₁ g₂ g₄:Heap} {s s₁ s₂ s₄:Shared} {Q:Value→Shared→Prop} {E:Value→Shared→Prop}
    (h3:CL S k fc tg elt ifs Γc ds outs) (hz:ds.length≤sizeLine) (R:Room S k A) (T₁:Tabs S g₁ s₁) (t₁:Tr S (Nw s) g s g₁ s₁) (t₂:Tr S (Nw s₁) g₁ s₁ g₂ s₂) (t₄:Tr S (Nw s₂) g₂ s₂ g₄ s₄)
    (hF:∀ a,F a→Nw s₁ a∧g₂.get? a = Option.none∧a < s₂.heap.objs.size) (slf:Self S k F I g₂ s₂) (y:Yl S k F I tg ds g₂ s₂) (lax:ax = s₂.heap.objs.size) (lC:C = ax + 1) (hloc:env1.locals = C)
    (stc:St S fc Γc g₄ (Ab C) env1 s₄) (hc:∀ x c,env1.cells.lookup x = some c→c < s₁.heap.objs.size ∨ C < c) (noax:g₄.get? ax = Option.none) (getax:s₄.heap.get? ax = some (listO [] 0)) (old:Keep s₂.heap s₄.heap)
    (hpost:∀ (ax C:Addr) g' s',Tr S (Nw s) g s g' s'→Rd g' (.ref ax) (.list outs)→(∃ m,s'.heap.Ns C m)→g'.get? C = none→s.heap.objs.size≤C→compPost S.M A E use Q (.ref ax) C (.ok .next) s') :
    codeAny S.M A (.compStart (.ListComp elt [⟨tg,iter,ifs,0⟩] scope pos) 0 (.ref I) (.ref ax) env1) (compPost S.M A E use Q (.ref ax) C) s₄:=by
  have lt:ax < C:=by rw [lC];exact Nat.lt_succ_self _
  have hFx:∀ a,F a→a < ax:=fun a h=>by rw [lax];exact (hF a h).2.2
  have l₁₂:s₁.heap.objs.size≤ax:=by rw [lax];exact t₂.size
  have big:s.heap.objs.size≤ax:=Nat.le_trans t₁.size l₁₂
  have sm:Same F s₂ s₄:=fun a o _ e=>old a o e
  have loop:codeAny S.M A (.compLoop (.ListComp elt [⟨tg,iter,ifs,0⟩] scope pos) 0 (.ref I) (.ref ax) env1) (compPost S.M A E use Q (.ref ax) C) s₄:=by
    refine h3.code (F:=F) A g₄ (Ab C) _ _ _ [] R stc (fun a h q=>absurd (Nat.lt_trans (hFx a h) lt) (Nat.not_lt.mpr q)) (fun x c e h=>(hc x c e).elim (fun q=>absurd q (Nat.not_lt.mpr (hF c h).1)) fun q=>absurd (Nat.lt_trans (hFx c h) lt) (Nat.lt_asymm q))
      (fun a h=>t₄.none (hF a h).2.1 (Nat.not_le.mpr (hF a h).2.2)) (fun a h=>T₁.newT (hF a h).1) ⟨⟨[],0,getax,.nil⟩,noax,fun h=>absurd (hFx _ h) (Nat.lt_irrefl _),fun q=>absurd lt (Nat.not_lt.mpr q),fun x c e=>(hc x c e).elim (fun q=>Nat.ne_of_lt (Nat.lt_of_lt_of_le q l₁₂)) fun q=>Nat.ne_of_gt (Nat.lt_trans lt q)⟩ (by simpa using hz) (y.mono t₄.mono sm) fun g₅ s₅ t₅ st₅ ac₅=>e1_1 st₅ fun Γ' st₅=>?_
    refine e2_2 ac₅.ex fun ws n e5 rs=>?_
    rw [List.nil_append] at rs
    refine e1_3 (Tr.take (W:=fun a=>a = ax) st₅.keep st₅.base st₅.tabs e5 (st₅.tabs.notT e5 nofun) rfl) (fun g₆ t₆ in6 off6=>?_)
    refine e2_4 (st₅.vars) (fun m5 _ ns5 _ no5 _=>?_)
    rw [hloc] at ns5 no5
    refine hpost ax C g₆ s₅ ((((t₁.then t₂).then t₄).trans t₅ fun a q=>?_).trans t₆ fun a q=>by rw [q];exact big) (.list in6 (by rw [rs.length];exact Nat.le_trans h3.le hz) (rs.mono t₆.mono)) ⟨m5,ns5⟩ (by rw [off6 _ (Nat.ne_of_gt lt)];exact no5) (Nat.le_trans big (Nat.le_of_lt lt))
    exact q.elim (fun q=>q.elim (fun q=>Nat.le_trans big (Nat.le_trans (Nat.le_of_lt lt) q)) fun q=>Nat.le_trans t₁.size (hF a q).1) fun q=>by rw [q];exact big
  exact codeAny_compStart_list loop (slf A g₄ _ _ _ (t₄.at R) t₄.mono sm loop)
theorem comp_core {vars:List Str} {kinds:List NameKind} {use:Option (Value→Sem Unit)} (hnd:vars.Nodup) (hok:((vars.zip kinds).all fun p=>(relabelS scope f.scope).names.lookup p.1 == some p.2) = true)
    (hkind:scope.kind = .function) (hloc:∀ x ∈ scope.names,x.2 = .local→scope.names.lookup x.1 = some .local) (hfr:AllCap f Γ scope.names) (hcap:CapL f Γ (relabelS scope f.scope) scope.names vars Γc)
    (h1:ItE S k f Γ iter tg ds) (hz:ds.length≤sizeLine)
    (h3:∀ fc:Fi,fc.scope = relabelS scope f.scope→fc.vars = vars→fc.kinds = kinds→CL S k fc tg elt ifs Γc ds outs) (hs:∀ env x,foldedSetIterable iter env x = pure x)
    {A:Around} {g:Heap} {W:Addr→Prop} {env:Env} {s:Shared} {Q:Value→Shared→Prop} {E:Value→Shared→Prop} (R:Room S k A) (st:St S f Γ g W env s)
    (hpost:∀ (ax C:Addr) g' s',Tr S (Nw s) g s g' s'→Rd g' (.ref ax) (.list outs)→(∃ m,s'.heap.Ns C m)→g'.get? C = none→s.heap.objs.size≤C→compPost S.M A E use Q (.ref ax) C (.ok .next) s') :
    wpAny S.M A (comprehension (.ListComp elt [⟨tg,iter,ifs,0⟩] scope pos) scope env p' (newList []) false (eval iter env) use) Q E s:=by
  have hfree:∀ x ∈ scope.names,x.2 = .free→∃ c,env.cells.lookup x.1 = some c:=fun x hx e=>by
    refine e1_1 (hfr.free' x hx e) (fun d c=>?_)
    refine e2_2 (st.cap c) (fun c _ h _=>?_)
    exact ⟨c,h⟩
  refine wpAny_comprehension_free (g:=⟨tg,iter,ifs,0⟩) (gs:=[]) rfl (hs env) (closureFor_eq hfree) hkind hloc ?_
  refine h1 A g W env s _ E R st fun I F g₁ s₁ g₂ s₂ t₁ t₂ hF slf y=>?_
  have st₂:=(st.move t₁).move t₂
  refine wpAny_newObj_type (hd:=by size_fits) ?_
  have a₂:=t₂.at R
  refine e1_3 (Tr.grow (s':={ s₂ with heap:=s₂.heap.push (listO [] 0) }) (fun _=>False) a₂.keep a₂.base a₂.tabs (fun b x e=>Heap.get?_push_of_some _ e) (by simp) rfl rfl (Nat.le_refl _)) (fun g₃ t₃ _ hno₃=>?_)
  have st₃:=st₂.move t₃
  refine wpAny_grown (wpAny_newFunctionEnv hfr.noCell (by intro y hy;simp at hy) (fun h₁ hns hsb G=>?_) hkind)
  have hsz₃:({ s₂ with heap:=s₂.heap.push (listO [] 0) }:Shared).heap.objs.size = s₂.heap.objs.size + 1:=by simp
  have old:Keep ({ s₂ with heap:=s₂.heap.push (listO [] 0) }:Shared).heap h₁:=fun b o e=>hsb.extBut b o (Nat.ne_of_lt (Heap.lt_size e)) (Heap.get?_push_of_some _ e)
  have a₃:=t₃.at R
  refine e1_3 (Tr.grow (s':={ s₂ with heap:=h₁,toks:=s₂.toks + ([]:List (Str × Value)).length }) (fun _=>False) a₃.keep a₃.base a₃.tabs old G.heap rfl rfl G.toks) (fun g₄ t₄ _ hno₄=>?_)
  have st₄:=st₃.move t₄
  have sc:relabel scope env = relabelS scope f.scope:=by
    show relabelS scope env.scope = _
    rw [st.envIs.scope]
  generalize hC:({ s₂ with heap:=s₂.heap.push (listO [] 0) }:Shared).heap.objs.size = C at *
  have hC':C = s₂.heap.objs.size + 1:=by rw [← hC];simp
  have lt₂:s₂.heap.objs.size < C:=by lia
  have eI:EnvIs (⟨relabelS scope f.scope,f.qual,f.code,vars,kinds,hnd,hok⟩:Fi) { newEnv scope C env.globals (clOf env.cells scope.names []) env.qual none .none (some env) builtinsNs with scope:=relabel scope env } :=
    ⟨sc,st.envIs.qual,st.envIs.code,st.envIs.globals,st.envIs.builtins,by show (relabel scope env).kind = _;exact hkind⟩
  have cells:∀ x c,(clOf env.cells scope.names []).lookup x = some c→env.cells.lookup x = some c:=fun x c e=>by
    rcases clOf_mem env.cells scope.names [] _ (mem_of_lookup e) with q | q
    · cases q
    · refine e1_1 (hfree _ q.1 rfl) (fun c' hc'=>?_)
      have q:=q.2
      simp only at q hc'
      rw [hc'] at q
      rw [hc',q];rfl
  have cellLt:∀ x c,env.cells.lookup x = some c→c < s₁.heap.objs.size:=fun x c e=>(st.move t₁).clt x c e
  have s₁₂:s₁.heap.objs.size≤s₂.heap.objs.size:=t₂.size
  have szC:C≤h₁.objs.size:=by have:=t₄.size;rw [hC] at this;exact this
  have stc:St S (⟨relabelS scope f.scope,f.qual,f.code,vars,kinds,hnd,hok⟩:Fi) Γc g₄ (Ab C) { newEnv scope C env.globals (clOf env.cells scope.names []) env.qual none .none (some env) builtinsNs with scope:=relabel scope env } { s₂ with heap:=h₁,toks:=s₂.toks + ([]:List (Str × Value)).length }:=by
    refine ⟨t₄.keep,t₄.base,t₄.now,eI,fun a l=>Nat.le_trans szC l,fun x c e=>Nat.lt_of_lt_of_le (cellLt x c (cells x c e)) (Nat.le_trans s₁₂ (Nat.le_trans t₃.size t₄.size)),_,fun _=>0,hns,Nat.le_refl _,hno₄ C (Nat.le_refl _) id,fun i y b hy hb=>?_,fun i j xs ys e1 e2 _=>?_⟩
    · obtain ⟨q1,q2,d',rfl,cp⟩:=hcap.get i y b hy hb
      refine e2_3 (st₄.cap cp) (fun c v a1 a2 a3=>?_)
      have hl:=clOf_lookup q1 a1
      refine ⟨v,?_,a3⟩
      unfold Var
      rw [kindOf_eq eI]
      show match (relabelS scope f.scope).names.lookup y with | some .local=>_ | some .cell=>_ | some .free=>_ | _=>False
      rcases q2 with q2 | q2
      · rw [q2];exact ⟨c,hl,a2⟩
      · rw [q2];exact ⟨c,hl,a2⟩
    · exfalso
      have hi:i < vars.length:=by rw [← hcap.len];exact (List.getElem?_eq_some_iff.mp e1).1
      obtain ⟨_,_,d',q,_⟩:=hcap.get i _ _ (List.getElem?_eq_getElem hi) e1
      cases q
  exact comp_loop (h3 ⟨relabelS scope f.scope,f.qual,f.code,vars,kinds,hnd,hok⟩ rfl rfl rfl) hz R (st.move t₁).tabs t₁ t₂ (t₃.then t₄) hF slf y rfl hC' rfl stc (fun x c e=>.inl (cellLt x c (cells x c e))) (t₄.none (hno₃ _ (Nat.le_refl _) id) fun q=>by rw [Nw,hC] at q;exact absurd lt₂ (Nat.not_lt.mpr q)) (old _ _ (Heap.get?_push_size _ rfl)) (fun a o e=>old a o (Heap.get?_push_of_some _ e)) hpost
theorem EV.compE (vars:List Str) (kinds:List NameKind) (hnd:vars.Nodup) (hok:((vars.zip kinds).all fun p=>(relabelS scope f.scope).names.lookup p.1 == some p.2) = true)
    (hkind:scope.kind = .function) (hloc:∀ x ∈ scope.names,x.2 = .local→scope.names.lookup x.1 = some .local) (hfr:AllCap f Γ scope.names) (hcap:CapL f Γ (relabelS scope f.scope) scope.names vars Γc)
    (h1:ItE S k f Γ iter tg ds) (hz:ds.length≤sizeLine)
    (h3:∀ fc:Fi,fc.scope = relabelS scope f.scope→fc.vars = vars→fc.kinds = kinds→CL S k fc tg elt ifs Γc ds outs) (hs:∀ env x,foldedSetIterable iter env x = pure x) :
    EV S k f Γ (.ListComp elt [⟨tg,iter,ifs,0⟩] scope pos) (.list outs):=by
  intro A g W env s Q E R st hQ
  rw [eval_ListComp]
  show wpAny S.M A (comprehension _ scope env _ (newList []) false (eval iter env)) Q E s
  refine comp_core hnd hok hkind hloc hfr hcap h1 hz h3 hs R st fun ax C g' s' t r hns hC hge=>?_
  refine e1_1 (hns) (fun m hns=>?_)
  refine ⟨m,hns,fun h' hsb=>?_⟩
  have nT:¬ S.T C:=by refine e3_3 (hns) (fun o es ep e hd _=>?_);exact t.now.notT e (by rw [hd];nofun)
  have t₂:Tr S (fun a=>a = C) g' s' g' { s' with heap:=h',toks:=s'.toks }:=Tr.set t.keep t.base t.now hsb rfl hC nT (Nat.le_refl _)
  exact hQ _ g' _ (t.trans t₂ fun a q=>by rw [q];exact hge) r
theorem EV.comp (vars:List Str) (kinds:List NameKind) (hnd:vars.Nodup) (hok:((vars.zip kinds).all fun p=>(relabelS scope f.scope).names.lookup p.1 == some p.2) = true)
    (hkind:scope.kind = .function) (hloc:∀ x ∈ scope.names,x.2 = .local→scope.names.lookup x.1 = some .local) (hfr:AllCap f Γ scope.names) (hcap:CapL f Γ (relabelS scope f.scope) scope.names vars Γc)
    (h1:EV S k f Γ iter d) (h2:It S k d tg ds) (hz:ds.length≤sizeLine)
    (h3:∀ fc:Fi,fc.scope = relabelS scope f.scope→fc.vars = vars→fc.kinds = kinds→CL S k fc tg elt ifs Γc ds outs) (hs:∀ env x,foldedSetIterable iter env x = pure x) :
    EV S k f Γ (.ListComp elt [⟨tg,iter,ifs,0⟩] scope pos) (.list outs) :=
  .compE vars kinds hnd hok hkind hloc hfr hcap (.of h1 h2) hz h3 hs
theorem EX.assignCompE {x:Str} {np:Pos} (vars:List Str) (kinds:List NameKind) (hnd:vars.Nodup) (hok:((vars.zip kinds).all fun p=>(relabelS scope f.scope).names.lookup p.1 == some p.2) = true)
    (hkind:scope.kind = .function) (hloc:∀ x ∈ scope.names,x.2 = .local→scope.names.lookup x.1 = some .local) (hfr:AllCap f Γ scope.names) (hcap:CapL f Γ (relabelS scope f.scope) scope.names vars Γc)
    (h1:ItE S k f Γ iter tg ds) (hz:ds.length≤sizeLine)
    (h3:∀ fc:Fi,fc.scope = relabelS scope f.scope→fc.vars = vars→fc.kinds = kinds→CL S k fc tg elt ifs Γc ds outs) (hs:∀ env x,foldedSetIterable iter env x = pure x)
    (h4:AS S k f Γ (.Name x np) (.list outs) Γ₁) (hsw:∀ env,∃ b,swapsWithSole [.Name x np] (.ListComp elt [⟨tg,iter,ifs,0⟩] scope pos) p'.line env = pure b) (hw:∀ env,swappedStores [.Name x np] (.ListComp elt [⟨tg,iter,ifs,0⟩] scope pos) env = pure none) :
    EX S k f Γ (.Assign [.Name x np] (.ListComp elt [⟨tg,iter,ifs,0⟩] scope pos) p') (.next Γ₁):=by
  intro A g W env s Q E R st hQ
  refine e1_1 (hsw env) (fun b hb=>?_)
  have ha:∀ v,assignAll v ((assignEach [.Name x np] env).map (·.2)) = PySem.assign (.Name x np) env v:=fun _=>rfl
  cases b with
  | false =>
    refine wpAny_Assign_stores (EV.compE vars kinds hnd hok hkind hloc hfr hcap h1 hz h3 hs A g W env s _ E R st fun v g1 s1 t1 r1=>?_) hb (hw env)
    rw [ha]
    exact h4 A g1 W env s1 v _ E R (st.move t1) r1 fun g2 s2 t2 st2=>hQ _ g2 s2 ((t1.weak st.new).trans t2 (fun _ q=>q)) ⟨rfl,st2⟩
  | true =>
    rw [exec_Assign_arm]
    refine wpAny_bind (wpAny_standAt ?_)
    rw [hb]
    refine wpAny_bind (wpAny_pure ?_)
    refine wp_ifT rfl ?_
    refine wpAny_bind ?_
    show wpAny S.M A (do let _ ← comprehension _ scope env _ (newList []) false (eval iter env) (some fun v=>assignAll v ((assignEach [.Name x np] env).map (·.2)))) _ _ _
    refine wpAny_bind (comp_core hnd hok hkind hloc hfr hcap h1 hz h3 hs R st fun ax C g' s' t r hns hC hge=>?_)
    refine e1_1 (hns) (fun m hns=>?_)
    show wpAny S.M A (assignAll (.ref ax) _) _ E s'
    rw [ha]
    have st':=st.without (F:=fun a=>a = C) t fun a q=>by rw [q];exact ⟨hge,hns.lt⟩
    refine h4 A g' _ env s' (.ref ax) _ E R st' r fun g2 s2 t2 st2=>?_
    have hns2:=t2.ns t.now hns fun q=>q.2 rfl
    refine ⟨m,hns2,fun h' hsb=>wpAny_pure (wpAny_pure ?_)⟩
    have nT:¬ S.T C:=by refine e3_3 (hns2) (fun o es ep e hd _=>?_);exact t2.now.notT e (by rw [hd];nofun)
    have hC2:=t2.none hC fun q=>q.2 rfl
    have t3:Tr S (fun a=>a = C) g2 s2 g2 { s2 with heap:=h',toks:=s2.toks }:=Tr.set t2.keep t2.base t2.now hsb rfl hC2 nT (Nat.le_refl _)
    have st3:St S f Γ₁ g2 _ env { s2 with heap:=h' }:=st2.moveF (F:=fun a=>a = C) (t3.weak fun _=>.inr) (fun a q w=>w.2 q) (fun x c e q=>by
      have:=st.clt x c e
      rw [q] at this
      exact absurd this (Nat.not_lt.mpr hge))
    exact hQ _ g2 _ (((t.weak st.new).trans t2 fun _ q=>q.1).trans t3 fun a q=>by rw [q];exact st.wide _ hge) ⟨rfl,st3.widen fun _=>And.left⟩
end
end
section
open PySem PySem.W PySem.Calls PyProof.Rows
section
variable {S:Sig} {k:Nat} {f:Fi} {Γ Γ' Γ₁ Γ₂:Ctxt} {e e₁ e₂:Expr} {es:List Expr} {d d₁ d₂:D} {ds:List D} {pos p' p'':Pos} {x y:Str} {i j:Nat} {v:Value}
theorem dups2 (h:(y == x) = false):[x,y].eraseDups = [x,y]:=by
  simp [List.eraseDups,List.eraseDupsBy,List.eraseDupsBy.loop,h]
theorem fm2 {α β:Type} {F:α→Option β} {a b:α} {x y:β} (h1:F a = some x) (h2:F b = some y):List.filterMap F [a,b] = [x,y]:=by rw [List.filterMap_cons_some h1,List.filterMap_cons_some h2,List.filterMap_nil]
theorem boolF {b:Bool} (h:b = false):¬ b = true:=fun q=>absurd (h.symm.trans q) Bool.false_ne_true
theorem swapped2 {env:Env} {px py tp vp:Pos} {kt kv:Nat} (hx:env.kindOf x = some .local) (hy:env.kindOf y = some .local) (hb:env.blockKind = .function) (hl:(py.line == px.line) = true) (hne:(y == x) = false)
    (hs:([e₁,e₂].any fun | .Starred ..=>true | _=>false) = false) (h1:[e₁,e₂].all (foldedForSure 8) = false) (h2:[e₁,e₂].all (constantsAlone 8) = false) :
    swappedStores [.Tuple [.Name x px,.Name y py] kt tp] (.Tuple [e₁,e₂] kv vp) env = pure (some [x,y]):=by
  unfold swappedStores
  refine (if_neg (by rw [hb];exact Bool.false_ne_true)).trans ((if_neg (boolF hs)).trans ?_)
  dsimp only
  generalize hn:List.filterMap _ [Expr.Name x px,Expr.Name y py] = names
  obtain rfl:names = [x,y]:=by
    refine hn.symm.trans (fm2 ?_ ?_)
    · exact if_pos (by rw [hx];exact beq_self_eq_true px.line)
    · exact if_pos (by rw [hy];exact hl)
  exact (if_neg (by rw [dups2 hne];exact Bool.false_ne_true)).trans ((if_neg (boolF h1)).trans (if_neg (boolF h2)))
theorem EX.assign2 [Free S] {px py tp vp:Pos} {kt kv:Nat} {kx ky:Nat} (nx:f.vars[i]? = some x) (kx:f.kinds[i]? = some .local) (ny:f.vars[j]? = some y) (ky:f.kinds[j]? = some .local) (hv:EV S k f Γ (.Tuple [e₁,e₂] kv vp) (.tup [d₁,d₂]))
    (hl:(py.line == px.line) = true) (hne:(y == x) = false) (hs:([e₁,e₂].any fun | .Starred ..=>true | _=>false) = false) (h1:[e₁,e₂].all (foldedForSure 8) = false) (h2:[e₁,e₂].all (constantsAlone 8) = false)
    (hsw:∀ env,swapsWithSole [.Tuple [.Name x px,.Name y py] kt tp] (.Tuple [e₁,e₂] kv vp) p'.line env = pure false) :
    EX S k f Γ (.Assign [.Tuple [.Name x px,.Name y py] kt tp] (.Tuple [e₁,e₂] kv vp) p') (.next ((Γ.set j (some (.val d₂))).set i (some (.val d₁)))):=by
  intro A g W env s Q E R st hQ
  have hkx:env.kindOf x = some .local:=(kindOf_eq st.envIs x).trans (f.kind nx kx)
  have hky:env.kindOf y = some .local:=(kindOf_eq st.envIs y).trans (f.kind ny ky)
  have hb:env.blockKind = .function:=by unfold Env.blockKind;rw [st.envIs.kind];rfl
  rw [exec_Assign_arm]
  refine wpAny_bind (wpAny_standAt ?_)
  rw [hsw]
  refine wpAny_bind (wpAny_pure ?_)
  refine wp_ifF (by decide) ?_
  refine wpAny_bind (hv A g W env s _ E R st fun v g1 s1 t1 r1=>?_)
  rw [swapped2 hkx hky hb hl hne hs h1 h2]
  refine wpAny_bind (wpAny_pure ?_)
  have st1:=st.move t1
  cases r1 using Rd.casesTup with
  | tup e hz rs =>
    rename_i a vs n
    have ht:s1.heap.IsTuple a vs.toArray:=⟨_,st1.keep _ _ e,rfl,n,rfl⟩
    have hlen:=rs.length
    simp at hlen
    show wpAny S.M A (do rule "assign.swapped-stores";let items ← unpackItems (.ref a) 2 none;assignInOrder [bindName env y,bindName env x] items.reverse;pure .next) Q E s1
    refine wpAny_bind (wpAny_rule (wpAny_bind (wpAny_grown ?_)))
    rw [show (2:Nat) = vs.toArray.size by simp [hlen]]
    refine wpAny_unpackItems_tuple (R.handled Free.free) ht fun h' hx G=>?_
    have old:Keep s1.heap h':=fun b o e=>hx b o (Nat.ne_of_lt (Heap.lt_size e)) e
    obtain ⟨g2,t2,_⟩:=Tr.grow (s':={ s1 with heap:=h' }) (fun _=>False) st1.keep st1.base st1.tabs old G.heap rfl rfl (Nat.le_refl _)
    have st2:=st1.move t2
    cases rs using Rds.casesCons with
    | cons r1 rs =>
      cases rs using Rds.casesCons with
      | cons r2 rs =>
        cases rs using Rds.casesNil
        rename_i v1 v2
        show wpAny S.M A (do (do holding [v1] (bindName env y v2);holding [] (bindName env x v1);pure ());pure .next) Q E _
        refine wpAny_bind (wpAny_bind (wpAny_holding (wpAny_bindName (wp_storeVal ny ky st2 (r2.mono t2.mono) fun g3 s3 t3 st3=>wpAny_bind (wpAny_holding (wpAny_bindName (wp_storeVal nx kx st3 (r1.mono (t2.mono.trans t3.mono)) fun g4 s4 t4 st4=>wpAny_pure (wpAny_pure ?_))))))))
        exact hQ _ g4 s4 ((((t1.then t2).weak st.new).trans t3 fun _ q=>q).trans t4 fun _ q=>q) ⟨rfl,st4⟩
theorem Op2.inS {c:Nat} {xs:List Nat}:Op2 S k (compareOp .In) (.str [c]) (.str xs) (.bool (decide (c ∈ xs))):=by
  intro A g s v₁ v₂ Q E at' r1 r2 h
  cases r1 using Rd.casesStr;cases r2 using Rd.casesStr
  refine P.in_str ?_
  have e:=StrLaws.found_one ⟨xs.toArray⟩ c
  have e':(!(Builtin.Str.occurrences ⟨xs.toArray⟩ ⟨[c].toArray⟩ 0 (⟨xs.toArray⟩:Str).length 1).isEmpty) = decide (c ∈ xs):=by simpa using e
  rw [e']
  exact h _ g _ (at'.refl _) (.raw _)
theorem Op2.notInS {c:Nat} {xs:List Nat}:Op2 S k (compareOp .NotIn) (.str [c]) (.str xs) (.bool (!decide (c ∈ xs))):=by
  intro A g s v₁ v₂ Q E at' r1 r2 h
  cases r1 using Rd.casesStr;cases r2 using Rd.casesStr
  refine P.notIn_str ?_
  have e:=StrLaws.found_one ⟨xs.toArray⟩ c
  have e':(!(Builtin.Str.occurrences ⟨xs.toArray⟩ ⟨[c].toArray⟩ 0 (⟨xs.toArray⟩:Str).length 1).isEmpty) = decide (c ∈ xs):=by simpa using e
  rw [e']
  exact h _ g _ (at'.refl _) (.raw _)
noncomputable def solid:Value→Bool
  | .none=>true
  | .bool _=>true
  | .ref _=>true
  | _=>false
theorem Op2.isNotSelf {v:Value} (hv:solid v = true):Op2 S k (compareOp .IsNot) (.raw v) (.raw v) (.bool false):=by
  intro A g s v₁ v₂ Q E at' r1 r2 h
  cases r1 using Rd.casesRaw;cases r2 using Rd.casesRaw
  have fin:=h _ g _ (at'.refl _) (.raw _)
  cases v <;> first | (cases hv;done) | exact wpAny_isNot_self rfl fin | exact wpAny_isNot_ref_self fin
theorem Op2.isNotOtherS {v:Value} {xs:List Nat} (hv:solid v = true):Op2 S k (compareOp .IsNot) (.str xs) (.raw v) (.bool true):=by
  intro A g s v₁ v₂ Q E at' r1 r2 h
  cases r1 using Rd.casesStr;cases r2 using Rd.casesRaw
  have fin:=h _ g _ (at'.refl _) (.raw _)
  cases v <;> first | (cases hv;done) | exact wpAny_isNot_other rfl (by simp) fin
theorem Op2.isNotOtherI {v:Value} {n:Int} (hv:solid v = true):Op2 S k (compareOp .IsNot) (.int n) (.raw v) (.bool true):=by
  intro A g s v₁ v₂ Q E at' r1 r2 h
  cases r1 using Rd.casesInt;cases r2 using Rd.casesRaw
  have fin:=h _ g _ (at'.refl _) (.raw _)
  cases v <;> first | (cases hv;done) | exact wpAny_isNot_other rfl (by simp) fin
theorem replC_none (c:Nat) (y:List Nat):∀ (xs:List Nat) (o:Nat),cutsC c o xs = []→replC c y xs = xs
  | [],_,_=>rfl
  | x :: xs,o,h=>by
    by_cases hx:x = c
    · simp [cutsC,hx] at h
    · simp only [cutsC,hx,if_false] at h
      have:=replC_none c y xs _ h
      simp only [replC,List.flatMap_cons,hx,if_false] at this ⊢
      simp [this]
theorem cutsC_len (c:Nat):∀ (xs:List Nat) (o:Nat),(cutsC c o xs).length≤xs.length
  | [],_=>by simp [cutsC]
  | x :: xs,o=>by
    have:=cutsC_len c xs (o + 1)
    unfold cutsC;split <;> simp <;> lia
theorem replC_len (c:Nat) (y:List Nat):∀ xs:List Nat,(replC c y xs).length≤xs.length * (y.length + 1)
  | []=>by simp [replC]
  | x :: xs=>by
    have:=replC_len c y xs
    have e:replC c y (x :: xs) = (if x = c then y else [x]) ++ replC c y xs:=rfl
    rw [e,List.length_append,List.length_cons,Nat.add_mul]
    split <;> (try simp only [List.length_cons,List.length_nil]) <;> lia
theorem wp_replace {A:Around} {E:Value→Shared→Prop} {s:Shared} {Q:Value→Shared→Prop} {xs y:List Nat} {c:Nat} {c1 y1:Str} {t u w:Tok} (hc1:Cs c1 [c]) (hy1:Cs y1 y) (hne:(c1 == y1) = false) (hz:xs.length * (y.length + 1)≤sizeLine) (hu:u ≠ 0) (hw:w ≠ 0) (huw:u ≠ w)
    (h:∀ t' tk,Q (.str ⟨(replC c y xs).toArray⟩ t') { s with toks:=tk }):wpAny S.M A (call (.builtin "str.replace") [.str ⟨xs.toArray⟩ t,.str c1 u,.str y1 w]) Q E s:=by
  have ec:c1 = ⟨#[c]⟩:=by
    obtain ⟨a⟩:=c1;unfold Cs at hc1
    have:a = #[c]:=Array.toList_inj.mp (by simpa using hc1)
    rw [this]
  have ey:y1 = ⟨y.toArray⟩:=by
    obtain ⟨a⟩:=y1;unfold Cs at hy1
    have:a = y.toArray:=Array.toList_inj.mp (by simpa using hy1)
    rw [this]
  subst ec ey
  have hl:(⟨xs.toArray⟩:Str).length = xs.length:=by simp [Str.length]
  have hocc:Builtin.Str.occurrences ⟨xs.toArray⟩ ⟨#[c]⟩ 0 (⟨xs.toArray⟩:Str).length ((⟨xs.toArray⟩:Str).length + 1) = cutsC c 0 xs:=by rw [hl];exact occ_all xs c (xs.length + 1) (by lia)
  have hcl:=cutsC_len c xs 0
  have h1:((⟨#[c]⟩:Str).length == 0) = false:=by simp [Str.length]
  have hmul:xs.length + xs.length * y.length = xs.length * (y.length + 1):=by rw [Nat.mul_add,Nat.mul_one];lia
  refine call_gives PySem.F.slot_str_replace (typeIs_str _ _ _) PySem.F.entry_str_replace (PySem.F.args_str_replace_3 _ _ _) (gives_str_replace _ _ _ t u w fun _=>⟨by simp [hu,hw],by simp [huw],by simpa using hne,?_⟩) ?_
  · rw [hocc,hl]
    have:(cutsC c 0 xs).length * y.length≤xs.length * y.length:=Nat.mul_le_mul_right _ hcl
    simp [Builtin.Str.tooLong,Str.length]
    lia
  · rw [hocc,h1,Bool.false_and,Bool.or_false]
    cases hn:(cutsC c 0 xs).isEmpty
    · rw [if_neg (by simp)]
      have hp:Builtin.Str.partsBetween ⟨xs.toArray⟩ (cutsC c 0 xs) (⟨#[c]⟩:Str).length = (splitC c xs).map fun p=>⟨p.toArray⟩:=by
        have:=parts_split c xs (xs.length + 1) (by lia)
        rw [occ_all xs c (xs.length + 1) (by lia)] at this
        exact this
      rw [hp,glued_eq,join_split]
      have:=replC_len c y xs
      exact ⟨by show (replC c y xs).toArray.size≤_;simp;lia,h _ _⟩
    · rw [if_pos rfl]
      have:=h t s.toks
      rw [replC_none c y xs 0 (by simpa using hn)] at this
      exact this
theorem EV.replaceC {o:Expr} {apos p1 p2:Pos} {k1 k2:Nat} {c1 y1:Str} {xs y:List Nat} {c:Nat} (h1:EV S k f Γ o (.str xs)) (hc1:Cs c1 [c]) (hy1:Cs y1 y) (hne:(c1 == y1) = false) (hz:xs.length * (y.length + 1)≤sizeLine)
    (hbase:∀ env,attributeBase o "replace" env (eval o env) = eval o env) (hline:(apos.endLine == pos.line) = true) :
    EV S k f Γ (.Call (.Attribute o "replace" apos) [.Constant (.str c1) k1 p1,.Constant (.str y1) k2 p2] [] pos) (.str (replC c y xs)):=by
  intro A g W env s Q E R st hQ
  refine wpAny_Call_method (T:="str") (id:="str.replace") (hbase env) (by rfl) hline PySem.F.plainAttrs_str PySem.F.slot_str_replace PySem.F.type_str_replace ?_
  refine h1 A g W env s _ E R st fun ov g1 s1 t1 r1=>?_
  cases r1 using Rd.casesStr
  rename_i t hs0
  refine ⟨typeIs_str _ _ _,nofun,?_⟩
  refine callWith_of (P:=fun h=>S.K.In h) (by rfl) (Callee.builtin (S:=S)) ?_
  refine evalArgs_any (by rfl) ?_
  show wpAny S.M A (spliced [(false,eval (.Constant (.str c1) k1 p1) env),(false,eval (.Constant (.str y1) k2 p2) env)]) _ _ _
  refine spliced_cons (Constant_str (spliced_cons (Constant_str (spliced_nil ?_))))
  have hpos:=t1.now.pos
  refine ⟨t1.base.kin.keeps t1.keep,?_⟩
  refine wpAny_grown (wp_replace hc1 hy1 hne hz (Nat.ne_of_gt hpos) (Nat.succ_ne_zero _) (Nat.ne_of_lt (Nat.lt_succ_self _)) fun t' tk G=>?_)
  have a1:=t1.at R
  refine hQ _ g1 _ (t1.then (a1.tick _ (t:=tk) ?_)) (.str _ t' (Nat.le_trans (replC_len c y xs) hz))
  have:=G.toks
  simp only at this
  lia
theorem EV.fstr3 {a b:Str} {as bs xs:List Nat} {k1 k2:Nat} {p1 p2 p3:Pos} (ha:Cs a as) (hb:Cs b bs) (h1:EV S k f Γ e (.str xs)) (hz:as.length + xs.length + bs.length≤sizeLine) :
    EV S k f Γ (.JoinedStr [.Constant (.str a) k1 p1,.FormattedValue e (-1) none p2,.Constant (.str b) k2 p3] pos) (.str (as ++ xs ++ bs)):=by
  intro A g W env s Q E R st hQ
  have ea:a = ⟨as.toArray⟩:=by
    obtain ⟨z⟩:=a;unfold Cs at ha
    have:z = as.toArray:=Array.toList_inj.mp (by simpa using ha)
    rw [this]
  have eb:b = ⟨bs.toArray⟩:=by
    obtain ⟨z⟩:=b;unfold Cs at hb
    have:z = bs.toArray:=Array.toList_inj.mp (by simpa using hb)
    rw [this]
  subst ea eb
  refine JoinedStr_many (joinParts_cons (Constant_str ?_))
  have e1:(Str.empty:Str) ++ ⟨as.toArray⟩ = ⟨as.toArray⟩:=strApp [] as
  show (Str.empty ++ ⟨as.toArray⟩:Str).length≤sizeLine∧wpAny S.M A (joinParts (Str.empty ++ ⟨as.toArray⟩) _) Q E _
  rw [e1]
  refine ⟨by simp [Str.length];lia,joinParts_cons ?_⟩
  have st1:St S f Γ g W env { s with toks:=s.toks + 1 }:=st.move ((st.at R).tick _ (Nat.le_succ _))
  refine FormattedValue_plain (h1 A g W env _ _ E R st1 fun v g1 s1 t1 r1=>?_)
  cases r1 using Rd.casesStr
  rename_i t hs0
  refine wpAny_grown (formatField_str (fun t' tk G=>?_) (by simp [Str.length];lia))
  show ((⟨as.toArray⟩:Str) ++ ⟨xs.toArray⟩:Str).length≤sizeLine∧wpAny S.M A (joinParts (⟨as.toArray⟩ ++ ⟨xs.toArray⟩) _) Q E _
  rw [strApp]
  refine ⟨by simp [Str.length];lia,joinParts_cons (Constant_str ?_)⟩
  show ((⟨(as ++ xs).toArray⟩:Str) ++ ⟨bs.toArray⟩:Str).length≤sizeLine∧wpAny S.M A (joinParts (⟨(as ++ xs).toArray⟩ ++ ⟨bs.toArray⟩) _) Q E _
  rw [strApp]
  refine ⟨by simp [Str.length];lia,joinParts_nil ?_ (by simp [Str.length];lia)⟩
  have a1:=t1.at R
  have T:Tr S (Nw s) g s g1 s1:=((st.at R).tick _ (t:=s.toks + 1) (Nat.le_succ _)).then t1
  refine hQ _ g1 _ (T.then (a1.tick _ (t:=tk + 1 + 1) ?_)) (.str _ _ (by simp;lia))
  have:=G.toks
  simp only at this
  lia
end
end
section
open PySem PySem.W PySem.Calls PyProof.Rows
theorem wp_forIn1 {α β γ:Type} {M:Model} {A:Around} {c:α} {init:β} {body:α→β→Sem (ForInStep β)} {k:β→Sem γ} {Q:γ→Shared→Prop} {E:Value→Shared→Prop} {s:Shared} (h:wpAny M A (body c init) (fun r s'=>wpAny M A (k (match r with | .done b=>b | .yield b=>b)) Q E s') E s) :
    wpAny M A (forIn #[c] init body >>= k) Q E s:=by
  rw [← Array.forIn_toList]
  show wpAny _ _ (forIn [c] _ _ >>= _) _ _ _
  rw [List.forIn_cons]
  exact wpAny_bind (wpAny_bind (wpAny_mono h (fun r s' h=>by cases r <;> exact wpAny_pure h) fun _ _ h=>h))
section
variable {prog:Program} {w:World} {A:Around} {E:Value→Shared→Prop} {s:Shared} {d:Addr} {f:Int→Option Value}
theorem tl_hit {c:Nat} {y:Str} {u:Tok} {Q:Builtin.Str.Mapped→Shared→Prop} (hm:s.heap.MapOf (intKind prog w) d f) (hf:f c = some (.str y u)) (h:Q (.text y) { s with toks:=s.toks + 1 + 1 }):wpAny (model prog w) A (Builtin.Str.tableLookup (.ref d) c) Q E s:=by
  unfold Builtin.Str.tableLookup
  refine wpAny_bind (wpAny_attempt (wpAny_bind (wpAny_mkInt ?_)))
  refine wpAny_getItem_of (knd:=intKind prog w) (f:=f) (k:=(c:Int)) (by simp [intKind,Value.isInt]) hm hf ?_
  dsimp only
  refine wpAny_bind (wpAny_of_eq (a:=none) rfl ?_)
  refine wpAny_bind (wpAny_of_eq (a:=some y) rfl ?_)
  exact wpAny_pure h
theorem tl_miss {c:Nat} {Q:Builtin.Str.Mapped→Shared→Prop} (hh:A.handled = none) (hd:(d == sysModules) = false) (hm:s.heap.MapOf (intKind prog w) d f) (hf:f c = none) (h:∀ h' tk,(∀ b o,s.heap.get? b = some o→h'.get? b = some o)→Q .keep { s with heap:=h',toks:=tk }):wpAny (model prog w) A (Builtin.Str.tableLookup (.ref d) c) Q E s:=by
  unfold Builtin.Str.tableLookup
  refine wpAny_bind (wpAny_attempt (wpAny_bind (wpAny_mkInt ?_)))
  refine wpAny_getItem_missing_of (knd:=intKind prog w) (f:=f) (k:=(c:Int)) (by simp [intKind,Value.isInt]) hd hh hm hf fun h' e x=>?_
  dsimp only
  refine e2_3 (x.there) (fun ob t e1 e2 _=>?_)
  refine wpAny_bind (wpAny_isInstance (T:="KeyError") (b:=true) ⟨ob,e1,e2⟩ (by rw [isSubtype_type];kernel_rfl) ?_)
  rw [if_pos rfl]
  exact wpAny_bind (wpAny_rule (wpAny_pure (h h' _ x.keeps)))
theorem translate1 {c:Nat} {t:Tok} {y:List Nat} {m:Builtin.Str.Mapped} {R:Shared→Prop} {Q:Value→Shared→Prop} (hm:(m = .text ⟨y.toArray⟩∧y.length = 2∧∀ s Q',R s→(∀ s',R s'→Q' m s')→wpAny (model prog w) A.in1 (Builtin.Str.tableLookup (.ref d) c) Q' E s) ∨ m = .keep∧y = [c])
    (tl:∀ Q',(∀ s',R s'→Q' m s')→wpAny (model prog w) A.in1 (Builtin.Str.tableLookup (.ref d) c) Q' E s) (h:∀ t' s',R s'→Q (.str ⟨y.toArray⟩ t') { s' with toks:=s'.toks + 1 }) :
    wpAny (model prog w) A (call (.builtin "str.translate") [.str ⟨#[c]⟩ t,.ref d]) Q E s:=by
  refine wpAny_call_entry PySem.F.slot_str_translate (typeIs_str _ _ _) PySem.F.entry_str_translate ?_ (PySem.F.args_str_translate_2 _ _)
  unfold Builtin.«str.translate»
  refine wpAny_bind (wpAny_of_eq (a:=(.str ⟨#[c]⟩ t,⟨#[c]⟩,.ref d)) (by first | rfl | kernel_rfl) ?_)
  refine wp_ifF (by simp [Str.length]) (wp_forIn1 (wp_ifF (show ¬ Builtin.Str.tooLong 0 = true by decide) ?_))
  have yl:y.length = 1 ∨ y.length = 2:=hm.elim (fun h=>.inr h.2.1) fun h=>.inl (by rw [h.2];rfl)
  have tail:∀ (n:Nat) (s':Shared),R s'→n≤2 →
      wpAny (model prog w) A.in1 (if Builtin.Str.tooLong n = true then (do unsupported "str.translate:memory";let r ← mkStr ⟨[(⟨y.toArray⟩:Str)].reverse.foldl (fun acc p=>acc ++ p.cps) #[]⟩;ret r) else (do let r ← mkStr ⟨[(⟨y.toArray⟩:Str)].reverse.foldl (fun acc p=>acc ++ p.cps) #[]⟩;ret r)) (fun fin s'=>∃ v,fin = PySem.Fin.done (.ret v)∧Q v s') E s':=by
    intro n s' hs hn
    have e:([(⟨y.toArray⟩:Str)].reverse.foldl (fun acc p=>acc ++ p.cps) #[]) = y.toArray:=by simp
    rw [e]
    refine wp_ifF (fun q=>?_) (wpAny_bind (wpAny_mkStr (wpAny_pure ⟨_,rfl,h _ _ hs⟩) (by simp [Str.length];rcases yl with e | e <;> rw [e] <;> decide)))
    rcases (by omega:n = 0 ∨ n = 1 ∨ n = 2) with rfl | rfl | rfl <;> exact absurd q (by decide)
  by_cases hc:(#[c].all fun x=>decide (x < 128)) = true
  · refine wp_ifT hc ?_
    refine wpAny_bind (tl _ fun s' hs=>?_)
    rcases hm with ⟨rfl,hl,tl2⟩ | ⟨rfl,rfl⟩
    · have e2:(Str.length ⟨y.toArray⟩ == 1) = false:=by simp [Str.length,hl]
      simp only [e2,Bool.false_and,Bool.false_eq_true,if_false]
      refine wpAny_bind (wpAny_pure (wpAny_bind (wpAny_rule (wpAny_bind (tl2 _ _ hs fun s' hs=>?_)))))
      exact wpAny_pure (tail _ _ hs (by show 0 + y.length≤2;omega))
    · exact wpAny_bind (wpAny_pure (wpAny_pure (tail _ _ hs (show 0 + 1≤2 by decide))))
  · refine wp_ifF hc (wp_ifF Bool.false_ne_true ?_)
    refine wpAny_bind (tl _ fun s' hs=>?_)
    rcases hm with ⟨rfl,hl,tl2⟩ | ⟨rfl,rfl⟩
    · exact wpAny_pure (tail _ _ hs (by show 0 + y.length≤2;omega))
    · exact wpAny_pure (tail _ _ hs (show 0 + 1≤2 by decide))
theorem translate1_hit {c:Nat} {y:List Nat} {t u:Tok} {Q:Value→Shared→Prop} (hm:s.heap.MapOf (intKind prog w) d f) (hf:f c = some (.str ⟨y.toArray⟩ u)) (hl:y.length = 2) (h:∀ t' tk,Q (.str ⟨y.toArray⟩ t') { s with toks:=tk }) :
    wpAny (model prog w) A (call (.builtin "str.translate") [.str ⟨#[c]⟩ t,.ref d]) Q E s :=
  translate1 (R:=fun s'=>∃ tk,s' = { s with toks:=tk }) (m:=.text ⟨y.toArray⟩) (.inl ⟨rfl,hl,fun s₁ Q' e k=>by
    refine e1_1 e fun tk e=>?_;subst e;exact tl_hit hm hf (k _ ⟨_,rfl⟩)⟩) (fun Q' k=>tl_hit hm hf (k _ ⟨_,rfl⟩)) fun t' s' e=>e1_1 e fun tk e=>by subst e;exact h t' _
theorem translate1_miss {c:Nat} {t:Tok} {Q:Value→Shared→Prop} (hh:A.handled = none) (hd:(d == sysModules) = false) (hm:s.heap.MapOf (intKind prog w) d f) (hf:f c = none) (h:∀ h' t' tk,(∀ b o,s.heap.get? b = some o→h'.get? b = some o)→Q (.str ⟨#[c]⟩ t') { s with heap:=h',toks:=tk }) :
    wpAny (model prog w) A (call (.builtin "str.translate") [.str ⟨#[c]⟩ t,.ref d]) Q E s :=
  translate1 (R:=fun s'=>∃ h' tk,(∀ b o,s.heap.get? b = some o→h'.get? b = some o)∧s' = { s with heap:=h',toks:=tk }) (m:=.keep) (y:=[c]) (.inr ⟨rfl,rfl⟩) (fun Q' k=>tl_miss hh hd hm hf fun h' tk hk=>k _ ⟨h',tk,hk,rfl⟩) fun t' s' e=>e2_2 e fun h' tk hk e=>by subst e;exact h h' t' _ hk
end
inductive EscAll:List DictEntry→List Nat→Prop where
  | nil:EscAll [] []
  | cons {h:Int} {c:Nat} {t u:Tok} {x:Str} {l:List DictEntry} {cs:List Nat}:x = ⟨#[92,c]⟩→h = hashInt c→EscAll l cs→EscAll (⟨h,.int c t,.str x u⟩ :: l) (c :: cs)
theorem EscAll.find {l:List DictEntry} {cs:List Nat} (h:EscAll l cs) (c:Nat):(c ∈ cs∧∃ u,(l.find? fun e=>Value.isInt c e.key).map (·.val) = some (.str ⟨([92,c]:List Nat).toArray⟩ u)) ∨ (c ∉ cs∧(l.find? fun e=>Value.isInt c e.key).map (·.val) = none):=by
  induction h with
  | nil=>exact .inr ⟨by simp,rfl⟩
  | @cons hh c' t u x l cs e _ _ ih =>
    by_cases hc:c = c'
    · subst hc
      subst e
      exact .inl ⟨by simp,u,by simp [Value.isInt]⟩
    · have hb:Value.isInt (c:Int) (.int (c':Int) t) = false:=by simp [Value.isInt];lia
      rw [List.find?_cons]
      simp only [hb]
      rcases ih with ⟨a,b⟩ | ⟨a,b⟩
      · exact .inl ⟨.tail _ a,b⟩
      · exact .inr ⟨by simp [hc,a],b⟩
theorem EscAll.keys {prog:Program} {w:World} {l:List DictEntry} {cs:List Nat} (h:EscAll l cs):∀ e ∈ l,∃ k,(intKind prog w).is k e.key = true∧e.hash = (intKind prog w).hash k:=by
  induction h with
  | nil=>intro e he;cases he
  | @cons _ c' _ _ _ _ _ _ hh _ ih =>
    intro e he
    rcases List.mem_cons.mp he with rfl | he
    · exact ⟨(c':Int),by simp [intKind,Value.isInt],hh⟩
    · exact ih e he
noncomputable def escC (cs:List Nat) (c:Nat):List Nat:=if c ∈ cs then [92,c] else [c]
theorem Ops.translate {S:Sig} [Free S] {k:Nat} {d:Addr} {es:List DictEntry} {n:Nat} {cs:List Nat} (hK:S.K.lookup d = some { cls:=.type "dict",data:=.dict es.toArray n }) (he:EscAll es cs) (hd:(d == sysModules) = false) {c:Nat} :
    Ops S k (fun vs=>call (.builtin "str.translate") vs) [.str [c],.raw (.ref d)] (.str (escC cs c)):=by
  intro A g s vs Q E at' rs h
  cases rs using Rds.casesCons with
  | cons r1 r2 =>
    cases r2 using Rds.casesCons with
    | cons r2 r3 =>
      cases r3 using Rds.casesNil;cases r2 using Rd.casesRaw
      cases r1 using Rd.casesStr with
      | str t hs0 =>
      have hz:=sizeLine_eq
      have hg:s.heap.get? d = some { cls:=.type "dict",data:=.dict es.toArray n }:=at'.keep _ _ (at'.base.kin _ _ hK)
      have hm:s.heap.MapOf (intKind S.prog S.w) d (findBy (intKind S.prog S.w).is es.toArray):=⟨_,_,n,hg,⟨rfl,rfl,rfl⟩,rfl,fun e h=>he.keys e (by simpa using h),fun _=>rfl⟩
      have hf:findBy (intKind S.prog S.w).is es.toArray (c:Int) = (es.find? fun e=>Value.isInt c e.key).map (·.val):=by simp [findBy,intKind]
      rcases he.find c with ⟨hin,u,hu⟩ | ⟨hin,hu⟩
      · refine wpAny_grown (translate1_hit (y:=[92,c]) hm (hf.trans hu) rfl fun t' tk G=>?_)
        refine h _ g _ (at'.tick _ G.toks) ?_
        unfold escC;rw [if_pos hin]
        exact .str _ t' (by show 2≤sizeLine;lia)
      · refine wpAny_grown (translate1_miss (at'.room.handled Free.free) hd hm (hf.trans hu) fun h' t' tk hk G=>?_)
        refine e1_2 (Tr.grow (s':={ s with heap:=h',toks:=tk }) (fun _=>False) at'.keep at'.base at'.tabs hk G.heap rfl rfl G.toks) (fun g' t _=>?_)
        refine h _ g' _ t ?_
        unfold escC;rw [if_neg hin]
        exact .str [c] t' (by show 1≤sizeLine;lia)
theorem EX.assign2N {S:Sig} [Free S] {k:Nat} {f:Fi} {Γ:Ctxt} {e₁ e₂:Expr} {d₁ d₂:D} {x y:Str} {i j:Nat} {px py tp vp p':Pos} {kt kv:Nat} (nx:Nm f x i .local) (ny:Nm f y j .local) (hv:EV S k f Γ (.Tuple [e₁,e₂] kv vp) (.tup [d₁,d₂]))
    (hl:(py.line == px.line) = true) (hne:(y == x) = false) (hs:([e₁,e₂].any fun | .Starred ..=>true | _=>false) = false) (h1:[e₁,e₂].all (foldedForSure 8) = false) (h2:[e₁,e₂].all (constantsAlone 8) = false)
    (hsw:∀ env,swapsWithSole [.Tuple [.Name x px,.Name y py] kt tp] (.Tuple [e₁,e₂] kv vp) p'.line env = pure false) :
    EX S k f Γ (.Assign [.Tuple [.Name x px,.Name y py] kt tp] (.Tuple [e₁,e₂] kv vp) p') (.next ((Γ.set j (some (.val d₂))).set i (some (.val d₁)))):=EX.assign2 (kx:=0) (ky:=0) nx.hx nx.hk ny.hx ny.hk hv hl hne hs h1 h2 hsw
end
section
open PySem PySem.W PySem.Calls PyProof.Rows
variable {S:Sig} {k:Nat} {f:Fi} {Γ:Ctxt} {res:Res} {sts:List Stmt} {pos:Pos}
noncomputable def looped {σ:Type} (c:σ→Bool) (step:σ→σ):Nat→σ→σ
  | 0,s=>s
  | n + 1,s=>if c s then looped c step n (step s) else s
theorem looped_stop {σ:Type} {c:σ→Bool} {step:σ→σ} {s:σ} (h:c s = false):∀ n,looped c step n s = s
  | 0=>rfl
  | n + 1=>by simp [looped,h]
theorem WL.run {σ τ:Type} {test:Expr} {body:List Stmt} (G:σ→τ→Ctxt) (c:σ→Bool) (step:σ→σ) (I:σ→Prop) (μ:σ→Nat)
    (ht:∀ s t,I s→TV S k f (G s t) test (c s))
    (hb:∀ s t,I s→c s = true→I (step s)∧μ (step s) < μ s∧∃ t',EXs S k f (G s t) body (.next (G (step s) t')) ∨ EXs S k f (G s t) body (.cont (G (step s) t'))) :
    ∀ (n:Nat) (s:σ) (t:τ),μ s≤n→I s→c (looped c step n s) = false∧I (looped c step n s)∧∃ t',WL S k f test body (G s t) (.next (G (looped c step n s) t')):=by
  intro n
  induction n with
  | zero =>
    intro s t hn hI
    have h0:c s = false:=by
      cases hc:c s
      · rfl
      · have:=(hb s t hI hc).2.1;lia
    exact ⟨h0,hI,t,.stop (h0 ▸ ht s t hI)⟩
  | succ n ih =>
    intro s t hn hI
    cases hc:c s
    · rw [looped_stop hc]
      exact ⟨hc,hI,t,.stop (hc ▸ ht s t hI)⟩
    · obtain ⟨h1,h2,t',h3⟩:=hb s t hI hc
      obtain ⟨h4,h5,t'',h6⟩:=ih (step s) t' (by lia) h1
      have h7:looped c step (n + 1) s = looped c step n (step s):=by simp [looped,hc]
      rw [h7]
      refine ⟨h4,h5,t'',?_⟩
      rcases h3 with h3 | h3
      · exact .next (hc ▸ ht s t hI) h3 h6
      · exact .cont (hc ▸ ht s t hI) h3 h6
theorem EXs.whileRun {σ τ:Type} {test:Expr} {body:List Stmt} (G:σ→τ→Ctxt) (c:σ→Bool) (step:σ→σ) (I:σ→Prop) (μ:σ→Nat) (n:Nat) (s:σ) (t:τ) (hΓ:Γ = G s t) (hn:μ s≤n) (hI:I s)
    (ht:∀ s t,I s→TV S k f (G s t) test (c s))
    (hb:∀ s t,I s→c s = true→I (step s)∧μ (step s) < μ s∧∃ t',EXs S k f (G s t) body (.next (G (step s) t')) ∨ EXs S k f (G s t) body (.cont (G (step s) t')))
    (hr:∀ t',c (looped c step n s) = false→I (looped c step n s)→EXs S k f (G (looped c step n s) t') sts res) :
    EXs S k f Γ (.While test body [] pos :: sts) res:=by
  subst hΓ
  obtain ⟨h1,h2,t',h3⟩:=WL.run G c step I μ ht hb n s t hn hI
  exact .cons (EX.while h3) (hr t' h1 h2)
end
section
open PySem PySem.W PySem.Calls PyProof.Rows
variable {S:Sig} {k:Nat} {f:Fi} {Γ:Ctxt} {res:Res} {sts:List Stmt} {pos:Pos} {tg:Expr}
theorem bool_any {P:Bool→Prop} {p q:Prop} {i:Decidable p} {j:Decidable q} (e:p ↔ q) (h:P (@decide p i)):P (@decide q j):=(decide_eq_decide.mpr e) ▸ h
theorem pick_mem {α:Type} {lo hi:Option Int} {l:List α} {x:α} (h:x ∈ pick lo hi l):x ∈ l:=by
  unfold pick at h;exact List.mem_of_mem_drop (List.mem_of_mem_take h)
end
section
open PySem PySem.W PySem.Calls PyProof.Rows
variable {S:Sig} {k:Nat} {f:Fi} {Γ:Ctxt} {res:Res} {sts:List Stmt} {pos:Pos} {tg:Expr}
end
section
open PySem PySem.W PySem.Calls PyProof.Rows
variable {S:Sig} {k:Nat} {f fc:Fi} {Γ:Ctxt} {res:Res} {sts:List Stmt} {pos:Pos} {tg elt:Expr} {ifs:List Expr}
theorem CL.filter {α τ:Type} (it out:α→D) (keep:α→Bool) (G:τ→Ctxt) :
    ∀ (as:List α) (t:τ),(∀ a ∈ as,∀ t,∃ t',AS S k fc (G t) tg (it a) (G t')∧Ts S k fc (G t') ifs (keep a)∧(keep a = true→EV S k fc (G t') elt (out a))) →
      CL S k fc tg elt ifs (G t) (as.map it) ((as.filter keep).map out)
  | [],t,_=>.nil
  | a :: as,t,h=>by
    refine e1_3 (h a (List.mem_cons_self ..) t) (fun t' h1 h2 h3=>?_)
    have ih:=CL.filter it out keep G as t' fun b hb=>h b (List.mem_cons_of_mem _ hb)
    cases hk:keep a
    · rw [List.filter_cons_of_neg (by simp [hk])]
      exact .skip h1 (hk ▸ h2) ih
    · rw [List.filter_cons_of_pos hk]
      exact .take h1 (hk ▸ h2) (h3 hk) ih
theorem Nm.of {vars:List Str} {kinds:List NameKind} {x:Str} {i:Nat} {kd:NameKind} (h1:fc.vars = vars) (h2:fc.kinds = kinds) (a:vars[i]? = some x) (b:kinds[i]? = some kd)
    (d1:(x == ("__debug__":Str)) = false:=by decide) (d2:(x == ("__classdict__":Str)) = false:=by decide):Nm fc x i kd:=⟨by rw [h1];exact a,by rw [h2];exact b,d1,d2⟩
theorem Raw.g {sc:Scope} {x:Str} {v:Value} (h:fc.scope = sc) (hk:sc.names.lookup x = some .globalImplicit) (hn:nsIn S.K mainGlobals x = some (some v)) (hd:(x == ("__debug__":Str)) = false:=by decide):Raw S fc x v :=
  fun k Γ pos=>EV.global (by rw [h];exact hk) hn hd
end
section
open PySem PySem.W PySem.Calls PyProof.Rows
noncomputable def rcode:Array Nat:=#[14,14,4,1,1,9,0,64,0,1342177280,0,0,0,0,0,17,0,13,11,9,0,64,0,1342177280,0,0,0,0,0,17,1,1]
noncomputable def sig (c:Nat):Bool:=c == 38 || c == 124 || c == 126
theorem sig_bit:∀ c:Fin 256,(rcode.getD (5 + (1 + c.val / 32)) 0).testBit (c.val % 32) = sig c.val:=by decide
theorem inSet_r (c:Nat) (seen:Sre.Seen):Sre.inSet rcode c 32 5 true seen = .ok (sig c,if sig c then seen.add 9 else (seen.add 9).add 0):=by
  by_cases h:c < 256
  · have hb:=sig_bit ⟨c,h⟩
    simp only at hb
    show (if (decide (c < 256) && (rcode.getD (5 + (1 + c / 32)) 0).testBit (c % 32)) = true then Except.ok (true,seen.add 9) else .ok (!true,(seen.add 9).add 0)) = _
    rw [hb,decide_eq_true h,Bool.true_and]
    cases sig c <;> rfl
  · have hs:sig c = false:=by unfold sig;simp;lia
    show (if (decide (c < 256) && (rcode.getD (5 + (1 + c / 32)) 0).testBit (c % 32)) = true then Except.ok (true,seen.add 9) else .ok (!true,(seen.add 9).add 0)) = _
    rw [hs,decide_eq_false h,Bool.false_and];rfl
theorem admitted_none {m:Sre.M} (hm:m.code = rcode):∀ (fuel s:Nat) (seen:Sre.Seen),(∀ i,s≤i→i < m.lim→sig (m.text.getD i 0) = false)→∃ seen',Sre.M.admitted m fuel s seen = .ok (none,seen')
  | 0,s,seen,_=>⟨seen,rfl⟩
  | fuel + 1,s,seen,h=>by
    unfold Sre.M.admitted
    by_cases hs:s ≥ m.lim
    · rw [if_pos hs];exact ⟨seen,rfl⟩
    · rw [if_neg hs,hm]
      have e:=inSet_r (m.text.getD s 0) seen
      have e2:rcode.size = 32:=rfl
      rw [e2,e,h s (Nat.le_refl _) (by lia)]
      exact admitted_none hm fuel (s + 1) _ fun i h1 h2=>h i (by lia) h2
noncomputable def Dead (m:Sre.M):Prop:=m.outcome = none∧m.answer = some false∧m.frames = []
theorem attempt_none {m:Sre.M} {s:Nat} {first:Bool} (hm:m.code = rcode) (ho:m.outcome = none) (hf:m.frames = []) (h:∀ i,s≤i→i < m.lim→sig (m.text.getD i 0) = false):Dead (m.attemptFrom s first):=by
  have hq:m.hasFirstSet = true:=by unfold Sre.M.hasFirstSet;rw [hm];rfl
  obtain ⟨seen',h2⟩:=admitted_none hm (m.lim + 1 - s) s m.seen h
  unfold Sre.M.attemptFrom
  rw [hq,h2]
  exact ⟨ho,rfl,hf⟩
theorem search_none {text:Array Nat} {pos lim:Nat} {must:Bool} (h:∀ i,pos≤i→i < lim→sig (text.getD i 0) = false):Dead (Sre.forSearch rcode text 1 pos lim must):=by
  unfold Sre.forSearch
  by_cases c:(decide (pos > lim) || decide (lim - pos < (Sre.header rcode).1)) = true
  · simp only [c,if_true];exact ⟨rfl,rfl,rfl⟩
  · show Dead (if _ then _ else _)
    rw [if_neg c]
    exact attempt_none rfl rfl rfl h
theorem run_failed {m:Sre.M} (h1:m.outcome = none) (h2:m.answer = some false) (h3:m.frames = []):∃ m',m.runFor 4 = m'∧m'.outcome = some .failed:=by
  refine ⟨_,rfl,?_⟩
  have hs:m.step = { m with outcome:=some .failed }:=by
    unfold Sre.M.step
    rw [h1,h2,h3];rfl
  unfold Sre.M.runFor
  rw [h1]
  simp only [Option.isSome_none,Bool.false_eq_true,if_false]
  rw [hs]
  unfold Sre.M.runFor
  rfl
end
section
open PySem PySem.W PySem.Calls PyProof.Rows
variable {S:Sig} {k:Nat} {f:Fi} {Γ:Ctxt} {A:Around} {E:Value→Shared→Prop} {s:Shared}
theorem wp_drive {m:Sre.M} {Q:Sre.M→Shared→Prop} (h:Dead m) (hQ:∀ m':Sre.M,m'.outcome = some .failed→Q m' s):wpAny S.M A (Builtin.Re.reDrive (2 ^ 64) m) Q E s:=by
  refine e1_2 (run_failed h.1 h.2.1 h.2.2) (fun m' h1 h2=>?_)
  have e:(2:Nat) ^ 64 = (2 ^ 64 - 1) + 1:=by decide
  rw [e]
  show wpAny S.M A (if (m.runFor 4).outcome.isSome then pure (m.runFor 4) else _) Q E s
  rw [h1,h2]
  exact wpAny_pure (hQ m' h2)
theorem wp_rerun {m:Sre.M} {Q:Option Sre.M→Shared→Prop} (h:Dead m) (hQ:Q none s):wpAny S.M A (Builtin.Re.reRunToEnd m) Q E s:=by
  unfold Builtin.Re.reRunToEnd
  refine wpAny_bind (wp_drive h fun m' h'=>?_)
  refine wpAny_bind (wpAny_forIn_list _ (fun _ _ s'=>s' = s) _ ?_ ?_ _ _ rfl)
  · rintro x rest b s' rfl
    by_cases c:m'.seen.has x = true
    · simp only [c,if_true]
      exact wpAny_bind (wpAny_rule (wpAny_pure rfl))
    · simp only [c,if_false]
      exact wpAny_pure rfl
  · rintro b s' rfl
    rw [h']
    exact wpAny_pure hQ
end
section
open PySem PySem.W PySem.Calls PyProof.Rows
variable {S:Sig} {k:Nat} {f:Fi} {Γ:Ctxt} {A:Around} {E:Value→Shared→Prop} {s:Shared}
noncomputable def rvals:Array Value:=#[.int 14 0,.int 14 0,.int 4 0,.int 1 0,.int 1 0,.int 9 0,.int 0 0,.int 64 0,.int 0 0,.int 1342177280 0,.int 0 0,.int 0 0,.int 0 0,.int 0 0,.int 0 0,.int 17 0,.int 0 0,.int 13 0,.int 11 0,.int 9 0,.int 0 0,.int 64 0,.int 0 0,.int 1342177280 0,.int 0 0,.int 0 0,.int 0 0,.int 0 0,.int 0 0,.int 17 0,.int 1 0,.int 1 0]
structure RePat (h:Heap) (a b:Addr):Prop where
  pat:∃ o p0 t,h.get? a = some o∧o.data = .fields #[p0,.int 32 t,.int 1 0,.none,.none,.ref b,.int 0 0]
  code:∃ o n,h.get? b = some o∧o.data = .seq rvals n
theorem wp_whole {a b:Addr} {cs:List Nat} {t:Tok} {Q:Builtin.Re.ReTarget→Shared→Prop} (hp:RePat s.heap a b)
    (hQ:Q { pattern:=.ref a,string:=.str ⟨cs.toArray⟩ t,code:=rcode,text:=cs.toArray,kind:=0,groups:=1,pos:=0,lim:=cs.toArray.size } s) :
    wpAny S.M A (Builtin.Re.reWholeTarget (.ref a) (.str ⟨cs.toArray⟩ t)) Q E s:=by
  refine e3_2 (hp.pat) (fun o p0 t0 h1 h2=>?_)
  refine e2_2 (hp.code) (fun o' n h3 h4=>?_)
  unfold Builtin.Re.reWholeTarget
  refine wpAny_bind (wpAny_fieldsOf h1 h2 ?_)
  have e:Builtin.Re.reTextOf (.str ⟨cs.toArray⟩ t) = pure (cs.toArray,0):=rfl
  rw [e]
  refine wpAny_bind (wpAny_pure ?_)
  show wpAny S.M A (do let x ← Builtin.Re.reRawItems (.ref b);pure (Builtin.Re.ReTarget.mk (.ref a) (.str ⟨cs.toArray⟩ t) (x.map (·.toNat)) cs.toArray 0 1 0 cs.toArray.size)) Q E s
  refine wpAny_bind ?_
  unfold Builtin.Re.reRawItems
  refine wpAny_bind (wpAny_seqItems h3 h4 (wpAny_pure (wpAny_pure ?_)))
  have ec:Array.map (fun x:Int=>x.toNat) (Array.map Builtin.Re.reRawOf ((some rvals).getD #[])) = rcode:=by
    apply Array.ext'
    simp only [Array.toList_map,Option.getD_some]
    rfl
  rw [ec]
  exact hQ
end
section
open PySem PySem.W PySem.Calls PyProof.Rows
variable {S:Sig} {k:Nat} {f:Fi} {Γ:Ctxt} {A:Around} {E:Value→Shared→Prop} {s:Shared}
end
section
open PySem PySem.W PySem.Calls PyProof.Rows
theorem plainAttrs_pat:PlainAttrs "re.Pattern" :=
  ⟨⟨"object.__getattribute__",by rw [typeLookup_type,builtinLookup_eq_fast];kernel_rfl,by decide +kernel⟩,by rw [typeLookup_type,builtinLookup_eq_fast];kernel_rfl⟩
theorem slot_pat_sub:Slot "re.Pattern" "sub" "re.Pattern.sub" :=
  .of (owner:="re.Pattern") (n:="sub") (by rw [typeLookup_type,builtinLookup_eq_fast];kernel_rfl) (by decide +kernel) (by decide +kernel) (by decide +kernel)
    (by first | exact .inl (by decide +kernel) | exact .inr (by decide +kernel)) (by rw [isSubtype_type];kernel_rfl)
theorem type_pat_sub:typeOf (.builtin "re.Pattern.sub") = pure (.type "method_descriptor"):=by show builtinType _ = _;rw [builtinType_eq_fast];kernel_rfl
theorem entry_pat_sub:entryFor table "re.Pattern.sub" = some Builtin.«re.Pattern.sub»:=entryFor_of_tree (by kernel_rfl)
theorem entry_pat_loop:entryFor table "re.Pattern.sub.loop" = some Builtin.«re.Pattern.sub.loop»:=entryFor_of_tree (by kernel_rfl)
theorem owner_pat:Manifest.owners.lookup (String.ofList ['n','r','e','t','t','a','P','.','e','r'].reverse) = some Manifest.sig_re_Pattern:=by kernel_rfl
theorem args_pat_sub (a b c:Value):argsOk "re.Pattern.sub" ⟨[a,b,c],[]⟩:=by
  unfold argsOk;rw [signature?_of (id:="re.Pattern.sub") (n:=['b','u','s']) (o:=['n','r','e','t','t','a','P','.','e','r']) (by kernel_rfl) owner_pat];kernel_rfl
theorem look_fn_call:∃ v,typeLookup (.type "function") "__call__" = pure (some v):=⟨.builtin "function.__call__",by rw [typeLookup_type,builtinLookup_eq_fast];kernel_rfl⟩
theorem pat_loop_plain:plainId "re.Pattern.sub.loop" = true:=by decide +kernel
theorem codeAmong_app {pos pos':Pos} {c:Value}:∀ (l:List Value) (_:TriplesOk l),∀ cv,codeAmong pos' (l ++ [rawInt pos.line,rawInt pos.col,c]) = some cv→codeAmong pos' l = some cv ∨ (pos'.line = pos.line∧pos'.col = pos.col∧cv = c):=by
  intro l h
  fun_induction TriplesOk l with
  | case1 =>
    intro cv e
    simp only [List.nil_append,codeAmong,rawInt] at e
    split at e
    · rename_i q
      cases e
      simp at q
      exact .inr ⟨by lia,by lia,rfl⟩
    · cases e
  | case2 a t b u x rest ih =>
    intro cv e
    simp only [List.cons_append,codeAmong] at e ⊢
    split at e
    · rename_i hc;rw [if_pos hc];exact .inl e
    · rename_i hc;rw [if_neg hc];exact ih h cv e
  | case3 l h1 h2=>exact h.elim
theorem Tr.growT {S:Sig} {g:Heap} {s s':Shared} {c P:Addr} {ps:Array Value} {line col:Int} {cv:Value} (k:Keep g s.heap) (B:Base S g) (T:Tabs S g s) (hq:(c,P) ∈ S.tabs) (hP:s.heap.get? P = some (tabObj ps)) {lpos:Pos}
    (old:∀ b o,b ≠ P→s.heap.get? b = some o→s'.heap.get? b = some o) (hP':s'.heap.get? P = some (tabObj (ps ++ #[rawInt lpos.line,rawInt lpos.col,cv])))
    (hrec:∀ p':Pos,p'.line = lpos.line→p'.col = lpos.col→s'.heap.CodeRec cv (S.qualAt p')) (hnew:∀ a,cv = .ref a→s.heap.objs.size≤a)
    (hz:s.heap.objs.size≤s'.heap.objs.size) (hos:s'.os = s.os) (hg:s'.gens = s.gens) (ht:s.toks≤s'.toks) :
    ∃ g',Tr S (Nw s) g s g' s'∧(∀ b o,s'.heap.get? b = some o→s.heap.objs.size≤b→g'.get? b = some o):=by
  have nP:∀ {b o},g.get? b = some o→b ≠ P:=fun {b o} e q=>by rw [q,(B.heads _ hq).2] at e;cases e
  refine e1_4 (world_of s.heap.objs.size (fun _=>True) fun b o e=>old b o (nP e) (k b o e)) fun g' mono keep fr' inN=>?_
  have fr:∀ a o,g'.get? a = some o→g.get? a = some o ∨ s.heap.objs.size≤a:=fun a o e=>(fr' a o e).imp id And.left
  refine ⟨g',?_,fun b o e l=>inN b o e l trivial⟩
  exact {
    mono:=mono
    keep:=keep
    same:=fun a o h nT e=>⟨o,old a o (fun q=>nT (q ▸ List.mem_map_of_mem (f:=(·.2)) hq)) e,.refl o⟩
    fresh:=fun a o e=>fr a o e
    size:=hz
    tabs:=fun q hq' ps' e=>by
      by_cases hb:q.2 = P
      · rw [hb,hP] at e;cases e
        exact ⟨_,by rw [hb];exact hP'⟩
      · exact ⟨#[],by rw [old _ _ hb e,Array.append_empty]⟩
    base:=B.mono mono (T.noneT B fr)
    now:=⟨Nat.lt_of_lt_of_le T.pos ht,fun q hq'=>by
      refine e1_3 (T.all q hq') (fun ps' e1 e2 e3=>?_)
      by_cases hb:q.2 = P
      · rw [hb,hP] at e1;cases e1
        have hl:(ps ++ #[rawInt lpos.line,rawInt lpos.col,cv]).toList = ps.toList ++ [rawInt lpos.line,rawInt lpos.col,cv]:=by simp
        refine ⟨_,by rw [hb];exact hP',by rw [hl];exact TriplesOk_snoc _ _ _ _ e2,fun p' cv' e=>?_⟩
        rw [hl] at e
        rcases codeAmong_app _ e2 _ e with h | ⟨h1,h2,rfl⟩
        · exact (e3 p' cv' h).keeps mono
        · exact e4_3 (hrec p' h1 h2) fun c' oc vs t e1 e2 r=>⟨c',oc,vs,t,e1,inN _ _ e2 (hnew c' e1) trivial,r⟩
      · exact ⟨ps',old _ _ hb e1,e2,fun p' cv' e=>(e3 p' cv' e).keeps mono⟩⟩
    os:=hos
    bare:=fun h=>by rw [hg];exact h
    gens:=by rw [hg];exact Nat.le_refl _
    toks:=ht }
noncomputable abbrev lamO (name qual:Str) (params:Arguments) (body:Expr) (scope:Scope) (pm cv ctv:Value):Obj:={ cls:=.type "function",data:=.func (kla_fn name qual params body scope [] pm cv ctv) }
section
variable {S:Sig} {k:Nat} {f:Fi} {Γ:Ctxt} {pos lpos:Pos}
theorem wp_lambda {params:Arguments} {body:Expr} {scope:Scope} {c P:Addr} (hc:f.code = .ref c) (hq:(c,P) ∈ S.tabs) (hqual:∀ p':Pos,p'.line = lpos.line→p'.col = lpos.col→S.qualAt p' = f.qual ++ "<lambda>")
    (hdef:∀ env,defaultsOf params env = ([],[]):=by intro _;rfl) (hcl:∀ env,closureFor scope env = pure []:=by intro _;rfl)
    {A:Around} {g:Heap} {W:Addr→Prop} {env:Env} {s:Shared} {Q:Value→Shared→Prop} {E:Value→Shared→Prop} (R:Room S k A) (st:St S f Γ g W env s)
    (h:∀ fa cv ctv pm g' s',Tr S (Nw s) g s g' s'→g'.get? fa = some (lamO "<lambda>" (f.qual ++ "<lambda>") params body scope pm cv ctv)→g'.CodeRec cv (f.qual ++ "<lambda>")→Q (.ref fa) s') :
    wpAny S.M A (eval (.Lambda params body scope lpos) env) Q E s:=by
  have T:=st.tabs
  have K:=st.keep
  have B:=st.base
  refine e2_6 (B.bmain) (fun bm ob hbm1 hbm2 hbm3 hbm4 hbm5 hbm6=>?_)
  refine e0_2 (B.heads _ hq) (fun CH gP=>?_)
  refine e1_3 (T.all _ hq) (fun ps hP hok hrec=>?_)
  simp only at hP gP CH
  have hqu:env.qual = f.qual:=st.envIs.qual
  have hbG:bm ≠ mainGlobals:=fun q=>by
    refine e3_3 (B.glob) (fun o es ep e hd _=>?_)
    rw [q,e] at hbm3;cases hbm3;rw [hd] at hbm6;cases hbm6
  have hbP:bm ≠ P:=fun q=>by rw [q,gP] at hbm3;cases hbm3
  have hgP:mainGlobals ≠ P:=fun q=>by
    refine e3_3 (B.glob) (fun o es ep e hd _=>?_)
    rw [q,gP] at e;cases e
  have BA:s.heap.BuiltinsAt S.mg P:=⟨bm,ob,hbm1,hbm2,hbG,hbP,K _ _ hbm3,hbm4,hbm5,hbm6⟩
  refine kla_eval (hdef env) ?_
  rw [hqu]
  refine wpAny_grown ?_
  cases hf:codeAmong lpos ps.toList with
  | some cv =>
    refine kla_makeFunctionHit (mg:=S.mg) (hcl env) st.envIs.globals (B.glob.keeps K) (st.envIs.code.trans hc) (CH.keeps K) hP hok hf BA fun ctv h' tk hk hsz G=>?_
    obtain ⟨g',t,hn,_⟩:=Tr.grow (s':={ s with heap:=h'.push (lamO "<lambda>" (f.qual ++ "<lambda>") params body scope ((S.mg "__name__").getD .none) cv ctv),toks:=tk }) (fun _=>True) K B T (fun b o e=>Heap.get?_push_of_some _ (hk b o e)) (by simp;lia) rfl rfl G.toks
    have hr:=hrec lpos cv hf
    rw [hqual lpos rfl rfl] at hr
    exact h _ cv ctv _ g' _ t (hn _ _ (Heap.get?_push_size _ rfl) hsz trivial) (hr.keeps t.mono)
  | none =>
    refine kla_makeFunction (mg:=S.mg) (hcl env) st.envIs.globals (B.glob.keeps K) (st.envIs.code.trans hc) (CH.keeps K) hP hok hf hgP BA fun c' ctv h' tk hx hge hlt hr htb G=>?_
    obtain ⟨g',t,hn⟩:=Tr.growT (s':={ s with heap:=h'.push (lamO "<lambda>" (f.qual ++ "<lambda>") params body scope ((S.mg "__name__").getD .none) (.ref c') ctv),toks:=tk }) (lpos:=lpos) (cv:=.ref c') (line:=0) (col:=0) K B T hq hP
      (fun b o hb e=>Heap.get?_push_of_some _ (hx b o hb e)) (Heap.get?_push_of_some _ htb) (fun p' h1 h2=>by rw [hqual p' h1 h2];exact hr.keeps fun b o e=>Heap.get?_push_of_some _ e) (fun a e=>by cases e;exact hge) (by simp;lia) rfl rfl G.toks
    refine e4_4 (hr) (fun c2 oc vs tt e1 e2 e3 e4=>?_)
    cases e1
    exact h _ (.ref c') ctv _ g' _ t (hn _ _ (Heap.get?_push_size _ rfl) (by lia)) ⟨c',oc,vs,tt,rfl,hn _ _ (Heap.get?_push_of_some _ e2) hge,e3,e4⟩
end
end
section
open PySem PySem.W PySem.Calls PyProof.Rows
theorem reNamed2 (r s:Value):Builtin.Re.reNamed "re.Pattern.sub" "sub" ["repl","string","count"] 2 [r,s] [] = pure [some r,some s,none]:=rfl
section
variable {S:Sig} {k:Nat} {f:Fi} {Γ:Ctxt} {A:Around} {E:Value→Shared→Prop} {s:Shared}
theorem wp_notHeld {x:Str} {t:Tok} {id:String} {Q:Unit→Shared→Prop} (h:Q () s):wpAny S.M A (Builtin.Re.reNotHeld id (.str x t)) Q E s:=by
  unfold Builtin.Re.reNotHeld
  refine wpAny_bind (wpAny_isInstance (U:="bytearray") (b:=false) (typeIs_str _ _ _) (by rw [isSubtype_type];kernel_rfl) ?_)
  exact wpAny_pure h
structure PatAt (S:Sig) (a b:Addr):Prop where
  pat:∃ o p0 t,S.K.lookup a = some o∧o.cls = .type "re.Pattern"∧o.dict = none∧o.data = .fields #[p0,.int 32 t,.int 1 0,.none,.none,.ref b,.int 0 0]
  code:∃ o n,S.K.lookup b = some o∧o.data = .seq rvals n
end
end
section
open PySem PySem.W PySem.Calls PyProof.Rows
section
variable {S:Sig} {k:Nat} {f:Fi} {Γ:Ctxt} {res:Res} {sts:List Stmt} {pos p' npos:Pos} {x:Str} {i:Nat} {es:List Expr} {ds:List D} {e:Expr}
noncomputable def places (lo hi:Option Int) (st:Int) (n:Nat):List Nat:=sliceRange (sliceBounds lo hi (some st) n).1 (sliceBounds lo hi (some st) n).2.1 (sliceBounds lo hi (some st) n).2.2
noncomputable def pickBy {α:Type} (idxs:List Nat) (xs:List α):List α:=idxs.filterMap (xs[·]?)
theorem Rds.pickBy {g:Heap} {vs:List Value} {ds:List D} (h:Rds g vs ds):∀ idxs:List Nat,Rds g (Mine.pickBy idxs vs) (Mine.pickBy idxs ds)
  | []=>.nil
  | j :: js=>by
    have ih:=h.pickBy js
    unfold Mine.pickBy at ih ⊢
    rw [List.filterMap_cons,List.filterMap_cons]
    cases hd:ds[j]? with
    | none =>
      have:vs[j]? = none:=by
        rw [List.getElem?_eq_none_iff] at hd ⊢
        rw [h.length];exact hd
      rw [this];exact ih
    | some d =>
      refine e1_2 (h.get j hd) (fun v hv hr=>?_)
      rw [hv];exact .cons hr ih
theorem EV.sliceStep {xs:List D} {lo hi:Option Expr} {st:Expr} {i j:Option Int} {c:Int} {p:Pos} (h1:EV S k f Γ e (.list xs)) (h2:PV S k f Γ lo i) (h3:PV S k f Γ hi j) (h4:PV S k f Γ (some st) (some c)) (hc:c ≠ 0) (ht:∀ o r,letTemporaryGo e o r = pure ():=by intro _ _;rfl) :
    EV S k f Γ (.Subscript e (.Slice lo hi (some st) p) pos) (.list (pickBy (places i j c xs.length) xs)):=by
  intro A g W env s Q E R stt hQ
  have part:∀ {p:Option (Int × Tok)} {i:Option Int},p.map Prod.fst = i→IsPart (partValue p) i:=fun {p i} e=>by
    cases p with
    | none=>simp at e;subst e;exact .none
    | some q=>simp at e;subst e;exact .int _ _
  refine wpAny_Subscript_Slice_step (T:="list") list_getitem_lookup (h1 A g W env s _ E R stt fun v g1 s1 t1 r1=>wpAny_Slice (h2.run A g1 W env s1 _ E R (stt.move t1) fun p2 g2 s2 t2 e2=>h3.run A g2 W env s2 _ E R ((stt.move t1).move t2) fun p3 g3 s3 t3 e3 =>
    h4.run A g3 W env s3 _ E R (((stt.move t1).move t2).move t3) fun p4 g4 s4 t4 e4=>?_)) ht
  have a4:=((((stt.move t1).move t2).move t3).move t4).at R
  have T:=((t1.then t2).then t3).then t4
  have r4:=r1.mono (t2.mono.trans (t3.mono.trans t4.mono))
  cases r4 using Rd.casesList with
  | list e hl rs =>
    rename_i a ws n
    have hL:s4.heap.IsList a ws.toArray:=⟨_,t4.keep _ _ e,rfl,n,rfl⟩
    refine ⟨(hL.push _).typeIs,wpAny_getItem_list_slice (hL.push _) (Heap.IsSliceOf.new ..) (part e2) (part e3) (part e4) (by simpa using hc) ?_ (by simpa using hl)⟩
    refine e1_2 (a4.push { cls:=.type "slice",data:=.fields #[partValue p2,partValue p3,partValue p4] } (t:=s4.toks)) (fun g5 t5 _=>?_)
    have hw:slicePick ws.toArray i j (some c) = (pickBy (places i j c xs.length) ws).toArray:=by
      unfold slicePick pickBy places
      simp only [List.size_toArray,rs.length,List.getElem?_toArray]
    rw [hw]
    refine e1_2 ((t5.at R).push (listO (pickBy (places i j c xs.length) ws) 0) (t:=s4.toks) (ht:=Nat.le_refl _)) (fun g6 t6 e6=>?_)
    refine hQ _ g6 _ ((T.then t5).then t6) (.list e6 ?_ ((rs.mono (t5.mono.trans t6.mono)).pickBy _))
    have hsz:=slicePick_size_le ws.toArray i j (some c)
    rw [hw] at hsz
    simp only [List.size_toArray] at hsz
    lia
end
end
section
open PySem PySem.W PySem.Calls PyProof.Rows
section
variable {S:Sig} {k:Nat} {f:Fi} {Γ:Ctxt} {res:Res} {sts body:List Stmt} {pos:Pos} {d:D} {tg iter:Expr}
end
end
section
open PySem PySem.W PySem.Calls PyProof.Rows
section
variable {S:Sig} {k:Nat} {f:Fi} {Γ Γ₁ Γ₂:Ctxt} {res:Res} {sts:List Stmt}
end
end
section
open PySem PySem.W PySem.Calls PyProof.Rows
noncomputable def Tabs0 (S:Sig) (g:Heap) (s:Shared):Prop:=∀ q ∈ S.tabs,∃ ps,s.heap.get? q.2 = some (tabObj ps)∧TriplesOk ps.toList∧∀ pos cv,codeAmong pos ps.toList = some cv→g.CodeRec cv (S.qualAt pos)
noncomputable abbrev tick (s:Shared):Shared:={ s with toks:=s.toks + 1 }
theorem newEnv1 {M:Model} {A:Around} {E:Value→Shared→Prop} {s:Shared} {scope:Scope} {globals:Addr} {x:Str} {v:Value} {qual:Str} {func:Option Addr} {code:Value} {builtins:Addr} {Q:Env→Shared→Prop}
    (hk:scope.kind = .function) (hl:scope.names.lookup x = some .local)
    (hQ:∀ env,env = newEnv scope s.heap.objs.size globals (cellsFrom (s.heap.objs.size + 1) scope.names []) qual func code none builtins →
      ∀ s',InCallC s env.locals (bindL env.kindOf [(x,v)] fun _=>none) env.cells (bindC env.kindOf [(x,v)] fun _=>none) s'→s.toks + 1≤s'.toks→Q env s') :
    wpAny M A (newFunctionEnv scope globals [] [(x,v)] qual func code none builtins) Q E s:=by
  unfold newFunctionEnv
  refine wpAny_bind (show wpAny M A (alloc { cls:=.type "frame",data:=.dict #[] }) _ _ _ from wpAny_alloc ?_)
  refine wpAny_bind (wpAny_layCells _ (fun name kind cells=>by cases hkc:kind == NameKind.cell <;> simp [hkc]) _ _ _ _ ?_)
  have ok:=cellsFrom_ok scope.names (s.heap.push { cls:=.type "frame",data:=.dict #[] }) (s.heap.objs.size + 1) [] ⟨fun _ _ hm=>(nomatch hm),List.Pairwise.nil⟩ (by rw [Heap.size_push];exact Nat.le_refl _)
  rw [Heap.size_push] at ok
  rw [show ({ s with heap:=s.heap.push { cls:=.type "frame",data:=.dict #[] } }:Shared).heap.objs.size = s.heap.objs.size + 1 from Heap.size_push ..]
  have X:InCallC s (newEnv scope s.heap.objs.size globals (cellsFrom (s.heap.objs.size + 1) scope.names []) qual func code none builtins).locals (fun _=>none) (newEnv scope s.heap.objs.size globals (cellsFrom (s.heap.objs.size + 1) scope.names []) qual func code none builtins).cells (fun _=>none) { s with heap:=pushCells (s.heap.push { cls:=.type "frame",data:=.dict #[] }) scope.names } :=
    ⟨⟨⟨_,_,rfl⟩,(Heap.Ns.new s.heap (.type "frame")).keeps (pushCells_keeps _ _),fun b o e=>pushCells_keeps _ _ b o (Heap.get?_push_of_some _ e),Nat.le_refl _⟩,
      fun n c hc=>(ok.empty n c (mem_of_lookup hc)).1,ok.apart,fun n c hm=>(ok.empty n c hm).2⟩
  show wpAny M A (forIn [(x,v)] _ _ >>= _) _ _ _
  rw [List.forIn_cons]
  have hl':(newEnv scope s.heap.objs.size globals (cellsFrom (s.heap.objs.size + 1) scope.names []) qual func code none builtins).kindOf x = some .local:=hl
  refine wpAny_bind (wpAny_bind (wpAny_bind (wpAny_storeName_local hl' X.toInCall.ns (fun h' hn' hs'=>?_) (by show (scope.kind == _ || _) = false;rw [hk];rfl))))
  refine wpAny_pure ?_
  refine wpAny_pure (wpAny_pure (hQ _ rfl _ ?_ (Nat.le_refl _)))
  refine ⟨⟨⟨h',_,rfl⟩,?_,fun b o e=>?_,X.toInCall.fresh⟩,fun k c hc=>?_,X.apart,X.above⟩
  · unfold bindL bindL;rw [if_pos hl'];exact hn'
  · exact hs'.extBut b o (Nat.ne_of_lt (Nat.lt_of_lt_of_le (Heap.lt_size e) X.toInCall.fresh)) (X.toInCall.keep b o e)
  · unfold bindC bindC;rw [if_pos hl'];exact (X.cell k c hc).sameBut hs' (Nat.ne_of_gt (X.above k c (mem_of_lookup hc)))
end
section
open PySem PySem.W PySem.Calls PyProof.Rows
section
variable {S:Sig} {k:Nat} {f:Fi} {Γ:Ctxt} {A:Around} {E:Value→Shared→Prop} {s:Shared}
end
end
section
open PySem PySem.W PySem.Calls PyProof.Rows
section
variable {S:Sig} {k:Nat} {f:Fi} {Γ:Ctxt} {A:Around} {E:Value→Shared→Prop} {s:Shared}
end
end
section
open PySem PySem.W PySem.Calls PyProof.Rows
section
variable {S:Sig} {k:Nat} {f:Fi} {Γ:Ctxt} {e e₂:Expr} {es:List Expr} {d d₂:D} {ds:List D} {pos p':Pos} {x y:Str} {i j:Nat}
end
end
section
open PySem PySem.W PySem.Calls PyProof.Rows
section
variable {S:Sig} {k:Nat} {f:Fi} {Γ:Ctxt} {l m r:Expr} {d₁ d₂ d₃:D} {pos:Pos} {b₁ b₂:Bool}
end
end
section
open PySem PySem.W PySem.Calls PyProof.Rows
section
variable {S:Sig} {k:Nat}
end
end
section
open PySem PySem.W PySem.Calls PyProof.Rows
section
variable {S:Sig} {k:Nat} {f:Fi} {Γ:Ctxt} {res:Res} {sts:List Stmt} {pos p' npos:Pos} {x:Str} {i:Nat} {d:D}
end
end
section
open PySem PySem.W PySem.Calls PyProof.Rows
theorem take_range {α:Type} (ys:List α):∀ m:Nat,(List.range m).filterMap (ys[·]?) = ys.take m
  | 0=>by simp
  | m + 1=>by
    rw [List.range_succ,List.filterMap_append,take_range ys m,List.take_add_one]
    cases h:ys[m]? <;> simp [List.filterMap_cons,h]
theorem fmap_congr {α β:Type} {f g:α→Option β}:∀ {l:List α},(∀ x ∈ l,f x = g x)→l.filterMap f = l.filterMap g
  | [],_=>rfl
  | x :: l,h=>by rw [List.filterMap_cons,List.filterMap_cons,h x (.head _),fmap_congr fun y hy=>h y (.tail _ hy)]
theorem places_rev (n:Nat):places Option.none Option.none (-1) n = (List.range n).map fun k=>n - 1 - k:=by
  unfold places sliceBounds sliceRange
  have h1:¬ ((-1:Int) > 0):=by lia
  simp only [Option.getD_some,h1,if_false]
  have h2:(if (n:Int) - 1 > -1 then ((n:Int) - 1 - -1 - -1 - 1) / (- -1) else 0).toNat = n:=by
    split
    · have:((n:Int) - 1 - -1 - -1 - 1) / (- -1) = (n:Int):=by
        have e:(n:Int) - 1 - -1 - -1 - 1 = n:=by lia
        rw [e];exact Int.ediv_one _
      rw [this];simp
    · lia
  rw [h2]
  refine List.map_congr_left fun k hk=>?_
  have h:1 + k≤n:=by rw [Nat.add_comm];exact List.mem_range.mp hk
  rw [Int.neg_mul,Int.one_mul,← Int.sub_eq_add_neg,Nat.sub_sub,← Int.toNat_natCast (n - (1 + k)),Int.natCast_sub h,Int.natCast_add,← Int.sub_sub];rfl
theorem pick_rev {α:Type} (xs:List α):pickBy (places Option.none Option.none (-1) xs.length) xs = xs.reverse:=by
  unfold pickBy
  rw [places_rev,List.filterMap_map]
  have e:(List.range xs.length).filterMap ((fun x=>xs[x]?) ∘ fun k=>xs.length - 1 - k) = (List.range xs.length).filterMap fun k=>xs.reverse[k]?:=by
    refine fmap_congr fun k hk=>?_
    have hk:=List.mem_range.mp hk
    show xs[xs.length - 1 - k]? = _
    rw [List.getElem?_reverse hk]
  rw [e,take_range,List.take_of_length_le (by simp)]
section
variable {S:Sig} {k:Nat} {f:Fi} {Γ:Ctxt}
end
end
section
open PySem PySem.W PySem.Calls PyProof.Rows
section
variable {S:Sig} {k:Nat} {f:Fi} {Γ Γ':Ctxt} {G G':Gh} {g g':Heap} {W V:Addr→Prop} {env:Env} {s s':Shared} {P:Ctxt→Gh→Prop} {r:GRes} {st:Stmt} {sts body orelse:List Stmt} {pos p':Pos} {e:Expr} {es:List Expr} {d:D} {ds:List D}
end
end
section
open PySem PySem.W PySem.Calls PyProof.Rows
section
variable {S:Sig} {k:Nat} {f:Fi} {Γ Γ':Ctxt} {G G':Gh} {g g':Heap} {W V:Addr→Prop} {env:Env} {s s':Shared} {P:Ctxt→Gh→Prop} {r:GRes} {sts:List Stmt} {pos p':Pos} {e:Expr} {d:D} {x y:Str} {i j:Nat}
end
end
section
open PySem PySem.W PySem.Calls PyProof.Rows
section
variable {S:Sig} {k:Nat} {f:Fi} {Γ:Ctxt} {e:Expr} {pos:Pos}
end
end
section
open PySem PySem.W PySem.Calls PyProof.Rows
section
variable {S:Sig} {k:Nat} {f:Fi} {Γ:Ctxt} {tg e l r:Expr} {d:D} {ds:List D} {pos:Pos}
end
end
section
open PySem PySem.W PySem.Calls PyProof.Rows
section
variable {S:Sig} {k:Nat} {f:Fi} {Γ Γ₁ Γc:Ctxt} {e l r iter tg elt:Expr} {ifs:List Expr} {d:D} {ds outs:List D} {pos p':Pos} {scope:Scope}
end
end
section
open PySem PySem.W PySem.Calls PyProof.Rows
section
variable {S:Sig} {k:Nat}
theorem Op2.gtS {a b:List Nat}:Op2 S k (compareOp .Gt) (.str a) (.str b) (.bool (decide (b < a))):=by
  intro A g s v₁ v₂ Q E at' r1 r2 h
  cases r1 using Rd.casesStr;cases r2 using Rd.casesStr
  exact P.gt_str (h _ g _ (at'.refl _) (.raw _))
end
end
section
open PySem PySem.W PySem.Calls PyProof.Rows
noncomputable def gtProto (C:Addr) (fp wr:List Addr) (n:Nat) (F:Nat→Value→Prop):Protocol:=fun m s₀ v s kap=>F (n - 1 - m) v∧GenSince C wr s₀ s∧∀ s'':Shared,(∀ b ∈ C :: fp,∀ o,s.heap.get? b = some o→s''.heap.get? b = some o)→0 < s''.toks→kap (.send .none) s''
noncomputable abbrev gtEnd (C:Addr) (wr:List Addr):GenEnd:=fun n s₀ r s₁=>r = .ok .next∧(n = 0∧GenSince C wr s₀ s₁)
section
variable {prog:Program} {w:World} {A:Around}
noncomputable def GtElt (prog:Program) (w:World) (cenv:Env) (x:Str) (elt:Expr) (P F:Nat→Value→Prop):Prop:=∀ (A':Around) (E':Value→Shared→Prop) (i:Nat) (v:Value) (s₂:Shared) (m₂:Str→Option Value),A'.handled = none→P i v→s₂.heap.Ns cenv.locals m₂→m₂ x = some v→0 < s₂.toks →
  wpAny (model prog w) A' (eval elt cenv) (fun y s₃=>F i y∧Keeps s₂ s₃) E' s₂
theorem gt_loop {elt iter:Expr} {x:Str} {px:Pos} {scope:Scope} {pos:Pos} {I:Addr} {fp wr:List Addr} {n:Nat} {P:Nat→Value→Prop} {St₀:Nat→Heap→Prop} {cenv:Env}
    (hh:A.handled = none) (W₀:∀ A':Around,A'.handled = none→Walks prog w A' I fp wr n P St₀) (F:Nat→Value→Prop)
    (hx:cenv.kindOf x = some .local) (hp:(cenv.scope.kind == .class || (cenv.scope.kind == .module && cenv.locals != cenv.globals)) = false)
    (hco:cenv.scope.isCoroutine = false) (hCf:cenv.locals ∉ fp) (hq:GtElt prog w cenv x elt P F) :
    ∀ (k i:Nat) (s₀ s:Shared) (m:Str→Option Value),n - i = k→i≤n→St₀ i s.heap→s.heap.Ns cenv.locals m→GenSince cenv.locals wr s₀ s→0 < s.toks →
      Seg (model prog w) A (gtEnd cenv.locals wr) (gtProto cenv.locals fp wr n F) k s₀ (.compLoop (.GeneratorExp elt [⟨.Name x px,iter,[],0⟩] scope pos) 0 (.ref I) .none cenv)
        ((model prog w).den (.compLoop (.GeneratorExp elt [⟨.Name x px,iter,[],0⟩] scope pos) 0 (.ref I) .none cenv)) [] s:=by
  have hh':(A.over (.compLoop (.GeneratorExp elt [⟨.Name x px,iter,[],0⟩] scope pos) 0 (.ref I) .none cenv) []).handled = none:=hh
  have hCw:cenv.locals ∉ wr:=fun h=>hCf ((W₀ A hh).sub _ h)
  intro k
  induction k with
  | zero =>
    intro i s₀ s m hk hi hst hn hs ht
    obtain rfl:i = n:=by omega
    show Seg _ A _ _ _ s₀ _ ((compTurn (.GeneratorExp elt [⟨.Name x px,iter,[],0⟩] scope pos) 0 (.ref I) .none cenv).onRaise (leaving cenv)) [] s
    rw [compTurn_gen,Sem.onRaise_eq_wrap]
    refine seg_bind_wrap (wpAny_standAt (seg_bind_wrap ((W₀ _ hh').done s _ _ hst fun h' tk hk'=>?_)))
    exact seg_end (.ok .next) ⟨rfl,rfl,hs.step fun b o _ hw e=>hk' b o hw e⟩
  | succ k ih =>
    intro i s₀ s m hk hi hst hn hs ht
    have hlt:i < n:=by omega
    show Seg _ A _ _ _ s₀ _ ((compTurn (.GeneratorExp elt [⟨.Name x px,iter,[],0⟩] scope pos) 0 (.ref I) .none cenv).onRaise (leaving cenv)) [] s
    rw [compTurn_gen,Sem.onRaise_eq_wrap]
    refine seg_bind_wrap (wpAny_standAt (seg_bind_wrap (wpAny_with_toks (Nat.le_refl s.toks) ((W₀ _ hh').item i s _ _ hlt hst fun v h₁ tk₁ hPv hst₁ hk₁ htk₁=>?_))))
    refine seg_bind_wrap (wpAny_of_eq (rfl:letOwnedTupleGo (.Name x px) (.ref I) v = pure ()) ?_)
    refine seg_bind_wrap (wpAny_with_toks htk₁ (wpAny_assign_Name (wpAny_storeName_local hx (hn.at' fun o e=>hk₁ _ o hCw e) (fun h₂ hn₂ hs₂ htk₂=>?_) hp)))
    have up₂:∀ b o,b ≠ cenv.locals→b ∉ wr→s.heap.get? b = some o→h₂.get? b = some o:=fun b o hbC hbw e=>hs₂.extBut b o hbC (hk₁ b o hbw e)
    have hst₂:St₀ (i + 1) h₂:=(W₀ A hh).frame _ _ _ hst₁ fun b hb o e=>hs₂.extBut b o (fun h=>hCf (h ▸ hb)) e
    refine seg_bind_wrap (wpAny_of_eq (a:=true) rfl ?_)
    have hy:∀ v,yieldOut cenv v = yieldValue v:=fun v=>by simp only [yieldOut,hco,Bool.false_eq_true,if_false]
    simp only [if_true,hy]
    rw [Sem.bind_eq_wrap',Sem.bind_eq_wrap',Sem.wrap_wrap,Sem.wrap_wrap]
    refine seg_wrap (wpAny_mono (hq _ _ i v _ _ hh' hPv hn₂ (by simp) (Nat.lt_of_lt_of_le ht htk₂)) (fun y s₄ h₄=>?_) fun _ _ e=>e)
    obtain ⟨hFy,h₄,tk₄,rfl,hk₄⟩:=h₄
    refine seg_at (seg_yield rfl rfl rfl ⟨by show F (n - 1 - k) y;rw [show n - 1 - k = i by omega];exact hFy,hs.step fun b o hbC hbw e=>hk₄ b o (up₂ b o hbC hbw e),fun s'' hal ht''=>?_⟩)
    exact seg_again rfl (ih (i + 1) s'' s'' _ (by omega) hlt ((W₀ A hh).frame _ _ _ hst₂ fun b hb o e=>hal b (List.mem_cons_of_mem _ hb) o (hk₄ b o e))
      ((hn₂.keeps hk₄).at' fun o e=>hal _ (List.mem_cons_self ..) o e) (GenSince.refl _ _ _) ht'')
theorem gt_start {elt iter:Expr} {x:Str} {px:Pos} {scope:Scope} {pos:Pos} {I:Addr} {fp wr:List Addr} {n:Nat} {P:Nat→Value→Prop} {St₀:Nat→Heap→Prop} {cenv:Env}
    (hh:A.handled = none) (W₀:∀ A':Around,A'.handled = none→Walks prog w A' I fp wr n P St₀) (F:Nat→Value→Prop)
    (hx:cenv.kindOf x = some .local) (hp:(cenv.scope.kind == .class || (cenv.scope.kind == .module && cenv.locals != cenv.globals)) = false)
    (hco:cenv.scope.isCoroutine = false) (hCf:cenv.locals ∉ fp) (hq:GtElt prog w cenv x elt P F)
    (s:Shared) (m:Str→Option Value) (hst:St₀ 0 s.heap) (hn:s.heap.Ns cenv.locals m) (ht:0 < s.toks) :
    Seg (model prog w) A (gtEnd cenv.locals wr) (gtProto cenv.locals fp wr n F) n s (.compStart (.GeneratorExp elt [⟨.Name x px,iter,[],0⟩] scope pos) 0 (.ref I) .none cenv)
      ((model prog w).den (.compStart (.GeneratorExp elt [⟨.Name x px,iter,[],0⟩] scope pos) 0 (.ref I) .none cenv)) [] s:=by
  have hh':(A.over (.compStart (.GeneratorExp elt [⟨.Name x px,iter,[],0⟩] scope pos) 0 (.ref I) .none cenv) []).handled = none:=hh
  have loop:=gt_loop (iter:=iter) (px:=px) (scope:=scope) (pos:=pos) hh W₀ F hx hp hco hCf hq n 0 s s m (Nat.sub_zero _) (Nat.zero_le _) hst hn (GenSince.refl _ _ _) ht
  show Seg _ A _ _ _ s _ ((compStart (.GeneratorExp elt [⟨.Name x px,iter,[],0⟩] scope pos) 0 (.ref I) .none cenv).onRaise (leaving cenv)) [] s
  unfold compStart
  rw [Sem.onRaise_eq_wrap]
  show Seg _ A _ _ _ s _ ((ask >>= _).wrap _ _ _ _) [] s
  refine seg_bind_wrap (wpAny_askSetting ?_)
  split
  · exact seg_again rfl loop
  · first
      | exact seg_bind_wrap (wpAny_rule (seg_bind_wrap (wpAny_standAt (seg_bind_wrap ((W₀ _ hh').self 0 s _ _ hst (seg_again rfl loop))))))
      | (refine seg_bind_wrap (wpAny_rule ?_);show Seg _ A _ _ _ s _ ((standAt iter.pos >>= _).wrap _ _ _ _) [] s;exact seg_bind_wrap (wpAny_standAt (seg_bind_wrap ((W₀ _ hh').self 0 s _ _ hst (seg_again rfl loop)))))
noncomputable def GtAt (prog:Program) (w:World) (A:Around) (a:Addr) (g:Nat) (C:Addr) (fp wr:List Addr) (n:Nat) (F:Nat→Value→Prop) (j:Nat) (s:Shared):Prop :=
  s.heap.IsGen a g∧s.heap.NoLimit∧0 < s.toks∧∃ gs,s.gens[g]? = some gs∧∀ s'':Shared,(∀ b ∈ C :: fp,∀ o,s.heap.get? b = some o→s''.heap.get? b = some o)→0 < s''.toks →
    gs.Goes (model prog w) A.in1 (gtEnd C wr) (gtProto C fp wr n F) (n - j) (.send .none) s''
theorem gt_walks (hh:A.handled = none) (a:Addr) (g:Nat) (C:Addr) (fp wr:List Addr) (n:Nat) (F:Nat→Value→Prop) (haC:a ≠ C) (haf:a ∉ fp) (hsub:∀ b ∈ wr,b ∈ fp)
    (hroom:A.depth < recursionLimit) (hcs:cStatics ∈ fp) (hcC:cStatics ≠ C) (hcw:cStatics ∉ wr) :
    WalksS prog w A a (a :: C :: fp) (C :: wr) (GenOnlyQ g) n F (GtAt prog w A a g C fp wr n F) where
  sub:=fun b hb=>by
    rcases List.mem_cons.mp hb with rfl | hb
    · simp
    · exact List.mem_cons_of_mem _ (List.mem_cons_of_mem _ (hsub b hb))
  grefl:=fun _=>.inl rfl
  gtrans:=fun _ _ _ x y=>x.trans y
  frame:=fun j s h' tk st ht hk =>
    ⟨e3_4 st.1 fun o nm qn ho r1 r2 r3=>⟨o,nm,qn,hk a (List.mem_cons_self ..) o ho,r1,r2,r3⟩,e1_2 st.2.1 fun mc hns hnn=>⟨mc,hns.at' fun o e=>hk cStatics (List.mem_cons_of_mem _ (List.mem_cons_of_mem _ hcs)) o e,hnn⟩,Nat.lt_of_lt_of_le st.2.2.1 ht,
     e1_2 st.2.2.2 fun gs hgs hgo=>⟨gs,hgs,fun s'' hal=>hgo s'' fun b hb o e=>hal b hb o (hk b (List.mem_cons_of_mem _ hb) o e)⟩⟩
  item:=fun j s Q E hj st hQ=>by
    obtain ⟨hg,hl,ht,gs,hgs,hgo⟩:=st
    obtain ⟨m,hm⟩:∃ m,n - j = m + 1:=⟨n - j - 1,by omega⟩
    rw [hm] at hgo
    have haw:a ∉ wr:=fun h=>haf (hsub a h)
    refine wpAny_with_toks (Nat.le_refl s.toks) (wpAny_pyNext_genexpQ (P:=fun n s₀ s₁=>n = 0∧GenSince C wr s₀ s₁) hh hl hroom hg hgs (hgo _ (fun _ _ _ e=>e) ht) (fun v s₁ gs' hb hv htk=>?_) (fun s₁ hp h' hk=>absurd hp.1 (Nat.succ_ne_zero m)))
    obtain ⟨hF,⟨h₁,tk₁,rfl,hk₁⟩,hkap⟩:=hv
    rw [show n - 1 - (m + 1 - 1) = j by omega] at hF
    refine hQ v _ hF ⟨e3_4 hg fun o nm qn ho r1 r2 r3=>⟨o,nm,qn,hk₁ a o haC haw ho,r1,r2,r3⟩,e1_2 hl fun mc hns hnn=>⟨mc,hns.at' fun o e=>hk₁ cStatics o hcC hcw e,hnn⟩,Nat.lt_of_lt_of_le ht htk,gs',setGen_self (gs:=.running) (setGen_self hgs),fun s'' hal ht''=>?_⟩
      ⟨fun b o hb e=>hk₁ b o (fun h=>hb (h ▸ List.mem_cons_self ..)) (fun h=>hb (List.mem_cons_of_mem _ h)) e,GenOnlyQ.of ((GenOnly.setGen s g .running).trans (GenOnly.setGen _ g gs')) (setGen_self (gs:=.running) (setGen_self hgs)) hb,rfl,rfl,htk⟩
    rw [show n - (j + 1) = m by omega]
    exact hkap s'' hal ht''
  done:=fun s Q E st hQ=>by
    obtain ⟨hg,hl,ht,gs,hgs,hgo⟩:=st
    rw [Nat.sub_self] at hgo
    refine wpAny_with_toks (Nat.le_refl s.toks) (wpAny_pyNext_genexpQ (P:=fun n s₀ s₁=>n = 0∧GenSince C wr s₀ s₁) hh hl hroom hg hgs (hgo _ (fun _ _ _ e=>e) ht) (fun v s₁ gs' hb hv=>?_) (fun s₁ hp h' hk htk=>?_))
    · have:0 < ({ s₁ with toks:=1 }:Shared).toks:=Nat.one_pos
      exact False.elim (hv.2.2 { s₁ with toks:=1 } (fun _ _ _ e=>e) this)
    · obtain ⟨_,h₁,tk₁,rfl,hk₁⟩:=hp
      exact hQ _ ⟨fun b o hb e=>hk b o (hk₁ b o (fun h=>hb (h ▸ List.mem_cons_self ..)) (fun h=>hb (List.mem_cons_of_mem _ h)) e),GenOnlyQ.of ((GenOnly.setGen s g .running).trans (GenOnly.setGen _ g .finished)) (setGen_self (gs:=.running) (setGen_self hgs)) rfl,rfl,rfl,htk⟩
  self:=fun _ _ _ _ st hQ=>wpAny_pyIter_gen st.1 hQ
variable {E:Value→Shared→Prop} {s:Shared}
theorem gt_make {env:Env} {elt iter:Expr} {x:Str} {px:Pos} {scope:Scope} {pos:Pos} {Q:Value→Shared→Prop}
    (hh:A.handled = none) (hco:scope.isCoroutine = false) (hclos:closureFor scope env = pure []) (hcell:∀ y ∈ scope.names,y.2 ≠ .cell) (h0:scope.names.lookup (".0":Str) = some NameKind.local)
    (hx:scope.names.lookup x = some .local) (hkind:scope.kind = .function) (hroom:A.depth < recursionLimit)
    (h:wpAny (model prog w) A (eval iter env) (fun xv s₁=>wpAny (model prog w) A (pyIter xv) (fun it s₂=>s₂.heap.NoLimit ∧
      wpAny (model prog w) A (genexprCode env pos (env.qual ++ "<genexpr>") scope) (fun code s₃=>wpAny (model prog w) A (builtinsFor env.globals env.builtins) (fun bi s₄ =>
        ∃ I fp wr n P St₀ F,it = .ref I∧(∀ A':Around,A'.handled = none→Walks prog w A' I fp wr n P St₀)∧St₀ 0 s₄.heap∧(∀ b ∈ fp,b < s₄.heap.objs.size)∧s₄.heap.NoLimit∧cStatics ∉ wr ∧
          GtElt prog w (genEnv scope [] s₄.heap.objs.size code bi env) x elt P F ∧
          (∀ a h₅ tk gs,gs.bare = true→s₄.heap.objs.size < a→h₅.objs.size = a + 1→(∀ b o,s₄.heap.get? b = some o→h₅.get? b = some o) →
            WalksS prog w A.in4 a (a :: s₄.heap.objs.size :: List.range s₄.heap.objs.size) (s₄.heap.objs.size :: wr) (GenOnlyQ s₄.gens.size) n F (GtAt prog w A.in4 a s₄.gens.size s₄.heap.objs.size (List.range s₄.heap.objs.size) wr n F) →
            GtAt prog w A.in4 a s₄.gens.size s₄.heap.objs.size (List.range s₄.heap.objs.size) wr n F 0 { s₄ with gens:=s₄.gens.push gs,toks:=tk,heap:=h₅ } →
            Q (.ref a) { s₄ with gens:=s₄.gens.push gs,toks:=tk,heap:=h₅ })) E s₃) E s₂) E s₁) E s)
    (hs:∀ x,genFold iter env x = pure x) :
    wpAny (model prog w) A (eval (.GeneratorExp elt [⟨.Name x px,iter,[],0⟩] scope pos) env) Q E s:=by
  refine wpAny_GeneratorExp_make hco hclos hcell h0 hkind hroom (wpAny_mono h (fun xv s₁ h₁=>wpAny_mono h₁ (fun it s₂ h₂=>⟨h₂.1,wpAny_mono h₂.2 (fun code s₃ h₃=>wpAny_mono h₃ (fun bi s₄ h₄=>?_)
    fun _ _ e=>e) fun _ _ e=>e⟩) fun _ _ e=>e) fun _ _ e=>e) hs
  obtain ⟨I,fp,wr,n,P,St₀,F,rfl,W₀,hst,hfp,hl₄,hcw,hq,hQ⟩:=h₄
  have hclt:cStatics < s₄.heap.objs.size:=e1_2 hl₄ fun _ hn _=>hn.lt
  intro h' hn' hs'
  have hsz:h'.objs.size = s₄.heap.objs.size + 1:=by rw [hs'.1,Heap.size_push]
  have keep':∀ b o,s₄.heap.get? b = some o→h'.get? b = some o:=fun b o e=>hs'.extBut b o (Nat.ne_of_lt (Heap.lt_size e)) (Heap.get?_push_of_some _ e)
  have hsub:∀ b ∈ wr,b ∈ List.range s₄.heap.objs.size:=fun b hb=>List.mem_range.mpr (hfp b ((W₀ A hh).sub b hb))
  have haC:h'.objs.size ≠ s₄.heap.objs.size:=by rw [hsz];exact Nat.succ_ne_self _
  have haf:h'.objs.size ∉ List.range s₄.heap.objs.size:=fun hm=>by have:=List.mem_range.mp hm;omega
  have keep₅:∀ b o,s₄.heap.get? b = some o→(h'.push { cls:=.type "generator",data:=.fields #[.int s₄.gens.size 0,.str "<genexpr>" (s₄.toks + 1),.str (env.qual ++ "<genexpr>") (s₄.toks + 1 + 1)] }).get? b = some o :=
    fun b o e=>Heap.get?_push_of_some _ (keep' b o e)
  refine hQ _ _ _ _ rfl (by omega) (by rw [Heap.size_push]) keep₅ (gt_walks (A:=A.in4) hh _ _ _ _ wr n F haC haf hsub hroom (List.mem_range.mpr hclt) (Nat.ne_of_lt hclt) hcw) ?_
  have W₁:∀ A':Around,A'.handled = none→Walks prog w A' I (List.range s₄.heap.objs.size) wr n P St₀:=fun A' hA=>(W₀ A' hA).mono_fp fun b hb=>List.mem_range.mpr (hfp b hb)
  have st₅:St₀ 0 _:=(W₀ A hh).frame _ _ _ hst fun b _ o e=>keep₅ b o e
  refine ⟨⟨_,_,_,Heap.get?_push_size _ rfl,rfl,rfl,rfl⟩,hl₄.keeps keep₅,Nat.succ_pos _,_,Array.getElem?_push_size ..,fun s'' hal ht=>⟨rfl,?_⟩⟩
  exact gt_start (A:=A.in4.in1) (cenv:=genEnv scope [] s₄.heap.objs.size code bi env) hh W₁ F hx (by simp [genEnv,hkind]) hco (fun hm=>Nat.lt_irrefl _ (List.mem_range.mp hm)) hq s'' _
    ((W₁ A hh).frame _ _ _ st₅ fun b hb o e=>hal b (List.mem_cons_of_mem _ hb) o e) ((hn'.push _).at' fun o e=>hal _ (List.mem_cons_self ..) o e) ht
end
end
section
open PySem PySem.W PySem.Calls PyProof.Rows
theorem Tr.gensTo {S:Sig} {W:Addr→Prop} {g g':Heap} {s s':Shared} (t:Tr S W g s g' { s' with gens:=s.gens }) (h1:AllBare s.gens→AllBare s'.gens) (h2:s.gens.size≤s'.gens.size):Tr S W g s g' s' :=
  ⟨t.mono,t.keep,t.same,t.fresh,t.size,t.tabs,t.base,⟨t.now.pos,t.now.all⟩,t.os,h1,h2,t.toks⟩
theorem Tr.toksBack {S:Sig} {W:Addr→Prop} {g g':Heap} {s s':Shared} (t:Tr S W g s g' s') (h:0 < s.toks):Tr S W g s g' { s' with toks:=s.toks } :=
  ⟨t.mono,t.keep,t.same,t.fresh,t.size,t.tabs,t.base,⟨h,t.now.all⟩,t.os,t.bare,t.gens,Nat.le_refl _⟩
theorem codeHd_at {g h:Heap} {c P:Addr} {ts:Array Value} (CH:CodeHd g c P) (k:Keep g h) (hP:h.get? P = some (tabObj ts)) (hok:TriplesOk ts.toList):h.IsCode c P ts∧h.TableAt c P ts:=by
  refine byC fun C hC=>?_
  obtain ⟨o,vs,file,tf,flags,tg,inF,text,tt,e1,r1,r2,r3,r4,r5,r6,r7,r8,hne⟩:=CH
  exact hC ⟨⟨o,vs,file,tf,flags,tg,inF,text,tt,tabObj ts,k _ _ e1,r2,r4,r5,r6,r7,r8,hP,rfl,hok,hne⟩,⟨⟨o,vs,k _ _ e1,r1,r2,r3⟩,hP⟩⟩
section
variable {S:Sig} {k:Nat} {f:Fi} {Γ:Ctxt} {iter elt:Expr} {pos gpos px cp apos:Pos} {scope:Scope} {x sepS:Str} {kk:Nat}
theorem EV.joinGen [Free S] {c P:Addr} {sep:List Nat} {ps:List (List Nat)} {fn:List Nat→List Nat} (hcs:Cs sepS sep) (hsepl:sep.length≤sizeLine) (hc:f.code = .ref c) (hq:(c,P) ∈ S.tabs) (hqual:∀ p':Pos,p'.line = gpos.line→p'.col = gpos.col→S.qualAt p' = f.qual ++ "<genexpr>")
    (h1:EV S k f Γ iter (.list (ps.map .str)))
    (hco:scope.isCoroutine = false) (hclos:∀ env,closureFor scope env = pure []) (hcell:∀ y ∈ scope.names,y.2 ≠ .cell) (h0:scope.names.lookup (".0":Str) = some NameKind.local) (hx:scope.names.lookup x = some .local) (hkind:scope.kind = .function)
    (helt:∀ (env:Env) (C:Addr) (code:Value) (A':Around) (E':Value→Shared→Prop) (a:List Nat) (t:Tok) (s₂:Shared) (m₂:Str→Option Value),a ∈ ps→A'.handled = none→s₂.heap.Ns (genEnv scope [] C code builtinsNs env).locals m₂→m₂ x = some (.str ⟨a.toArray⟩ t)→0 < s₂.toks →
      wpAny S.M A' (eval elt (genEnv scope [] C code builtinsNs env)) (fun y s₃=>(∃ u,y = .str ⟨(fn a).toArray⟩ u)∧Keeps s₂ s₃) E' s₂)
    (hz:((ps.map fn).map fun p=>p.length + sep.length).sum≤sizeLine) (hpl:ps.length≤100000)
    (hline:(apos.endLine == pos.line) = true) (hs:∀ env x,genFold iter env x = pure x)
    (hst:∀ env,backTo pos (starEach [.GeneratorExp elt [⟨.Name x px,iter,[],0⟩] scope gpos] env) = [(false,eval (.GeneratorExp elt [⟨.Name x px,iter,[],0⟩] scope gpos) env)])
    (hbase:∀ env,attributeBase (.Constant (.str sepS) kk cp) "join" env (eval (.Constant (.str sepS) kk cp) env) = eval (.Constant (.str sepS) kk cp) env)
    (hfew:∀ env,((backTo pos (starEach [.GeneratorExp elt [⟨.Name x px,iter,[],0⟩] scope gpos] env)).all (fun x=>!x.1) && (backToKw pos (keywordEach [] env)).all (fun x=>x.1.isSome)
      && decide (([.GeneratorExp elt [⟨.Name x px,iter,[],0⟩] scope gpos]:List Expr).length + ([]:List Keyword).length + (if ([]:List Keyword).isEmpty then 0 else 1) < 30)) = true) :
    EV S k f Γ (.Call (.Attribute (.Constant (.str sepS) kk cp) "join" apos) [.GeneratorExp elt [⟨.Name x px,iter,[],0⟩] scope gpos] [] pos) (.str (joinL sep (ps.map fn))):=by
  intro A g W env s Q E R st hQ
  have hsl:=sizeLine_eq
  refine wpAny_Call_method (T:="str") (id:="str.join") (hbase env) (hfew env) hline PySem.F.plainAttrs_str PySem.F.slot_str_join PySem.F.type_str_join ?_
  refine (EV.cS hcs hsepl:EV S k f Γ (.Constant (.str sepS) kk cp) (.str sep)) A g W env s _ E R st fun ov g0 s0 t0 r0=>?_
  cases r0 using Rd.casesStr with
  | str t hsx =>
  refine ⟨typeIs_str _ _ _,nofun,?_⟩
  refine callWith_of (P:=fun h=>S.K.In h) (by rw [hst];rfl) (Callee.builtin (S:=S)) ?_
  rw [hst]
  have st0:=st.move t0
  have hdep:A.depth < recursionLimit:=by have:=R.depth;lia
  have pos0:0 < s0.toks:=st0.tabs.pos
  refine evalArgs_any rfl (spliced_cons (wpAny_grown (gt_make (R.handled Free.free) hco (hclos env) hcell h0 hx hkind hdep (h1 A g0 W env s0 _ _ R st0 fun v g1 s1 t1 r1=>?_) (hs env))))
  have st1:=st0.move t1
  have B:=st1.base
  have T:=st1.tabs
  have K:=st1.keep
  refine e2_6 (B.bmain) (fun bm ob hbm1 hbm2 hbm3 hbm4 hbm5 hbm6=>?_)
  refine e0_2 (B.heads _ hq) (fun CH gP=>?_)
  refine e1_3 (T.all _ hq) (fun ts hP hok hrec=>?_)
  simp only at hP gP CH
  have hqu:env.qual = f.qual:=st.envIs.qual
  have hgl:env.globals = mainGlobals:=st.envIs.globals
  have hbP:bm ≠ P:=fun q=>by rw [q,gP] at hbm3;cases hbm3
  have hgP:mainGlobals ≠ P:=fun q=>by
    obtain ⟨o,es,ep,e,hd,_⟩:=B.glob
    rw [q,gP] at e;cases e
  cases r1 using Rd.casesList with
  | list e hl rs =>
  rename_i l ws n
  have hwl:ws.length = ps.length:=by rw [rs.length];simp
  have el:=K _ _ e
  have hlt:l < s1.heap.objs.size:=Heap.lt_size el
  have hL:s1.heap.IsList l ws.toArray:=⟨_,el,rfl,n,rfl⟩
  have hlP:l ≠ P:=fun q=>by rw [q,gP] at e;cases e
  have hPlt:P < s1.heap.objs.size:=Heap.lt_size hP
  have hnl:=B.nolimit.keeps K
  have hcs:cStatics ≠ P:=fun q=>by
    refine e1_2 (B.nolimit) (fun _ hns _=>?_)
    refine e3_3 (hns) (fun o es ep ho hd _=>?_)
    rw [q,gP] at ho;cases ho
  have hcslt:cStatics < s1.heap.objs.size:=by refine e1_2 (hnl) (fun _ hns _=>?_);exact hns.lt
  refine wpAny_pyIter_list hL ⟨hnl.push _,?_⟩
  let s2:Shared:={ s1 with heap:=s1.heap.push { cls:=.type "list_iterator",data:=.fields #[.ref l,.int 0 0] } }
  have k12:∀ b o,s1.heap.get? b = some o→s2.heap.get? b = some o:=fun b o e=>Heap.get?_push_of_some _ e
  have z12:s2.heap.objs.size = s1.heap.objs.size + 1:=Heap.size_push ..
  refine e0_2 (codeHd_at CH (fun b o e=>k12 _ _ (K b o e)) (k12 _ _ hP) hok) fun hIC hTA=>?_
  have B':Tabs S g1 { s1 with toks:=s0.toks }:=⟨pos0,T.all⟩
  have hcode:env.code = .ref c:=st.envIs.code.trans hc
  have code:∀ (Q:Value→Shared→Prop) (E:Value→Shared→Prop),(∀ cv s3,(∀ b o,b ≠ P→s2.heap.get? b = some o→s3.heap.get? b = some o)→s2.heap.objs.size≤s3.heap.objs.size→s3.gens = s1.gens→s3.os = s1.os →
      (∀ s':Shared,(∀ b o,b ≠ s1.heap.objs.size→b < s3.heap.objs.size→s3.heap.get? b = some o→s'.heap.get? b = some o)→s0.toks≤s'.toks→s3.heap.objs.size≤s'.heap.objs.size→s'.os = s1.os→s'.gens = s1.gens→∃ g',Tr S (Nw s1) g1 { s1 with toks:=s0.toks } g' s')→Q cv s3) →
      wpAny S.M A (genexprCode env gpos (env.qual ++ "<genexpr>") scope) Q E s2:=by
    intro Q E h
    cases hf:codeAmong gpos ts.toList with
    | some cv =>
      refine wpAny_genexprCode_hit hcode hIC hf (h cv s2 (fun b o _ e=>e) (Nat.le_refl _) rfl rfl fun s' hk ht hz ho hg=>?_)
      obtain ⟨g',t,_⟩:=Tr.grow (s:={ s1 with toks:=s0.toks }) (s':=s') (fun _=>False) K B B' (fun b o e=>hk b o (Nat.ne_of_lt (Heap.lt_size e)) (by rw [z12];exact Nat.lt_succ_of_lt (Heap.lt_size e)) (k12 b o e)) (by rw [z12] at hz;exact Nat.le_of_succ_le hz) ho hg ht
      exact ⟨g',t⟩
    | none =>
      refine wpAny_genexprCodeX hcode hIC hTA hf fun c' h' tk hx hge hlt hcode' hrec' htab _=>?_
      have hz2:s2.heap.objs.size≤h'.objs.size:=Nat.le_trans hge (Nat.le_of_lt hlt)
      refine h (.ref c') { s2 with heap:=h',toks:=tk } (fun b o hb e=>hx b o hb e) hz2 rfl rfl fun s' hk ht hz ho hg=>?_
      have lift:∀ b o,b ≠ s1.heap.objs.size→h'.get? b = some o→s'.heap.get? b = some o:=fun b o hb e=>hk b o hb (Heap.lt_size e) e
      have nI:P ≠ s1.heap.objs.size:=Nat.ne_of_lt hPlt
      have nc':c' ≠ s1.heap.objs.size:=Nat.ne_of_gt (by have:=hge;rw [z12] at this;exact this)
      rw [hqu] at hrec'
      obtain ⟨g',t,_⟩:=Tr.growT (s:={ s1 with toks:=s0.toks }) (s':=s') (lpos:=gpos) (cv:=.ref c') (line:=0) (col:=0) K B B' hq hP
        (fun b o hb e=>lift b o (Nat.ne_of_lt (Heap.lt_size e)) (hx b o hb (k12 b o e))) (lift _ _ nI htab.2)
        (fun p' h1 h2=>by
          rw [hqual p' h1 h2]
          refine e4_3 (hrec') (fun c2 oc vs tt e1 e2 r=>?_)
          cases e1
          exact ⟨c',oc,vs,tt,rfl,lift _ _ nc' e2,r⟩)
        (fun a e=>by cases e;exact Nat.le_trans (by rw [z12];exact Nat.le_succ _) hge) (Nat.le_trans (by rw [z12] at hz2;exact Nat.le_of_succ_le hz2) hz) ho hg ht
      exact ⟨g',t⟩
  refine code _ _ fun cv s3 hk3 hz3 hg3 ho3 mk=>?_
  have k3:∀ b o,b ≠ P→s1.heap.get? b = some o→s3.heap.get? b = some o:=fun b o hb e=>hk3 b o hb (k12 b o e)
  have z3:s1.heap.objs.size < s3.heap.objs.size:=by rw [z12] at hz3;exact hz3
  rw [hgl]
  refine wpAny_builtinsFor (m:=S.mg) ((B.glob.keeps K).extBut (fun b o hb e=>k3 b o hb e) hgP) hbm1 hbm2 (k3 _ _ hbP (K _ _ hbm3)) hbm4 hbm5 hbm6 ?_
  have hL3:s3.heap.IsList l ws.toArray:=hL.at fun o e=>k3 l o hlP e
  have it3:s3.heap.IsListIter s1.heap.objs.size l 0:=⟨_,hk3 _ _ (Nat.ne_of_gt hPlt) (Heap.get?_push_size _ rfl),rfl,rfl⟩
  have hnl3:s3.heap.NoLimit:=hnl.extBut (fun b o hb e=>k3 b o hb e) hcs
  have hne:l ≠ s1.heap.objs.size:=Nat.ne_of_lt hlt
  refine ⟨s1.heap.objs.size,[s1.heap.objs.size,l],[s1.heap.objs.size],ws.toArray.size,_,_,fun i y=>∃ u,y = .str ⟨(fn (ps.getD i [])).toArray⟩ u,rfl,fun A' hA=>Walks.list hA s1.heap.objs.size l hne ws.toArray,⟨it3,hL3⟩,fun b hb=>?_,hnl3,fun hb=>?_,fun A' E' i v s₂ m₂ hA hPv hn hm ht=>?_,fun a h₅ tk gs hbare hag hsz hk5 Wk hat=>fun G0=>?_⟩
  · rcases List.mem_cons.mp hb with rfl | hb
    · exact z3
    · rcases List.mem_cons.mp hb with rfl | hb
      · exact Nat.lt_trans hlt z3
      · cases hb
  · rcases List.mem_cons.mp hb with q | hb
    · exact Nat.ne_of_lt hcslt q
    · cases hb
  · have hv:ws[i]? = some v:=by simpa using hPv
    have hi:i < ps.length:=by rw [← hwl];exact (List.getElem?_eq_some_iff.mp hv).1
    refine e1_2 (rs.get i (d:=.str ps[i]) (by simp [hi])) (fun v' hv' r'=>?_)
    rw [hv] at hv';cases hv'
    cases r' using Rd.casesStr with
    | str u _ =>
      have e:ps.getD i [] = ps[i]:=by simp [List.getD_eq_getElem?_getD,hi]
      show wpAny (model S.prog S.w) A' _ (fun y s₃=>(∃ u,y = Value.str ⟨(fn (ps.getD i [])).toArray⟩ u)∧Keeps s₂ s₃) E' s₂
      rw [e]
      exact helt env _ cv A' E' ps[i] u s₂ m₂ (List.getElem_mem hi) hA hn hm ht
  · have kg:Keep g1 h₅:=fun b o e=>hk5 b o (k3 b o (fun q=>by rw [q,gP] at e;cases e) (K b o e))
    refine spliced_nil ⟨B.kin.keeps kg,?_⟩
    show wpAny S.M A (PySem.call (.builtin "str.join") [.str ⟨sep.toArray⟩ t,.ref a]) Q E _
    have hnum:ws.toArray.size = ps.length:=by simp [hwl]
    refine wpAny_grown (SC.joinGen Wk.in4_2 (fun i s' st=>st.1.typeIs) hat ?_ List.mem_cons_self (fun j v ⟨u,hv⟩=>⟨_,u,hv⟩) (fun s' lt hm hacc=>?_) (by rw [hnum];lia))
    · intro b hb
      show b < h₅.objs.size
      rw [hsz]
      rcases List.mem_cons.mp hb with rfl | hb
      · exact Nat.lt_succ_self _
      · rcases List.mem_cons.mp hb with rfl | hb
        · exact Nat.lt_succ_of_lt hag
        · exact Nat.lt_succ_of_lt (Nat.lt_trans (List.mem_range.mp hb) hag)
    · have hlt':lt.length = ps.length:=by have:=hacc.1;rw [hnum] at this;simpa [strValues] using this
      have el':lt.map (·.1) = (ps.map fn).map fun p=>⟨p.toArray⟩:=by
        apply List.ext_getElem?
        intro j
        by_cases hj:j < ps.length
        · have hj':j < lt.length:=by lia
          obtain ⟨u,hv⟩:=hacc.2 j (.str lt[j].1 lt[j].2) (by simp [strValues,List.getElem?_eq_getElem hj'])
          injection hv with h1 _
          simp [List.getElem?_eq_getElem hj',hj,h1,List.getD_eq_getElem?_getD]
        · rw [List.getElem?_eq_none (by simp;lia),List.getElem?_eq_none (by simp;lia)]
      have hlen:=joinL_len sep (ps.map fn)
      refine ⟨?_,fun t' kt G1=>?_⟩
      · unfold JoinOk
        rw [el']
        simp only [List.foldl_toArray]
        rw [foldl_len]
        simp [Builtin.Str.tooLong,Str.length]
        simpa [Function.comp_def] using hz
      · have ej:Txt.join ⟨sep.toArray⟩ (lt.map (·.1)) = ⟨(joinL sep (ps.map fn)).toArray⟩:=by
          rw [el'];exact glued_eq sep (ps.map fn)
        rw [ej]
        have hs5:s3.heap.objs.size≤h₅.objs.size:=by rw [hsz];exact Nat.le_of_lt (Nat.lt_succ_of_lt hag)
        have nw:∀ b,b ≠ s1.heap.objs.size→b < s3.heap.objs.size→b ∉ [s3.heap.objs.size,s1.heap.objs.size]:=fun b hb hlt hmem=>by
          rcases List.mem_cons.mp hmem with q | hmem
          · subst q;exact Nat.lt_irrefl _ hlt
          · rcases List.mem_cons.mp hmem with q | hmem
            · exact hb q
            · cases hmem
        refine e1_1 (mk { s' with toks:=kt,gens:=s1.gens } (fun b o hb hlt e=>hm.heap b o (nw b hb hlt) (hk5 b o e)) (Nat.le_trans G0.toks G1.toks) (Nat.le_trans hs5 G1.heap) (hm.os.trans ho3) rfl) (fun g' tm=>?_)
        · have tm':Tr S (Nw s1) g1 { s1 with toks:=s0.toks } g' { s' with toks:=kt }:=tm.gensTo (fun h=>?_) ?_
          · exact hQ _ g' _ ((t0.then (t1.toksBack pos0)).then tm') (.str _ t' (by lia))
          · exact AllBare.moved (g:=s3.gens.size) (by rw [hg3];exact AllBare.push h hbare) hm.gens
          · have e2:=G1.gens
            have:s1.gens.size≤(s3.gens.push gs).size:=by rw [hg3];simp
            exact Nat.le_trans this e2
end
end
section
open PySem PySem.W PySem.Calls PyProof.Rows Builtin
open Builtin.Str in
theorem gives_find4 (x y:Str) (i j:Int) (t u v w:Tok):Gives (Builtin.«str.find» ⟨[.str x t,.str y u,.int i v,.int j w],[]⟩) (.int (match Builtin.Str.occurrences x y (fromIndex x.length i) (min (fromIndex x.length j) x.length) 1 with | k :: _=>(k:Int) | []=>-1)):=by
  show Gives (match Builtin.Str.occurrences x y (fromIndex x.length i) (min (fromIndex x.length j) x.length) 1 with | k :: _=>retInt k | []=>(do rule "str.find.not-found";retInt (-1))) _
  cases Builtin.Str.occurrences x y (fromIndex x.length i) (min (fromIndex x.length j) x.length) 1 with
  | nil=>exact .rule (.of_eq rfl)
  | cons k _=>exact .of_eq rfl
noncomputable def findC (c:Nat) (xs:List Nat) (lo hi:Nat):Option Nat:=((List.range' lo (hi + 1 - lo)).filter fun i=>decide (i < hi∧xs[i]? = some c)).head?
section
variable {S:Sig} {k:Nat} {f:Fi} {Γ:Ctxt}
theorem Ops.findC {xs:List Nat} {c lo hi:Nat} (hh:hi≤xs.length):Ops S k (fun vs=>PySem.call (.builtin "str.find") vs) [.str xs,.str [c],.int (lo:Int),.int (hi:Int)] (.int (match Mine.findC c xs lo hi with | some i=>(i:Int) | none=>-1)):=by
  intro A g0 s vs Q E at' rs h
  cases rs using Rds.casesCons with
  | cons r1 r2 =>
  cases r2 using Rds.casesCons with
  | cons r2 r3 =>
  cases r3 using Rds.casesCons with
  | cons r3 r4 =>
  cases r4 using Rds.casesCons with
  | cons r4 r5 =>
  cases r5 using Rds.casesNil
  cases r1 using Rd.casesStr with
  | str t hx =>
  cases r2 using Rd.casesStr with
  | str u hy =>
  cases r3 using Rd.casesInt with
  | int v =>
  cases r4 using Rd.casesInt with
  | int w =>
  have hl:(⟨xs.toArray⟩:Str).length = xs.length:=by simp [Str.length]
  have fi:∀ n:Nat,fromIndex (⟨xs.toArray⟩:Str).length (n:Int) = n:=fun n=>by unfold fromIndex;rw [if_neg (Int.not_lt.mpr (Int.natCast_nonneg n))];lia
  have f1:=fi lo
  have f2:min (fromIndex (⟨xs.toArray⟩:Str).length (hi:Int)) (⟨xs.toArray⟩:Str).length = hi:=by rw [fi,hl,Nat.min_eq_left hh]
  have g:=gives_find4 (⟨xs.toArray⟩:Str) (⟨[c].toArray⟩:Str) (lo:Int) (hi:Int) t u v w
  rw [f1,f2,show ([c]:List Nat).toArray = #[c] from rfl,occ1 xs c lo hi 1 hh] at g
  refine call_gives PySem.F.slot_str_find (typeIs_str _ _ _) PySem.F.entry_str_find (PySem.F.args_str_find_4 _ _ _ _) g ?_
  refine h _ g0 _ (at'.tick _ (Nat.le_succ _)) ?_
  unfold Mine.findC
  cases ((List.range' lo (hi + 1 - lo)).filter fun i=>decide (i < hi∧xs[i]? = some c)) with
  | nil=>exact .int _ _
  | cons a r=>exact .int _ _
end
theorem findC_some {c:Nat} {xs:List Nat} {lo hi i:Nat} (h1:lo≤i) (h2:i < hi) (h3:xs[i]? = some c) (h4:∀ j,lo≤j→j < i→xs[j]? ≠ some c):findC c xs lo hi = some i:=by
  unfold findC
  have e:List.range' lo (hi + 1 - lo) = List.range' lo (i - lo) ++ i :: List.range' (i + 1) (hi - i):=by
    have:hi + 1 - lo = (i - lo) + ((hi - i) + 1):=by
      refine e1_1 (Nat.exists_eq_add_of_le h1) fun k e=>?_
      subst e
      refine e1_1 (Nat.exists_eq_add_of_lt h2) fun m e=>?_
      subst e
      simp only [Nat.add_assoc,Nat.add_sub_cancel_left,Nat.add_sub_add_left]
    rw [this,← List.range'_append,List.range'_succ]
    simp only [Nat.one_mul]
    have:lo + (i - lo) = i:=Nat.add_sub_of_le h1
    rw [this]
  rw [e,List.filter_append,List.filter_eq_nil_iff.mpr,List.nil_append,List.filter_cons_of_pos (by simp [h2,h3])]
  · rfl
  · intro j hj
    have:=List.mem_range'_1.mp hj
    simp only [decide_eq_true_eq,not_and]
    intro _
    exact h4 j this.1 (by lia)
theorem findC_none {c:Nat} {xs:List Nat} {lo hi:Nat} (h:∀ j,lo≤j→j < hi→xs[j]? ≠ some c):findC c xs lo hi = none:=by
  unfold findC
  rw [List.filter_eq_nil_iff.mpr]
  · rfl
  · intro j hj
    have:=List.mem_range'_1.mp hj
    simp only [decide_eq_true_eq,not_and]
    intro q
    exact h j this.1 q
section
variable {S:Sig} {k:Nat} {f:Fi} {Γ:Ctxt} {st:Stmt} {sts:List Stmt}
theorem St.forget {g:Heap} {W:Addr→Prop} {env:Env} {s:Shared} (j:Nat) (st:St S f Γ g W env s):St S f (Γ.set j none) g W env s:=by
  refine e2_5 (st.vars) (fun m ad hns hb hg hH hI=>?_)
  have got:∀ {i:Nat} {b:B},(Γ.set j none)[i]? = some (some b)→Γ[i]? = some (some b):=fun {i b} e=>by
    by_cases h:j = i
    · subst h
      rw [List.getElem?_set_self'] at e
      cases q:Γ[j]? <;> rw [q] at e <;> simp at e
    · rwa [List.getElem?_set_ne h] at e
  exact ⟨st.keep,st.base,st.tabs,st.envIs,st.wide,st.clt,m,ad,hns,hb,hg,fun i x b hy hb'=>hH i x b hy (got hb'),fun p q xs ys e1 e2=>hI p q xs ys (got e1) (got e2)⟩
theorem EXs.forgetN {Γ':Ctxt} (j:Nat) (h:EXs S k f Γ sts (.next Γ')):EXs S k f Γ sts (.next (Γ'.set j none)):=by
  intro A g W env s Q E R st hQ
  refine h A g W env s Q E R st fun fl g' s' t p=>hQ fl g' s' t ?_
  exact ⟨p.1,p.2.forget j⟩
end
end
section
open PySem PySem.W PySem.Calls PyProof.Rows
section
variable {S:Sig}
variable {k:Nat} {f:Fi} {Γ Γ':Ctxt} {st:Stmt} {e:Expr}
theorem EX.forgetN (j:Nat) (h:EX S k f Γ st (.next Γ')):EX S k f Γ st (.next (Γ'.set j none)):=by
  intro A g W env s Q E R st hQ
  refine h A g W env s Q E R st fun fl g' s' t p=>hQ fl g' s' t ?_
  exact ⟨p.1,p.2.forget j⟩
theorem Tr.drop2 {g g' g'':Heap} {s s'':Shared} {V:Addr→Prop} {a:Addr} (B:Base S g) (hg:g.get? a = Option.none) (hoff:∀ b,b ≠ a→g'.get? b = g.get? b) (hd:∀ o,g'.get? a = some o→∀ vs,o.data ≠ .fields vs) (ha:g'.get? a ≠ Option.none) (t:Tr S V g' s g'' s'') :
    ∃ g₃,Tr S V g s g₃ s''∧∀ b,b ≠ a→g₃.get? b = g''.get? b:=by
  have get:∀ b,(cut g'' fun b=>!(b == a)).get? b = if b = a then Option.none else g''.get? b:=fun b=>by
    rw [cut_get];by_cases hb:b = a <;> simp [hb]
  have mono:Keep g (cut g'' fun b=>!(b == a)):=fun b o e=>by
    have hb:b ≠ a:=fun q=>by rw [q,hg] at e;cases e
    rw [get,if_neg hb]
    exact t.mono b o ((hoff b hb).trans e)
  refine ⟨cut g'' fun b=>!(b == a),⟨mono,fun b o e=>?_,t.same,fun b o e=>?_,t.size,t.tabs,B.mono mono fun q hq=>?_,⟨t.now.pos,fun q hq=>?_⟩,t.os,t.bare,t.gens,t.toks⟩,fun b hb=>by rw [get,if_neg hb]⟩
  · rw [get] at e;split at e
    · cases e
    · exact t.keep b o e
  · rw [get] at e;split at e
    · cases e
    · rename_i hb
      exact (t.fresh b o e).imp (fun q=>(hoff b hb).symm.trans q) id
  · rw [get];split
    · rfl
    · exact (t.base.heads q hq).2
  · refine e1_3 (t.now.all q hq) (fun ps e1 e2 e3=>?_)
    refine ⟨ps,e1,e2,fun pos cv e=>?_⟩
    refine e4_4 (e3 pos cv e) (fun c o vs tt h1 h2 h3 h4=>?_)
    refine ⟨c,o,vs,tt,h1,?_,h3,h4⟩
    rw [get,if_neg]
    · exact h2
    · rintro rfl
      cases q':g'.get? c with
      | none=>exact ha q'
      | some o' =>
        have:=t.mono _ _ q'
        rw [h2] at this;cases this
        exact hd _ q' _ h3
theorem EV.borrowR {x:Str} {kd:NameKind} {xs:List D} {a b c:Int} {j:Nat} (n:Nm f x j kd) (hj:Γ[j]? = some (some (.own xs))) (h:EV S k f (Γ.set j (some (.val (.list xs)))) e (.rng a b c)):EV S k f Γ e (.rng a b c):=by
  intro A g W env s Q E R st hQ
  refine e4_5 (st.freeze hj n.lt) (fun ad vs n' g' h1 h2 h3 t st'=>?_)
  refine h A g' W env s Q E R st' fun v g₂ s₂ t₂ r₂=>?_
  (refine e1_2 (Tr.drop2 st.base h1 h3 (fun o e=>by rw [h2] at e;cases e;nofun) (by rw [h2];nofun) t₂) (fun g₃ t₃ off=>?_))
  cases r₂ using Rd.casesRng with
  | rng er =>
    refine hQ _ g₃ s₂ t₃ (.rng ((off _ fun q=>?_).trans er))
    rw [q] at er
    rw [t₂.mono _ _ h2] at er
    exact absurd (congrArg Obj.cls (Option.some.inj er)) (show Value.type "list" ≠ Value.type "range" by decide)
end
end
section
open PySem PySem.W PySem.Calls PyProof.Rows
section
variable {S:Sig} {k:Nat} {f:Fi} {Γ:Ctxt} {e:Expr} {pos:Pos}
theorem EV.sliceST {a:List Nat} {lo hi:Option Expr} {i j:Option Int} {p:Pos} (h1:EV S k f Γ e (.str a)) (h2:PV S k f Γ lo i) (h3:PV S k f Γ hi j) :
    EV S k f Γ (.Subscript e (.Slice lo hi none p) pos) (.str (pick i j a)):=by
  intro A g W env s Q E R st hQ
  refine Subscript_ (h1 A g W env s _ E R st fun v g1 s1 t1 r1=>wpAny_Slice (h2.run A g1 W env s1 _ E R (st.move t1) fun p2 g2 s2 t2 e2=>h3.run A g2 W env s2 _ E R ((st.move t1).move t2) fun p3 g3 s3 t3 e3=>?_))
  rw [evalPart_none]
  refine wpAny_pure ?_
  cases r1 using Rd.casesStr
  rename_i t hsz
  refine tail_any (typeIs_str _ _ t) PySem.F.slot_str_getitem.lookup (wpAny_getItem_str_slice (l:=p2) (u:=p3) (st:=none) ⟨_,Heap.get?_push_size _ rfl,rfl,rfl⟩ rfl ?_) (rfl:_ = operate [_,_] _)
  have a3:=(((st.move t1).move t2).move t3).at R
  have T:=(t1.then t2).then t3
  have hp:=picked_eq (a:=a) (p:=p2) (q:=p3)
  rw [e2,e3] at hp
  unfold sliceMade
  split
  · rename_i hw
    refine e1_2 (a3.push { cls:=.type "slice",data:=.fields #[partValue p2,partValue p3,.none] } (t:=s3.toks)) (fun g4 t4 _=>?_)
    refine hQ _ g4 _ (T.then t4) ?_
    have:(pick i j a) = a:=by
      apply slice_whole
      have hl:=picked_len (a:=a) (p:=p2) (q:=p3)
      rw [e2,e3] at hl
      rw [← hl]
      simpa [Str.length] using hw
    rw [this];exact .str a t hsz
  · refine e1_2 (a3.push { cls:=.type "slice",data:=.fields #[partValue p2,partValue p3,.none] } (t:=s3.toks + 1)) (fun g4 t4 _=>?_)
    rw [hp]
    have hl:=Nat.le_trans (pick_length_le i j a) hsz
    refine ⟨by show (pick i j a).toArray.size≤_;simpa using hl,hQ _ g4 _ (T.then t4) (.str _ _ hl)⟩
theorem EX.toR {st:Stmt} {r r':Res} (h:EX S k f Γ st r) (e:r = r'):EX S k f Γ st r':=e ▸ h
end
end
section
open PySem PySem.W PySem.Calls PyProof.Rows
section
variable {S:Sig} {k:Nat} {fc:Fi} {tg elt:Expr}
theorem CL.mapAll {α τ:Type} (it out:α→D) (G:τ→Ctxt):∀ (as:List α) (t:τ),(∀ a ∈ as,∀ t,∃ t',AS S k fc (G t) tg (it a) (G t')∧EV S k fc (G t') elt (out a))→CL S k fc tg elt [] (G t) (as.map it) (as.map out)
  | [],t,_=>.nil
  | a :: as,t,h=>by
    refine e1_2 (h a (List.mem_cons_self ..) t) (fun t' h1 h2=>?_)
    exact .take h1 Ts.nil h2 (CL.mapAll it out G as t' fun b hb=>h b (List.mem_cons_of_mem _ hb))
end
section
variable {S:Sig} {k:Nat} {f:Fi} {Γ Γ₁ Γc:Ctxt} {e l r iter tg elt:Expr} {ifs:List Expr} {d:D} {ds outs:List D} {pos p':Pos} {scope:Scope}
end
end
section
open PySem PySem.W PySem.Calls PyProof.Rows
section
variable {S:Sig} {k:Nat} {f:Fi} {Γ Γ' Γ₁:Ctxt} {G:Gh} {g g':Heap} {W:Addr→Prop} {env:Env} {s s':Shared} {P:Ctxt→Gh→Prop} {pos:Pos} {ds:List D} {sts:List Stmt} {d:D} {j:Nat} {r:GRes}
end
theorem lenS {α:Type} {P:List α→Prop} {n:Nat} (h:∀ a (as:List α),as.length = n→P (a :: as)) (vs:List α) (e:vs.length = n + 1):P vs:=by
  cases vs with
  | nil=>exact nomatch e
  | cons a as=>exact h a as (Nat.succ.inj e)
theorem len0 {α:Type} {P:List α→Prop} (h:P []) (vs:List α) (e:vs.length = 0):P vs:=List.eq_nil_of_length_eq_zero e ▸ h
end
section
open PySem PySem.W PySem.Calls PyProof.Rows
noncomputable def askC:Code:=.builtin "gc.ask" ⟨[rawInt 13],[]⟩
noncomputable def loudC:Code:=.builtin "lifetime.ask" ⟨[rawInt 13],[]⟩
open Classical in
noncomputable def denX (c:Code):Sem Fin:=if c = askC then ret (.bool false) else denote table c
theorem denX_of {c:Code} (h:c ≠ askC):denX c = denote table c:=if_neg h
theorem denX_ask:denX askC = ret (.bool false):=if_pos rfl
theorem entry_ask:entryFor table "gc.ask" = some Builtin.«gc.ask»:=entryFor_of_tree (by kernel_rfl)
theorem den_builtin (id:String) (args:Args):denote table (.builtin id args) = match entryFor table id with | some b=>b args | none=>unsupported ((withoutEnding? id "#data").getD id):=rfl
theorem den_ask:denote table askC = .pure (.again loudC):=(den_builtin _ _).trans (by rw [entry_ask];rfl)
theorem loud:Code.quiet loudC = false:=by decide +kernel
noncomputable def mX (prog:Program) (w:World):Model:=⟨denX,prog,w⟩
section
variable {prog:Program} {w:World}
theorem not_ask {c:Code} {Γ:Ctx} {p:Pos} {s s':Shared} {e:End} (h:Runs (model prog w) Γ p ((model prog w).den c) [] s e s'):c ≠ askC:=by
  rintro rfl
  rw [show (model prog w).den askC = .pure (.again loudC) from den_ask] at h
  cases h with
  | again hq _=>rw [loud] at hq;cases hq
theorem denM {c:Code} {Γ:Ctx} {p:Pos} {s s':Shared} {e:End} (h:Runs (model prog w) Γ p ((model prog w).den c) [] s e s') (h':Runs (mX prog w) Γ p ((model prog w).den c) [] s e s'):Runs (mX prog w) Γ p ((mX prog w).den c) [] s e s':=by
  rw [show (mX prog w).den c = (model prog w).den c from denX_of (not_ask h)];exact h'
theorem runsX {Γ:Ctx} {p:Pos} {t:Sem Fin} {fs:List Frame} {s s':Shared} {e:End} (h:Runs (model prog w) Γ p t fs s e s'):Runs (mX prog w) Γ p t fs s e s':=by
  induction h with
  | done=>exact .done
  | raise=>exact .raise
  | again hq h ih=>exact .again hq (denM h ih)
  | rule h ih=>exact .rule ih
  | «at» h ih=>exact .at ih
  | load e h ih=>exact .load e ih
  | update e h ih=>exact .update e ih
  | loadIfAlive h ih=>exact .loadIfAlive ih
  | point h ih=>exact .point ih
  | alloc h ih=>exact .alloc ih
  | fresh h ih=>exact .fresh ih
  | ask h ih=>exact .ask ih
  | choose n h ih=>exact .choose n ih
  | os h ih=>exact .os ih
  | handled h ih=>exact .handled ih
  | genState e h ih=>exact .genState e ih
  | stack h ih=>exact .stack ih
  | thread h ih=>exact .thread ih
  | newGen h ih=>exact .newGen ih
  | call h1 h2 ih1 ih2=>exact .call (denM h1 ih1) ih2
  | callSusp h1 ih1=>exact .callSusp (denM h1 ih1)
  | yield=>exact .yield
  | resumeFresh e h1 q h2 ih1 ih2=>exact .resumeFresh e (denM h1 ih1) q ih2
  | resumeSuspended e h1 q h2 ih1 ih2=>exact .resumeSuspended e ih1 q ih2
  | resumeJustStarted e v h ih=>exact .resumeJustStarted e v ih
  | resumeThrowFresh e h ih=>exact .resumeThrowFresh e ih
  | resumeRunning e h ih=>exact .resumeRunning e ih
  | resumeFinished e h ih=>exact .resumeFinished e ih
  | segRet h1 h2 ih1 ih2=>exact .segRet ih1 ih2
  | segGen h1 h2 ih1 ih2=>exact .segGen ih1 ih2
  | segSuspOut e h ih=>exact .segSuspOut e ih
  | segSuspGen e h1 q h2 ih1 ih2=>exact .segSuspGen e ih1 q ih2
theorem returnsX {Γ:Ctx} {p:Pos} {s s':Shared} {r:Result} (h:Returns (model prog w) Γ p s r s'):Returns (mX prog w) Γ p s r s':=denM h (runsX h)
theorem wakesX {Γ:Ctx} {p:Pos} {g:Nat} {r:Resume} {s s':Shared} {res:GenResult} (h:Wakes (model prog w) Γ p g r s res s'):Wakes (mX prog w) Γ p g r s res s':=by
  unfold Wakes at h ⊢
  cases hg:s.gens[g]? with
  | none=>rw [hg] at h;exact h
  | some x =>
    rw [hg] at h
    cases x with
    | fresh c =>
      cases r with
      | send v =>
        cases v with
        | none=>obtain ⟨e,s₁,h1,h2⟩:=h;exact ⟨e,s₁,denM h1 (runsX h1),h2⟩
        | _=>exact h
      | throw x=>exact h
    | suspended k l c p fs cl=>obtain ⟨e,s₁,h1,h2⟩:=h;exact ⟨e,s₁,runsX h1,h2⟩
    | running=>exact h
    | finished=>exact h
theorem wpX {α:Type} {Γ:Ctx} {Q:α→Pos→Shared→Prop} {E:Value→Pos→Shared→Prop} (t:Sem α):∀ (p:Pos) (s:Shared),Sem.wp (model prog w) Γ t Q E p s→Sem.wp (mX prog w) Γ t Q E p s:=by
  induction t with
  | pure a=>exact fun p s h=>h
  | raise e=>exact fun p s h=>h
  | unsupported w=>exact fun p s h=>h
  | finish e=>exact fun p s h=>h
  | register a k ih=>exact fun p s h=>h
  | yield v g l k ih=>exact fun p s h=>h
  | fork c k ih=>exact fun p s h=>h
  | await a t b l k ih=>exact fun p s h=>h
  | rule t k ih=>exact fun p s h=>ih () p s h
  | «at» q k ih=>exact fun p s h=>ih () q s h
  | load a q k ih=>exact fun p s h=>match h with | ⟨o,e,h⟩=>⟨o,e,ih o p s h⟩
  | update a q f k ih=>exact fun p s h=>⟨h.1,ih () p _ h.2⟩
  | alloc o k ih=>exact fun p s h=>ih _ p _ h
  | loadIfAlive a k ih=>exact fun p s h=>ih _ p s h
  | point l k ih=>exact fun p s h=>ih () p s h
  | fresh k ih=>exact fun p s h=>ih _ p _ h
  | ask k ih=>exact fun p s h=>ih _ p s h
  | choose c n k ih=>exact fun p s h=>⟨h.1,ih _ p _ h.2⟩
  | os q l k ih=>exact fun p s h=>ih _ p _ h
  | call c hd g l k ih=>exact fun p s h=>match h with | ⟨r,s',h1,h2⟩=>⟨r,s',returnsX h1,ih r p s' h2⟩
  | handled o k ih=>exact fun p s h=>ih _ p s h
  | newGen c k ih=>exact fun p s h=>ih _ p _ h
  | genState g k ih=>exact fun p s h=>match h with | ⟨x,e,h⟩=>⟨x,e,ih _ p s h⟩
  | resume g r l k ih=>exact fun p s h=>match h with | ⟨res,s',h1,h2⟩=>⟨res,s',wakesX h1,ih res p s' h2⟩
  | stack k ih=>exact fun p s h=>ih _ p s h
  | thread k ih=>exact fun p s h=>ih _ p s h
variable {α:Type} {A:Around} {E:Value→Shared→Prop} {s:Shared}
theorem anyX {t:Sem α} {Q:α→Shared→Prop} (h:wpAny (model prog w) A t Q E s):wpAny (mX prog w) A t Q E s:=fun Γ p hΓ=>wpX t p s (h Γ p hΓ)
theorem codeX {c:Code} {R:Result→Shared→Prop} (h:codeAny (model prog w) A c R s):codeAny (mX prog w) A c R s:=fun Γ p hc hΓ=>by
  obtain ⟨r,s',h1,h2⟩:=h Γ p hc hΓ
  exact ⟨r,s',returnsX h1,h2⟩
end
noncomputable def notNext (c:Code):Prop:=∀ a,c ≠ .builtin "callable_iterator.__next__" a
noncomputable def Below1 (Γ:Ctx):Prop:=∀ x ∈ Γ.below,notNext x.1
noncomputable def wpD (K:Code→Prop) {α:Type} (M:Model) (A:Around) (t:Sem α) (Q:α→Shared→Prop) (E:Value→Shared→Prop) (s:Shared):Prop:=∀ Γ p,Γ.In A→K Γ.code→Below1 Γ→Sem.wp M Γ t (fun a _ s'=>Q a s') (fun e _ s'=>E e s') p s
noncomputable abbrev wpC {α:Type} (M:Model) (A:Around) (t:Sem α) (Q:α→Shared→Prop) (E:Value→Shared→Prop) (s:Shared):Prop:=wpD notNext M A t Q E s
noncomputable def codeC (M:Model) (A:Around) (c:Code) (R:Result→Shared→Prop) (s:Shared):Prop:=∀ Γ p,Γ.code = c→Γ.Below A→Below1 Γ→wpCode M Γ R p s
section
variable {α β:Type} {M:Model} {A:Around} {E:Value→Shared→Prop} {s:Shared}
variable {K:Code→Prop}
theorem C.any {t:Sem α} {Q:α→Shared→Prop} (h:wpAny M A t Q E s):wpD K M A t Q E s:=fun Γ p hΓ _ _=>h Γ p hΓ
theorem C.mono {t:Sem α} {Q Q':α→Shared→Prop} {E':Value→Shared→Prop} (h:wpD K M A t Q E s) (hQ:∀ a s,Q a s→Q' a s) (hE:∀ e s,E e s→E' e s):wpD K M A t Q' E' s :=
  fun Γ p hΓ h1 h2=>Sem.wp_mono M Γ t (fun a _ s=>hQ a s) (fun e _ s=>hE e s) p s (h Γ p hΓ h1 h2)
theorem C.bind {m:Sem α} {f:α→Sem β} {Q:β→Shared→Prop} (h:wpD K M A m (fun a s'=>wpD K M A (f a) Q E s') E s):wpD K M A (m >>= f) Q E s:=fun Γ p hΓ h1 h2=>by
  rw [Sem.wp_bind']
  exact Sem.wp_mono M Γ m (fun a p' s' h'=>h' Γ p' hΓ h1 h2) (fun _ _ _ h'=>h') p s (h Γ p hΓ h1 h2)
theorem C.holding {vs:List Value} {m:Sem α} {Q:α→Shared→Prop} (h:wpD K M A m Q E s):wpD K M A (holding vs m) Q E s:=fun Γ p hΓ h1 h2=>by rw [Sem.wp_holding];exact h Γ p hΓ h1 h2
theorem C.keep {vs:List Value} {m:Sem α} {Q:α→Shared→Prop} (h:wpD K M A m Q E s):wpD K M A (m.keep vs) Q E s:=fun Γ p hΓ h1 h2=>by rw [Sem.wp_keep];exact h Γ p hΓ h1 h2
theorem C.attempt {m:Sem α} {Q:Except Value α→Shared→Prop} (h:wpD K M A m (fun a=>Q (.ok a)) (fun e=>Q (.error e)) s):wpD K M A m.attempt Q E s:=fun Γ p hΓ h1 h2=>by rw [Sem.wp_attempt];exact h Γ p hΓ h1 h2
theorem C.onRaise {m:Sem α} {k:Value→Sem Unit} {Q:α→Shared→Prop} (h:wpD K M A m Q (fun _ _=>False) s):wpD K M A (m.onRaise k) Q E s:=fun Γ p hΓ h1 h2=>by
  rw [Sem.wp_onRaise]
  exact Sem.wp_mono M Γ m (fun _ _ _ h'=>h') (fun _ _ _ h'=>h'.elim) p s (h Γ p hΓ h1 h2)
theorem C.stack {f:List (Code × Pos)→Sem α} {Q:α→Shared→Prop} (h:∀ st:List (Code × Pos),(∀ x ∈ st.drop 1,notNext x.1)→wpD K M A (f st) Q E s):wpD K M A (PySem.stack >>= f) Q E s:=fun Γ p hΓ h1 h2=>by
  rw [Sem.wp_bind']
  unfold PySem.stack
  rw [Sem.wp_stack]
  exact h ((Γ.code,p) :: Γ.below) h2 Γ p hΓ h1 h2
theorem below_enter {Γ:Ctx} (h1:notNext Γ.code) (h2:Below1 Γ) (c:Code) (h:Option Value) (p:Pos):Below1 (Γ.enter c h p):=fun x hx=>by
  rcases List.mem_cons.mp hx with rfl | hx
  · exact h1
  · exact h2 x hx
theorem C.runValue {c:Code} {Q:Value→Shared→Prop} (hc:codeC M A c (fun r s'=>match r with | .ok (.ret v)=>Q v s' | .ok _=>False | .error e=>E e s') s):wpC M A (runValue c) Q E s:=fun Γ p hΓ h1 h2=>by
  rw [Sem.wp_runValue];exact hc _ p rfl (hΓ.enter c none p (by intro x;cases x)) (below_enter h1 h2 _ _ _)
theorem C.runOwn {c:Code} {env:Env} {Q:Flow→Shared→Prop} (hc:codeC M A c (fun r s'=>match r with | .ok f=>Q f s' | .error e=>False) s):wpC M A (runOwn c env) Q E s:=by
  unfold PySem.runOwn
  refine C.onRaise fun Γ p hΓ h1 h2=>?_
  rw [Sem.wp_run]
  exact hc _ p rfl (hΓ.enter c none p (by intro x;cases x)) (below_enter h1 h2 _ _ _)
theorem codeC.of_tree {c:Code} {R:Result→Shared→Prop} (hn:notNext c) (h:wpC M (A.under c) (M.den c) (fun fin s'=>match fin with | .done f=>R (.ok f) s' | .again c'=>c'.quiet = true∧codeC M A c' R s') (fun e s'=>R (.error e) s') s):codeC M A c R s:=fun Γ p hc hΓ hb=>by
  rw [wpCode_iff_wp,hc]
  refine Sem.wp_mono M Γ _ (fun fin p' s' h'=>?_) (fun _ _ _ h'=>h') p s (h Γ p (hc ▸ hΓ.in) (hc ▸ hn) hb)
  cases fin with
  | done f=>exact h'
  | again c'=>exact ⟨h'.1,h'.2 (Γ.goto c') p' rfl (hΓ.goto c') hb⟩
theorem codeC.any {c:Code} {R:Result→Shared→Prop} (h:codeAny M A c R s):codeC M A c R s:=fun Γ p hc hΓ _=>h Γ p hc hΓ
theorem C.bind2 {γ:Type} {a:Sem α} {b:Sem β} {c:β→Sem γ} {Q:γ→Shared→Prop} (h:wpAny M A (do let _ ← a;b) (fun x s'=>wpC M A (c x) Q E s') E s):wpC M A (do let _ ← a;let x ← b;c x) Q E s:=by
  intro Γ p hΓ h1 h2
  have:=h Γ p hΓ
  simp only [Sem.wp_bind'] at this ⊢
  exact Sem.wp_mono _ _ _ (fun x p' s' h'=>Sem.wp_mono _ _ _ (fun y p'' s'' h''=>h'' Γ p'' hΓ h1 h2) (fun _ _ _ h=>h) _ _ h') (fun _ _ _ h=>h) _ _ this
end
section
variable {prog:Program} {w:World}
theorem step_ask_or (den:Code→Sem Fin) (h:∀ c,c ≠ askC→den c = denote table c) (s:Shared) (t:Thread):step den prog w s t = step (denote table) prog w s t ∨
    ∃ s₁ c p st,step den prog w s t = .go s₁ ⟨den askC,c,p,st⟩∧step (denote table) prog w s t = .go s₁ ⟨denote table askC,c,p,st⟩:=by
  obtain ⟨heap,gens,drawn,toks,os⟩:=s
  obtain ⟨cur,code,pos,stack⟩:=t
  cases cur with
  | pure fin =>
    cases fin with
    | done f=>exact .inl rfl
    | again c =>
      by_cases hc:c = askC
      · subst hc;exact .inr ⟨_,_,_,_,rfl,rfl⟩
      · exact .inl (congrArg (fun d=>Step.go _ ⟨d,_,_,_⟩) (h c hc))
  | call c hd g l k =>
    by_cases hc:c = askC
    · subst hc;exact .inr ⟨_,_,_,_,rfl,rfl⟩
    · exact .inl (congrArg (fun d=>Step.go _ ⟨d,_,_,_⟩) (h c hc))
  | resume g r l k =>
    cases hg:gens[g]? with
    | none=>refine .inl ?_;unfold step;simp only [hg]
    | some x =>
      cases x with
      | fresh c =>
        by_cases hc:c = askC
        · subst hc
          cases r with
          | send v =>
            cases v with
            | none=>exact .inr ⟨⟨heap,gens.setIfInBounds g .running,drawn,toks,os⟩,askC,pos,.gen g k l code pos :: stack,by unfold step;simp only [hg],by unfold step;simp only [hg]⟩
            | _=>refine .inl ?_;unfold step;simp only [hg]
          | throw x=>refine .inl ?_;unfold step;simp only [hg]
        · refine .inl ?_
          unfold step;simp only [hg,h c hc]
      | _=>refine .inl ?_;unfold step;simp only [hg]
  | _=>exact .inl rfl
theorem ha0 {P:Params} {others:List Value} {s:Shared} {t:Thread} (hw:s.watching = false):askTurn P others s t [rawInt 13] = (s,{ t with cur:=ret (.bool false) }):=by
  have hc:(!s.heap.life.gcEnabled || s.heap.life.thresholds.head? == some 0 || s.heap.life.collecting || !s.watching) = true:=by rw [hw];exact Bool.or_true _
  exact if_pos hc
theorem hl0 {s:Shared} {c:Code} {p:Pos} {st:List Frame} (hw:s.watching = false) (h2:s.heap.life.counting = false) (others:List Value):lifeStep (denote table) prog w others s ⟨.pure (.again loudC),c,p,st⟩ = .go s ⟨ret (.bool false),c,p,st⟩:=by
    have hs:Thread.special ⟨.pure (.again loudC),c,p,st⟩ = true:=by
      unfold Thread.special
      rw [show Thread.atCollectorCode ⟨.pure (.again loudC),c,p,st⟩ = true by show ("lifetime.ask":String).startsWith "lifetime." = true;decide +kernel]
      rfl
    have hq:collectorTurn? w.params others s ⟨.pure (.again loudC),c,p,st⟩ = some (s,⟨ret (.bool false),c,p,st⟩):=congrArg some (ha0 hw)
    refine (if_pos hs).trans ?_
    rw [hq]
    show Step.go (if s.heap.life.counting && !((13:Int) == Ask.collectorsHourMatters) then s.recounted ⟨ret (.bool false),c,p,st⟩ others else s) ⟨ret (.bool false),c,p,st⟩ = _
    rw [h2];rfl
theorem sched_loud {s:Shared} (hr:s.asleep) (c:Code) (p:Pos) (st:List Frame):sstep (denote table) prog w (.single s ⟨.pure (.again loudC),c,p,st⟩) = .go (.single s ⟨ret (.bool false),c,p,st⟩):=by
  obtain ⟨h1,h2⟩:=hr
  have hw:s.watching = false:=by simp [Shared.watching,h1]
  have hm:(Config.single s ⟨.pure (.again loudC),c,p,st⟩).moves w.params.profile = [.run 0]:=by
    simp [Config.moves,Config.single,movesFrom,Thread.moves,Thread.atomic,Thread.rests,Thread.tells]
  have hp:(Config.single s ⟨.pure (.again loudC),c,p,st⟩).pick w = .ok (.run 0,.single s ⟨.pure (.again loudC),c,p,st⟩):=by
    have c1:(Config.single s ⟨.pure (.again loudC),c,p,st⟩).collect? w.params = none:=by
      simp [Config.collect?,Config.single,hw]
    have c2:(Config.single s ⟨.pure (.again loudC),c,p,st⟩).collectable = []:=by
      simp [Config.collectable,Config.single,hw]
    simp only [Config.pick,c1,c2,Config.pickThread,hm]
    cases w.params.lifetimes <;> simp
  have hl:∀ others,lifeStep (denote table) prog w others s ⟨.pure (.again loudC),c,p,st⟩ = .go s ⟨ret (.bool false),c,p,st⟩:=hl0 hw h2
  have hrun:(Config.single s ⟨.pure (.again loudC),c,p,st⟩).run (denote table) prog w 0 = .go (.single s ⟨ret (.bool false),c,p,st⟩):=by
    unfold Config.run Config.single
    have h0:=hl []
    simp only [loudC] at h0
    simp [others_single,Shared.entering,Thread.finalizes,loudC]
    rw [h0]
  unfold sstep
  rw [hp]
  exact hrun
theorem sched_of {n:Nat}:∀ {s:Shared} {t:Thread} {o:Outcome} {s':Shared},s.asleep→runN denX prog w n s t = .halted o s'→(∀ k s₁ t₁,runN denX prog w k s t = .running s₁ t₁→t₁.calm = true)→o.ends = true →
    ∃ m,schedN (denote table) prog w m (.single s t) = .halted o s':=by
  induction n with
  | zero=>intro s t o s' _ h;cases h
  | succ n ih =>
    intro s t o s' hr h hc ho
    have calm:t.calm = true:=hc 0 s t rfl
    rcases step_ask_or (prog:=prog) (w:=w) denX (fun c=>denX_of) s t with e | ⟨s₁,c,p,st,e1,e2⟩
    · rcases sstep_single (denote table) prog w s t calm hr with q | q
      · cases hs:step denX prog w s t with
        | go s₂ t₂ =>
          have hn:runN denX prog w n s₂ t₂ = .halted o s':=by simp only [runN,hs] at h;exact h
          obtain ⟨m,hm⟩:=ih (s:=s₂) (t:=t₂) (by simp only [Shared.asleep,step_life denX prog w s s₂ t t₂ hs];exact hr) hn (fun k s₃ t₃ hk=>hc (k + 1) s₃ t₃ (by simp only [runN,hs];exact hk)) ho
          exact ⟨m + 1,by simp only [schedN,q,← e,hs];exact hm⟩
        | halt o₂ s₂ =>
          simp only [runN,hs] at h
          injection h with h1 h2
          subst h1 h2
          exact ⟨1,by simp only [schedN,q,← e,hs];rfl⟩
      · rw [← e] at q
        simp only [runN,q] at h
        injection h with h1 _
        subst h1;exact absurd ho (by simp [Outcome.ends])
    · have hr₁:s₁.asleep:=by simp only [Shared.asleep,step_life denX prog w s s₁ t _ e1];exact hr
      have hn:runN denX prog w n s₁ ⟨ret (.bool false),c,p,st⟩ = .halted o s':=by simp only [runN,e1,denX_ask] at h;exact h
      obtain ⟨m,hm⟩:=ih hr₁ hn (fun k s₃ t₃ hk=>hc (k + 1) s₃ t₃ (by simp only [runN,e1,denX_ask];exact hk)) ho
      have q:sstep (denote table) prog w (.single s t) = .go (.single s₁ ⟨denote table askC,c,p,st⟩):=by
        rcases sstep_single (denote table) prog w s t calm hr with q | q
        · rw [q,e2];rfl
        · rw [e2] at q;cases q
      rw [den_ask] at q
      refine ⟨m + 2,?_⟩
      show (match sstep (denote table) prog w (.single s t) with | .go c'=>schedN (denote table) prog w (m + 1) c' | .halt o s=>.halted o s) = _
      rw [q]
      show (match sstep (denote table) prog w (.single s₁ ⟨.pure (.again loudC),c,p,st⟩) with | .go c'=>schedN (denote table) prog w m c' | .halt o s=>.halted o s) = _
      rw [sched_loud hr₁]
      exact hm
theorem ends_X {t:Sem Fin} {s:Shared} {R:Result→Shared→Prop} (hreg:s.asleep)
    (h:wpC (mX prog w) callerA t (fun fin s'=>∃ f,fin = .done f∧(R (.ok f) s'∧leftWithCleanup s'.gens = false)) (fun e s'=>R (.error e) s'∧leftWithCleanup s'.gens = false) s) :
    ∃ n r s' s'',schedN (denote table) prog w n (.single s ⟨t,.builtin "claim.caller" {},default,[]⟩) = .halted (outcomeOf r) s'∧s'.heap.life = s.heap.life∧s'.forget = s''.forget∧R r s'':=by
  obtain ⟨n,r,s₁,hn,hR⟩:=(wp_iff_halts (M:=mX prog w) t R default s).mp (Sem.wp_mono _ _ t (fun fin p' s' h'=>by obtain ⟨f,rfl,hf⟩:=h';exact hf) (fun _ _ _ h'=>h') default s
    (h ⟨.builtin "claim.caller" {},none,none,[],none⟩ default caller_in (fun a q=>by injection q with q _;exact absurd q (by decide)) fun _ hx=>nomatch hx))
  obtain ⟨s₂,h1,h2,h3⟩:=runNI_real denX prog w hn (outcomeOf_ends r)
  obtain ⟨m,hm⟩:=sched_of hreg h1 h3 (outcomeOf_ends r)
  exact ⟨m,r,s₂,s₁,hm,runN_life denX prog w h1,h2,hR⟩
end
theorem callFromX {c:ClaimW} {tree:List Value→Sem PySem.Fin} {w:World} {s:Shared} {free:Addr→Prop} {gens:Prop} {kept:Heap→Prop} (hz:s.asleep) (hgens:s.gens = #[])
    (hspec:∀ args,c.pre args = true→WData.layableAll args = true→∀ ord:List DictEntry→List DictEntry,(∀ l,(ord l).Perm l) →
      ∃ vs s₁,layAllW c.records (classAt s.heap) w.params ord args s = some (vs,s₁) ∧
        wpC (mX c.prog w) callerA (tree vs) (fun fin s'=>∃ f,fin = .done f∧(c.Ends s args vs s₁ (.ok f) s'∧s'.os = s.os∧AllBare s'.gens∧kept s'.heap))
          (fun e s'=>c.Ends s args vs s₁ (.error e) s'∧s'.os = s.os∧AllBare s'.gens∧kept s'.heap) s₁) :
    c.CallFrom (fun vs=>⟨tree vs,.builtin "claim.caller" {},default,[]⟩) w free gens kept s:=by
  intro args hpre hlay ord hord
  obtain ⟨vs,s₁,hlaid,hcode⟩:=hspec args hpre hlay ord hord
  have hal:=layAllW_rest _ _ _ hlaid
  obtain ⟨m,r,s',s'',hm,hlife,hfo,hcase,hos,hkp⟩:=ends_X (R:=fun r s'=>c.Ends s args vs s₁ r s'∧s'.os = s.os∧kept s'.heap) (Shared.asleep_of_life hal.2.2.2 hz)
    (C.mono hcode (fun fin s' ⟨f,e,h1,h2,h3,h4⟩=>⟨f,e,⟨h1,h2,h4⟩,leftWithCleanup_false_of_bare h3⟩) fun e s' ⟨h1,h2,h3,h4⟩=>⟨⟨h1,h2,h4⟩,leftWithCleanup_false_of_bare h3⟩)
  obtain ⟨eh,_,_,eo,_⟩:=Shared.forget_eq hfo
  have hcase:=hcase.congr eh
  rw [← eh] at hkp
  rw [← eo] at hos
  refine ⟨vs,s₁,hlaid,m,_,s',hm,?_,fun _ i x hx=>(by rw [hgens] at hx;simp at hx),hkp,by rw [hlife.trans hal.2.2.2],Shared.rest_eq hos⟩
  rcases hcase with ⟨v,rfl,d1,d2,d3,d4,d5⟩ | ⟨e,ob,cls,rfl,d1,d2,d3,d4,d5⟩
  · exact .inl ⟨v,rfl,d1,d2,d3,fun b o y _=>d4 b o y,d5⟩
  · exact .inr ⟨e,ob,cls,rfl,d1,d2,d3,d4,fun b o y _=>d5 b o y⟩
noncomputable abbrev WalkX' (q:Program) (loose:List Str) (XP:(Str→Option Value)→Heap→Prop) (YP:World→Heap→Prop) (r:RowW) (d:DefRec) (kwd:List (Str × Expr)):Prop :=
  ∀ (w:World) (s₀ s₁:Shared) (mg mb:Str→Option Value),Ground q loose r.records XP w s₀ mg mb s₁.heap→YP w s₁.heap→∀ (a:Addr) (o:Obj) (pm cd doc dV kV:Value),s₁.heap.get? a = some o →
    o.data = .func { docDef d.name d.params d.body d.scope pm cd doc with defaults:=dV,kwdefaults:=kV }→s₁.heap.CodeRec cd d.name→Dflts mg s₁.heap d.params kwd dV kV→mg d.name = some (.ref a)→s₁.gens = #[] →
    ∀ (args:List WData) (vals:List Value) (as:List Addr),r.claim.pre args = true→WData.layableAll args = true→ReadsAllW r.records (classAt s₀.heap) s₁.heap vals args as→WellAll w.params s₁.heap vals args→(∀ a ∈ as,(a == sysModules) = false) →
      wpC (mX r.prog w) callerA (PySem.call (.ref a) vals) (fun v s'=>GoodWG r.claim (classAt s₀.heap) (ExcName.means s₀.heap) args s₁ (.ok (.ret v)) s')
        (fun e s'=>GoodWG r.claim (classAt s₀.heap) (ExcName.means s₀.heap) args s₁ (.error e) s') s₁
theorem holds_openX {r:OpenRow} {q:Program} {loose:List Str} {Xt:Shared→Bool} {XP:(Str→Option Value)→Heap→Prop} {α:Type} {Yf:Shared→α} {Ya:World→α} {YP:World→Heap→Prop} {d:DefRec} {kwd:List (Str × Expr)} {N:Nat}
    (left:LeftO r.prog q loose Xt Yf Ya N) (hY:∀ w s,Yf s = Ya w→YP w s.heap) (hYk:∀ w h h',YP w h→(∀ b o,h.get? b = some o→h'.get? b = some o)→YP w h')
    (hX:∀ s,Xt s = true→XP (s.heap.nsMap mainGlobals) s.heap) (hXk:∀ mg h h',XP mg h→(∀ b o,h.get? b = some o→h'.get? b = some o)→XP mg h')
    (hdef:defOf q r.name = some (d,kwd)) (hp:r.prog.theDef r.name = some (d.params,d.body,d.scope)) (hk:kwWritten? d.params.kwonlyargs d.params.kw_defaults = some kwd) (hRf:∀ s,Xt s = true→RecFacts r.records s.heap) (hwr:(!r.writes || r.records.isEmpty) = true)
    (k1:r.wellSaid = true) (ok:(chainsOk q && opensWell r.prog && (frees r.toRowW && r.within.isEmpty)) = true) (hb:r.prog.bare) (hw:r.toRowW.promised)
    (call:WalkX' q loose XP YP r.toRowW d kwd):r.Holds:=by
  obtain ⟨⟨hch,o1⟩,k5,k6⟩:(chainsOk q = true∧opensWell r.prog = true)∧frees r.toRowW = true∧r.within.isEmpty = true:=by
    rw [Bool.and_eq_true,Bool.and_eq_true,Bool.and_eq_true] at ok;exact ok
  obtain ⟨hsame,hu,ha,hap,hm⟩:=frees_parts k5
  refine ⟨k1,hw,⟨hb,o1,by show r.toRowW.makers.map _ = [];rw [hm];rfl⟩,hw.witness,fun w=>⟨(left.behind hX hch w).1,fun s' hs'=>?_⟩⟩
  obtain ⟨s₀,hf,hg0,s,hT,hz,hgens,hg,G00,y⟩:=(left.behind (XP:=fun mg h=>XP mg h∧RecFacts r.records h) (fun s hs=>⟨hX s hs,hRf s hs⟩) hch w).2 s' hs'
  have G0:Ground q loose [] XP w s (s.heap.nsMap mainGlobals) (s.heap.nsMap builtinsNs) s.heap:={ G00 with X:=G00.X.1 }
  have RF:=G00.X.2
  have hgens:s.gens = #[]:=Array.eq_empty_of_size_eq_zero (beq_iff_eq.mp hgens)
  refine ⟨s₀,hf,hg0,s,hT,fun n hn=>?_,RF.1,RF.2.1,callFromX (c:=r.toRowW.claim) (tree:=fun vs=>do match ← nsGet mainNs r.name with
      | some f=>do ret (← PySem.call f vs)
      | none=>unsupported "claim.caller:no-such-global") hz hgens fun args hpre hlay ord hord=>?_⟩
  · obtain rfl:n = r.name:=by split at hn <;> simp_all
    exact pinned_of_view hg G0 hdef hp hk
  have G:Ground q loose r.records XP w s _ _ s.heap:=RF.ground G0
  obtain ⟨⟨vs,s₁⟩,hlaid⟩:=Option.isSome_iff_exists.mp (layAllW_isSome (P:=w.params) (ord:=ord) G.has args r.args s (pre_splitW hpre).1)
  have keeps:=layAllW_keeps _ _ _ hlaid
  have hal:=layAllW_rest _ _ _ hlaid
  obtain ⟨as,hrd,hin,hold⟩:=reads_layAllW hord _ _ _ hlaid hlay s₁.heap (fun _ _ e=>e)
  have L:Laid r.records w s s₁ args vs as:=⟨⟨ord,hord,hlaid⟩,hrd,hin,hold,keeps,hal.1.trans hgens,hal.2.2.1⟩
  have G₁:=G.keeps hXk keeps
  obtain ⟨a,o,pm,cd,doc,dV,kV,h1,h2,h3,h4,h5⟩:=G₁.fn hdef
  have h:=call w s s₁ _ _ G₁ (hYk _ _ _ (hY w s y) keeps) a o pm cd doc dV kV h2 h3 h4 h5 (defOf_name hdef ▸ h1) L.gens args vs as hpre hlay L.reads L.well (L.low G.low)
  have hi:=ident_freeW hu ha hap
  have hwi:r.toRowW.claim.within = []:=List.isEmpty_iff.mp k6
  exact ⟨vs,s₁,hlaid,C.bind (C.any (wpAny_nsGet G₁.T.g (by
    rw [h1]
    exact C.bind (C.mono h (fun v s' g=>C.any (wpAny_pure ⟨_,rfl,have z:=g.laid (c:=r.toRowW.claim) hsame hwi hi L;⟨z.1,z.2.1,z.2.2,fun q=>⟨namesKept_of hT hg r.keeps keeps g.2.1.old,noTable hwr q⟩⟩⟩))
      fun e s' g=>have z:=g.laid (c:=r.toRowW.claim) hsame hwi hi L;⟨z.1,z.2.1,z.2.2,fun q=>⟨namesKept_of hT hg r.keeps keeps g.2.1.old,noTable hwr q⟩⟩))))⟩
end
section
open PySem PySem.W PySem.Calls PyProof.Rows
noncomputable abbrev Sig.X (S:Sig):Model:=mX S.prog S.w
noncomputable def XV (S:Sig) (k:Nat) (f:Fi) (Γ:Ctxt) (e:Expr) (d:D):Prop :=
  ∀ (A:Around) (g:Heap) (W:Addr→Prop) (env:Env) (s:Shared) (Q:Value→Shared→Prop) (E:Value→Shared→Prop),Room S k A→St S f Γ g W env s →
    (∀ v g' s',Tr S (Nw s) g s g' s'→Rd g' v d→Q v s')→wpC S.X A (eval e env) Q E s
noncomputable def XT (S:Sig) (k:Nat) (f:Fi) (Γ:Ctxt) (e:Expr) (b:Bool):Prop :=
  ∀ (A:Around) (g:Heap) (W:Addr→Prop) (env:Env) (s:Shared) (Q:Bool→Shared→Prop) (E:Value→Shared→Prop),Room S k A→St S f Γ g W env s →
    (∀ g' s',Tr S (Nw s) g s g' s'→Q b s')→wpC S.X A (isTrue e env (eval e env)) Q E s
noncomputable def XX (S:Sig) (k:Nat) (f:Fi) (Γ:Ctxt) (st:Stmt) (r:Res):Prop :=
  ∀ (A:Around) (g:Heap) (W:Addr→Prop) (env:Env) (s:Shared) (Q:Flow→Shared→Prop) (E:Value→Shared→Prop),Room S k A→St S f Γ g W env s →
    (∀ fl g' s',Tr S W g s g' s'→Post S f r g' W env fl s'→Q fl s')→wpC S.X A (exec st env) Q E s
noncomputable def XXs (S:Sig) (k:Nat) (f:Fi) (Γ:Ctxt) (sts:List Stmt) (r:Res):Prop :=
  ∀ (A:Around) (g:Heap) (W:Addr→Prop) (env:Env) (s:Shared) (Q:Flow→Shared→Prop) (E:Value→Shared→Prop),Room S k A→St S f Γ g W env s →
    (∀ fl g' s',Tr S W g s g' s'→Post S f r g' W env fl s'→Q fl s')→wpC S.X A (execs sts env) Q E s
noncomputable def XOps (S:Sig) (k:Nat) (t:List Value→Sem Value) (ds:List D) (d:D):Prop :=
  ∀ (A:Around) (g:Heap) (s:Shared) (vs:List Value) (Q:Value→Shared→Prop) (E:Value→Shared→Prop),At S k A g s→Rds g vs ds →
    (∀ v g' s',Tr S (Nw s) g s g' s'→Rd g' v d→Q v s')→wpC S.X A (t vs) Q E s
section
variable {S:Sig} {k:Nat} {f:Fi} {Γ Γ' Γ₁ Γ₂:Ctxt} {e l r:Expr} {es:List Expr} {d d₁ d₂:D} {ds:List D} {pos p':Pos} {st:Stmt} {sts:List Stmt} {res:Res} {tg:Expr}
theorem C.anyX {α:Type} {A:Around} {E:Value→Shared→Prop} {s:Shared} {t:Sem α} {Q:α→Shared→Prop} (h:wpAny S.M A t Q E s):wpC S.X A t Q E s:=C.any (Mine.anyX h)
theorem XX.of (h:EX S k f Γ st res):XX S k f Γ st res:=fun A g W env s Q E R st hQ=>C.anyX (h A g W env s Q E R st hQ)
theorem XXs.of (h:EXs S k f Γ sts res):XXs S k f Γ sts res:=fun A g W env s Q E R st hQ=>C.anyX (h A g W env s Q E R st hQ)
theorem XXs.cons (h1:XX S k f Γ st (.next Γ₁)) (h2:XXs S k f Γ₁ sts res):XXs S k f Γ (st :: sts) res:=by
  intro A g W env s Q E R st h
  rw [execs_cons]
  refine C.bind (h1 A g W env s _ E R st fun fl g1 s1 t1 p1=>?_)
  (refine e0_2 (p1) (fun q1q st1=>?_);subst q1q)
  exact h2 A g1 W env s1 Q E R st1 fun fl g2 s2 t2 p2=>h fl g2 s2 (t1.trans t2 (fun _ q=>q)) p2
theorem XX.ifF {c:Expr} {body:List Stmt} (h1:XT S k f Γ c false):XX S k f Γ (.If c body [] pos) (.next Γ):=by
  intro A g W env s Q E R st hQ
  rw [exec_If]
  refine C.bind (C.any (wpAny_standAt (C.bind (h1 A g W env s _ E R st fun g1 s1 t1=>?_))))
  rw [if_neg Bool.false_ne_true]
  exact C.any (wpAny_execs_nil (hQ _ g1 s1 (t1.weak st.new) ⟨rfl,st.move t1⟩))
theorem XT.cmp {op:CmpOp} {b:Bool} (h1:XV S k f Γ l d₁) (h2:EV S k f Γ r d₂) (h3:Op2 S k (compareOp op) d₁ d₂ (.bool b)) (hm:behindInMarks op r = false:=by rfl):XT S k f Γ (.Compare l [op] [r] pos) b:=by
  intro A g W env s Q E R st h
  rw [isTrue_Compare1,markedBehindIn_of_false hm]
  refine C.bind (h1 A g W env s _ E R st fun v1 g1 s1 t1 r1=>C.anyX ?_)
  refine wpAny_bind (wpAny_holding (h2 A g1 W env s1 _ E R (st.move t1) fun v2 g2 s2 t2 r2=>?_))
  refine wpAny_bind (wpAny_standAt (wpAny_bind (wpAny_operateT (h3 A g2 s2 v1 v2 _ E (t2.at R) (r1.mono t2.mono) r2 fun v g3 s3 t3 r3=>?_))))
  exact wpAny_holding ((OpT.bool (k:=k)) A g3 s3 v Q E (t3.at R) r3 fun g4 s4 t4=>h g4 s4 (((t1.then t2).then t3).then t4))
theorem XX.assign {t:Expr} (h1:XV S k f Γ e d) (h2:AS S k f Γ t d Γ₁) (hs:∀ env,swapsWithSole [t] e pos.line env = pure false:=by intro _;rfl) (hw:∀ env,swappedStores [t] e env = pure none:=by intro _;rfl)
    (ha:∀ env v,assignAll v ((assignEach [t] env).map (·.2)) = assign t env v:=by intro _ _;rfl):XX S k f Γ (.Assign [t] e pos) (.next Γ₁):=by
  intro A g W env s Q E R st hQ
  rw [exec_Assign_arm,hs]
  refine C.bind (C.any (wpAny_standAt (C.bind (C.any (wpAny_pure ?_)))))
  rw [if_neg Bool.false_ne_true]
  refine C.bind (h1 A g W env s _ E R st fun v g1 s1 t1 r1=>C.anyX ?_)
  rw [hw]
  refine wpAny_bind (wpAny_pure ?_)
  show wpAny S.M A (do assignAll v ((assignEach [t] env).map (·.2));pure .next) Q E s1
  rw [ha]
  exact wpAny_bind (h2 A g1 W env s1 v _ E R (st.move t1) r1 fun g2 s2 t2 st2=>wpAny_pure (hQ _ g2 s2 ((t1.weak st.new).trans t2 (fun _ q=>q)) ⟨rfl,st2⟩))
theorem XV.call {fn:Expr} {a:Addr} (hn:∀ env,eval (.Call fn es [] pos) env = (do callWith pos (← eval fn env) [] (backTo pos (starEach es env)) (backToKw pos (keywordEach [] env)))) (h1:EV S k f Γ fn (.raw (.ref a))) (hc:keepIn S.K (.ref a) = true) (h2:EVs S k f Γ es ds) (h3:XOps S k (fun vs=>PySem.call (.ref a) vs) ds d) :
    XV S k f Γ (.Call fn es [] pos) d:=by
  intro A g W env s Q E R st hQ
  rw [hn]
  refine C.bind (C.anyX (h1 A g W env s _ E R st fun v g1 s1 t1 r1=>?_))
  cases r1 using Rd.casesRaw
  unfold callWith
  refine C.bind (C.holding (C.anyX (evalArgs_any (h2.plain _ _) (h2.run pos A g1 W env s1 _ E R (st.move t1) fun vs g2 s2 t2 r2=>?_))))
  have K2:=t2.base.kin.keeps t2.keep
  have cal:wpC S.X A (PySem.call (.ref a) vs) Q E s2:=h3 A g2 s2 vs Q E (t2.at R) r2 fun v' g3 s3 t3 r3=>hQ v' g3 s3 ((t1.then t2).then t3) r3
  have tail:∀ {t:Sem Value},wpC S.X A t Q E s2→wpC S.X A (t >>= fun r=>holding [r] point >>= fun _=>pure r) Q E s2 :=
    fun ht=>C.bind (C.mono ht (fun r s₂ hr=>C.any (wpAny_bind (wpAny_holding (wpAny_point (wpAny_pure hr))))) fun _ _ x=>x)
  have hst:((backTo pos (starEach es env)).any (·.1) || (backToKw pos (keywordEach [] env)).any (·.1.isNone)) = false:=by show ((backTo pos (starEach es env)).any (·.1) || false) = false;rw [h2.plain];rfl
  refine C.bind (C.any (wpAny_standAt ?_))
  rw [hst]
  refine e1_2 (looks_keep (M:=S.X) hc K2) fun kp hk L=>?_
  refine C.bind (C.any (L.here ?_))
  have marked (mk:Value):wpC S.X A (callMarked mk (.ref a) vs []) Q E s2:=by unfold callMarked;exact C.keep cal
  rcases hk with rfl | rfl
  · dsimp only
    split
    · exact tail cal
    · exact tail (marked _)
  · exact tail cal
noncomputable def YlX (S:Sig) (k:Nat) (F:Addr→Prop) (I:Addr) (tg:Expr):List D→Heap→Shared→Prop
  | [],g,s=>∀ (A:Around) (g':Heap) (s':Shared) (Q:Option Value→Shared→Prop) (E:Value→Shared→Prop),At S k A g' s'→Keep g g'→Same F s s'→(∀ a,F a→g'.get? a = none) →
      (∀ g₁ s₁,Tr S (fun a=>Nw s' a ∨ F a) g' s' g₁ s₁→Q none s₁)→wpC S.X A (pyNext (.ref I)) Q E s'
  | d :: ds,g,s=>∀ (A:Around) (g':Heap) (s':Shared) (Q:Option Value→Shared→Prop) (E:Value→Shared→Prop),At S k A g' s'→Keep g g'→Same F s s'→(∀ a,F a→g'.get? a = none) →
      (∀ v g₁ s₁,Tr S (fun a=>Nw s' a ∨ F a) g' s' g₁ s₁→(∀ a,F a→g₁.get? a = none) →
        (∀ (f:Fi) (Γ Γ':Ctxt) (W:Addr→Prop) (env:Env) (Q':Unit→Shared→Prop) (E':Value→Shared→Prop),AS S k f Γ tg d Γ'→St S f Γ g₁ W env s₁→(∀ a,F a→¬ W a)→(∀ x c,env.cells.lookup x = some c→¬ F c) →
          (∀ g₂ s₂,Tr S (fun a=>W a ∨ F a) g₁ s₁ g₂ s₂→(∀ a,F a→g₂.get? a = none)→(∀ a o,F a→s₂.heap.get? a = some o→¬ NsObj o)→St S f Γ' g₂ W env s₂→YlX S k F I tg ds g₂ s₂→Q' () s₂)→wpAny S.M A (do letOwnedTupleGo tg (.ref I) v;assign tg env v) Q' E' s₁) →
        Q (some v) s₁)→wpC S.X A (pyNext (.ref I)) Q E s'
theorem YlX.mono {F:Addr→Prop} {I:Addr} {g g':Heap} {s s':Shared} (y:YlX S k F I tg ds g s) (hk:Keep g g') (hs:Same F s s'):YlX S k F I tg ds g' s':=by
  cases ds with
  | nil=>exact fun A g₁ s₁ Q E a k₁ h₁=>y A g₁ s₁ Q E a (hk.trans k₁) (hs.trans h₁)
  | cons d ds=>exact fun A g₁ s₁ Q E a k₁ h₁=>y A g₁ s₁ Q E a (hk.trans k₁) (hs.trans h₁)
theorem YlX.of {F:Addr→Prop} {I:Addr}:∀ (ds:List D) {g:Heap} {s:Shared},Yl S k F I tg ds g s→YlX S k F I tg ds g s
  | [],_,_,y=>fun A g' s' Q E a k₁ h₁ h₂ hQ=>C.anyX (y A g' s' Q E a k₁ h₁ h₂ hQ)
  | d :: ds,_,_,y=>fun A g' s' Q E a k₁ h₁ h₂ hQ=>C.anyX (y A g' s' Q E a k₁ h₁ h₂ fun v g₁ s₁ t hF K=>hQ v g₁ s₁ t hF fun f Γ Γ' W env Q' E' has st hW hc hQ'=>K f Γ Γ' W env Q' E' has st hW hc fun g₂ s₂ t₂ hF₂ hn st₂ y₂=>hQ' g₂ s₂ t₂ hF₂ hn st₂ (YlX.of ds y₂))
inductive FLX (S:Sig) (k:Nat) (f:Fi) (tg:Expr) (body:List Stmt):Ctxt→List D→Ctxt→Prop where
  | nil {Γ:Ctxt}:FLX S k f tg body Γ [] Γ
  | next {Γ Γ₁ Γ₂ Γ₃:Ctxt} {d:D} {ds:List D}:AS S k f Γ tg d Γ₁→XXs S k f Γ₁ body (.next Γ₂)→FLX S k f tg body Γ₂ ds Γ₃→FLX S k f tg body Γ (d :: ds) Γ₃
theorem codeX_for {A:Around} {it:Value} {body:List Stmt} {env:Env} {R:Result→Shared→Prop} {s:Shared}
    (h:wpC S.X A (forTurn tg it body [] env) (fun fin s'=>match fin with | .done f=>R (.ok f) s' | .again c'=>c'.quiet = true∧codeC S.X A c' R s') (fun _ _=>False) s):codeC S.X A (.forLoop tg it body [] env) R s:=by
  refine codeC.of_tree nofun ?_
  rw [under_for,show S.X.den (.forLoop tg it body [] env) = denote table (.forLoop tg it body [] env) from denX_of nofun]
  exact C.onRaise h
theorem FLX.code {body:List Stmt} {I:Addr} {F:Addr→Prop} (fl:FLX S k f tg body Γ ds Γ'):∀ (A:Around) (g:Heap) (W:Addr→Prop) (env:Env) (s:Shared) (R:Result→Shared→Prop),Room S k A→St S f Γ g W env s→(∀ a,F a→¬ W a)→(∀ x c,env.cells.lookup x = some c→¬ F c)→(∀ a,F a→g.get? a = none)→(∀ a,F a→¬ S.T a) →
    YlX S k F I tg ds g s→(∀ g' s',Tr S (fun a=>W a ∨ F a) g s g' s'→St S f Γ' g' W env s'→R (.ok .next) s')→codeC S.X A (.forLoop tg (.ref I) body [] env) R s:=by
  induction fl with
  | nil =>
    intro A g W env s R Rm st hW hc hg hT y hR
    refine codeX_for ?_
    unfold forTurn
    refine C.bind (C.any (wpAny_standAt (C.bind (C.onRaise ?_))))
    refine y A g s _ _ (st.at Rm) (.refl g) (.refl F s) hg fun g₁ s₁ t₁=>?_
    refine C.any (wpAny_pure ⟨rfl,codeC.any (codeX (codeAny_block (wpAny_execs_nil ?_)))⟩)
    exact hR g₁ s₁ (t₁.weak fun a=>Or.imp (st.new a) id) (st.moveF t₁ hW hc)
  | next has hb _ ih =>
    intro A g W env s R Rm st hW hc hg hT y hR
    refine codeX_for ?_
    unfold forTurn
    refine C.bind (C.any (wpAny_standAt (C.bind (C.onRaise ?_))))
    refine y A g s _ _ (st.at Rm) (.refl g) (.refl F s) hg fun v g₁ s₁ t₁ hg₁ hass=>?_
    dsimp only
    refine C.bind2 (Mine.anyX (hass f _ _ W env _ _ has (st.moveF t₁ hW hc) hW hc fun g₂ s₂ t₂ hg₂ hfr st₂ y₂=>?_))
    refine C.bind (hb A g₂ W env s₂ _ _ Rm st₂ fun fl g₃ s₃ t₃ p₃=>?_)
    (refine e0_2 (p₃) (fun q11q st₃=>?_);subst q11q)
    have sm:Same F s₂ s₃:=t₃.keepF st₂.tabs fun a o h e=>⟨hW a h,fun _ _=>hT a h,hfr a o h e⟩
    refine C.any (wpAny_pure ⟨rfl,ih A g₃ W env s₃ R Rm st₃ hW hc (fun a h=>t₃.none (hg₂ a h) (hW a h)) hT (y₂.mono t₃.mono sm) fun g₄ s₄ t₄ st₄=>?_⟩)
    exact hR g₄ s₄ (((t₁.weak fun a=>Or.imp (st.new a) id).trans t₂ fun _ q=>q).trans t₃ (fun _=>.inl) |>.trans t₄ fun _ q=>q) st₄
noncomputable def GoX (S:Sig) (k:Nat) (f:Fi) (Γ:Ctxt) (iter tg:Expr) (ds:List D):Prop :=
  ∀ (A:Around) (g:Heap) (W:Addr→Prop) (env:Env) (s:Shared) (Q:Value→Shared→Prop) (E:Value→Shared→Prop),Room S k A→St S f Γ g W env s →
    (∀ I F g' s',Tr S (Nw s) g s g' s'→(∀ a,F a→Nw s a∧g'.get? a = none∧a < s'.heap.objs.size)→YlX S k F I tg ds g' s'→Q (.ref I) s')→wpAny S.M A (eval iter env) (fun x s₁=>wpAny S.M A (pyIter x) Q E s₁) E s
theorem GoX.of {iter:Expr} (h1:EV S k f Γ iter d) (h2:It S k d tg ds):GoX S k f Γ iter tg ds:=by
  intro A g W env s Q E R st hQ
  exact h1 A g W env s _ E R st fun v g₁ s₁ t₁ r₁=>h2 A g₁ s₁ v _ E (t₁.at R) r₁ fun I F g₂ s₂ t₂ hF _ y=>hQ I F g₂ s₂ (t₁.then t₂) (fun a h=>⟨Nat.le_trans t₁.size (hF a h).1,(hF a h).2⟩) (YlX.of ds y)
theorem XX.for {iter:Expr} {body:List Stmt} (h1:GoX S k f Γ iter tg ds) (h3:FLX S k f tg body Γ ds Γ') (hs:∀ env x,foldedSetIterable iter env x = pure x:=by intro _ _;rfl):XX S k f Γ (.For tg iter body [] pos) (.next Γ'):=by
  intro A g W env s Q E R st hQ
  rw [exec_For]
  refine C.bind (C.any (wpAny_standAt ?_))
  have go:=h1 A g W env s (fun it s₂=>codeC S.X A (.forLoop tg it body [] env) (fun r s'=>match r with | .ok f=>Q f s' | .error e=>False) s₂) E R st fun I F g₂ s₂ t₂ hF y=>?_
  · refine C.bind (C.anyX (wpAny_mono go (fun x s₁ hx=>?_) fun _ _ x=>x))
    rw [hs]
    refine C.bind (C.any (wpAny_pure (C.bind (C.any (wpAny_standAt ?_)))))
    exact C.bind (C.holding (C.anyX (wpAny_mono hx (fun it s₂ h=>C.runOwn h) fun _ _ x=>x)))
  have st₂:=st.without t₂ fun a h=>⟨(hF a h).1,(hF a h).2.2⟩
  have hc:∀ x c,env.cells.lookup x = some c→¬ F c:=fun x c e h=>absurd (st.clt x c e) (Nat.not_lt.mpr (hF c h).1)
  have hT:∀ a,F a→¬ S.T a:=fun a h=>st.tabs.newT (hF _ h).1
  refine h3.code A g₂ _ env s₂ _ R st₂ (fun a h q=>q.2 h) hc (fun a h=>(hF a h).2.1) hT y fun g₃ s₃ t₃ st₃=>?_
  have inW:∀ a,(W a∧¬ F a) ∨ F a→W a:=fun a q=>q.elim And.left fun h=>st.new a (hF a h).1
  exact hQ _ g₃ s₃ ((t₂.weak st.new).trans t₃ inW) ⟨rfl,st₃.widen fun _=>And.left⟩
theorem codeX_func {A:Around} {body:List Stmt} {env:Env} {R:Result→Shared→Prop} {s:Shared} (h:wpC S.X (A.deeper env) (execs body env) (fun f s'=>R (.ok (.ret (match f with | .ret v=>v | _=>.none))) s') (fun _ _=>False) s):codeC S.X A (.func body env) R s:=by
  refine codeC.of_tree nofun ?_
  rw [show S.X.den (.func body env) = denote table (.func body env) from denX_of nofun]
  show wpC _ (A.deeper env) (do point;match ← (execs body env).onRaise (leaving env) with | .ret v=>ret v | _=>ret .none) _ _ s
  refine C.bind (C.any (wpAny_point (C.bind (C.onRaise (C.mono h (fun f s' h'=>C.any ?_) fun _ _ h'=>h')))))
  cases f <;> exact wpAny_pure h'
theorem Fn.callX {a:Addr} {names:List Str} {body:List Stmt} (F:FnAt S a f names body) {A:Around} {s:Shared} {vs:List Value} {Q:Value→Shared→Prop} {E:Value→Shared→Prop} {R:Shared→Prop} (hvl:vs.length = names.length) (KI:S.K.In s.heap) (hd:A.depth < recursionLimit) (NL:s.heap.NoLimit)
    (hN:∀ {qual:Str} {func:Option Addr} {Q:Env→Shared→Prop} {E:Value→Shared→Prop},(∀ env,env = newEnv f.scope s.heap.objs.size mainGlobals (cellsFrom (s.heap.objs.size + 1) f.scope.names []) qual func f.code none builtinsNs →
      ∀ s',InCallC s env.locals (bindL env.kindOf (names.zip vs) fun _=>none) env.cells (bindC env.kindOf (names.zip vs) fun _=>none) s'→R s'→Q env s')→wpAny S.M A.in1 (newFunctionEnv f.scope mainGlobals [] (names.zip vs) qual func f.code none builtinsNs) Q E s)
    (hb:∀ (env:Env) (s':Shared),NewFrame f names vs s env s'→R s'→Grown s s'→∀ (Q':Flow→Shared→Prop),(∀ v s₂,Q v s₂→Q' (.ret v) s₂)→wpC S.X (A.deeper env) (execs body env) Q' (fun _ _=>False) s'):wpC S.X A (call (.ref a) vs) Q E s:=by
  obtain ⟨oc,od,osl,name,qual,params,dV,kV,doc,pm,an,ct,hlook,hcode,hqual,hbind⟩:=F.1
  obtain ⟨c,ob,ws,tq,hc,hoc,hdc,hq⟩:=codeRec_of KI hcode
  refine C.runValue (codeC.of_tree nofun (C.any ?_))
  rw [show S.X.den (.call (.ref a) ⟨vs,[]⟩) = denote table (.call (.ref a) ⟨vs,[]⟩) from denX_of nofun]
  show wpAny _ A.in1 (callAny (.ref a) ⟨vs,[]⟩) _ _ s
  refine wpAny_bind (wpAny_load (KI _ _ hlook) ?_)
  show wpAny _ A.in1 (callFunction a (fnOf name qual params body f.scope dV kV doc pm an f.code ct) ⟨vs,[]⟩) _ _ s
  unfold callFunction
  rw [show (fnOf name qual params body f.scope dV kV doc pm an f.code ct).code = .ref c from hc]
  refine wpAny_bind (m:=field (.ref c) 1) (wpAny_field hoc hdc hq (wpAny_bind (wpAny_pure ?_)))
  rw [hbind vs hvl,← show f.code = .ref c from hc]
  refine wpAny_bind (wpAny_pure (wpAny_bind (Mine.anyX (wpAny_grown (hN fun env he s' x r G=>?_)))))
  refine wpAny_bind (wpAny_enterFrame (NL.keeps x.toInCall.keep) hd ?_)
  show wpAny _ _ (match f.scope.isGenerator,f.scope.isCoroutine with | false,false=>again (.func body env) | true,false=>_ | false,true=>_ | true,true=>_) _ _ _
  rw [F.gen,F.co]
  exact wpAny_pure ⟨rfl,codeX_func (hb env s' ⟨⟨by rw [he];rfl,by rw [he,hqual];rfl,by rw [he];rfl,by rw [he];rfl,by rw [he];rfl,by rw [he];exact F.kind⟩,by rw [he];rfl,by rw [he];rfl,by rw [he];rfl,x⟩ r G _ fun v s₂ h=>h)⟩
theorem Fn.introX {a:Addr} {names:List Str} {body:List Stmt} (F:FnAt S a f names body) (hl:names.length = ds.length) (hb:XXs S k f (ctx0 f.kinds ds) body (.ret d)):XOps S (k + 1) (fun vs=>call (.ref a) vs) ds d:=by
  intro A g s vs Q E at' rs hQ
  have hvl:vs.length = names.length:=by rw [rs.length,hl]
  refine Fn.callX F (R:=fun _=>True) hvl (at'.base.kin.keeps at'.keep) (by have:=at'.room.depth;lia) (at'.base.nolimit.keeps at'.keep) (fun h=>wpAny_newFunctionEnv_cells F.kind F.2.binds fun env he s' x=>h env he s' x trivial) fun env s' N _ G Q' hq=>?_
  refine e1_2 (Fn.core F.2 hl at'.keep at'.base at'.tabs rs N G.heap G.toks) fun g' t st=>?_
  exact hb (A.deeper env) g' (Nw s) env s' Q' _ at'.room.under st fun fl g₂ s₂ t₂ p₂=>e1_2 p₂ fun v q r=>by subst q;exact hq v s₂ (hQ v g₂ s₂ (t.trans t₂ fun _ l=>l) r)
noncomputable def XOps0 (S:Sig) (k:Nat) (t:Value→Sem Value) (d₁ d:D):Prop :=
  ∀ (A:Around) (g:Heap) (s:Shared) (v:Value) (Q:Value→Shared→Prop) (E:Value→Shared→Prop),Room S k A→Keep g s.heap→Base S g→Tabs0 S g s→Rd g v d₁ →
    (∀ v g' s',Tr S (Nw s) g (tick s) g' s'→Rd g' v d→Q v s')→wpC S.X A (t v) Q E s
theorem Fn.introX0 {a:Addr} {x:Str} {body:List Stmt} (F:FnAt S a f [x] body) (hk0:f.kinds[0]? = some .local) (hb:XXs S k f (ctx0 f.kinds [d₁]) body (.ret d)):XOps0 S (k + 1) (fun v=>call (.ref a) [v]) d₁ d:=by
  intro A g s v Q E Rm Kp Bs T0 rv hQ
  have at':At S (k + 1) A g (tick s):=⟨Rm,Kp,Bs,⟨Nat.succ_pos _,T0⟩⟩
  have rs:Rds g [v] [d₁]:=.cons rv .nil
  have hx0:f.vars[0]? = some x:=by
    have h:(f.vars.take 1)[0]? = some x:=by rw [show f.vars.take 1 = [x] from F.pre];rfl
    rwa [List.getElem?_take,if_pos (by lia)] at h
  refine Fn.callX F (R:=fun s'=>s.toks + 1≤s'.toks) rfl (Bs.kin.keeps Kp) (by have:=Rm.depth;lia) (Bs.nolimit.keeps Kp) (newEnv1 F.kind (f.kind hx0 hk0)) fun env s' N ht G Q' hq=>?_
  refine e1_2 (Fn.core F.2 rfl Kp Bs at'.tabs rs N G.heap ht) fun g' t st=>?_
  exact hb (A.deeper env) g' (Nw s) env s' Q' _ Rm.under st fun fl g₂ s₂ t₂ p₂=>e1_2 p₂ fun v q r=>by subst q;exact hq v s₂ (hQ v g₂ s₂ (t.trans t₂ fun _ l=>l) r)
end
end
section
open PySem PySem.Sre
noncomputable def gcode:Array Nat:=#[14,4,0,1,4294967295,7,14,17,0,24,6,1,4294967295,20,91,1,17,1,15,37,17,17,2,16,91,26,5,0,4294967295,2,1,16,93,17,3,15,20,18,17,4,16,91,24,6,0,4294967295,20,93,1,6,5,17,5,15,2,0,1]
noncomputable def Goes (c:Nat) (m m':M):Prop:=∀ j,M.runFor (c + j) m = M.runFor j m'
theorem Goes.refl (m:M):Goes 0 m m:=fun j=>by rw [Nat.zero_add]
theorem Goes.step {c:Nat} {m m' m'':M} (h0:m.outcome = none) (h:m.step = m') (g:Goes c m' m''):Goes (c + 1) m m'':=fun j=>by
  rw [← g j,Nat.add_right_comm]
  show (if m.outcome.isSome then m else M.runFor (c + j) m.step) = _
  rw [h0,h];rfl
theorem Goes.trans {a b:Nat} {x y z:M} (g:Goes a x y) (h:Goes b y z):Goes (a + b) x z:=fun j=>by rw [Nat.add_assoc,g,h]
theorem run_not {text:Array Nat} {i c:Nat} (hi:gcode.getD i 0 = 20) (hc:gcode.getD (i + 1) 0 = c):∀ (n p f k:Nat) (seen:Seen),k≤n→(∀ j,j < k→text.getD (p + j) 0 ≠ c)→(k < n→text.getD (p + k) 0 = c)→Sre.run gcode text i n p f seen = .ok (f + k,seen)
  | 0,p,f,k,seen,h,_,_=>by rw [Nat.le_zero.mp h];rfl
  | n + 1,p,f,0,seen,h,_,h2=>by
    have e:accepts gcode i (text.getD p 0) seen = .ok (false,seen):=by
      unfold accepts;rw [hi]
      show Except.ok (text.getD p 0 != gcode.getD (i + 1) 0,seen) = _
      rw [hc,show text.getD p 0 = c from h2 (Nat.succ_pos n)];simp
    unfold Sre.run
    rw [e];rfl
  | n + 1,p,f,k + 1,seen,h,h1,h2=>by
    have e:accepts gcode i (text.getD p 0) seen = .ok (true,seen):=by
      unfold accepts;rw [hi]
      show Except.ok (text.getD p 0 != gcode.getD (i + 1) 0,seen) = _
      have:=h1 0 (Nat.succ_pos k)
      rw [hc];simp at this ⊢;simpa using this
    unfold Sre.run
    rw [e]
    show Sre.run gcode text i n (p + 1) (f + 1) seen = _
    rw [run_not hi hc n (p + 1) (f + 1) k seen (Nat.le_of_succ_le_succ h) (fun j hj=>by rw [Nat.add_assoc,Nat.add_comm 1];exact h1 (j + 1) (Nat.succ_lt_succ hj)) (fun hk=>by rw [Nat.add_assoc,Nat.add_comm 1];exact h2 (Nat.succ_lt_succ hk))]
    rw [Nat.add_assoc,Nat.add_comm 1]
noncomputable def at0 (text:Array Nat) (n s:Nat) (must:Bool) (seen:Seen):M :=
  { code:=gcode,text,lim:=n,start:=s,lastStart:=n,mustAdvance:=must,pc:=5,pos:=s,handed:=s,marks:=Array.replicate 6 none,frames:=[{ wait:=.nextStart,pc:=5,pos:=s,outermost:=true }],weight:=1,seen }
theorem search_at {text:Array Nat} {n s:Nat} {must:Bool} (h:s < n):forSearch gcode text 3 s n must = at0 text n s must (({}:Seen).add 14):=by
  have h1:(decide (s > n) || decide (n - s < (Sre.header gcode).1)) = false:=by
    have e:(Sre.header gcode).1 = 1:=rfl
    rw [e];simp;omega
  unfold forSearch
  show (if _ then _ else _) = _
  rw [if_neg (by simpa using h1)]
  rfl
structure Hit (m:M) (s e:Nat) (g:Nat):Prop where
  out:m.outcome = some .matched
  start:m.start = s
  handed:m.handed = e
  lastmark:m.lastmark = 2 * g + 1
  lastindex:m.lastindex = g + 1
  open_:m.marks.getD (2 * g) none = some s
  close:m.marks.getD (2 * g + 1) none = some e
  low:∀ i,i < 2 * g→m.marks.getD i none = none
noncomputable def brF (s alt:Nat):Sre.Frame:={ wait:=.nextBranch,pc:=alt,pos:=s,outermost:=true,kept:=⟨-1,-1,false,#[]⟩ }
noncomputable def in1 (text:Array Nat) (n s:Nat) (must:Bool) (seen:Seen):M :=
  { at0 text n s must seen with frames:=brF s 6 :: (at0 text n s must seen).frames,weight:=2,pc:=9,marks:=(Array.replicate 6 none).setIfInBounds 0 (some s),lastmark:=0 }
theorem to_in1 {text:Array Nat} {n s:Nat} {must:Bool} {seen:Seen}:∃ seen',Goes 2 (at0 text n s must seen) (in1 text n s must seen') :=
  ⟨(seen.add 7).add 17,Goes.step (m':={ at0 text n s must (seen.add 7) with frames:=brF s 6 :: (at0 text n s must seen).frames,weight:=2,pc:=7 }) rfl rfl (Goes.step rfl rfl (Goes.refl _))⟩
noncomputable def in2 (text:Array Nat) (n s k:Nat) (must:Bool) (seen:Seen):M :=
  { in1 text n s must seen with frames:={ wait:=.giveBack,pc:=9,pos:=s + k,outermost:=true,count:=k,kept:=⟨0,-1,false,#[]⟩ } :: (in1 text n s must seen).frames,weight:=3,pc:=16,pos:=s + k,handed:=s + k }
theorem to_in2 {text:Array Nat} {n s k:Nat} {must:Bool} {seen:Seen} (hk:0 < k) (hn:s + k≤n) (hz:n≤4294967295) (h1:∀ j,j < k→text.getD (s + j) 0 ≠ 91) (h2:s + k < n→text.getD (s + k) 0 = 91):∃ seen',Goes 1 (in1 text n s must seen) (in2 text n s k must seen'):=by
  refine ⟨(seen.add 24).add 20,Goes.step rfl (m':=in2 text n s k must ((seen.add 24).add 20)) ?_ (Goes.refl _)⟩
  have hr:((n:Int) - (s:Int)).toNat = n - s:=by omega
  show M.exec (in1 text n s must seen) = _
  show (if ((1:Nat):Int) > (n:Int) - (s:Int) then _ else match Sre.run gcode text 13 (min 4294967295 ((n:Int) - (s:Int)).toNat) s 0 ((seen.add 24).add 20) with | .error why=>_ | .ok (q,seen)=>_) = _
  rw [if_neg (by omega),hr,Nat.min_eq_right (by omega),run_not (c:=91) rfl rfl (n - s) s 0 k _ (by omega) h1 (fun h=>h2 (by omega))]
  show (if 0 + k < 1 then _ else _) = _
  rw [if_neg (by omega),Nat.zero_add]
  rfl
noncomputable def in3 (text:Array Nat) (n s k:Nat) (must:Bool) (seen:Seen):M :=
  { in2 text n s k must seen with marks:=((Array.replicate 6 none).setIfInBounds 0 (some s)).setIfInBounds 1 (some (s + k)),lastmark:=1,lastindex:=1,pc:=56,answer:=some true }
theorem to_in3 {text:Array Nat} {n s k:Nat} {must:Bool} {seen:Seen} (hk:0 < k):∃ seen',Goes 3 (in2 text n s k must seen) (in3 text n s k must seen'):=by
  refine ⟨((seen.add 17).add 15).add 1,Goes.step (m':={ in2 text n s k must (seen.add 17) with marks:=((Array.replicate 6 none).setIfInBounds 0 (some s)).setIfInBounds 1 (some (s + k)),lastmark:=1,lastindex:=1,pc:=18 }) rfl (by kernel_rfl)
    (Goes.step (m':={ in2 text n s k must ((seen.add 17).add 15) with marks:=((Array.replicate 6 none).setIfInBounds 0 (some s)).setIfInBounds 1 (some (s + k)),lastmark:=1,lastindex:=1,pc:=56 }) rfl (by first | rfl | kernel_rfl) (Goes.step rfl ?_ (Goes.refl _)))⟩
  have e:(true && ((false && (s + k != n)) || (must && (s + k == s)))) = false:=by
    have:(s + k == s) = false:=by simp;omega
    rw [this];simp
  show (if (true && ((false && (s + k != n)) || (must && (s + k == s)))) = true then _ else _) = _
  rw [show (true && ((false && (s + k != n)) || (must && (s + k == s)))) = false from e,if_neg Bool.false_ne_true]
  rfl
theorem done3 {text:Array Nat} {n s k:Nat} {must:Bool} {seen:Seen}:∃ m',Goes 4 (in3 text n s k must seen) m'∧Hit m' s (s + k) 0 :=
  ⟨_,Goes.step rfl rfl (Goes.step rfl rfl (Goes.step rfl rfl (Goes.step rfl rfl (Goes.refl _)))),rfl,rfl,rfl,rfl,rfl,rfl,rfl,fun i hi=>absurd hi (Nat.not_lt_zero i)⟩
theorem hit_run {text:Array Nat} {n s k:Nat} {must:Bool} (hk:0 < k) (hn:s + k≤n) (hz:n≤4294967295) (h1:∀ j,j < k→text.getD (s + j) 0 ≠ 91) (h2:s + k < n→text.getD (s + k) 0 = 91) :
    ∃ m',Goes (2 + 1 + 3 + 4) (forSearch gcode text 3 s n must) m'∧Hit m' s (s + k) 0:=by
  rw [search_at (by omega)]
  obtain ⟨s1,g1⟩:=to_in1 (text:=text) (n:=n) (s:=s) (must:=must) (seen:=({}:Seen).add 14)
  obtain ⟨s2,g2⟩:=to_in2 (must:=must) (seen:=s1) hk hn hz h1 h2
  obtain ⟨s3,g3⟩:=to_in3 (text:=text) (n:=n) (s:=s) (must:=must) (seen:=s2) hk
  obtain ⟨m',g4,hit⟩:=done3 (text:=text) (n:=n) (s:=s) (k:=k) (must:=must) (seen:=s3)
  exact ⟨m',((g1.trans g2).trans g3).trans g4,hit⟩
theorem step_run {m:M} (h0:m.outcome = none) (h1:m.answer = none) (hc:m.code = gcode) (hp:m.pc < 57):m.step = m.exec:=by
  unfold M.step
  rw [h0,h1]
  show (if m.pc < m.code.size then m.exec else _) = _
  rw [hc];exact if_pos hp
theorem exec_lit {m:M} {seen':Seen} (hop:ops[m.word 0]? = some .LITERAL) (hp:m.pos < m.lim) (ha:accepts m.code m.pc (m.text.getD m.pos 0) (m.seen.add (m.word 0)) = .ok (true,seen')) :
    m.exec = { m with seen:=seen',pc:=m.pc + itemWidth m.code m.pc,pos:=m.pos + 1 }:=by
  unfold M.exec
  rw [hop]
  simp only
  rw [if_neg (Nat.not_le.mpr hp),ha]
theorem exec_not {m:M} {seen':Seen} (hop:ops[m.word 0]? = some .LITERAL) (hp:m.pos < m.lim) (ha:accepts m.code m.pc (m.text.getD m.pos 0) (m.seen.add (m.word 0)) = .ok (false,seen')) :
    m.exec = M.say { m with seen:=seen' } false:=by
  unfold M.exec
  rw [hop]
  simp only
  rw [if_neg (Nat.not_le.mpr hp),ha]
theorem exec_end {m:M} (hop:ops[m.word 0]? = some .LITERAL) (hp:m.lim≤m.pos):m.exec = M.say { m with seen:=m.seen.add (m.word 0) } false:=by
  unfold M.exec
  rw [hop]
  simp only
  rw [if_pos hp]
noncomputable def se1 (text:Array Nat) (n s:Nat) (must:Bool) (seen:Seen):M :=
  { at0 text n s must seen with frames:=brF s 20 :: (at0 text n s must seen).frames,weight:=2,pc:=23,marks:=#[none,none,some s,none,none,none],lastmark:=2 }
theorem to_se1 {text:Array Nat} {n s:Nat} {must:Bool} {seen:Seen} (hn:s < n) (hz:n≤4294967295) (hb:text.getD s 0 = 91):∃ seen',Goes (2 + 1 + 2) (at0 text n s must seen) (se1 text n s must seen'):=by
  obtain ⟨s1,g1⟩:=to_in1 (text:=text) (n:=n) (s:=s) (must:=must) (seen:=seen)
  have g2:Goes 1 (in1 text n s must s1) { in1 text n s must ((s1.add 24).add 20) with answer:=some false }:=by
    refine Goes.step rfl ?_ (Goes.refl _)
    have hr:((n:Int) - (s:Int)).toNat = n - s:=by omega
    show (if ((1:Nat):Int) > (n:Int) - (s:Int) then _ else match Sre.run gcode text 13 (min 4294967295 ((n:Int) - (s:Int)).toNat) s 0 ((s1.add 24).add 20) with | .error why=>_ | .ok (q,seen)=>_) = _
    rw [if_neg (by omega),hr,Nat.min_eq_right (by omega),run_not (c:=91) rfl rfl (n - s) s 0 0 _ (Nat.zero_le _) (fun j h=>absurd h (Nat.not_lt_zero j)) (fun _=>hb)]
    rfl
  refine ⟨((s1.add 24).add 20).add 17,(g1.trans g2).trans (Goes.step (m':={ at0 text n s must ((s1.add 24).add 20) with frames:=brF s 20 :: (at0 text n s must seen).frames,weight:=2,pc:=21,marks:=(Array.replicate 6 none).setIfInBounds 0 (some s) }) rfl (by kernel_rfl) (Goes.step rfl (by kernel_rfl) (Goes.refl _)))⟩
noncomputable def lz (text:Array Nat) (n s j:Nat) (must:Bool) (seen:Seen):M :=
  { se1 text n s must seen with frames:={ wait:=.takeMore,pc:=25,pos:=s + 1 + j,outermost:=true,count:=j,kept:=⟨2,-1,false,#[]⟩ } :: (se1 text n s must seen).frames,weight:=3,pc:=31,pos:=s + 1 + j,handed:=s + 1 + j }
theorem to_lz {text:Array Nat} {n s:Nat} {must:Bool} {seen:Seen} (hn:s < n) (hb:text.getD s 0 = 91):∃ seen',Goes 2 (se1 text n s must seen) (lz text n s 0 must seen'):=by
  refine ⟨((seen.add 16).add 26).add 2,Goes.step (m':={ se1 text n s must (seen.add 16) with pc:=25,pos:=s + 1 }) rfl ?_ (Goes.step rfl ?_ (Goes.refl _))⟩
  · refine (step_run rfl rfl rfl (by show 23 < 57;decide)).trans ((exec_lit (seen':=seen.add 16) rfl hn ?_).trans rfl)
    show Except.ok (text.getD s 0 == 91,seen.add 16) = _
    rw [hb];rfl
  · refine (step_run rfl rfl rfl (by show 25 < 57;decide)).trans ?_
    unfold M.exec
    show (if ((0:Nat):Int) > (n:Int) - ((s + 1:Nat):Int) then _ else _) = _
    rw [if_neg (by omega)]
    first | rfl | kernel_rfl
theorem step_back {m:M} {yes:Bool} {f:Sre.Frame} {rest:List Sre.Frame} (h0:m.outcome = none) (h1:m.answer = some yes) (h2:m.frames = f :: rest) :
    m.step = M.resume { m with answer:=none,frames:=rest,weight:=m.weight - (1 + f.kept.marks.size),pc:=f.pc,pos:=f.pos,outermost:=f.outermost } f yes:=by
  unfold M.step
  rw [h0,h1,h2]
  rfl
theorem resume_more {m:M} {f:Sre.Frame} {seen':Seen} (hw:f.wait = .takeMore) (hx:m.word 3 = maxRepeat) (hp:f.pos < m.lim) (ha:accepts m.code (m.pc + 4) (m.text.getD f.pos 0) m.seen = .ok (true,seen')) :
    M.resume m f false = M.afterRun { m.putBack f.kept with seen:=seen',pos:=f.pos + 1 } .takeMore (f.count + 1) f.kept:=by
  unfold M.resume
  simp only [hw,hx,bne_self_eq_false,Bool.and_false,Bool.false_eq_true,if_false,ha]
  rw [if_neg (Nat.not_le.mpr hp)]
theorem resume_end {m:M} {f:Sre.Frame} (hw:f.wait = .takeMore) (hx:m.word 3 = maxRepeat) (hp:m.lim≤f.pos):M.resume m f false = M.say (m.putBack f.kept) false:=by
  unfold M.resume
  simp only [hw,hx,bne_self_eq_false,Bool.and_false,Bool.false_eq_true,if_false]
  rw [if_pos hp]
theorem lz_more {text:Array Nat} {n s j:Nat} {must:Bool} {seen:Seen} (hp:s + 1 + j < n) (h1:text.getD (s + 1 + j) 0 ≠ 93) (h2:text.getD (s + 1 + j) 0 ≠ 10):∃ seen',Goes 2 (lz text n s j must seen) (lz text n s (j + 1) must seen'):=by
  refine ⟨seen.add 16,Goes.step (m':={ lz text n s j must (seen.add 16) with answer:=some false }) rfl ?_ (Goes.step rfl ?_ (Goes.refl _))⟩
  · refine (step_run rfl rfl rfl (by show 31 < 57;decide)).trans ((exec_not (seen':=seen.add 16) rfl hp ?_).trans rfl)
    show Except.ok (text.getD (s + 1 + j) 0 == 93,seen.add 16) = _
    rw [show (text.getD (s + 1 + j) 0 == 93) = false by simpa using h1]
  · refine (step_back rfl rfl rfl).trans ((resume_more (seen':=seen.add 16) rfl rfl hp ?_).trans ?_)
    · show Except.ok (text.getD (s + 1 + j) 0 != 10,seen.add 16) = _
      rw [show (text.getD (s + 1 + j) 0 != 10) = true by simpa using h2]
    · first | rfl | kernel_rfl
theorem lz_upto {text:Array Nat} {n s:Nat} {must:Bool}:∀ (j:Nat) {seen:Seen},s + 1 + j≤n→(∀ i,i < j→text.getD (s + 1 + i) 0 ≠ 93∧text.getD (s + 1 + i) 0 ≠ 10)→∃ seen',Goes (2 * j) (lz text n s 0 must seen) (lz text n s j must seen')
  | 0,seen,_,_=>⟨seen,Goes.refl _⟩
  | j + 1,seen,hn,h=>by
    obtain ⟨s1,g1⟩:=lz_upto (text:=text) (n:=n) (s:=s) (must:=must) j (seen:=seen) (by omega) (fun i hi=>h i (Nat.lt_succ_of_lt hi))
    obtain ⟨s2,g2⟩:=lz_more (must:=must) (seen:=s1) (show s + 1 + j < n by omega) (h j (Nat.lt_succ_self j)).1 (h j (Nat.lt_succ_self j)).2
    exact ⟨s2,g1.trans g2⟩
noncomputable def se2 (text:Array Nat) (n s j pc:Nat) (must:Bool) (seen:Seen):M :=
  { lz text n s j must seen with pc:=pc,pos:=s + 1 + j + 1,marks:=#[none,none,some s,some (s + 1 + j + 1),none,none],lastmark:=3,lastindex:=2 }
theorem lz_hit {text:Array Nat} {n s j:Nat} {must:Bool} {seen:Seen} (hp:s + 1 + j < n) (h1:text.getD (s + 1 + j) 0 = 93):∃ m',Goes (1 + 2 + 1 + 4) (lz text n s j must seen) m'∧Hit m' s (s + 1 + j + 1) 1:=by
  have g1:Goes 1 (lz text n s j must seen) { lz text n s j must (seen.add 16) with pc:=33,pos:=s + 1 + j + 1 }:=by
    refine Goes.step rfl ?_ (Goes.refl _)
    refine (step_run rfl rfl rfl (by show 31 < 57;decide)).trans ((exec_lit (seen':=seen.add 16) rfl hp ?_).trans rfl)
    show Except.ok (text.getD (s + 1 + j) 0 == 93,seen.add 16) = _
    rw [h1];rfl
  have g2:Goes 2 { lz text n s j must (seen.add 16) with pc:=33,pos:=s + 1 + j + 1 } (se2 text n s j 56 must (((seen.add 16).add 17).add 15)) :=
    Goes.step (m':=se2 text n s j 35 must ((seen.add 16).add 17)) rfl (by kernel_rfl) (Goes.step rfl (by first | rfl | kernel_rfl) (Goes.refl _))
  have g3:Goes 1 (se2 text n s j 56 must (((seen.add 16).add 17).add 15)) { se2 text n s j 56 must ((((seen.add 16).add 17).add 15).add 1) with handed:=s + 1 + j + 1,answer:=some true }:=by
    refine Goes.step rfl ?_ (Goes.refl _)
    have e:(true && ((false && (s + 1 + j + 1 != n)) || (must && (s + 1 + j + 1 == s)))) = false:=by
      have:(s + 1 + j + 1 == s) = false:=by simp;omega
      rw [this];simp
    show (if (true && ((false && (s + 1 + j + 1 != n)) || (must && (s + 1 + j + 1 == s)))) = true then _ else _) = _
    rw [e,if_neg Bool.false_ne_true]
    rfl
  refine ⟨_,((g1.trans g2).trans g3).trans (Goes.step rfl rfl (Goes.step rfl rfl (Goes.step rfl rfl (Goes.step rfl rfl (Goes.refl _))))),rfl,rfl,rfl,rfl,rfl,rfl,rfl,fun i hi=>by rcases (by omega:i = 0 ∨ i = 1) with rfl | rfl <;> rfl⟩
theorem hit_set {text:Array Nat} {n s j:Nat} {must:Bool} (hz:n≤4294967295) (hb:text.getD s 0 = 91) (hp:s + 1 + j < n) (h1:text.getD (s + 1 + j) 0 = 93) (h:∀ i,i < j→text.getD (s + 1 + i) 0 ≠ 93∧text.getD (s + 1 + i) 0 ≠ 10) :
    ∃ m',Goes (2 + 1 + 2 + 2 + 2 * j + (1 + 2 + 1 + 4)) (forSearch gcode text 3 s n must) m'∧Hit m' s (s + 1 + j + 1) 1:=by
  rw [search_at (by omega)]
  obtain ⟨s1,g1⟩:=to_se1 (must:=must) (seen:=({}:Seen).add 14) (show s < n by omega) hz hb
  obtain ⟨s2,g2⟩:=to_lz (must:=must) (seen:=s1) (show s < n by omega) hb
  obtain ⟨s3,g3⟩:=lz_upto (text:=text) (n:=n) (s:=s) (must:=must) j (seen:=s2) (by omega) h
  obtain ⟨m',g4,hit⟩:=lz_hit (must:=must) (seen:=s3) hp h1
  exact ⟨m',((g1.trans g2).trans g3).trans g4,hit⟩
noncomputable def th1 (text:Array Nat) (n s:Nat) (must:Bool) (seen:Seen):M :=
  { at0 text n s must seen with frames:=brF s 37 :: (at0 text n s must seen).frames,weight:=2,pc:=40,marks:=#[none,none,none,none,some s,none],lastmark:=4 }
theorem lz_over {text:Array Nat} {n s j:Nat} {must:Bool} {seen:Seen} (hp:s + 1 + j = n):∃ seen',Goes (1 + 1 + 2) (lz text n s j must seen) (th1 text n s must seen'):=by
  have g1:Goes 1 (lz text n s j must seen) { lz text n s j must (seen.add 16) with answer:=some false }:=by
    refine Goes.step rfl ?_ (Goes.refl _)
    exact (step_run rfl rfl rfl (by show 31 < 57;decide)).trans ((exec_end rfl (Nat.le_of_eq hp.symm)).trans rfl)
  have g2:Goes 1 { lz text n s j must (seen.add 16) with answer:=some false } { se1 text n s must (seen.add 16) with pc:=25,pos:=s + 1 + j,handed:=s + 1 + j,answer:=some false }:=by
    refine Goes.step rfl ?_ (Goes.refl _)
    exact (step_back rfl rfl rfl).trans ((resume_end rfl rfl (Nat.le_of_eq hp.symm)).trans (by first | rfl | kernel_rfl))
  have g3:Goes 2 { se1 text n s must (seen.add 16) with pc:=25,pos:=s + 1 + j,handed:=s + 1 + j,answer:=some false } (th1 text n s must ((seen.add 16).add 17)):=by
    refine Goes.step (m':={ th1 text n s must (seen.add 16) with pc:=38,marks:=#[none,none,some s,none,none,none],lastmark:=-1 }) rfl ?_ (Goes.step rfl ?_ (Goes.refl _))
    · first | rfl | kernel_rfl
    · first | rfl | kernel_rfl
  exact ⟨_,(g1.trans g2).trans g3⟩
noncomputable def th2 (text:Array Nat) (n s k pc:Nat) (must:Bool) (seen:Seen):M :=
  { th1 text n s must seen with frames:={ wait:=.giveBack,pc:=42,pos:=s + 1 + k,outermost:=true,count:=k,kept:=⟨4,-1,false,#[]⟩ } :: (th1 text n s must seen).frames,weight:=3,pc:=pc,pos:=s + 1 + k,handed:=s + 1 + k }
theorem to_th2 {text:Array Nat} {n s k:Nat} {must:Bool} {seen:Seen} (hk:s + 1 + k = n) (hz:n≤4294967295) (hb:text.getD s 0 = 91) (h:∀ i,i < k→text.getD (s + 1 + i) 0 ≠ 93):∃ seen',Goes (1 + 1) (th1 text n s must seen) (th2 text n s k 49 must seen'):=by
  have g1:Goes 1 (th1 text n s must seen) { th1 text n s must (seen.add 16) with pc:=42,pos:=s + 1 }:=by
    refine Goes.step rfl ?_ (Goes.refl _)
    refine (step_run rfl rfl rfl (by show 40 < 57;decide)).trans ((exec_lit (seen':=seen.add 16) rfl (show s < n by omega) ?_).trans rfl)
    show Except.ok (text.getD s 0 == 91,seen.add 16) = _
    rw [hb];rfl
  have g2:Goes 1 { th1 text n s must (seen.add 16) with pc:=42,pos:=s + 1 } (th2 text n s k 49 must (((seen.add 16).add 24).add 20)):=by
    refine Goes.step rfl ?_ (Goes.refl _)
    have hr:((n:Int) - ((s + 1:Nat):Int)).toNat = k:=by omega
    show (if ((0:Nat):Int) > (n:Int) - ((s + 1:Nat):Int) then _ else match Sre.run gcode text 46 (min 4294967295 ((n:Int) - ((s + 1:Nat):Int)).toNat) (s + 1) 0 (((seen.add 16).add 24).add 20) with | .error why=>_ | .ok (q,seen)=>_) = _
    rw [if_neg (by omega),hr,Nat.min_eq_right (by omega),run_not (c:=93) rfl rfl k (s + 1) 0 k _ (Nat.le_refl _) h (fun h=>absurd h (Nat.lt_irrefl _))]
    show (if 0 + k < 0 then _ else _) = _
    rw [if_neg (Nat.not_lt_zero _),Nat.zero_add]
    rfl
  exact ⟨_,g1.trans g2⟩
theorem exec_at {m:M} (hop:ops[m.word 0]? = some .AT) (ha:m.isAt (m.word 1) = .ok true):m.exec = { m with seen:=(m.seen.add (m.word 0)).add (43 + m.word 1),pc:=m.pc + 2 }:=by
  unfold M.exec
  rw [hop]
  simp only
  rw [show M.isAt { m with seen:=m.seen.add (m.word 0) } (M.word { m with seen:=m.seen.add (m.word 0) } 1) = .ok true from ha]
  rfl
theorem th2_hit {text:Array Nat} {n s k:Nat} {must:Bool} {seen:Seen} (hk:s + 1 + k = n):∃ m',Goes (1 + 2 + 1 + 4) (th2 text n s k 49 must seen) m'∧Hit m' s n 2:=by
  have g1:Goes 1 (th2 text n s k 49 must seen) (th2 text n s k 51 must ((seen.add 6).add 48)):=by
    refine Goes.step rfl ?_ (Goes.refl _)
    refine (step_run rfl rfl rfl (by show 49 < 57;decide)).trans ((exec_at rfl ?_).trans rfl)
    show Except.ok (s + 1 + k == n || (s + 1 + k + 1 == n && text.getD (s + 1 + k) 0 == 10)) = _
    rw [show (s + 1 + k == n) = true by simpa using hk];rfl
  have g2:Goes 2 (th2 text n s k 51 must ((seen.add 6).add 48)) { th2 text n s k 56 must ((((seen.add 6).add 48).add 17).add 15) with marks:=#[none,none,none,none,some s,some (s + 1 + k)],lastmark:=5,lastindex:=3 }:=by
    refine Goes.step (m':={ th2 text n s k 53 must (((seen.add 6).add 48).add 17) with marks:=#[none,none,none,none,some s,some (s + 1 + k)],lastmark:=5,lastindex:=3 }) rfl (by kernel_rfl) (Goes.step rfl (by first | rfl | kernel_rfl) (Goes.refl _))
  have g3:Goes 1 { th2 text n s k 56 must ((((seen.add 6).add 48).add 17).add 15) with marks:=#[none,none,none,none,some s,some (s + 1 + k)],lastmark:=5,lastindex:=3 }
      { th2 text n s k 56 must (((((seen.add 6).add 48).add 17).add 15).add 1) with marks:=#[none,none,none,none,some s,some (s + 1 + k)],lastmark:=5,lastindex:=3,answer:=some true }:=by
    refine Goes.step rfl ?_ (Goes.refl _)
    have e:(true && ((false && (s + 1 + k != n)) || (must && (s + 1 + k == s)))) = false:=by
      have:(s + 1 + k == s) = false:=by simp;omega
      rw [this];simp
    show (if (true && ((false && (s + 1 + k != n)) || (must && (s + 1 + k == s)))) = true then _ else _) = _
    rw [e,if_neg Bool.false_ne_true]
    rfl
  refine ⟨_,((g1.trans g2).trans g3).trans (Goes.step rfl rfl (Goes.step rfl rfl (Goes.step rfl rfl (Goes.step rfl rfl (Goes.refl _))))),rfl,rfl,hk,rfl,rfl,rfl,congrArg some hk,fun i hi=>by rcases (by omega:i = 0 ∨ i = 1 ∨ i = 2 ∨ i = 3) with rfl | rfl | rfl | rfl <;> rfl⟩
theorem hit_open {text:Array Nat} {n s:Nat} {must:Bool} (hz:n≤4294967295) (hn:s < n) (hb:text.getD s 0 = 91) (h:∀ i,s + 1 + i < n→text.getD (s + 1 + i) 0 ≠ 93∧text.getD (s + 1 + i) 0 ≠ 10) :
    ∃ m',Goes (2 + 1 + 2 + 2 + 2 * (n - s - 1) + (1 + 1 + 2) + (1 + 1) + (1 + 2 + 1 + 4)) (forSearch gcode text 3 s n must) m'∧Hit m' s n 2:=by
  rw [search_at hn]
  have hk:s + 1 + (n - s - 1) = n:=by omega
  obtain ⟨s1,g1⟩:=to_se1 (must:=must) (seen:=({}:Seen).add 14) hn hz hb
  obtain ⟨s2,g2⟩:=to_lz (must:=must) (seen:=s1) hn hb
  obtain ⟨s3,g3⟩:=lz_upto (text:=text) (n:=n) (s:=s) (must:=must) (n - s - 1) (seen:=s2) (by omega) (fun i hi=>h i (by omega))
  obtain ⟨s4,g4⟩:=lz_over (text:=text) (must:=must) (seen:=s3) hk
  obtain ⟨s5,g5⟩:=to_th2 (must:=must) (seen:=s4) hk hz hb (fun i hi=>(h i (by omega)).1)
  obtain ⟨m',g6,hit⟩:=th2_hit (text:=text) (must:=must) (seen:=s5) hk
  exact ⟨m',((((g1.trans g2).trans g3).trans g4).trans g5).trans g6,hit⟩
theorem search_end {text:Array Nat} {n:Nat} {must:Bool}:(forSearch gcode text 3 n n must).outcome = none∧(forSearch gcode text 3 n n must).answer = some false∧(forSearch gcode text 3 n n must).frames = []:=by
  have h1:(decide (n > n) || decide (n - n < (Sre.header gcode).1)) = true:=by
    have e:(Sre.header gcode).1 = 1:=rfl
    rw [e,Nat.sub_self];simp
  unfold forSearch
  show (if _ then _ else _:M).outcome = none∧(if _ then _ else _:M).answer = some false∧(if _ then _ else _:M).frames = []
  rw [if_pos (by simpa using h1)]
  exact ⟨rfl,rfl,rfl⟩
theorem runFor_done {m:M} (h:m.outcome.isSome = true):∀ k,M.runFor k m = m
  | 0=>rfl
  | k + 1=>by unfold M.runFor;rw [if_pos h]
theorem Goes.ends {c:Nat} {m m':M} (g:Goes c m m') (h:m'.outcome.isSome = true) {k:Nat} (hk:c≤k):M.runFor k m = m':=by
  obtain ⟨j,rfl⟩:=Nat.exists_eq_add_of_le hk
  rw [g j,runFor_done h]
end
section
open PySem PySem.W PySem.Calls PyProof.Rows
variable {S:Sig} {A:Around} {E:Value→Shared→Prop} {s:Shared}
theorem runFor_add (m:Sre.M):∀ a b,Sre.M.runFor (a + b) m = Sre.M.runFor b (Sre.M.runFor a m)
  | 0,b=>by rw [Nat.zero_add];rfl
  | a + 1,b=>by
    by_cases h:m.outcome.isSome = true
    · rw [runFor_done h,runFor_done h,runFor_done h]
    · have e:∀ k,Sre.M.runFor (k + 1) m = Sre.M.runFor k m.step:=fun k=>if_neg h
      rw [e a,Nat.add_right_comm,e (a + b),runFor_add m.step a b]
theorem wp_driveHit {m':Sre.M} {Q:Sre.M→Shared→Prop} (h:m'.outcome.isSome = true) (hQ:Q m' s):∀ (t c:Nat) (m:Sre.M),Goes c m m'→c≤4 * t→0 < t→wpAny S.M A (Builtin.Re.reDrive t m) Q E s
  | 0,c,m,g,hc,ht=>absurd ht (Nat.lt_irrefl 0)
  | t + 1,c,m,g,hc,ht=>by
    show wpAny S.M A (if (m.runFor 4).outcome.isSome then pure (m.runFor 4) else _) Q E s
    by_cases hd:(m.runFor 4).outcome.isSome = true
    · rw [if_pos hd]
      have e:m.runFor 4 = m':=by
        by_cases h4:c≤4
        · exact g.ends h h4
        · obtain ⟨j,rfl⟩:=Nat.exists_eq_add_of_le (show 4≤c by omega)
          have:=g 0
          rw [Nat.add_zero,runFor_add,runFor_done hd] at this
          exact this
      rw [e];exact wpAny_pure hQ
    · rw [if_neg hd]
      have h4:¬ c≤4:=fun h4=>hd (by rw [g.ends h h4];exact h)
      obtain ⟨j,rfl⟩:=Nat.exists_eq_add_of_le (show 4≤c by omega)
      exact wpAny_bind (wpAny_rule (wp_driveHit h hQ t j (m.runFor 4) (fun i=>(runFor_add m 4 (j + i)).symm.trans (by rw [← Nat.add_assoc];exact g i)) (by omega) (by omega)))
theorem wp_rerunHit {m m':Sre.M} {c:Nat} {Q:Option Sre.M→Shared→Prop} (g:Goes c m m') (h:m'.outcome = some .matched) (hc:c≤1000000000) (hQ:Q (some m') s):wpAny S.M A (Builtin.Re.reRunToEnd m) Q E s:=by
  unfold Builtin.Re.reRunToEnd
  refine wpAny_bind (wp_driveHit (by rw [h];rfl) ?_ (2 ^ 64) c m g (Nat.le_trans hc (by decide)) (by decide))
  refine wpAny_bind (wpAny_forIn_list _ (fun _ _ s'=>s' = s) _ ?_ ?_ _ _ rfl)
  · rintro x rest b s' rfl
    by_cases c:m'.seen.has x = true
    · simp only [c,if_true]
      exact wpAny_bind (wpAny_rule (wpAny_pure rfl))
    · simp only [c,if_false]
      exact wpAny_pure rfl
  · rintro b s' rfl
    rw [h]
    exact wpAny_pure hQ
end
section
open PySem PySem.W PySem.Calls PyProof.Rows
noncomputable def spansI (gs s e g:Nat):List Int:=(s:Int) :: (e:Int) :: (List.range gs).flatMap fun i=>if i = g then [(s:Int),(e:Int)] else [-1,-1]
noncomputable abbrev spanO (gs s e g:Nat):Obj:={ cls:=.type "tuple",data:=.seq ((spansI gs s e g).map rawInt).toArray }
noncomputable abbrev matchO (cs:List Nat) (t:Tok) (a:Addr) (li:Int) (sp:Addr):Obj:={ cls:=.type "re.Match",data:=.fields #[.str ⟨cs.toArray⟩ t,.ref a,rawInt 0,rawInt cs.length,rawInt li,.ref sp] }
noncomputable def MatP (cs:List Nat) (a:Addr) (gs s e g:Nat) (h:Heap) (v:Value):Prop:=∃ m t li sp,v = .ref m∧h.get? m = some (matchO cs t a li sp)∧h.get? sp = some (spanO gs s e g)
section
variable {prog:Program} {w:World} {M:Model} {A:Around} {E:Value→Shared→Prop} {σ:Shared}
theorem spans_eq {m:Sre.M} {gs s e g:Nat} (hit:Hit m s e g):(List.range gs).flatMap (fun i=>match if ((2 * i + 1:Nat):Int)≤m.lastmark then (m.marks.getD (2 * i) none,m.marks.getD (2 * i + 1) none) else (none,none) with
    | (some b,some e)=>[rawInt b,rawInt e]
    | _=>[rawInt (-1),rawInt (-1)]) = ((List.range gs).flatMap fun i=>if i = g then [(s:Int),(e:Int)] else [-1,-1]).map rawInt:=by
  rw [List.map_flatMap]
  congr 1
  funext i
  rw [hit.lastmark]
  rcases Nat.lt_trichotomy i g with h | rfl | h
  · rw [if_pos (by omega),hit.low (2 * i) (by omega),if_neg (Nat.ne_of_lt h)];rfl
  · rw [if_pos (by omega),hit.open_,hit.close,if_pos rfl];rfl
  · rw [if_neg (by omega),if_neg (Nat.ne_of_gt h)];rfl
theorem span_ok {m:Sre.M} {gs s e g:Nat} (hit:Hit m s e g) (hse:s≤e):(List.range gs).any (fun i=>match m.marks.getD (2 * i) none,m.marks.getD (2 * i + 1) none with | some b,some e=>((2 * i + 1:Nat):Int)≤m.lastmark && e < b | _,_=>false) = false:=by
  rw [List.any_eq_false]
  intro i _
  rw [hit.lastmark]
  rcases Nat.lt_trichotomy i g with h | rfl | h
  · rw [hit.low (2 * i) (by omega)];exact Bool.false_ne_true
  · rw [hit.open_,hit.close];simp;omega
  · rw [show decide (((2 * i + 1:Nat):Int)≤((2 * g + 1:Int))) = false from decide_eq_false (by omega)]
    cases m.marks.getD (2 * i) none <;> cases m.marks.getD (2 * i + 1) none <;> simp
theorem wp_newMatch {m:Sre.M} {cs:List Nat} {t:Tok} {a:Addr} {gs s e g:Nat} {Q:Value→Shared→Prop} (hit:Hit m s e g) (hgs:gs≤3) (hse:s≤e)
    (hQ:∀ li,Q (.ref (σ.heap.objs.size + 1)) { σ with heap:=(σ.heap.push (spanO gs s e g)).push (matchO cs t a li σ.heap.objs.size) }) :
    wpAny M A (Builtin.Re.reNewMatch (.ref a) (.str ⟨cs.toArray⟩ t) gs 0 cs.length m) Q E σ:=by
  unfold Builtin.Re.reNewMatch
  dsimp only
  refine wp_ifF (fun h=>Bool.false_ne_true ((span_ok hit hse).symm.trans h)) ?_
  refine wpAny_bind (Eq.mpr (congrArg (fun l=>wpAny M A (newTuple (rawInt m.start :: rawInt m.handed :: l)) _ E σ) (spans_eq (gs:=gs) hit)) ?_)
  refine wpAny_newTuple ?_ ?_
  · rw [hit.start,hit.handed]
    refine wpAny_newObj_type ?_
    rw [Heap.size_push]
    exact hQ m.lastindex
  · have:∀ n,((List.range n).flatMap fun i=>if i = g then [(s:Int),(e:Int)] else [-1,-1]).length = 2 * n:=by
      intro n
      induction n with
      | zero=>rfl
      | succ n ih=>rw [List.range_succ,List.flatMap_append,List.length_append,ih];simp;split <;> simp <;> omega
    simp [this,sizeLine_eq];omega
end
theorem plainAttrs_match:PlainAttrs "re.Match" :=
  ⟨⟨"object.__getattribute__",by rw [typeLookup_type,builtinLookup_eq_fast];kernel_rfl,by decide +kernel⟩,by rw [typeLookup_type,builtinLookup_eq_fast];kernel_rfl⟩
theorem slot_match_group:Slot "re.Match" "group" "re.Match.group" :=
  .of (owner:="re.Match") (n:="group") (by rw [typeLookup_type,builtinLookup_eq_fast];kernel_rfl) (by decide +kernel) (by decide +kernel) (by decide +kernel)
    (by first | exact .inl (by decide +kernel) | exact .inr (by decide +kernel)) (by rw [isSubtype_type];kernel_rfl)
theorem type_match_group:typeOf (.builtin "re.Match.group") = pure (.type "method_descriptor"):=by show builtinType _ = _;rw [builtinType_eq_fast];kernel_rfl
theorem entry_match_group:entryFor table "re.Match.group" = some Builtin.«re.Match.group»:=entryFor_of_tree (by kernel_rfl)
theorem owner_match:Manifest.owners.lookup (String.ofList ['h','c','t','a','M','.','e','r'].reverse) = some Manifest.sig_re_Match:=by kernel_rfl
theorem args_match_group (a b:Value):argsOk "re.Match.group" ⟨[a,b],[]⟩:=by
  unfold argsOk;rw [signature?_of (id:="re.Match.group") (n:=['p','u','o','r','g']) (o:=['h','c','t','a','M','.','e','r']) (by kernel_rfl) owner_match];kernel_rfl
noncomputable def cutS (cs:List Nat) (s e:Nat):List Nat:=(cs.drop s).take (e - s)
theorem cutS_len (cs:List Nat) (s e:Nat):(cutS cs s e).length≤cs.length:=by unfold cutS;rw [List.length_take,List.length_drop];omega
section
variable {prog:Program} {w:World} {A:Around} {E:Value→Shared→Prop} {σ:Shared}
noncomputable def foundX (cs:List Nat) (t:Tok) (a:Addr) (li:Int) (sp:Addr) (gs s e g:Nat):Builtin.Re.ReFound:=⟨#[.str ⟨cs.toArray⟩ t,.ref a,rawInt 0,rawInt cs.length,rawInt li,.ref sp],(((spansI gs s e g).map rawInt).toArray.map Builtin.Re.reRawOf)⟩
theorem wp_groupText {x:Builtin.Re.ReFound} {cs:List Nat} {t:Tok} {i s e:Nat} {Q:Value→Shared→Prop} (hz:cs.length≤sizeLine) (hx:x.fields.getD 0 .none = .str ⟨cs.toArray⟩ t)
    (hb:(x.spans.getD (2 * i) (-1) = s∧x.spans.getD (2 * i + 1) (-1) = e∧Q (.str ⟨(cutS cs s e).toArray⟩ σ.toks) { σ with toks:=σ.toks + 1 }) ∨ (x.spans.getD (2 * i) (-1) = -1∧Q .none σ)):wpAny (model prog w) A (Builtin.Re.reGroupText x i .none) Q E σ:=by
  unfold Builtin.Re.reGroupText
  rw [hx]
  rcases hb with ⟨h1,h2,hQ⟩ | ⟨h1,hQ⟩
  · rw [h1,h2]
    refine wp_ifF (by simp) ?_
    refine wpAny_bind (wpAny_of_eq (a:=(cs.toArray,0)) rfl ?_)
    have e3:cs.toArray.extract s e = (cutS cs s e).toArray:=by unfold cutS;simp
    refine show wpAny _ _ (mkStr ⟨cs.toArray.extract s e⟩) _ _ _ from ?_
    rw [e3]
    exact wpAny_mkStr hQ (by have:=cutS_len cs s e;simp [Str.length];omega)
  · rw [h1]
    exact wp_ifT (by simp) (wpAny_pure hQ)
theorem wp_group {m a sp:Addr} {cs:List Nat} {t:Tok} {li:Int} {gs s e g i:Nat} {v:Value} {Q:Value→Shared→Prop} (hm:σ.heap.get? m = some (matchO cs t a li sp)) (hs:σ.heap.get? sp = some (spanO gs s e g)) (hz:cs.length≤sizeLine) {σ':Shared}
    (hnum:∀ Q',Q' i σ'→wpAny (model prog w) A.in1 (Builtin.Re.reGroupNumber (foundX cs t a li sp gs s e g) v) Q' E σ)
    (hb:(foundX cs t a li sp gs s e g).spans.getD (2 * i) (-1) = s∧(foundX cs t a li sp gs s e g).spans.getD (2 * i + 1) (-1) = e∧Q (.str ⟨(cutS cs s e).toArray⟩ σ'.toks) { σ' with toks:=σ'.toks + 1 } ∨
      (foundX cs t a li sp gs s e g).spans.getD (2 * i) (-1) = -1∧Q .none σ') :
    wpAny (model prog w) A (call (.builtin "re.Match.group") [.ref m,v]) Q E σ:=by
  refine wpAny_call_entry slot_match_group ⟨_,hm,rfl⟩ entry_match_group ?_ (args_match_group _ _)
  unfold Builtin.«re.Match.group»
  refine wpAny_bind (wpAny_pure ?_)
  dsimp only
  unfold Builtin.Re.reFound Builtin.Re.reRawItems
  refine wpAny_bind (wpAny_bind (wpAny_fieldsOf hm rfl (wpAny_bind (wpAny_bind (show wpAny _ _ (seqItems? (.ref sp)) _ _ _ from wpAny_seqItems hs rfl (wpAny_pure (wpAny_pure ?_)))))))
  refine wpAny_bind (hnum _ (wpAny_bind ?_))
  exact wp_groupText (x:=foundX cs t a li sp gs s e g) hz rfl (hb.imp (fun h=>⟨h.1,h.2.1,wpAny_pure ⟨_,rfl,h.2.2⟩⟩) fun h=>⟨h.1,wpAny_pure ⟨_,rfl,h.2⟩⟩)
theorem wp_numI {x:Builtin.Re.ReFound} {i:Nat} {t:Tok} {Q:Nat→Shared→Prop} (hi:2 * i < x.spans.size) (hQ:Q i σ):wpAny (model prog w) A (Builtin.Re.reGroupNumber x (.int i t)) Q E σ:=by
  unfold Builtin.Re.reGroupNumber
  refine wpAny_bind (wpAny_of_eq (a:=some (i:Int)) rfl ?_)
  refine wp_ifT rfl ?_
  refine wpAny_bind (wpAny_of_eq (a:=(i:Int)) rfl (wp_ifF ?_ (wpAny_pure hQ)))
  simp;omega
theorem str_noIndex:typeLookup (.type "str") "__index__" = pure none:=by rw [typeLookup_type,builtinLookup_eq_fast];kernel_rfl
noncomputable def SetDict (P:Params) (h:Heap) (d:Addr):Prop:=∃ t u n,h.get? d = some { cls:=.type "dict",data:=.dict #[{ hash:=PyData.keyHash P (Str.ofString "set"),key:=.str (Str.ofString "set") t,val:=.int 2 u }] n }
theorem set_map {h:Heap} {d:Addr} (H:SetDict w.params h d):∃ u,h.MapOf (PySem.strKind prog w) d fun x=>if x = Str.ofString "set" then some (.int 2 u) else none:=by
  obtain ⟨t,u,n,e⟩:=H
  refine ⟨u,_,_,_,e,⟨rfl,rfl,rfl⟩,rfl,fun x hx=>?_,fun x=>?_⟩
  · simp at hx;subst hx
    exact ⟨Str.ofString "set",by simp [PySem.strKind,Value.isStrOf],rfl⟩
  · by_cases hx:x = Str.ofString "set"
    · subst hx;simp [findBy,PySem.strKind,Value.isStrOf]
    · simp [findBy,PySem.strKind,Value.isStrOf,hx]
      exact fun q=>hx q.symm
theorem wp_numS {x:Builtin.Re.ReFound} {a d:Addr} {op:Obj} {vs:Array Value} {t:Tok} {Q:Nat→Shared→Prop} (hx:x.fields.getD 1 .none = .ref a) (ho:σ.heap.get? a = some op) (hd:op.data = .fields vs) (h3:vs.getD 3 .none = .ref d) (H:SetDict w.params σ.heap d) (hi:4 < x.spans.size)
    (hQ:Q 2 { σ with toks:=σ.toks + 1 }):wpAny (model prog w) A (Builtin.Re.reGroupNumber x (.str (Str.ofString "set") t)) Q E σ:=by
  obtain ⟨u,hm⟩:=set_map (prog:=prog) H
  unfold Builtin.Re.reGroupNumber
  refine wpAny_bind (wpAny_of_eq (a:=none) rfl (wp_ifF Bool.false_ne_true ?_))
  refine wpAny_bind (wpAny_specialOf (typeIs_str _ _ _) str_noIndex (wp_ifF Bool.false_ne_true ?_))
  rw [hx]
  refine wpAny_bind (wpAny_fieldsOf ho hd ?_)
  rw [h3]
  refine wpAny_bind (wpAny_dictGet_of (knd:=PySem.strKind prog w) (k:=Str.ofString "set") (by simp [PySem.strKind,Value.isStrOf]) hm ?_)
  rw [if_pos rfl]
  refine wpAny_bind (wpAny_of_eq (a:=some (2:Int)) rfl (wpAny_bind (wpAny_pure ?_)))
  refine wp_ifF ?_ (wpAny_pure hQ)
  simp;omega
end
section
variable {S:Sig} {k:Nat}
theorem MatP.run {cs:List Nat} {a:Addr} {gs s e g:Nat} {h:Heap} {v:Value} (m:MatP cs a gs s e g h v):∃ a o,v = .ref a∧h.get? a = some o∧o.cls = .type "re.Match"∧o.dict = none:=by
  obtain ⟨m,t,li,sp,e1,e2,e3⟩:=m
  exact ⟨m,_,e1,e2,rfl,rfl⟩
theorem MatP.ty {cs:List Nat} {a:Addr} {gs s e g:Nat}:TyD (.abs (MatP cs a gs s e g)) "re.Match":=fun h v m=>m.run
theorem Ops.groupI {cs:List Nat} {a:Addr} {gs s e g i:Nat} {d:D} (hz:cs.length≤sizeLine) (hi:2 * i < (spansI gs s e g).length)
    (hd:((spansI gs s e g).toArray.getD (2 * i) (-1) = s∧(spansI gs s e g).toArray.getD (2 * i + 1) (-1) = e∧d = .str (cutS cs s e)) ∨ ((spansI gs s e g).toArray.getD (2 * i) (-1) = -1∧d = .none)) :
    Ops S k (fun vs=>call (.builtin "re.Match.group") vs) [.abs (MatP cs a gs s e g),.int i] d:=by
  intro A g₀ σ vs Q E at' rs hQ
  cases rs using Rds.casesCons with
  | cons r1 rs =>
    cases rs using Rds.casesCons with
    | cons r2 rs =>
      cases rs using Rds.casesNil
      cases r1 using Rd.casesAbs with
      | abs f =>
        obtain ⟨m,t,li,sp,rfl,e2,e3⟩:=f _ at'.keep
        cases r2 using Rd.casesInt with
        | int u =>
          have sp_eq:(foundX cs t a li sp gs s e g).spans = (spansI gs s e g).toArray:=by
            show Array.map Builtin.Re.reRawOf (List.map rawInt (spansI gs s e g)).toArray = _
            rw [List.map_toArray,List.map_map]
            congr 1
            exact List.map_id _
          refine wp_group e2 e3 hz (fun Q' h=>wp_numI (by rw [sp_eq];simpa using hi) h) ?_
          rw [sp_eq]
          rcases hd with ⟨h1,h2,rfl⟩ | ⟨h1,rfl⟩
          · exact .inl ⟨h1,h2,hQ _ g₀ _ (at'.tick _ (Nat.le_succ _)) (.str _ _ (Nat.le_trans (cutS_len ..) hz))⟩
          · exact .inr ⟨h1,hQ _ g₀ _ (at'.refl _) (.raw _)⟩
structure PatG (S:Sig) (a b:Addr):Prop where
  pat:∃ o p0 t ix d,S.K.lookup a = some o∧o.cls = .type "re.Pattern"∧o.dict = none∧o.data = .fields #[p0,.int 32 t,.int 3 0,.ref d,ix,.ref b,.int 0 0] ∧
    ∃ t u n,S.K.lookup d = some { cls:=.type "dict",data:=.dict #[{ hash:=PyData.keyHash S.w.params (Str.ofString "set"),key:=.str (Str.ofString "set") t,val:=.int 2 u }] n }
  code:∃ o n,S.K.lookup b = some o∧o.data = .seq (gcode.map fun (c:Nat)=>rawInt c) n
theorem Ops.groupS {cs:List Nat} {a b:Addr} {s e g:Nat} {d:D} (hp:PatG S a b) (hz:cs.length≤sizeLine) (hg:g < 3) (hd:d = if g = 1 then .str (cutS cs s e) else .none) :
    Ops S k (fun vs=>call (.builtin "re.Match.group") vs) [.abs (MatP cs a 3 s e g),.str [115,101,116]] d:=by
  intro A g₀ σ vs Q E at' rs hQ
  cases rs using Rds.casesCons with
  | cons r1 rs =>
    cases rs using Rds.casesCons with
    | cons r2 rs =>
      cases rs using Rds.casesNil
      cases r1 using Rd.casesAbs with
      | abs f =>
        obtain ⟨m,t,li,sp,rfl,e2,e3⟩:=f _ at'.keep
        cases r2 using Rd.casesStr with
        | str u hu =>
          have K:=at'.base.kin.keeps at'.keep
          obtain ⟨o,p0,t0,ix,dd,h1,h2,h3,h4,t1,u1,n1,h5⟩:=hp.pat
          have sp_eq:(foundX cs t a li sp 3 s e g).spans = (spansI 3 s e g).toArray:=by
            show Array.map Builtin.Re.reRawOf (List.map rawInt (spansI 3 s e g)).toArray = _
            rw [List.map_toArray,List.map_map]
            congr 1
            exact List.map_id _
          have hset:(Str.ofString "set") = (⟨[115,101,116].toArray⟩:Str):=rfl
          refine wp_group e2 e3 hz (fun Q' h=>(by rw [← hset];exact wp_numS (x:=foundX cs t a li sp 3 s e g) rfl (K _ _ h1) h4 rfl ⟨t1,u1,n1,K _ _ h5⟩ (by rw [sp_eq];rcases (by omega:g = 0 ∨ g = 1 ∨ g = 2) with rfl | rfl | rfl <;> (show 4 < 8;decide)) h)) ?_
          rw [sp_eq]
          rcases (by omega:g = 0 ∨ g = 1 ∨ g = 2) with rfl | rfl | rfl
          · exact .inr ⟨rfl,hQ _ g₀ _ (at'.tick _ (Nat.le_succ _)) (by rw [hd];exact .raw _)⟩
          · exact .inl ⟨rfl,rfl,hQ _ g₀ _ (at'.tick _ (Nat.le_trans (Nat.le_succ _) (Nat.le_succ _))) (by rw [hd];exact .str _ _ (Nat.le_trans (cutS_len ..) hz))⟩
          · exact .inr ⟨rfl,hQ _ g₀ _ (at'.tick _ (Nat.le_succ _)) (by rw [hd];exact .raw _)⟩
end
end
section
open PySem PySem.W PySem.Calls PyProof.Rows
noncomputable abbrev scanO (a:Addr) (cs:List Nat) (t:Tok) (p:Int):Obj:={ cls:=.type "_sre.SRE_Scanner",data:=.fields #[.ref a,.str ⟨cs.toArray⟩ t,rawInt p,rawInt 0,rawInt cs.length,.bool false] }
noncomputable abbrev searchO (sc:Addr):Obj:={ cls:=.type "builtin_function_or_method",data:=.fields #[.builtin "_sre.SRE_Scanner.search",.ref sc] }
noncomputable abbrev iterO (q:Addr):Obj:={ cls:=.type "callable_iterator",data:=.fields #[.ref q,.none,.bool false] }
theorem look_search:typeLookup (.type "_sre.SRE_Scanner") "search" = pure (some (.builtin "_sre.SRE_Scanner.search")):=by rw [typeLookup_type,builtinLookup_eq_fast];kernel_rfl
theorem ty_search:typeOf (.builtin "_sre.SRE_Scanner.search") = pure (.type "method_descriptor"):=by show builtinType _ = _;rw [builtinType_eq_fast];kernel_rfl
theorem look_getS:specialOf (.builtin "_sre.SRE_Scanner.search") "__get__" = pure (some (.builtin "method_descriptor.__get__")):=by
  unfold specialOf
  rw [ty_search]
  show typeLookup _ _ = _
  exact slot_mdget.lookup
theorem look_setS:specialOf (.builtin "_sre.SRE_Scanner.search") "__set__" = pure none:=by
  unfold specialOf
  rw [ty_search]
  exact none_mdset
theorem look_delS:specialOf (.builtin "_sre.SRE_Scanner.search") "__delete__" = pure none:=by
  unfold specialOf
  rw [ty_search]
  exact none_mddel
theorem slot_scan_ga:Slot "_sre.SRE_Scanner" "__getattribute__" "object.__getattribute__" :=
  .of (owner:="object") (n:="__getattribute__") (by rw [typeLookup_type,builtinLookup_eq_fast];kernel_rfl) (by decide +kernel) (by decide +kernel) (by decide +kernel)
    (by first | exact .inl (by decide +kernel) | exact .inr (by decide +kernel)) (by rw [isSubtype_type];kernel_rfl)
theorem entry_oga:entryFor table "object.__getattribute__" = some Builtin.«object.__getattribute__»:=entryFor_of_tree (by kernel_rfl)
theorem args_oga (a b:Value):argsOk "object.__getattribute__" ⟨[a,b],[]⟩:=by unfold argsOk;kernel_rfl
theorem mdget_search {prog:Program} {w:World} {A:Around} {E:Value→Shared→Prop} {s:Shared} {sc:Addr} {o:Obj} {P:PySem.Fin→Shared→Prop} (ho:s.heap.get? sc = some o) (hc:o.cls = .type "_sre.SRE_Scanner")
    (h:P (.done (.ret (.ref s.heap.objs.size))) { s with heap:=s.heap.push (searchO sc) }):wpAny (model prog w) A (Builtin.«method_descriptor.__get__» ⟨[.builtin "_sre.SRE_Scanner.search",.ref sc,.type "_sre.SRE_Scanner"],[]⟩) P E s:=by
  have ck:wpAny (model prog w) A (isInstance (.ref sc) (.type "_sre.SRE_Scanner")) (fun b s'=>b = true∧s' = s) E s:=wpAny_isInstance (T:="_sre.SRE_Scanner") (b:=true) ⟨_,ho,hc⟩ (by rw [isSubtype_type];kernel_rfl) ⟨rfl,rfl⟩
  unfold Builtin.«method_descriptor.__get__»
  refine wpAny_bind (wpAny_of_eq (a:=(.builtin "_sre.SRE_Scanner.search",some (.ref sc),some (.type "_sre.SRE_Scanner"))) (by first | rfl | kernel_rfl) ?_)
  dsimp only
  refine wp_ifT (by decide +kernel) ?_
  refine wpAny_bind (f:=fun _=>isType (.type "_sre.SRE_Scanner") >>= _) ?_
  refine wpAny_bind (m:=_) (f:=fun (q:Str × Value)=>isInstance (.ref sc) q.2 >>= fun b=>_) (wpAny_of_eq (a:=(("search":Str),.type "_sre.SRE_Scanner")) (by kernel_rfl) ?_)
  refine wpAny_bind (wpAny_mono ck (fun b s' hb=>?_) fun _ _ x=>x)
  obtain ⟨rfl,rfl⟩:=hb
  refine wpAny_pure ?_
  refine wpAny_bind (wpAny_of_eq (a:=true) (by first | rfl | kernel_rfl) (wp_ifF (by decide) ?_))
  refine wpAny_bind (m:=_) (f:=fun _=>newFields "builtin_function_or_method" [.builtin "_sre.SRE_Scanner.search",.ref sc] >>= fun v=>ret v) ?_
  refine wpAny_bind (m:=_) (f:=fun (q:Str × Value)=>isInstance (.ref sc) q.2 >>= fun b=>_) (wpAny_of_eq (a:=(("search":Str),.type "_sre.SRE_Scanner")) (by kernel_rfl) ?_)
  refine wpAny_bind (wpAny_mono ck (fun b s'' hb=>?_) fun _ _ x=>x)
  obtain ⟨rfl,rfl⟩:=hb
  refine wpAny_pure ?_
  exact wpAny_bind (wpAny_newObj_type (wpAny_pure h))
theorem getattribute_runS {prog:Program} {w:World} {A:Around} {E:Value→Shared→Prop} {s:Shared} {sc a:Addr} {cs:List Nat} {u t:Tok} {p:Int} {P:PySem.Fin→Shared→Prop} (ho:s.heap.get? sc = some (scanO a cs u p))
    (h:P (.done (.ret (.ref s.heap.objs.size))) { s with heap:=s.heap.push (searchO sc) }):wpAny (model prog w) A (Builtin.«object.__getattribute__» ⟨[.ref sc,.str "search" t],[]⟩) P E s:=by
  obtain ⟨hp,g,d,tk,os⟩:=s
  have hT:∀ tk',(⟨hp,g,d,tk',os⟩:Shared).TypeIs (.ref sc) "_sre.SRE_Scanner":=fun _=>⟨_,ho,rfl⟩
  have f1:=look_search
  have f2:=look_getS
  have f3:=look_setS
  have f4:=look_delS
  unfold Builtin.«object.__getattribute__»
  iterate 58 (any_goals (first | assumption | wp_step))
  show wpAny (model prog w) A (Builtin.ObjectAttr.bindTo (.builtin "method_descriptor.__get__") (.builtin "_sre.SRE_Scanner.search") (.ref sc) (.type "_sre.SRE_Scanner")) P E _
  have tyd:(⟨hp,g,d,tk,os⟩:Shared).TypeIs (.builtin "_sre.SRE_Scanner.search") "method_descriptor":=ty_search
  exact wpAny_bind (wpAny_holding (wpAny_call_entry slot_mdget tyd entry_mdget (mdget_search ho rfl ⟨_,rfl,wpAny_pure h⟩) (args_mdget _ _ _)))
theorem getAttr_search {prog:Program} {w:World} {A:Around} {E:Value→Shared→Prop} {s:Shared} {sc a:Addr} {cs:List Nat} {t:Tok} {p:Int} {ex:Bool} {Q:Value→Shared→Prop} (ho:s.heap.get? sc = some (scanO a cs t p))
    (h:Q (.ref s.heap.objs.size) { s with heap:=s.heap.push (searchO sc),toks:=s.toks + 1 }):wpAny (model prog w) A (getAttr (.ref sc) "search" ex) Q E s:=by
  obtain ⟨hp,g,d,tk,os⟩:=s
  have hT:∀ tk',(⟨hp,g,d,tk',os⟩:Shared).TypeIs (.ref sc) "_sre.SRE_Scanner":=fun _=>⟨_,ho,rfl⟩
  have f3:=slot_scan_ga.lookup
  have f4:=slot_scan_ga.bind (.ref sc)
  unfold getAttr getAttrBy
  repeat (any_goals (first | assumption | exact hT _ | wp_step))
  refine wp_ifF (by rw [show onTheHeap (Value.builtin "object.__getattribute__") = false from rfl,Bool.and_false];exact Bool.false_ne_true) ?_
  unfold boundAndCalled
  refine wpAny_bind (wpAny_of_eq f4 ?_)
  refine wpAny_call_entry slot_scan_ga (hT _) entry_oga (getattribute_runS ho ⟨_,rfl,?_⟩) (args_oga _ _)
  exact wpAny_pure h
end
section
open PySem PySem.W PySem.Calls PyProof.Rows
structure GPat (h:Heap) (a b:Addr):Prop where
  pat:∃ o p0 t f3 f4,h.get? a = some o∧o.cls = .type "re.Pattern"∧o.dict = none∧o.data = .fields #[p0,.int 32 t,.int 3 0,f3,f4,.ref b,.int 0 0]
  code:∃ o n,h.get? b = some o∧o.data = .seq (gcode.map fun (c:Nat)=>rawInt c) n
theorem PatG.at {S:Sig} {a b:Addr} (x:PatG S a b) {h:Heap} (K:S.K.In h):GPat h a b :=
  ⟨by obtain ⟨o,p0,t,ix,d,h1,h2,h3,h4,_⟩:=x.pat;exact ⟨o,p0,t,_,_,K _ _ h1,h2,h3,h4⟩,by obtain ⟨o,n,h1,r⟩:=x.code;exact ⟨o,n,K _ _ h1,r⟩⟩
theorem gcode_back:Array.map (fun x:Int=>x.toNat) (Array.map Builtin.Re.reRawOf ((some (gcode.map fun (c:Nat)=>rawInt c)).getD #[])) = gcode:=by
  rw [Option.getD_some,Array.map_map,Array.map_map]
  exact Array.map_id _
section
variable {M:Model} {A:Around} {E:Value→Shared→Prop} {s:Shared}
theorem wp_codeG {a b:Addr} {β:Type} {f:Array Int→Sem β} {Q:β→Shared→Prop} (hp:GPat s.heap a b) (h:wpAny M A (f (Array.map Builtin.Re.reRawOf ((some (gcode.map fun (c:Nat)=>rawInt c)).getD #[]))) Q E s):wpAny M A (Builtin.Re.reRawItems (.ref b) >>= f) Q E s:=by
  obtain ⟨o',n,h3,h4⟩:=hp.code
  refine wpAny_bind ?_
  unfold Builtin.Re.reRawItems
  exact wpAny_bind (wpAny_seqItems h3 h4 (wpAny_pure h))
theorem wp_wholeG {a b:Addr} {cs:List Nat} {t:Tok} {Q:Builtin.Re.ReTarget→Shared→Prop} (hp:GPat s.heap a b)
    (hQ:Q { pattern:=.ref a,string:=.str ⟨cs.toArray⟩ t,code:=gcode,text:=cs.toArray,kind:=0,groups:=3,pos:=0,lim:=cs.toArray.size } s) :
    wpAny M A (Builtin.Re.reWholeTarget (.ref a) (.str ⟨cs.toArray⟩ t)) Q E s:=by
  obtain ⟨o,p0,t0,f3,f4,h1,_,_,h2⟩:=hp.pat
  unfold Builtin.Re.reWholeTarget
  refine wpAny_bind (wpAny_fieldsOf h1 h2 ?_)
  have e:Builtin.Re.reTextOf (.str ⟨cs.toArray⟩ t) = pure (cs.toArray,0):=rfl
  rw [e]
  refine wpAny_bind (wpAny_pure ?_)
  show wpAny M A (do let x ← Builtin.Re.reRawItems (.ref b);pure (Builtin.Re.ReTarget.mk (.ref a) (.str ⟨cs.toArray⟩ t) (x.map (·.toNat)) cs.toArray 0 3 0 cs.toArray.size)) Q E s
  refine wp_codeG hp (wpAny_pure ?_)
  rw [gcode_back]
  exact hQ
theorem wp_notHeldM {x:Str} {t:Tok} {id:String} {Q:Unit→Shared→Prop} (h:Q () s):wpAny M A (Builtin.Re.reNotHeld id (.str x t)) Q E s:=by
  unfold Builtin.Re.reNotHeld
  refine wpAny_bind (wpAny_isInstance (U:="bytearray") (b:=false) (typeIs_str _ _ _) (by rw [isSubtype_type];kernel_rfl) ?_)
  exact wpAny_pure h
theorem reNamed3 (s:Value):Builtin.Re.reNamed "re.Pattern.finditer" "finditer" ["string","pos","endpos"] 1 [s] [] = pure [some s,none,none]:=rfl
theorem wp_targetG {a b:Addr} {cs:List Nat} {t:Tok} {Q:Builtin.Re.ReTarget→Shared→Prop} (hz:cs.length≤sizeLine) (hp:GPat s.heap a b)
    (hQ:Q { pattern:=.ref a,string:=.str ⟨cs.toArray⟩ t,code:=gcode,text:=cs.toArray,kind:=0,groups:=3,pos:=0,lim:=cs.length } s) :
    wpAny M A (Builtin.Re.reTarget "re.Pattern.finditer" "finditer" ⟨[.ref a,.str ⟨cs.toArray⟩ t],[]⟩) Q E s:=by
  obtain ⟨o,p0,t0,f3,f4,h1,_,_,h2⟩:=hp.pat
  unfold Builtin.Re.reTarget
  refine wpAny_bind (wpAny_of_eq (reNamed3 _) (wpAny_bind (wpAny_pure (wpAny_bind (wpAny_pure (wpAny_bind (wpAny_fieldsOf h1 h2 ?_)))))))
  have e:Builtin.Re.reTextOf (.str ⟨cs.toArray⟩ t) = pure (cs.toArray,0):=rfl
  rw [e]
  refine wpAny_bind (wpAny_pure ?_)
  show wpAny M A (do let x ← Builtin.Re.reRawItems (.ref b);pure (Builtin.Re.ReTarget.mk (.ref a) (.str ⟨cs.toArray⟩ t) (x.map (·.toNat)) cs.toArray 0 3 (min 0 cs.toArray.size) (min 9223372036854775807 cs.toArray.size))) Q E s
  refine wp_codeG hp (wpAny_pure ?_)
  rw [gcode_back,Nat.zero_min,Nat.min_eq_right (show cs.toArray.size≤9223372036854775807 by rw [List.size_toArray];exact Nat.le_trans hz (by decide))]
  exact hQ
end
theorem slot_pat_finditer:Slot "re.Pattern" "finditer" "re.Pattern.finditer" :=
  .of (owner:="re.Pattern") (n:="finditer") (by rw [typeLookup_type,builtinLookup_eq_fast];kernel_rfl) (by decide +kernel) (by decide +kernel) (by decide +kernel)
    (by first | exact .inl (by decide +kernel) | exact .inr (by decide +kernel)) (by rw [isSubtype_type];kernel_rfl)
theorem type_pat_finditer:typeOf (.builtin "re.Pattern.finditer") = pure (.type "method_descriptor"):=by show builtinType _ = _;rw [builtinType_eq_fast];kernel_rfl
theorem entry_pat_finditer:entryFor table "re.Pattern.finditer" = some Builtin.«re.Pattern.finditer»:=entryFor_of_tree (by kernel_rfl)
theorem args_pat_finditer (a b:Value):argsOk "re.Pattern.finditer" ⟨[a,b],[]⟩:=by
  unfold argsOk;rw [signature?_of (id:="re.Pattern.finditer") (n:=['r','e','t','i','d','n','i','f']) (o:=['n','r','e','t','t','a','P','.','e','r']) (by kernel_rfl) owner_pat];kernel_rfl
theorem wp_finditer {prog:Program} {w:World} {A:Around} {E:Value→Shared→Prop} {s:Shared} {a b:Addr} {cs:List Nat} {t:Tok} {Q:Value→Shared→Prop} (hz:cs.length≤sizeLine) (hp:GPat s.heap a b)
    (hQ:Q (.ref (s.heap.objs.size + 2)) { s with heap:=((s.heap.push (scanO a cs t 0)).push (searchO s.heap.objs.size)).push (iterO (s.heap.objs.size + 1)),toks:=s.toks + 1 }) :
    wpAny (model prog w) A (call (.builtin "re.Pattern.finditer") [.ref a,.str ⟨cs.toArray⟩ t]) Q E s:=by
  obtain ⟨o,p0,t0,f3,f4,h1,hc,_,h2⟩:=id hp.pat
  refine wpAny_call_entry slot_pat_finditer ⟨o,h1,hc⟩ entry_pat_finditer ?_ (args_pat_finditer _ _)
  unfold Builtin.«re.Pattern.finditer»
  refine wpAny_bind (wp_targetG hz hp (wpAny_bind (wp_notHeldM ?_)))
  refine wpAny_bind (show wpAny _ _ (newFields "_sre.SRE_Scanner" [.ref a,.str ⟨cs.toArray⟩ t,rawInt 0,rawInt 0,rawInt cs.length,.bool false]) _ _ _ from wpAny_newObj_type ?_)
  refine wpAny_bind (wpAny_holding (getAttr_search (a:=a) (cs:=cs) (t:=t) (p:=0) (Heap.get?_push_size _ rfl) ?_))
  refine wpAny_bind (wpAny_newObj_type (wpAny_pure ⟨_,rfl,?_⟩))
  have e1:(s.heap.push (scanO a cs t 0)).objs.size = s.heap.objs.size + 1:=Heap.size_push ..
  have e2:((s.heap.push (scanO a cs t 0)).push (searchO s.heap.objs.size)).objs.size = s.heap.objs.size + 2:=by rw [Heap.size_push,e1]
  simp only [e1] at *
  rw [e2]
  exact hQ
end
section
open PySem PySem.W PySem.Calls PyProof.Rows
noncomputable def upto (c:Nat):List Nat→Nat
  | []=>0
  | x :: r=>if x = c then 0 else upto c r + 1
theorem upto_le (c:Nat):∀ r:List Nat,upto c r≤r.length
  | []=>Nat.le_refl _
  | x :: r=>by
    show (if x = c then 0 else upto c r + 1)≤r.length + 1
    split
    · exact Nat.zero_le _
    · exact Nat.succ_le_succ (upto_le c r)
theorem upto_ne (c:Nat):∀ (r:List Nat) (j:Nat),j < upto c r→r.getD j 0 ≠ c
  | [],j,h=>absurd h (Nat.not_lt_zero j)
  | x :: r,j,h=>by
    have h':j < if x = c then 0 else upto c r + 1:=h
    by_cases hx:x = c
    · rw [if_pos hx] at h';exact absurd h' (Nat.not_lt_zero j)
    · rw [if_neg hx] at h'
      cases j with
      | zero=>exact hx
      | succ j=>exact upto_ne c r j (Nat.lt_of_succ_lt_succ h')
theorem upto_at (c:Nat):∀ r:List Nat,upto c r < r.length→r.getD (upto c r) 0 = c
  | [],h=>absurd h (Nat.not_lt_zero _)
  | x :: r,h=>by
    have e:upto c (x :: r) = if x = c then 0 else upto c r + 1:=rfl
    by_cases hx:x = c
    · rw [e,if_pos hx];exact hx
    · rw [e,if_neg hx] at h ⊢
      exact upto_at c r (Nat.lt_of_succ_lt_succ h)
noncomputable def cutOf:List Nat→Nat × Nat
  | []=>(0,0)
  | c :: r=>if c = 91 then (if upto 93 r < r.length then (1,upto 93 r + 2) else (2,r.length + 1)) else (0,upto 91 r + 1)
theorem cutOf_ok (r:List Nat) (h:r ≠ []):0 < (cutOf r).2∧(cutOf r).2≤r.length∧(cutOf r).1 < 3:=by
  cases r with
  | nil=>exact absurd rfl h
  | cons c r =>
    have h1:=upto_le 91 r
    have h2:=upto_le 93 r
    have e:cutOf (c :: r) = if c = 91 then (if upto 93 r < r.length then (1,upto 93 r + 2) else (2,r.length + 1)) else (0,upto 91 r + 1):=rfl
    rw [e]
    split
    · split
      · rename_i h3;simp only [List.length_cons];omega
      · simp only [List.length_cons];omega
    · simp only [List.length_cons];omega
theorem getD_drop (cs:List Nat) (p j:Nat):cs.toArray.getD (p + j) 0 = (cs.drop p).getD j 0:=by
  simp [Array.getD_eq_getD_getElem?,List.getD_eq_getElem?_getD,List.getElem?_drop]
theorem find_at {cs:List Nat} {p:Nat} (hz:cs.length≤100000) (h10:10 ∉ cs) (hp:p < cs.length):∃ c m',c≤1000000000∧Goes c (Sre.forSearch gcode cs.toArray 3 p cs.length false) m'∧Hit m' p (p + (cutOf (cs.drop p)).2) (cutOf (cs.drop p)).1:=by
  have no10:∀ i,i < cs.length→cs.toArray.getD i 0 ≠ 10:=fun i hi q=>h10 (by
    have:cs.toArray.getD i 0 = cs[i]:=by simp [Array.getD,hi]
    rw [← q,this];exact List.getElem_mem hi)
  have hl:(cs.drop p).length = cs.length - p:=List.length_drop
  cases hr:cs.drop p with
  | nil=>rw [hr] at hl;simp at hl;omega
  | cons x r =>
    rw [hr] at hl
    simp only [List.length_cons] at hl
    have g0:cs.toArray.getD p 0 = x:=by have:=getD_drop cs p 0;rw [hr] at this;exact this
    have gs:∀ j,cs.toArray.getD (p + 1 + j) 0 = r.getD j 0:=fun j=>by rw [Nat.add_assoc,getD_drop,hr,Nat.add_comm 1];rfl
    have e:cutOf (x :: r) = if x = 91 then (if upto 93 r < r.length then (1,upto 93 r + 2) else (2,r.length + 1)) else (0,upto 91 r + 1):=rfl
    have l1:=upto_le 91 r
    have l2:=upto_le 93 r
    rw [e]
    by_cases hx:x = 91
    · rw [if_pos hx]
      by_cases h3:upto 93 r < r.length
      · rw [if_pos h3]
        obtain ⟨m',g,hit⟩:=hit_set (text:=cs.toArray) (n:=cs.length) (s:=p) (j:=upto 93 r) (must:=false) (by omega) (g0.trans hx) (by omega) ((gs _).trans (upto_at 93 r h3)) fun i hi=>⟨by rw [gs];exact upto_ne 93 r i hi,no10 _ (by omega)⟩
        exact ⟨_,m',by omega,g,by rw [show p + (upto 93 r + 2) = p + 1 + upto 93 r + 1 by omega];exact hit⟩
      · rw [if_neg h3]
        obtain ⟨m',g,hit⟩:=hit_open (text:=cs.toArray) (n:=cs.length) (s:=p) (must:=false) (by omega) hp (g0.trans hx) fun i hi=>⟨by rw [gs];exact upto_ne 93 r i (by omega),no10 _ hi⟩
        exact ⟨_,m',by omega,g,by rw [show p + (r.length + 1) = cs.length by omega];exact hit⟩
    · rw [if_neg hx]
      obtain ⟨m',g,hit⟩:=hit_run (text:=cs.toArray) (n:=cs.length) (s:=p) (k:=upto 91 r + 1) (must:=false) (Nat.succ_pos _) (by omega) (by omega)
        (fun j hj=>by
          cases j with
          | zero=>rw [Nat.add_zero,g0];exact hx
          | succ j=>rw [show p + (j + 1) = p + 1 + j by omega,gs];exact upto_ne 91 r j (by omega))
        (fun h=>by rw [show p + (upto 91 r + 1) = p + 1 + upto 91 r by omega,gs];exact upto_at 91 r (by omega))
      exact ⟨_,m',by omega,g,hit⟩
end
section
open PySem PySem.W PySem.Calls PyProof.Rows
theorem slot_none_eq:Slot "NoneType" "__eq__" "NoneType.__eq__" :=
  .of (owner:="NoneType") (n:="__eq__") (by rw [typeLookup_type,builtinLookup_eq_fast];kernel_rfl) (by decide +kernel) (by decide +kernel) (by decide +kernel)
    (by first | exact .inl (by decide +kernel) | exact .inr (by decide +kernel)) (by rw [isSubtype_type];kernel_rfl)
theorem entry_none_eq:entryFor table "NoneType.__eq__" = some Builtin.«NoneType.__eq__»:=entryFor_of_tree (by kernel_rfl)
theorem args_none_eq (a b:Value):argsOk "NoneType.__eq__" ⟨[a,b],[]⟩:=by unfold argsOk;kernel_rfl
theorem slot_match_eq:Slot "re.Match" "__eq__" "object.__eq__" :=
  .of (owner:="object") (n:="__eq__") (by rw [typeLookup_type,builtinLookup_eq_fast];kernel_rfl) (by decide +kernel) (by decide +kernel) (by decide +kernel)
    (by first | exact .inl (by decide +kernel) | exact .inr (by decide +kernel)) (by rw [isSubtype_type];kernel_rfl)
theorem entry_obj_eq:entryFor table "object.__eq__" = some Builtin.«object.__eq__»:=entryFor_of_tree (by kernel_rfl)
theorem args_obj_eq (a b:Value):argsOk "object.__eq__" ⟨[a,b],[]⟩:=by unfold argsOk;kernel_rfl
theorem eq_match {prog:Program} {w:World} {A:Around} {E:Value→Shared→Prop} {s:Shared} {m:Addr} {Q:Bool→Shared→Prop} (hm:s.TypeIs (.ref m) "re.Match") (hu:A.units < cLine) (h:Q false s):wpAny (model prog w) A (eqBool .none (.ref m)) Q E s:=by
  unfold eqBool
  refine wpAny_holding (wp_ifF (show ¬ ((Value.none == Value.ref m) = true) from Bool.false_ne_true) ?_)
  refine wpAny_bind ?_
  have hn:s.TypeIs .none "NoneType":=rfl
  have e1:(Value.type "NoneType" != Value.type "re.Match") = true:=by decide
  have e2:isSubtype (.type "re.Match") (.type "NoneType") = pure false:=by rw [isSubtype_type];kernel_rfl
  unfold richCompare
  refine wpAny_holding (wpAny_bind (wpAny_cRoomFor_or (.inr hu) ?_))
  rw [hn.oneThing_none]
  refine wpAny_bind (wpAny_typeOf hn (wpAny_bind (wpAny_typeOf hm ?_)))
  rw [e1]
  refine wpAny_bind (wpAny_of_eq e2 (wp_ifF Bool.false_ne_true ?_))
  refine wpAny_bind (m:=tryCompare .none _ (.ref m)) (wpAny_tryCompare_declines hn slot_none_eq (wpAny_call_entry slot_none_eq hn entry_none_eq (show wpAny _ _ (ret (if (Value.ref m == Value.none) = true then .bool true else .notImplemented)) _ _ _ from ?_) (args_none_eq _ _)))
  rw [show (Value.ref m == Value.none) = false from rfl]
  refine wpAny_pure ⟨_,rfl,rfl,?_⟩
  refine wp_ifT rfl ?_
  refine wpAny_bind (m:=tryCompare (.ref m) _ .none) (wpAny_tryCompare_declines hm slot_match_eq (wpAny_call_entry slot_match_eq hm entry_obj_eq (show wpAny _ _ (do if ← isSame (.ref m) .none then ret (.bool true) else ret .notImplemented) _ _ _ from ?_) (args_obj_eq _ _)))
  refine wpAny_bind (wpAny_of_eq (a:=false) rfl (wp_ifF Bool.false_ne_true (wpAny_pure ⟨_,rfl,rfl,?_⟩)))
  refine wpAny_bind (wpAny_rule (wpAny_bind (wpAny_of_eq (a:=false) rfl (wpAny_pure ?_))))
  exact wpAny_truthy_bool h
theorem eq_none {prog:Program} {w:World} {A:Around} {E:Value→Shared→Prop} {s:Shared} {Q:Bool→Shared→Prop} (h:Q true s):wpAny (model prog w) A (eqBool .none .none) Q E s:=by
  unfold eqBool
  exact wpAny_holding (wp_ifT (by decide) (wpAny_bind (wpAny_rule (wpAny_pure h))))
section
variable {S:Sig} {A:Around} {E:Value→Shared→Prop} {s:Shared}
theorem noColl {stop:String} {Q:Unit→Shared→Prop} (h:Q () s):wpAny S.X A (noCollectionInside stop) Q E s:=by
  unfold noCollectionInside
  refine wpAny_bind (wpAny_runValue (codeAny_of_tree ?_))
  rw [show S.X.den (.builtin "gc.ask" ⟨[rawInt 13],[]⟩) = ret (.bool false) from denX_ask]
  exact wpAny_pure (wp_ifF (by decide) (wpAny_pure h))
theorem scan_run {sc a b:Addr} {cs:List Nat} {t:Tok} {p:Nat} {P:PySem.Fin→Shared→Prop} (hz:cs.length≤100000) (h10:10 ∉ cs) (hp:p≤cs.length) (ho:s.heap.get? sc = some (scanO a cs t p)) (hG:GPat s.heap a b)
    (hit:p < cs.length→∀ li h',Heap.SameBut sc s.heap h'→h'.get? sc = some (scanO a cs t (p + (cutOf (cs.drop p)).2:Nat)) →
      P (.done (.ret (.ref (s.heap.objs.size + 1)))) { s with heap:=(h'.push (spanO 3 p (p + (cutOf (cs.drop p)).2) (cutOf (cs.drop p)).1)).push (matchO cs t a li s.heap.objs.size) })
    (miss:p = cs.length→∀ h',Heap.SameBut sc s.heap h'→h'.get? sc = some (scanO a cs t (-1))→P (.done (.ret .none)) { s with heap:=h' }) :
    wpAny S.X A (Builtin.Re.reScan "search" true ⟨[.ref sc],[]⟩) P E s:=by
  unfold Builtin.Re.reScan
  refine wp_ifF Bool.false_ne_true ?_
  refine wpAny_bind (wpAny_fieldsOf ho rfl ?_)
  refine wp_ifF (show ¬ ((p:Int) < 0) by omega) ?_
  refine wpAny_bind (noColl ?_)
  refine wpAny_bind (show wpAny _ _ (Builtin.Re.reWholeTarget (.ref a) (.str ⟨cs.toArray⟩ t)) _ _ _ from wp_wholeG hG ?_)
  have e1:cs.toArray.size = cs.length:=List.size_toArray
  show wpAny S.X A (Builtin.Re.reRunToEnd (Sre.forSearch gcode cs.toArray 3 (p:Int).toNat (cs.length:Int).toNat false) >>= _) P E s
  rw [Int.toNat_natCast,Int.toNat_natCast]
  rcases Nat.lt_or_eq_of_le hp with hl | rfl
  · obtain ⟨c,m',hc,go,ht⟩:=find_at hz h10 hl
    have hcut:=cutOf_ok (cs.drop p) (by intro q;have:=congrArg List.length q;simp at this;omega)
    have hcl:=hcut.2.1
    rw [List.length_drop] at hcl
    refine wpAny_bind (anyX (wp_rerunHit go ht.out hc ?_))
    dsimp only
    rw [ht.handed,ht.start]
    refine wpAny_bind (wpAny_setField ho rfl (show 2 < 6 by decide) ?_)
    have u1:=Heap.get?_update_self (Obj.mapFields (·.setIfInBounds 2 (rawInt ((p + (cutOf (cs.drop p)).2:Nat):Int)))) ho rfl
    refine wpAny_bind (wpAny_setField u1 rfl (show 5 < 6 by decide) ?_)
    have u2:=Heap.get?_update_self (Obj.mapFields (·.setIfInBounds 5 (.bool ((p + (cutOf (cs.drop p)).2) == p)))) u1 rfl
    refine wpAny_bind (show wpAny _ _ (Builtin.Re.reNewMatch (.ref a) (.str ⟨cs.toArray⟩ t) 3 0 cs.length m') _ _ _ from wp_newMatch ht (Nat.le_refl _) (by omega) fun li=>?_)
    refine wpAny_pure ?_
    have sb:Heap.SameBut sc s.heap ((s.heap.update sc (Obj.mapFields (·.setIfInBounds 2 (rawInt ((p + (cutOf (cs.drop p)).2:Nat):Int))))).update sc (Obj.mapFields (·.setIfInBounds 5 (.bool ((p + (cutOf (cs.drop p)).2) == p))))):=(Heap.SameBut.update ..).trans (Heap.SameBut.update ..)
    have hs:((s.heap.update sc (Obj.mapFields (·.setIfInBounds 2 (rawInt ((p + (cutOf (cs.drop p)).2:Nat):Int))))).update sc (Obj.mapFields (·.setIfInBounds 5 (.bool ((p + (cutOf (cs.drop p)).2) == p))))).objs.size = s.heap.objs.size:=sb.1
    have:=hit hl li _ sb (by rw [u2,show ((p + (cutOf (cs.drop p)).2) == p) = false by simp;omega];rfl)
    rw [← hs] at this
    exact this
  · refine wpAny_bind (anyX (wp_rerun search_end ?_))
    dsimp only
    refine wpAny_bind (wpAny_setField ho rfl (show 2 < 6 by decide) (wpAny_pure ?_))
    exact miss rfl _ (Heap.SameBut.update ..) (Heap.get?_update_self _ ho rfl)
end
end
section
open PySem PySem.W PySem.Calls PyProof.Rows
theorem slot_ci_next:Slot "callable_iterator" "__next__" "callable_iterator.__next__" :=
  .of (owner:="callable_iterator") (n:="__next__") (by rw [typeLookup_type,builtinLookup_eq_fast];kernel_rfl) (by decide +kernel) (by decide +kernel) (by decide +kernel)
    (by first | exact .inl (by decide +kernel) | exact .inr (by decide +kernel)) (by rw [isSubtype_type];kernel_rfl)
theorem entry_ci_next:entryFor table "callable_iterator.__next__" = some Builtin.«callable_iterator.__next__»:=entryFor_of_tree (by kernel_rfl)
theorem args_ci_next (a:Value):argsOk "callable_iterator.__next__" ⟨[a],[]⟩:=by unfold argsOk;kernel_rfl
theorem entry_search:entryFor table "_sre.SRE_Scanner.search" = some (Builtin.Re.reScan "search" true):=entryFor_of_tree (by kernel_rfl)
theorem kind_search:builtinKind "_sre.SRE_Scanner.search" = some .method:=by kernel_rfl
theorem owner_scan:Manifest.owners.lookup (String.ofList ['r','e','n','n','a','c','S','_','E','R','S','.','e','r','s','_'].reverse) = some Manifest.sig__sre_SRE_Scanner:=by kernel_rfl
theorem sig_search:Manifest.signature? "_sre.SRE_Scanner.search" = some ⟨.nothing,"SRE_Scanner.search","search",.self,[]⟩:=by
  rw [signature?_of (id:="_sre.SRE_Scanner.search") (n:=['h','c','r','a','e','s']) (o:=['r','e','n','n','a','c','S','_','E','R','S','.','e','r','s','_']) (by kernel_rfl) owner_scan];kernel_rfl
theorem check_search {M:Model} {A:Around} {E:Value→Shared→Prop} {s:Shared} {sc:Addr} {a:Addr} {cs:List Nat} {t:Tok} {p:Int} {Q:Unit→Shared→Prop} (ho:s.heap.get? sc = some (scanO a cs t p)) (h:Q () s):wpAny M A (checkBoundCall "_sre.SRE_Scanner.search" ⟨[.ref sc],[]⟩) Q E s:=by
  obtain ⟨hp,g,d,tk,os⟩:=s
  have hT:∀ tk',(⟨hp,g,d,tk',os⟩:Shared).TypeIs (.ref sc) "_sre.SRE_Scanner":=fun _=>⟨_,ho,rfl⟩
  unfold checkBoundCall
  rw [sig_search,kind_search]
  dsimp only
  refine wp_ifF (by decide) ?_
  refine wpAny_bind (wpAny_isInstance (T:="_sre.SRE_Scanner") (b:=false) (hT _) (by rw [isSubtype_type];kernel_rfl) ?_)
  refine wp_ifF (by decide +kernel) ?_
  repeat (any_goals (first | assumption | exact hT _ | wp_step))
theorem plain_search:plainId "_sre.SRE_Scanner.search" = true:=by decide +kernel
theorem plain_next:plainId "callable_iterator.__next__" = true:=by decide +kernel
theorem not_askB {id:String} {args:Args} (h:(id == "gc.ask") = false):Code.builtin id args ≠ askC:=fun q=>by
  injection q with q _;rw [q] at h;exact absurd h (by decide)
section
variable {S:Sig} {A:Around} {E:Value→Shared→Prop} {s:Shared}
theorem codeX_builtin {id:String} {args:Args} {b:Builtin} {Q:Value→Shared→Prop} (hid:(id == "gc.ask") = false) (hp:plainId id = true) (hb:entryFor table id = some b) (h:wpAny S.X A.in1 (b args) (fun fin s'=>∃ v,fin = .done (.ret v)∧Q v s') E s) :
    codeAny S.X A (.builtin id args) (fun r s'=>match r with | .ok (.ret v)=>Q v s' | .ok _=>False | .error e=>E e s') s:=by
  refine codeAny_of_tree ?_
  rw [show S.X.den (.builtin id args) = b args from (denX_of (not_askB hid)).trans ((den_builtin _ _).trans (by rw [hb])),Around.under_plainId hp]
  exact wpAny_mono h (fun fin s' h'=>by obtain ⟨v,rfl,hv⟩:=h';exact hv) fun _ _ x=>x
theorem call_search {q sc:Addr} {a:Addr} {cs:List Nat} {t:Tok} {p:Int} {Q:Value→Shared→Prop} (hq:s.heap.get? q = some (searchO sc)) (ho:s.heap.get? sc = some (scanO a cs t p))
    (h:wpAny S.X A.in1 (Builtin.Re.reScan "search" true ⟨[.ref sc],[]⟩) (fun fin s'=>∃ v,fin = .done (.ret v)∧Q v s') E s):wpAny S.X A (call (.ref q) []) Q E s:=by
  refine wpAny_call (codeAny_of_tree ?_)
  rw [show S.X.den (.call (.ref q) ⟨[],[]⟩) = denote table (.call (.ref q) ⟨[],[]⟩) from denX_of nofun]
  show wpAny _ A.in1 (callAny (.ref q) ⟨[],[]⟩) _ _ s
  unfold callAny
  refine wpAny_bind (wpAny_load hq (wp_ifT app_cls1 (wp_ifT app_cls2 (wpAny_bind (check_search ho ?_)))))
  refine wpAny_bind (wpAny_pure (wpAny_pure ?_))
  exact ⟨plainId_quiet plain_search _,codeX_builtin (args:=⟨[.ref sc],[]⟩) (by decide) plain_search entry_search h⟩
theorem borrows {q sc:Addr} {M:Model} {Q:Bool→Shared→Prop} (hq:s.heap.get? q = some (searchO sc)) (h:Q false s):wpAny M A (borrowsExactly (.ref q)) Q E s:=by
  unfold borrowsExactly
  refine wpAny_bind (wpAny_load hq ?_)
  refine wp_ifF (show ¬ ((Value.type "builtin_function_or_method" == Value.type "method") = true) by decide) (wp_ifT (show (Value.type "builtin_function_or_method" == Value.type "builtin_function_or_method" || Value.type "builtin_function_or_method" == Value.type "method-wrapper") = true by decide) (wpAny_pure h))
end
end
section
open PySem PySem.W PySem.Calls PyProof.Rows
theorem C.ifF {K:Code→Prop} {α:Type} {M:Model} {A:Around} {E:Value→Shared→Prop} {s:Shared} {c:Prop} [Decidable c] {t e:Sem α} {Q:α→Shared→Prop} (hc:¬ c) (h:wpD K M A e Q E s):wpD K M A (if c then t else e) Q E s:=by rw [if_neg hc];exact h
theorem C.ifT {K:Code→Prop} {α:Type} {M:Model} {A:Around} {E:Value→Shared→Prop} {s:Shared} {c:Prop} [Decidable c] {t e:Sem α} {Q:α→Shared→Prop} (hc:c) (h:wpD K M A t Q E s):wpD K M A (if c then t else e) Q E s:=by rw [if_pos hc];exact h
section
variable {S:Sig} {A:Around} {E:Value→Shared→Prop} {s:Shared} {K:Code→Prop}
theorem wp_stop {M:Model} {α:Type} {Q:α→Shared→Prop} (hh:A.handled = none) (h:∀ h' e,(∀ b o,s.heap.get? b = some o→h'.get? b = some o)→s.heap.objs.size≤h'.objs.size→(∃ ob,h'.get? e = some ob∧ob.cls = .type "StopIteration")→E (.ref e) { s with heap:=h' }) :
    wpAny M A (Builtin.SmallTypes.stopIteration:Sem α) Q E s:=by
  unfold Builtin.SmallTypes.stopIteration
  refine wpAny_bind ?_
  simp only [newExc,newTuple]
  refine wpAny_bind (wpAny_newObj_type ?_ (by size_fits))
  refine wpAny_bind (m:=firstArgMember _ _) (wpAny_of_eq (a:=Value.none) (by first | rfl | (simp only [firstArgMember];rfl)) ?_)
  refine wpAny_newObj_type ?_ (by size_fits)
  simp only [raiseNew]
  refine wpAny_bind (wpAny_handled ?_)
  rw [hh]
  refine wpAny_bind (wpAny_pure (wpAny_throw ?_))
  refine h _ _ (fun b o e=>Heap.get?_push_of_some _ (Heap.get?_push_of_some _ e)) (by simp only [Heap.size_push];omega) ⟨_,Heap.get?_push_size _ rfl,rfl⟩
theorem next_body {I q sc a b:Addr} {cs:List Nat} {t:Tok} {p:Nat} {Q:Value→Shared→Prop} (hu:A.units < cLine) (hh:A.handled = none) (hz:cs.length≤100000) (h10:10 ∉ cs) (hp:p≤cs.length)
    (hI:s.heap.get? I = some (iterO q)) (hq:s.heap.get? q = some (searchO sc)) (ho:s.heap.get? sc = some (scanO a cs t p)) (hG:GPat s.heap a b)
    (hit:p < cs.length→∀ li h',Heap.SameBut sc s.heap h'→h'.get? sc = some (scanO a cs t (p + (cutOf (cs.drop p)).2:Nat)) →
      Q (.ref (s.heap.objs.size + 1)) { s with heap:=(h'.push (spanO 3 p (p + (cutOf (cs.drop p)).2) (cutOf (cs.drop p)).1)).push (matchO cs t a li s.heap.objs.size) })
    (miss:p = cs.length→∀ h' e,(∀ b o,b ≠ I→b ≠ sc→s.heap.get? b = some o→h'.get? b = some o)→s.heap.objs.size≤h'.objs.size→(∃ ob,h'.get? e = some ob∧ob.cls = .type "StopIteration")→E (.ref e) { s with heap:=h' }) :
    wpD K S.X A (Builtin.«callable_iterator.__next__» ⟨[.ref I],[]⟩) (fun fin s'=>∃ v,fin = .done (.ret v)∧Q v s') E s:=by
  have ncls:∀ {x y:Addr} {o o':Obj},s.heap.get? x = some o→s.heap.get? y = some o'→o.cls ≠ o'.cls→x ≠ y:=fun e1 e2 h q=>h (by rw [q,e2] at e1;exact (congrArg Obj.cls (Option.some.inj e1)).symm)
  have nIs:I ≠ sc:=ncls hI ho (show Value.type "callable_iterator" ≠ Value.type "_sre.SRE_Scanner" by decide)
  have nqs:q ≠ sc:=ncls hq ho (show Value.type "builtin_function_or_method" ≠ Value.type "_sre.SRE_Scanner" by decide)
  have nqI:q ≠ I:=ncls hq hI (show Value.type "builtin_function_or_method" ≠ Value.type "callable_iterator" by decide)
  unfold Builtin.«callable_iterator.__next__»
  refine C.bind (C.any (wpAny_of_eq (a:=(.ref I,[])) rfl ?_))
  refine C.bind (C.any (wpAny_field hI rfl (x:=.bool false) rfl ?_))
  refine C.ifF (by decide) ?_
  refine C.bind (C.any (wpAny_field hI rfl (x:=.ref q) rfl ?_))
  unfold callOutOfASlot
  refine C.bind (C.any (wpAny_attempt (wpAny_bind (borrows hq (wp_ifF Bool.false_ne_true (call_search hq ho (scan_run hz h10 hp ho hG ?_ ?_)))))))
  · intro hl li h' sb hs
    refine ⟨_,rfl,C.any ?_⟩
    have gI:∀ o1 o2,((h'.push o1).push o2).get? I = some (iterO q):=fun o1 o2=>Heap.get?_push_of_some _ (Heap.get?_push_of_some _ ((sb.2 I nIs).trans hI))
    refine wpAny_bind (wpAny_field (gI _ _) rfl (x:=.bool false) rfl (wp_ifF (by decide) ?_))
    refine wpAny_bind (wpAny_field (gI _ _) rfl (x:=.none) rfl ?_)
    have hsz:(h'.push (spanO 3 p (p + (cutOf (cs.drop p)).2) (cutOf (cs.drop p)).1)).objs.size = s.heap.objs.size + 1:=by rw [Heap.size_push,sb.1]
    have hty:∀ o li,({ s with heap:=(h'.push (spanO 3 p (p + (cutOf (cs.drop p)).2) (cutOf (cs.drop p)).1)).push (matchO cs t a li o) }:Shared).TypeIs (.ref (s.heap.objs.size + 1)) "re.Match":=fun o li=>⟨_,by rw [← hsz];exact Heap.get?_push_size _ rfl,rfl⟩
    refine wpAny_bind (wpAny_holding (anyX (eq_match (hty _ _) hu ?_)))
    refine wp_ifT rfl ?_
    exact wpAny_bind (wpAny_pure (wpAny_pure ⟨_,rfl,hit hl li h' sb hs⟩))
  · intro hn h' sb hs
    refine ⟨_,rfl,?_⟩
    have gI:h'.get? I = some (iterO q):=(sb.2 I nIs).trans hI
    have gq:h'.get? q = some (searchO sc):=(sb.2 q nqs).trans hq
    refine C.bind (C.any (wpAny_field (s:={ s with heap:=h' }) gI rfl (x:=.bool false) rfl (C.ifF (by decide) ?_)))
    refine C.bind (C.any (wpAny_field (s:={ s with heap:=h' }) gI rfl (x:=.none) rfl ?_))
    refine C.bind (C.any (wpAny_holding (anyX (eq_none ?_))))
    refine C.ifF (by decide) ?_
    refine C.bind (C.any (wpAny_rule ?_))
    refine C.bind (C.bind (m:=field (.ref I) 0) (C.any (wpAny_field (s:={ s with heap:=h' }) gI rfl (x:=.ref q) rfl ?_)))
    refine C.bind ?_
    unfold slotLetsGo
    refine C.bind (C.any (borrows (s:={ s with heap:=h' }) gq (C.ifF Bool.false_ne_true (C.stack fun st hst=>?_))))
    refine C.ifF (fun hb=>?_) ?_
    · rw [List.any_eq_true] at hb
      obtain ⟨⟨c,pp⟩,hx,hb⟩:=hb
      have hc:=hst _ hx
      simp only at hb
      split at hb
      · exact hc _ rfl
      · cases hb
    refine C.any (wpAny_pure (C.any ?_))
    refine wpAny_bind (wpAny_setField gI rfl (show 0 < 3 by decide) ?_)
    have u1:=Heap.get?_update_self (Obj.mapFields (·.setIfInBounds 0 Value.none)) gI rfl
    refine wpAny_bind (wpAny_setField u1 rfl (show 1 < 3 by decide) ?_)
    have u2:=Heap.get?_update_self (Obj.mapFields (·.setIfInBounds 1 Value.none)) u1 rfl
    refine wpAny_setField u2 rfl (show 2 < 3 by decide) (C.any ?_)
    refine wp_stop hh fun h2 e k hsz ho=>?_
    have sb2:=((Heap.SameBut.update h' I (Obj.mapFields (·.setIfInBounds 0 Value.none))).trans (Heap.SameBut.update _ I (Obj.mapFields (·.setIfInBounds 1 Value.none)))).trans (Heap.SameBut.update _ I (Obj.mapFields (·.setIfInBounds 2 (Value.bool true))))
    exact miss hn h2 e (fun b o n1 n2 e=>k _ _ ((sb2.2 b n1).trans ((sb.2 b n2).trans e))) (Nat.le_trans (Nat.le_of_eq (sb2.1.trans sb.1).symm) hsz) ho
theorem codeC_next {args:Args} {Q:Value→Shared→Prop} (h:wpD (fun _=>True) S.X A.in1 (Builtin.«callable_iterator.__next__» args) (fun fin s'=>∃ v,fin = .done (.ret v)∧Q v s') E s) :
    codeC S.X A (.builtin "callable_iterator.__next__" args) (fun r s'=>match r with | .ok (.ret v)=>Q v s' | .ok _=>False | .error e=>E e s') s:=by
  intro Γ pp hc hΓ hb
  rw [wpCode_iff_wp,hc]
  have hin:=hΓ.in
  rw [hc,Around.under_plainId plain_next] at hin
  rw [show S.X.den (.builtin "callable_iterator.__next__" args) = Builtin.«callable_iterator.__next__» args from (denX_of (not_askB (by decide))).trans ((den_builtin _ _).trans (by rw [entry_ci_next]))]
  exact Sem.wp_mono _ _ _ (fun fin p' s' h'=>by obtain ⟨v,rfl,hv⟩:=h';exact hv) (fun e p' s' h'=>h') pp s (h Γ pp hin trivial hb)
theorem next_pair {I q sc a b:Addr} {cs:List Nat} {t:Tok} {p:Nat} {Q:Option Value→Shared→Prop} (hu:A.units + 1 < cLine) (hh:A.handled = none) (hz:cs.length≤100000) (h10:10 ∉ cs) (hp:p≤cs.length)
    (hI:s.heap.get? I = some (iterO q)) (hq:s.heap.get? q = some (searchO sc)) (ho:s.heap.get? sc = some (scanO a cs t p)) (hG:GPat s.heap a b)
    (hit:p < cs.length→∀ li h',Heap.SameBut sc s.heap h'→h'.get? sc = some (scanO a cs t (p + (cutOf (cs.drop p)).2:Nat)) →
      Q (some (.ref (s.heap.objs.size + 1))) { s with heap:=(h'.push (spanO 3 p (p + (cutOf (cs.drop p)).2) (cutOf (cs.drop p)).1)).push (matchO cs t a li s.heap.objs.size) })
    (miss:p = cs.length→∀ h',(∀ b o,b ≠ I→b ≠ sc→s.heap.get? b = some o→h'.get? b = some o)→s.heap.objs.size≤h'.objs.size→Q none { s with heap:=h' }) :
    wpC S.X A (pyNext (.ref I)) Q E s:=by
  have hT:s.TypeIs (.ref I) "callable_iterator":=⟨_,hI,rfl⟩
  unfold pyNext
  refine C.bind (C.attempt ?_)
  unfold callSpecial?
  refine C.bind (C.any (wpAny_specialOf hT slot_ci_next.lookup ?_))
  refine C.holding (C.bind (C.any (wpAny_of_eq (slot_ci_next.bind _) ?_)))
  refine C.bind (C.runValue (codeC.of_tree nofun (C.any ?_)))
  rw [show S.X.den (.call (.builtin "callable_iterator.__next__") ⟨[.ref I] ++ [],[]⟩) = denote table (.call (.builtin "callable_iterator.__next__") ⟨[.ref I] ++ [],[]⟩) from denX_of nofun]
  show wpAny _ A.in1 (do checkBuiltinCall "callable_iterator.__next__" ⟨[.ref I],[]⟩;again (.builtin "callable_iterator.__next__" ⟨[.ref I],[]⟩)) _ _ s
  refine wpAny_bind (slot_ci_next.check _ _ _ _ _ _ _ _ hT (args_ci_next _) (wpAny_pure ⟨plainId_quiet plain_next _,?_⟩))
  refine codeC_next (args:=⟨[.ref I],[]⟩) (next_body (A:=A.in1) (by show A.units + 1 < cLine;exact hu) hh hz h10 hp hI hq ho hG ?_ ?_)
  · intro hl li h' sb hs
    exact C.any (wpAny_pure (C.any (wpAny_pure (hit hl li h' sb hs))))
  · intro hn h' e k hsz ⟨ob,e1,e2⟩
    refine C.bind (C.any (wpAny_isInstance (v:=.ref e) (T:="StopIteration") (b:=true) ⟨ob,e1,e2⟩ isSubtype_stop ?_))
    exact C.ifT rfl (C.any (wpAny_pure (miss hn h' k hsz)))
end
end
section
open PySem PySem.W PySem.Calls PyProof.Rows
noncomputable def sepL:Nat→List Nat→List (Nat × List Nat)
  | 0,_=>[]
  | _ + 1,[]=>[]
  | n + 1,c :: r=>((cutOf (c :: r)).1,(c :: r).take (cutOf (c :: r)).2) :: sepL n ((c :: r).drop (cutOf (c :: r)).2)
noncomputable def matsD (a:Addr) (cs:List Nat):Nat→List (Nat × List Nat)→List D
  | _,[]=>[]
  | p,(g,x) :: r=>.abs (MatP cs a 3 p (p + x.length) g) :: matsD a cs (p + x.length) r
section
variable {S:Sig} {k:Nat} {tg:Expr}
theorem YlX.mats [Free S] {I q sc a b:Addr} {cs:List Nat} {t:Tok} (hp:PatG S a b) (hz:cs.length≤100000) (h10:10 ∉ cs) (hTI:¬ S.T I) (hTs:¬ S.T sc):∀ (n p:Nat) (g:Heap) (s:Shared),cs.length - p≤n→p≤cs.length →
    s.heap.get? I = some (iterO q)→s.heap.get? sc = some (scanO a cs t p)→g.get? q = some (searchO sc)→YlX S k (fun x=>x = I ∨ x = sc) I tg (matsD a cs p (sepL n (cs.drop p))) g s:=by
  have hTF:∀ x,(x = I ∨ x = sc)→¬ S.T x:=fun x h=>h.elim (fun e=>e ▸ hTI) fun e=>e ▸ hTs
  have stop:∀ (n p:Nat) (g:Heap) (s:Shared),p = cs.length→s.heap.get? I = some (iterO q)→s.heap.get? sc = some (scanO a cs t p)→g.get? q = some (searchO sc)→YlX S k (fun x=>x = I ∨ x = sc) I tg [] g s:=by
    intro n p g s hpn hI ho hq A g' s' Q E a' kg sm hF hQ
    refine next_pair (by have:=a'.room.units;omega) (a'.room.handled Free.free) hz h10 (Nat.le_of_eq hpn) (sm _ _ (.inl rfl) hI) (a'.keep _ _ (kg _ _ hq)) (sm _ _ (.inr rfl) ho) (hp.at (a'.base.kin.keeps a'.keep)) (fun h=>absurd hpn (Nat.ne_of_lt h)) fun _ h' kp hsz=>?_
    refine e1_3 (Tr.growF (s':={ s' with heap:=h' }) (fun x=>x = I ∨ x = sc) (fun _=>False) a'.keep a'.base a'.tabs (fun x o nF e=>kp x o (fun q=>nF (.inl q)) (fun q=>nF (.inr q)) e) hF hTF hsz rfl rfl (Nat.le_refl _)) fun g₁ t₁ _ _=>hQ g₁ _ t₁
  intro n
  induction n with
  | zero =>
    intro p g s hn hpl hI ho hq
    exact stop 0 p g s (by omega) hI ho hq
  | succ n ih =>
    intro p g s hn hpl hI ho hq
    cases hr:cs.drop p with
    | nil =>
      have:p = cs.length:=by have:=congrArg List.length hr;simp at this;omega
      exact stop n p g s this hI ho hq
    | cons c r =>
      have hl:p < cs.length:=by have:=congrArg List.length hr;simp at this;omega
      have hcut:=cutOf_ok (cs.drop p) (by rw [hr];exact nofun)
      have hcl:=hcut.2.1
      rw [List.length_drop] at hcl
      have hlen:((cs.drop p).take (cutOf (cs.drop p)).2).length = (cutOf (cs.drop p)).2:=by rw [List.length_take,List.length_drop];omega
      rw [← hr]
      have hsep:sepL (n + 1) (cs.drop p) = ((cutOf (cs.drop p)).1,(cs.drop p).take (cutOf (cs.drop p)).2) :: sepL n ((cs.drop p).drop (cutOf (cs.drop p)).2):=by rw [hr];rfl
      rw [hsep]
      show YlX S k _ I tg (.abs (MatP cs a 3 p (p + ((cs.drop p).take (cutOf (cs.drop p)).2).length) (cutOf (cs.drop p)).1) :: matsD a cs (p + ((cs.drop p).take (cutOf (cs.drop p)).2).length) (sepL n ((cs.drop p).drop (cutOf (cs.drop p)).2))) g s
      rw [hlen,List.drop_drop]
      intro A g' s' Q E a' kg sm hF hQ
      refine next_pair (by have:=a'.room.units;omega) (a'.room.handled Free.free) hz h10 hpl (sm _ _ (.inl rfl) hI) (a'.keep _ _ (kg _ _ hq)) (sm _ _ (.inr rfl) ho) (hp.at (a'.base.kin.keeps a'.keep)) (fun _ li h' sb hs=>?_) fun h=>absurd h (Nat.ne_of_lt hl)
      have nIs:I ≠ sc:=fun e=>by have h1:=sm _ _ (.inl rfl) hI;rw [e,sm _ _ (.inr rfl) ho] at h1;exact absurd (congrArg Obj.cls (Option.some.inj h1)) (show Value.type "_sre.SRE_Scanner" ≠ Value.type "callable_iterator" by decide)
      have gI:h'.get? I = some (iterO q):=(sb.2 I nIs).trans (sm _ _ (.inl rfl) hI)
      have ltF:∀ x,(x = I ∨ x = sc)→x < s'.heap.objs.size:=fun x h=>h.elim (fun e=>e ▸ Heap.lt_size (sm _ _ (.inl rfl) hI)) fun e=>e ▸ Heap.lt_size (sm _ _ (.inr rfl) ho)
      refine e1_3 (Tr.growF (s':={ s' with heap:=(h'.push (spanO 3 p (p + (cutOf (cs.drop p)).2) (cutOf (cs.drop p)).1)).push (matchO cs t a li s'.heap.objs.size) }) (fun x=>x = I ∨ x = sc) (fun _=>True) a'.keep a'.base a'.tabs
        (fun x o nF e=>Heap.get?_push_of_some _ (Heap.get?_push_of_some _ ((sb.2 x fun q=>nF (.inr q)).trans e))) hF hTF (by simp only [Heap.size_push];have:=sb.1;omega) rfl rfl (Nat.le_refl _)) fun g₁ t₁ inN outN=>?_
      have hF₁:∀ x,(x = I ∨ x = sc)→g₁.get? x = none:=fun x hx=>by
        cases e:g₁.get? x with
        | none=>rfl
        | some o=>exact (outN x (by rw [e];nofun)).elim (fun h=>absurd (hF x hx) h) fun h=>absurd (ltF x hx) (Nat.not_lt.mpr h.1)
      have gm:g₁.get? (s'.heap.objs.size + 1) = some (matchO cs t a li s'.heap.objs.size):=inN _ _ (by rw [← sb.1,← Heap.size_push h' (spanO 3 p (p + (cutOf (cs.drop p)).2) (cutOf (cs.drop p)).1)];exact Heap.get?_push_size _ rfl) (Nat.le_succ _) trivial
      have gs:g₁.get? s'.heap.objs.size = some (spanO 3 p (p + (cutOf (cs.drop p)).2) (cutOf (cs.drop p)).1):=inN _ _ (Heap.get?_push_of_some _ (by rw [← sb.1];exact Heap.get?_push_size _ rfl)) (Nat.le_refl _) trivial
      have rd:Rd g₁ (.ref (s'.heap.objs.size + 1)) (.abs (MatP cs a 3 p (p + (cutOf (cs.drop p)).2) (cutOf (cs.drop p)).1)):=.abs fun h kh=>⟨_,t,li,_,rfl,kh _ _ gm,kh _ _ gs⟩
      have pI:({ s' with heap:=(h'.push (spanO 3 p (p + (cutOf (cs.drop p)).2) (cutOf (cs.drop p)).1)).push (matchO cs t a li s'.heap.objs.size) }:Shared).heap.get? I = some (iterO q):=Heap.get?_push_of_some _ (Heap.get?_push_of_some _ gI)
      have ps:({ s' with heap:=(h'.push (spanO 3 p (p + (cutOf (cs.drop p)).2) (cutOf (cs.drop p)).1)).push (matchO cs t a li s'.heap.objs.size) }:Shared).heap.get? sc = some (scanO a cs t ((p + (cutOf (cs.drop p)).2:Nat):Int)):=Heap.get?_push_of_some _ (Heap.get?_push_of_some _ hs)
      have nNs:∀ x o,(x = I ∨ x = sc)→({ s' with heap:=(h'.push (spanO 3 p (p + (cutOf (cs.drop p)).2) (cutOf (cs.drop p)).1)).push (matchO cs t a li s'.heap.objs.size) }:Shared).heap.get? x = some o→¬ NsObj o:=fun x o hx e=>by
        rcases hx with rfl | rfl
        · rw [pI] at e;cases e;exact notNs_fields rfl
        · rw [ps] at e;cases e;exact notNs_fields rfl
      refine hQ _ g₁ _ t₁ hF₁ fun f Γ Γ' W env Q' E' has st hW hc hQ'=>?_
      refine wpAny_bind (plain tg _ _ _ _ _ _ _ _ _ _ pI rfl rfl (by decide) ?_)
      refine has A g₁ W env _ _ Q' E' a'.room st rd fun g₂ s₂ t₂ st₂=>?_
      have sm₂:Same (fun x=>x = I ∨ x = sc) _ s₂:=t₂.keepF t₁.now fun x o hx e=>⟨hW x hx,fun _ _=>hTF x hx,nNs x o hx e⟩
      refine hQ' g₂ s₂ (t₂.weak fun _=>.inl) (fun x hx=>t₂.none (hF₁ x hx) (hW x hx)) (fun x o hx e=>?_) st₂ ?_
      · rcases hx with rfl | rfl
        · rw [sm₂ _ _ (.inl rfl) pI] at e;cases e;exact notNs_fields rfl
        · rw [sm₂ _ _ (.inr rfl) ps] at e;cases e;exact notNs_fields rfl
      · exact ih (p + (cutOf (cs.drop p)).2) g₂ s₂ (by omega) (by omega) (sm₂ _ _ (.inl rfl) pI) (sm₂ _ _ (.inr rfl) ps) (t₂.mono _ _ (t₁.mono _ _ (kg _ _ hq)))
end
end
section
open PySem PySem.W PySem.Calls PyProof.Rows
theorem slot_ci_iter:Slot "callable_iterator" "__iter__" "callable_iterator.__iter__" :=
  .of (owner:="callable_iterator") (n:="__iter__") (by rw [typeLookup_type,builtinLookup_eq_fast];kernel_rfl) (by decide +kernel) (by decide +kernel) (by decide +kernel)
    (by first | exact .inl (by decide +kernel) | exact .inr (by decide +kernel)) (by rw [isSubtype_type];kernel_rfl)
theorem args_ci_iter (a:Value):argsOk "callable_iterator.__iter__" ⟨[a],[]⟩:=by unfold argsOk;kernel_rfl
theorem entry_ci_iter:entryFor table "callable_iterator.__iter__" = some Builtin.«dict_keyiterator.__iter__» :=
  entryFor_alias (id':="dict_keyiterator.__iter__") (by kernel_rfl) (by first | rfl | decide +kernel | (unfold String.splitOn;simp +decide [String.splitOnAux])) (by decide +kernel) (by kernel_rfl)
section
variable {S:Sig} {k:Nat} {f f':Fi} {Γ:Ctxt} {tg:Expr}
theorem GoX.find [Free S] {fn:Expr} {es:List Expr} {pos p0 p1 apos pos1 rpos:Pos} {sa a b:Addr} {cs:List Nat} {x y:Str} (hn:∀ env,eval (.Call fn es [] pos) env = (do callWith pos (← eval fn env) [] (backTo pos (starEach es env)) (backToKw pos (keywordEach [] env))))
    (h1:EV S (k + 1) f Γ fn (.raw (.ref sa))) (hcl:Callee S (.ref sa)) (h2:EVs S (k + 1) f Γ es [.str cs]) (F:FnAt S sa f' [x] [Stmt.Return (some (.Call (.Attribute (.Name y p0) "finditer" apos) [.Name x p1] [] pos1)) rpos]) (hy:Raw S f' y (.ref a)) (hk:f'.kinds[0]? = some .local)
    (hx:EV S k f' (ctx0 f'.kinds [.str cs]) (.Name x p1) (.str cs)) (hp:PatG S a b) (hz:cs.length≤100000) (h10:10 ∉ cs)
    (hbase:∀ env,attributeBase (.Name y p0) "finditer" env (eval (.Name y p0) env) = eval (.Name y p0) env:=by intro _;rfl)
    (hline:(apos.endLine == pos1.line) = true:=by rfl) (htr:∀ env,backTo pos1 (starEach [.Name x p1] env) = [(false,eval (.Name x p1) env)]:=by intro _;rfl) :
    GoX S (k + 1) f Γ (.Call fn es [] pos) tg (matsD a cs 0 (sepL cs.length cs)):=by
  intro A g W env s Q E R st hQ
  have hsl:=sizeLine_eq
  rw [hn]
  refine wpAny_bind (h1 A g W env s _ E R st fun v g1 s1 t1 r1=>?_)
  cases r1 using Rd.casesRaw
  refine callWith_of (P:=fun h=>S.K.In h) (by show ((backTo pos (starEach es env)).any (·.1) || false) = false;rw [h2.plain];rfl) hcl ?_
  refine evalArgs_any (h2.plain _ _) (h2.run pos A g1 W env s1 _ E R (st.move t1) fun vs g2 s2 t2 r2=>⟨t2.base.kin.keeps t2.keep,?_⟩)
  have hvl:vs.length = [x].length:=r2.length
  refine Fn.callGo F (R:=fun _=>True) hvl (t2.base.kin.keeps t2.keep) (by have:=R.depth;omega) (t2.base.nolimit.keeps t2.keep) (fun h=>wpAny_newFunctionEnv_cells F.kind F.2.binds fun env he s' x=>h env he s' x trivial) fun env' s3 N _ G Q' E' hq=>?_
  refine e1_2 (Fn.core F.2 rfl t2.keep t2.base t2.now r2 N G.heap G.toks) fun g3 t3 st3=>?_
  have R3:Room S k (A.deeper env'):=R.under
  obtain ⟨o,q0,t0,ix,dd,hl,hcls,hdict,_⟩:=hp.pat
  refine wpAny_execs_cons (wpAny_Return_some ?_)
  refine wpAny_Call_method (T:="re.Pattern") (id:="re.Pattern.finditer") (hbase env') (by rw [htr];rfl) hline plainAttrs_pat slot_pat_finditer type_pat_finditer ?_
  refine hy k _ p0 (A.deeper env') g3 _ env' s3 _ E' R3 st3 fun ov g4 s4 t4 r4=>?_
  cases r4 using Rd.casesRaw
  have K4:=t4.base.kin.keeps t4.keep
  refine ⟨⟨o,K4 _ _ hl,hcls⟩,fun a' q=>by cases q;exact ⟨o,K4 _ _ hl,hdict⟩,?_⟩
  rw [htr]
  refine callWith_of (P:=fun h=>S.K.In h) (by rfl) (Callee.builtin (S:=S)) ?_
  refine evalArgs_any (by rfl) ?_
  refine spliced_cons (hx (A.deeper env') g4 _ env' s4 _ E' R3 (st3.move t4) fun v5 g5 s5 t5 r5=>spliced_nil ?_)
  have K5:=t5.base.kin.keeps t5.keep
  refine ⟨K5,?_⟩
  cases r5 using Rd.casesStr with
  | str t hs =>
    refine wp_finditer hs (hp.at K5) ?_
    have sz:(((s5.heap.push (scanO a cs t 0)).push (searchO s5.heap.objs.size)).push (iterO (s5.heap.objs.size + 1))).objs.size = s5.heap.objs.size + 3:=by simp only [Heap.size_push]
    have e1:(s5.heap.push (scanO a cs t 0)).objs.size = s5.heap.objs.size + 1:=Heap.size_push ..
    have e2:((s5.heap.push (scanO a cs t 0)).push (searchO s5.heap.objs.size)).objs.size = s5.heap.objs.size + 2:=by rw [Heap.size_push,e1]
    refine e1_3 (Tr.grow (s':={ s5 with heap:=((s5.heap.push (scanO a cs t 0)).push (searchO s5.heap.objs.size)).push (iterO (s5.heap.objs.size + 1)),toks:=s5.toks + 1 }) (fun x=>x = s5.heap.objs.size + 1) t5.keep t5.base t5.now
      (fun b o e=>Heap.get?_push_of_some _ (Heap.get?_push_of_some _ (Heap.get?_push_of_some _ e))) (by rw [sz];exact Nat.le_add_right _ 3) rfl rfl (Nat.le_succ _)) fun g6 t6 inN outN=>?_
    refine hq _ _ ?_
    have gI:(((s5.heap.push (scanO a cs t 0)).push (searchO s5.heap.objs.size)).push (iterO (s5.heap.objs.size + 1))).get? (s5.heap.objs.size + 2) = some (iterO (s5.heap.objs.size + 1)):=by rw [← e2];exact Heap.get?_push_size _ rfl
    have gq:(((s5.heap.push (scanO a cs t 0)).push (searchO s5.heap.objs.size)).push (iterO (s5.heap.objs.size + 1))).get? (s5.heap.objs.size + 1) = some (searchO s5.heap.objs.size):=Heap.get?_push_of_some _ (by rw [← e1];exact Heap.get?_push_size _ rfl)
    have gs:(((s5.heap.push (scanO a cs t 0)).push (searchO s5.heap.objs.size)).push (iterO (s5.heap.objs.size + 1))).get? s5.heap.objs.size = some (scanO a cs t 0):=Heap.get?_push_of_some _ (Heap.get?_push_of_some _ (Heap.get?_push_size _ rfl))
    have hT:({ s5 with heap:=((s5.heap.push (scanO a cs t 0)).push (searchO s5.heap.objs.size)).push (iterO (s5.heap.objs.size + 1)),toks:=s5.toks + 1 }:Shared).TypeIs (.ref (s5.heap.objs.size + 2)) "callable_iterator":=⟨_,gI,rfl⟩
    refine wpAny_pyIter_slot hT slot_ci_iter (wpAny_call_entry slot_ci_iter hT entry_ci_iter (show wpAny _ _ (ret (.ref (s5.heap.objs.size + 2))) _ _ _ from wpAny_pure ⟨_,rfl,"callable_iterator",_,hT,slot_ci_next.lookup,?_⟩) (args_ci_iter _))
    have t26:Tr S (Nw s2) g2 s2 g6 _:=((t3.then t4).then t5).then t6
    refine hQ _ (fun x=>x = s5.heap.objs.size + 2 ∨ x = s5.heap.objs.size) g6 _ ((t1.then t2).then t26) (fun x hx=>?_) ?_
    · have nw:s.heap.objs.size≤s5.heap.objs.size:=((t1.then t2).then ((t3.then t4).then t5)).size
      rcases hx with rfl | rfl
      · exact ⟨Nat.le_trans nw (Nat.le_add_right _ 2),outN _ (Nat.le_add_right _ 2) (show ¬ (s5.heap.objs.size + 2 = s5.heap.objs.size + 1) from fun h=>absurd (Nat.succ.inj h) (Nat.succ_ne_self _)),Nat.lt_of_lt_of_eq (Nat.lt_succ_self _) sz.symm⟩
      · exact ⟨nw,outN _ (Nat.le_refl _) (show ¬ (s5.heap.objs.size = s5.heap.objs.size + 1) from fun h=>absurd h.symm (Nat.succ_ne_self _)),Nat.lt_of_lt_of_eq (Nat.lt_of_lt_of_le (Nat.lt_succ_self _) (Nat.le_add_right _ 2)) sz.symm⟩
    · have:=YlX.mats (S:=S) (k:=k + 1) (tg:=tg) (I:=s5.heap.objs.size + 2) (q:=s5.heap.objs.size + 1) (sc:=s5.heap.objs.size) hp hz h10 (t5.now.newT (Nat.le_add_right _ 2)) (t5.now.newT (Nat.le_refl _)) cs.length 0 g6 { s5 with heap:=((s5.heap.push (scanO a cs t 0)).push (searchO s5.heap.objs.size)).push (iterO (s5.heap.objs.size + 1)),toks:=s5.toks + 1 } (Nat.le_refl _) (Nat.zero_le _) gI gs (inN _ _ gq (Nat.le_succ _) rfl)
      exact this
end
end
section
open PySem PySem.W PySem.Calls PyProof.Rows
theorem sig_bit2:∀ c:Fin 256,(rcode.getD (19 + (1 + c.val / 32)) 0).testBit (c.val % 32) = sig c.val:=by decide
theorem inSet_r2 (c:Nat) (seen:Sre.Seen):Sre.inSet rcode c 32 19 true seen = .ok (sig c,if sig c then seen.add 9 else (seen.add 9).add 0):=by
  by_cases h:c < 256
  · have hb:=sig_bit2 ⟨c,h⟩
    simp only at hb
    show (if (decide (c < 256) && (rcode.getD (19 + (1 + c / 32)) 0).testBit (c % 32)) = true then Except.ok (true,seen.add 9) else .ok (!true,(seen.add 9).add 0)) = _
    rw [hb,decide_eq_true h,Bool.true_and]
    cases sig c <;> rfl
  · have hs:sig c = false:=by unfold sig;simp;omega
    show (if (decide (c < 256) && (rcode.getD (19 + (1 + c / 32)) 0).testBit (c % 32)) = true then Except.ok (true,seen.add 9) else .ok (!true,(seen.add 9).add 0)) = _
    rw [hs,decide_eq_false h,Bool.false_and];rfl
theorem admitted_some {m:Sre.M} (hm:m.code = rcode) {q:Nat} (hq:sig (m.text.getD q 0) = true) (hl:q < m.lim):∀ (fuel s:Nat) (seen:Sre.Seen),s≤q→q < s + fuel→(∀ i,s≤i→i < q→sig (m.text.getD i 0) = false)→∃ seen',Sre.M.admitted m fuel s seen = .ok (some q,seen')
  | 0,s,seen,h1,h2,_=>absurd h2 (by omega)
  | fuel + 1,s,seen,h1,h2,h=>by
    unfold Sre.M.admitted
    rw [if_neg (by omega),hm]
    have e:=inSet_r (m.text.getD s 0) seen
    have e2:rcode.size = 32:=rfl
    rw [e2,e]
    rcases Nat.lt_or_eq_of_le h1 with hs | rfl
    · rw [h s (Nat.le_refl _) hs]
      exact admitted_some hm hq hl fuel (s + 1) _ hs (by omega) fun i h1 h2=>h i (by omega) h2
    · rw [hq];exact ⟨_,rfl⟩
noncomputable def rat (text:Array Nat) (n s q:Nat) (seen:Sre.Seen):Sre.M :=
  { code:=rcode,text,lim:=n,start:=q,lastStart:=n,mustAdvance:=false,pc:=15,pos:=q,handed:=q,marks:=Array.replicate 2 none,frames:=[{ wait:=.nextStart,pc:=15,pos:=q,outermost:=true }],weight:=1,seen }
theorem attempt_some {m:Sre.M} {s q:Nat} {first:Bool} (hm:m.code = rcode) (h1:s≤q) (h2:q < m.lim) (hq:sig (m.text.getD q 0) = true) (h:∀ i,s≤i→i < q→sig (m.text.getD i 0) = false):∃ seen,m.attemptFrom s first = ({ m with mustAdvance:=false,seen }:Sre.M).attemptAt q first:=by
  have hf:m.hasFirstSet = true:=by unfold Sre.M.hasFirstSet;rw [hm];rfl
  obtain ⟨seen',e⟩:=admitted_some hm hq h2 (m.lim + 1 - s) s m.seen h1 (by omega) h
  unfold Sre.M.attemptFrom
  rw [hf,e]
  exact ⟨seen',rfl⟩
theorem rat_at {text:Array Nat} {n s q:Nat} (h1:s≤q) (h2:q < n) (hq:sig (text.getD q 0) = true) (h:∀ i,s≤i→i < q→sig (text.getD i 0) = false):∃ seen,Sre.forSearch rcode text 1 s n false = rat text n s q seen:=by
  have hc:¬ ((decide (s > n) || decide (n - s < (Sre.header rcode).1)) = true):=by
    have e:(Sre.header rcode).1 = 1:=rfl
    rw [e];simp;omega
  have e0:Sre.forSearch rcode text 1 s n false = ({ code:=rcode,text,lim:=n,start:=s,lastStart:=n,pc:=15,pos:=s,handed:=s,marks:=Array.replicate 2 none,mustAdvance:=false,seen:=({}:Sre.Seen).add 14 }:Sre.M).attemptFrom s true:=by
    unfold Sre.forSearch
    show (if _ then _ else _) = _
    rw [if_neg hc]
    rfl
  obtain ⟨seen,e⟩:=attempt_some (m:={ code:=rcode,text,lim:=n,start:=s,lastStart:=n,pc:=15,pos:=s,handed:=s,marks:=Array.replicate 2 none,mustAdvance:=false,seen:=({}:Sre.Seen).add 14 }) (first:=true) rfl h1 h2 hq h
  rw [e0,e]
  exact ⟨seen,rfl⟩
theorem exec_in {m:Sre.M} {seen':Sre.Seen} (hop:Sre.ops[m.word 0]? = some .IN) (hp:m.pos < m.lim) (ha:Sre.accepts m.code m.pc (m.text.getD m.pos 0) (m.seen.add (m.word 0)) = .ok (true,seen')) :
    m.exec = { m with seen:=seen',pc:=m.pc + Sre.itemWidth m.code m.pc,pos:=m.pos + 1 }:=by
  unfold Sre.M.exec
  rw [hop]
  simp only
  rw [if_neg (Nat.not_le.mpr hp),ha]
theorem step_runR {m:Sre.M} (h0:m.outcome = none) (h1:m.answer = none) (hc:m.code = rcode) (hp:m.pc < 32):m.step = m.exec:=by
  unfold Sre.M.step
  rw [h0,h1]
  show (if m.pc < m.code.size then m.exec else _) = _
  rw [hc];exact if_pos hp
theorem rhit {text:Array Nat} {n s q:Nat} (h1:s≤q) (h2:q < n) (hq:sig (text.getD q 0) = true) (h:∀ i,s≤i→i < q→sig (text.getD i 0) = false) :
    ∃ m',Goes 6 (Sre.forSearch rcode text 1 s n false) m'∧Hit m' q (q + 1) 0:=by
  obtain ⟨seen,e⟩:=rat_at h1 h2 hq h
  rw [e]
  have g1:Goes 1 (rat text n s q seen) { rat text n s q (seen.add 17) with pc:=17,marks:=#[some q,none],lastmark:=0 }:=Goes.step rfl (by kernel_rfl) (Goes.refl _)
  have g2:Goes 1 { rat text n s q (seen.add 17) with pc:=17,marks:=#[some q,none],lastmark:=0 } { rat text n s q (((seen.add 17).add 13).add 9) with pc:=29,pos:=q + 1,marks:=#[some q,none],lastmark:=0 }:=by
    refine Goes.step rfl ?_ (Goes.refl _)
    refine (step_runR rfl rfl rfl (by show 17 < 32;decide)).trans ((exec_in (seen':=((seen.add 17).add 13).add 9) rfl h2 ?_).trans rfl)
    show Sre.inSet rcode (text.getD q 0) 32 19 true ((seen.add 17).add 13) = _
    rw [inSet_r2,hq];rfl
  have g3:Goes 1 { rat text n s q (((seen.add 17).add 13).add 9) with pc:=29,pos:=q + 1,marks:=#[some q,none],lastmark:=0 } { rat text n s q ((((seen.add 17).add 13).add 9).add 17) with pc:=31,pos:=q + 1,marks:=#[some q,some (q + 1)],lastmark:=1,lastindex:=1 }:=Goes.step rfl (by kernel_rfl) (Goes.refl _)
  have g4:Goes 1 { rat text n s q ((((seen.add 17).add 13).add 9).add 17) with pc:=31,pos:=q + 1,marks:=#[some q,some (q + 1)],lastmark:=1,lastindex:=1 }
      { rat text n s q (((((seen.add 17).add 13).add 9).add 17).add 1) with pc:=31,pos:=q + 1,handed:=q + 1,marks:=#[some q,some (q + 1)],lastmark:=1,lastindex:=1,answer:=some true }:=by
    refine Goes.step rfl ?_ (Goes.refl _)
    have e:(true && ((false && (q + 1 != n)) || (false && (q + 1 == q)))) = false:=rfl
    show (if (true && ((false && (q + 1 != n)) || (false && (q + 1 == q)))) = true then _ else _) = _
    rw [e,if_neg Bool.false_ne_true]
    rfl
  refine ⟨_,((g1.trans g2).trans g3).trans (g4.trans (Goes.step rfl rfl (Goes.step rfl rfl (Goes.refl _)))),rfl,rfl,rfl,rfl,rfl,rfl,rfl,fun i hi=>absurd hi (Nat.not_lt_zero i)⟩
end
section
open PySem PySem.W PySem.Calls PyProof.Rows
section
variable {S:Sig}
theorem wp_elt2 {A:Around} {E:Value→Shared→Prop} {s:Shared} {env:Env} {x:Str} {p0 ap1 ap2 pos1 pos2 q1 q2 q3 q4:Pos} {k1 k2 k3 k4:Nat} {c1 y1 c2 y2:Str} {u1 u2:Nat} {v1 v2:List Nat} {a:List Nat} {t:Tok} {m:Str→Option Value}
    (hns:s.heap.Ns env.locals m) (hm:m x = some (.str ⟨a.toArray⟩ t)) (hk:env.scope.kind = .function) (hl:env.scope.names.lookup x = some .local) (hd:(x == ("__debug__":Str)) = false) (ht:0 < s.toks)
    (hc1:Cs c1 [u1]) (hy1:Cs y1 v1) (hn1:(c1 == y1) = false) (hz1:a.length * (v1.length + 1)≤sizeLine) (hc2:Cs c2 [u2]) (hy2:Cs y2 v2) (hn2:(c2 == y2) = false) (hz2:(replC u1 v1 a).length * (v2.length + 1)≤sizeLine) (hl1:(ap1.endLine == pos1.line) = true) (hl2:(ap2.endLine == pos2.line) = true) :
    wpAny S.M A (eval (.Call (.Attribute (.Call (.Attribute (.Name x p0) "replace" ap1) [.Constant (.str c1) k1 q1,.Constant (.str y1) k2 q2] [] pos1) "replace" ap2) [.Constant (.str c2) k3 q3,.Constant (.str y2) k4 q4] [] pos2) env)
      (fun y s₃=>(∃ u,y = .str ⟨(replC u2 v2 (replC u1 v1 a)).toArray⟩ u)∧Keeps s s₃) E s:=by
  refine wpAny_Call_method (T:="str") (id:="str.replace") (by rfl) (by rfl) hl2 PySem.F.plainAttrs_str PySem.F.slot_str_replace PySem.F.type_str_replace ?_
  refine wpAny_Call_method (T:="str") (id:="str.replace") (by rfl) (by rfl) hl1 PySem.F.plainAttrs_str PySem.F.slot_str_replace PySem.F.type_str_replace ?_
  refine ldG hns hm ?_ hk hl hd
  refine ⟨typeIs_str _ _ _,nofun,?_⟩
  refine callWith_of (P:=fun _=>True) (by rfl) (fun _ _=>⟨.machine,.inr (.inl rfl),.of_pure rfl⟩) ?_
  refine evalArgs_any (by rfl) ?_
  show wpAny S.M A (spliced [(false,eval (.Constant (.str c1) k1 q1) env),(false,eval (.Constant (.str y1) k2 q2) env)]) _ _ _
  refine spliced_cons (Constant_str (spliced_cons (Constant_str (spliced_nil ⟨trivial,?_⟩))))
  refine wpAny_grown (wp_replace hc1 hy1 hn1 hz1 (Nat.ne_of_gt ht) (Nat.succ_ne_zero _) (Nat.ne_of_lt (Nat.lt_succ_self _)) fun t' tk G=>?_)
  have ht2:0 < tk:=Nat.lt_of_lt_of_le ht (Nat.le_trans (Nat.le_trans (Nat.le_succ _) (Nat.le_succ _)) G.toks)
  refine ⟨typeIs_str _ _ _,nofun,?_⟩
  refine callWith_of (P:=fun _=>True) (by rfl) (fun _ _=>⟨.machine,.inr (.inl rfl),.of_pure rfl⟩) ?_
  refine evalArgs_any (by rfl) ?_
  show wpAny S.M A (spliced [(false,eval (.Constant (.str c2) k3 q3) env),(false,eval (.Constant (.str y2) k4 q4) env)]) _ _ _
  refine spliced_cons (Constant_str (spliced_cons (Constant_str (spliced_nil ⟨trivial,?_⟩))))
  refine wp_replace hc2 hy2 hn2 hz2 (Nat.ne_of_gt ht2) (Nat.succ_ne_zero _) (Nat.ne_of_lt (Nat.lt_succ_self _)) fun t'' tk'=>?_
  exact ⟨⟨t'',rfl⟩,_,_,rfl,fun _ _ e=>e⟩
noncomputable def fiL (qual:Str) (scope:Scope) (cv:Value) (y:Str) (h:scope.names.lookup y = some .local):Fi where
  scope:=scope
  qual:=qual ++ ".<locals>."
  code:=cv
  vars:=[y]
  kinds:=[.local]
  nodup:=List.nodup_cons.mpr ⟨nofun,List.nodup_nil⟩
  ok:=by simp [h]
variable {k:Nat}
theorem lam_run {fa:Addr} {qual y:Str} {params:Arguments} {body:Expr} {scope:Scope} {pm cv ctv:Value} (hy:scope.names.lookup y = some .local) (hkind:scope.kind = .function) (hco:scope.isCoroutine = false) (hgen:scope.isGenerator = false)
    (hbind:∀ v,bindArgs (kla_fn "<lambda>" qual params body scope [] pm cv ctv) ⟨[v],[]⟩ = pure [(y,v)]) {A:Around} {g:Heap} {s:Shared} {v:Value} {d out:D} {Q:Value→Shared→Prop} {E:Value→Shared→Prop} (at':At S (k + 1) A g s)
    (hfa:g.get? fa = some (lamO "<lambda>" qual params body scope pm cv ctv)) (hrec:g.CodeRec cv qual) (rd:Rd g v d) (hb:EV S k (fiL qual scope cv y hy) [some (.val d)] body out)
    (hQ:∀ v' g' s',Tr S (Nw s) g s g' s'→Rd g' v' out→Q v' s'):wpAny S.M A (call (.ref fa) [v]) Q E s:=by
  have F:FnSt (fiL qual scope cv y hy) [y]:=⟨hkind,hco,hgen,rfl,rfl,rfl⟩
  refine wpAny_call (kla_callFunE (by have:=at'.room.depth;omega) (at'.keep _ _ hfa) rfl hco hgen rfl (hrec.keeps at'.keep) ?_)
  rw [hbind v]
  refine wpAny_pure (wpAny_grown (wpAny_newFunctionEnv_cells hkind (fun x hx=>.inl (by rcases List.mem_singleton.mp hx with rfl;exact hy)) fun env he s' x G=>⟨(at'.base.nolimit.keeps at'.keep).keeps x.toInCall.keep,kla_codeExpr ?_⟩))
  have N:NewFrame (fiL qual scope cv y hy) [y] [v] s env s':=⟨⟨by rw [he];rfl,by rw [he];rfl,by rw [he];rfl,by rw [he];rfl,by rw [he];rfl,by rw [he];exact hkind⟩,by rw [he];rfl,by rw [he];rfl,by rw [he];rfl,x⟩
  refine e1_2 (Fn.core F rfl at'.keep at'.base at'.tabs (.cons rd .nil) N G.heap G.toks) fun g' t st=>?_
  exact hb (A.deeper env) g' (Nw s) env s' _ _ at'.room.under st fun v' g2 s2 t2 r2=>hQ v' g2 s2 (t.then t2) r2
end
noncomputable def subC (xs:List Nat):List Nat:=xs.flatMap fun c=>if sig c then [92,c] else [c]
noncomputable def upSig:List Nat→Nat
  | []=>0
  | x :: r=>if sig x then 0 else upSig r + 1
theorem upSig_le:∀ r:List Nat,upSig r≤r.length
  | []=>Nat.le_refl _
  | x :: r=>by
    show (if sig x = true then 0 else upSig r + 1)≤r.length + 1
    by_cases h:sig x = true
    · rw [if_pos h];exact Nat.zero_le _
    · rw [if_neg h];exact Nat.succ_le_succ (upSig_le r)
theorem upSig_no:∀ (r:List Nat) (j:Nat),j < upSig r→sig (r.getD j 0) = false
  | [],j,h=>absurd h (Nat.not_lt_zero _)
  | x :: r,j,h=>by
    have h':j < if sig x = true then 0 else upSig r + 1:=h
    by_cases hx:sig x = true
    · rw [if_pos hx] at h';exact absurd h' (Nat.not_lt_zero _)
    · rw [if_neg hx] at h'
      cases j with
      | zero=>exact Bool.eq_false_iff.mpr hx
      | succ j=>exact upSig_no r j (Nat.lt_of_succ_lt_succ h')
theorem upSig_at:∀ r:List Nat,upSig r < r.length→sig (r.getD (upSig r) 0) = true
  | [],h=>absurd h (Nat.not_lt_zero _)
  | x :: r,h=>by
    have e:upSig (x :: r) = if sig x = true then 0 else upSig r + 1:=rfl
    by_cases hx:sig x = true
    · rw [e,if_pos hx];exact hx
    · rw [e,if_neg hx] at h ⊢
      exact upSig_at r (Nat.lt_of_succ_lt_succ h)
theorem subC_no:∀ xs:List Nat,(∀ j,j < xs.length→sig (xs.getD j 0) = false)→subC xs = xs
  | [],_=>rfl
  | x :: r,h=>by
    have h0:sig x = false:=h 0 (Nat.succ_pos _)
    have e:subC (x :: r) = (if sig x = true then [92,x] else [x]) ++ subC r:=rfl
    rw [e,h0,subC_no r fun j hj=>h (j + 1) (Nat.succ_lt_succ hj)];rfl
theorem subC_app (xs ys:List Nat):subC (xs ++ ys) = subC xs ++ subC ys:=List.flatMap_append
theorem subC_len:∀ xs:List Nat,(subC xs).length≤2 * xs.length
  | []=>Nat.le_refl _
  | x :: r=>by
    have e:subC (x :: r) = (if sig x = true then [92,x] else [x]) ++ subC r:=rfl
    have:=subC_len r
    rw [e,List.length_append,List.length_cons]
    split <;> simp <;> omega
theorem joinL_nil:∀ ps:List (List Nat),joinL [] ps = ps.flatten
  | []=>rfl
  | [p]=>by simp [joinL]
  | p :: q :: r=>by
    have:=joinL_nil (q :: r)
    simp [joinL] at this ⊢;exact this
theorem wp_push {S:Sig} {A:Around} {E:Value→Shared→Prop} {s:Shared} {l:Addr} {vs:List Value} {m:Nat} {v:Value} {Q:Unit→Shared→Prop} (hl:s.heap.get? l = some (listO vs m)) (hz:vs.length≤sizeLine)
    (h:∀ h' m',h'.get? l = some (listO (vs ++ [v]) m')→Heap.SameBut l s.heap h'→Q () { s with heap:=h' }):wpAny S.M A (updateSeq l (·.push v)) Q E s:=by
  refine wpAny_updateSeq hl rfl ?_ (hz:=by simpa using hz)
  have e:=Heap.get?_update_self (Obj.mapSeq (·.push v)) hl (by rw [Obj.mapSeq_push_plain];rfl)
  rw [Obj.mapSeq_push_plain] at e
  exact h _ (m + 1) (by rw [e];simp) (Heap.SameBut.update ..)
theorem strValues_app (ws:List (Str × Tok)) (x:Str) (t:Tok):strValues (ws ++ [(x,t)]) = strValues ws ++ [.str x t]:=by simp [strValues]
section
variable {S:Sig} {k:Nat}
theorem cut_at {cs:List Nat} {p q:Nat} (h1:p≤q):cs.take q = cs.take p ++ cutS cs p q:=by
  unfold cutS
  have e:q = p + (q - p):=(Nat.add_sub_cancel' h1).symm
  conv=>lhs;rw [e]
  exact List.take_add
theorem cut_getD {cs:List Nat} {p q j:Nat} (h:j < q - p):(cutS cs p q).getD j 0 = cs.getD (p + j) 0:=by
  unfold cutS
  rw [List.getD_eq_getElem?_getD,List.getElem?_take_of_lt h,List.getElem?_drop,List.getD_eq_getElem?_getD]
theorem cut_len {cs:List Nat} {p q:Nat} (h2:q≤cs.length):(cutS cs p q).length = q - p:=by
  unfold cutS;rw [List.length_take,List.length_drop];omega
theorem cut_plain {cs:List Nat} {p q:Nat} (h2:q≤cs.length) (h:q≤p + upSig (cs.drop p)):subC (cutS cs p q) = cutS cs p q:=by
  refine subC_no _ fun j hj=>?_
  rw [cut_len h2] at hj
  rw [cut_getD hj]
  have:=upSig_no (cs.drop p) j (by omega)
  rwa [List.getD_eq_getElem?_getD,List.getElem?_drop,← List.getD_eq_getElem?_getD] at this
theorem arr_getD (cs:List Nat) (i:Nat):cs.toArray.getD i 0 = cs.getD i 0:=by
  by_cases h:i < cs.length <;> simp [Array.getD,h]
theorem sub_end {a b fa l:Addr} {cs:List Nat} {t:Tok} {R:Result→Shared→Prop} {p cnt:Nat} {ps:List (List Nat)} {ws:List (Str × Tok)} {m:Nat} {A:Around} {g:Heap} {s:Shared} (hp:PatAt S a b) (hz:cs.length≤400000) (hpl:p≤cs.length) (at':At S (k + 1) A g s)
    (hl:s.heap.get? l = some (listO (strValues ws) m)) (hgl:g.get? l = none) (hTl:¬ S.T l) (he:ws.map (·.1) = ps.map (fun p=>(⟨p.toArray⟩:Str))) (hlen:ps.length≤2 * p) (hfl:ps.flatten = subC (cs.take p))
    (hQ:∀ u g' s',Tr S (fun x=>x = l ∨ Nw s x) g s g' s'→Rd g' (.str ⟨(subC cs).toArray⟩ u) (.str (subC cs))→R (.ok (.ret (.str ⟨(subC cs).toArray⟩ u))) s') (hno:cs.length≤p + upSig (cs.drop p)) :
    codeAny S.M A (.builtin "re.Pattern.sub.loop" ⟨[.ref a,.str ⟨cs.toArray⟩ t,.ref fa,rawInt 1,rawInt 0,rawInt cnt,rawInt p,rawInt p,.bool false,.ref l,.bool false],[]⟩) R s:=by
  have hszl:=sizeLine_eq
  refine codeAny_builtin entry_pat_loop ?_
  rw [Around.under_plainId pat_loop_plain]
  unfold Builtin.«re.Pattern.sub.loop»
  have K:=at'.base.kin.keeps at'.keep
  have hp':RePat s.heap a b:=⟨let ⟨o,p0,t0,h1,_,_,h4⟩:=hp.pat;⟨o,p0,t0,K _ _ h1,h4⟩,let ⟨o,n,h1,h2⟩:=hp.code;⟨o,n,K _ _ h1,h2⟩⟩
  have hs:Dead (Sre.forSearch rcode cs.toArray 1 p cs.toArray.size false):=search_none fun i h1 hi=>by
    have hi':i < cs.length:=by simpa using hi
    rw [arr_getD]
    have:=upSig_no (cs.drop p) (i - p) (by omega)
    rwa [List.getD_eq_getElem?_getD,List.getElem?_drop,← List.getD_eq_getElem?_getD,Nat.add_sub_cancel' h1] at this
  refine wpAny_bind (wp_whole hp' (wp_ifF (by decide) (wpAny_bind (wp_ifF (by rw [Bool.and_eq_true];exact fun h=>absurd h.1 (by decide)) (wp_rerun hs ?_)))))
  have tail:∀ (ws':List (Str × Tok)) (ps':List (List Nat)) (s₁:Shared) m',Tr S (fun x=>x = l ∨ Nw s x) g s g s₁→s₁.heap.get? l = some (listO (strValues ws') m')→ws'.map (·.1) = ps'.map (fun p=>(⟨p.toArray⟩:Str))→ps'.length≤2 * cs.length + 1→ps'.flatten = subC cs →
      wpAny S.M A.in1 (do
        let joiner ← Builtin.Re.reSlice cs.toArray 0 0 0
        let text ← if ((← seqItems? (.ref l)).getD #[]).isEmpty then pure joiner else call (.builtin "str.join") [joiner,.ref l]
        ret text) (fun fin s'=>match fin with | .done f=>R (.ok f) s' | .again c'=>c'.quiet = true∧codeAny S.M A c' R s') (fun e s'=>R (.error e) s') s₁:=by
    intro ws' ps' s₁ m' t1 hl1 he1 hlen1 hfl1
    refine wpAny_bind (show wpAny S.M A.in1 (mkStr ⟨cs.toArray.extract 0 0⟩) _ _ _ from wpAny_mkStr (wpAny_bind (wpAny_seqItems hl1 rfl ?_)) (by simp [Str.length]))
    have hfin:=hfl1
    have hlen2:(strValues ws').length = ps'.length:=by
      have:=congrArg List.length he1
      simpa [strValues] using this
    by_cases h0:ps' = []
    · subst h0
      have hw:ws' = []:=by simpa using he1
      subst hw
      have hcs:subC cs = []:=hfl1.symm
      refine wp_ifT rfl (wpAny_bind (wpAny_pure (wpAny_pure ?_)))
      refine (?_:R (.ok (.ret (.str ⟨cs.toArray.extract 0 0⟩ s₁.toks))) _)
      have e0:cs.toArray.extract 0 0 = (subC cs).toArray:=by rw [hcs];simp
      rw [e0]
      exact hQ _ g _ (t1.trans (Tr.tick (W:=fun _=>False) t1.keep t1.base t1.now (Nat.le_succ _)) fun _ h=>h.elim) (.str _ _ (by rw [hcs];exact Nat.zero_le _))
    · refine wp_ifF ?_ (wpAny_bind ?_)
      · have:(strValues ws') ≠ []:=fun h=>h0 (List.eq_nil_of_length_eq_zero (by rw [← hlen2,h];rfl))
        simpa using this
      · refine show wpAny S.M A.in1 (call (.builtin "str.join") [.str ⟨cs.toArray.extract 0 0⟩ s₁.toks,.ref l]) _ _ _ from ?_
        have e0:(⟨cs.toArray.extract 0 0⟩:Str) = ⟨([]:List Nat).toArray⟩:=by simp
        rw [e0]
        have hsub:=subC_len cs
        have hsum:(ps'.map fun p=>p.length + ([]:List Nat).length).sum≤sizeLine:=by
          have:(ps'.map fun p=>p.length + ([]:List Nat).length) = ps'.map List.length:=by simp
          rw [this,← List.length_flatten,hfl1];omega
        refine wp_joinList (l:=ws') (ps:=ps') hsum ⟨_,hl1,rfl,_,rfl⟩ he1 fun u tk ht hj=>wpAny_pure ?_
        rw [joinL_nil,hfl1] at hj ⊢
        exact hQ u g _ (t1.trans (Tr.tick (W:=fun _=>False) t1.keep t1.base t1.now (Nat.le_trans (Nat.le_succ _) ht)) fun _ h=>h.elim) (.str _ _ hj)
  have hlw:(strValues ws).length≤sizeLine:=by
    have:=congrArg List.length he
    simp [strValues] at this ⊢;omega
  rcases Nat.lt_or_eq_of_le hpl with h | h
  · refine wp_ifT (by show p < cs.toArray.size;simpa using h) (wpAny_bind (show wpAny S.M A.in1 (mkStr ⟨cs.toArray.extract p cs.toArray.size⟩) _ _ _ from wpAny_mkStr ?_ ?_))
    · have ex:cs.toArray.extract p cs.toArray.size = (cutS cs p cs.length).toArray:=by unfold cutS;simp
      rw [ex]
      refine wpAny_bind (wp_push hl hlw fun h' m' hl' hsb=>?_)
      refine tail (ws ++ [(⟨(cutS cs p cs.length).toArray⟩,s.toks)]) (ps ++ [cutS cs p cs.length]) _ m' (Tr.set at'.keep at'.base at'.tabs hsb (.inl rfl) hgl hTl (Nat.le_succ _)) (by rw [strValues_app];exact hl') ?_ ?_ ?_
      · rw [List.map_append,List.map_append,he];rfl
      · rw [List.length_append];simp;omega
      · rw [List.flatten_append,hfl]
        conv=>rhs;rw [← List.take_length (l:=cs),cut_at hpl,subC_app,cut_plain (Nat.le_refl _) hno]
        simp
    · simp [Str.length];omega
  · refine wp_ifF (by show ¬ p < cs.toArray.size;simp;omega) ?_
    exact tail ws ps s m (at'.refl _) hl he (by omega) (by rw [hfl,h,List.take_length])
end
section
variable {S:Sig} {k:Nat}
noncomputable def LamOk (S:Sig) (k:Nat) (cs:List Nat) (a fa:Addr) (g₀:Heap):Prop:=∀ (A:Around) (g:Heap) (s:Shared) (v:Value) (q:Nat) (Q:Value→Shared→Prop) (E:Value→Shared→Prop),At S (k + 1) A g s→Keep g₀ g→q < cs.length→Rd g v (.abs (MatP cs a 1 q (q + 1) 0)) →
  (∀ v' g' s',Tr S (Nw s) g s g' s'→Rd g' v' (.str [92,cs.getD q 0])→Q v' s')→wpAny S.M A (call (.ref fa) [v]) Q E s
theorem sub_loop {a b fa l:Addr} {cs:List Nat} {t:Tok} {g₀:Heap} {R:Result→Shared→Prop} (hp:PatAt S a b) (hlam:LamOk S k cs a fa g₀) (hz:cs.length≤400000) :
    ∀ (n p cnt:Nat) (ps:List (List Nat)) (ws:List (Str × Tok)) (m:Nat) (A:Around) (g:Heap) (s:Shared),cs.length - p≤n→p≤cs.length→At S (k + 2) A g s→Keep g₀ g→s.heap.get? l = some (listO (strValues ws) m)→g.get? l = none→¬ S.T l→l < s.heap.objs.size →
      ws.map (·.1) = ps.map (fun p=>(⟨p.toArray⟩:Str))→ps.length≤2 * p→ps.flatten = subC (cs.take p) →
      (∀ u g' s',Tr S (fun x=>x = l ∨ Nw s x) g s g' s'→Rd g' (.str ⟨(subC cs).toArray⟩ u) (.str (subC cs))→R (.ok (.ret (.str ⟨(subC cs).toArray⟩ u))) s') →
      codeAny S.M A (.builtin "re.Pattern.sub.loop" ⟨[.ref a,.str ⟨cs.toArray⟩ t,.ref fa,rawInt 1,rawInt 0,rawInt cnt,rawInt p,rawInt p,.bool false,.ref l,.bool false],[]⟩) R s:=by
  intro n
  induction n with
  | zero =>
    intro p cnt ps ws m A g s hn hpl at' hg0 hl hgl hTl hlt he hlen hfl hQ
    exact sub_end hp hz (by omega) at' hl hgl hTl he hlen hfl hQ (by omega)
  | succ n ih =>
    intro p cnt ps ws m A g s hn hpl at' hg0 hl hgl hTl hlt he hlen hfl hQ
    have hszl:=sizeLine_eq
    by_cases hq:p + upSig (cs.drop p) < cs.length
    · have hqt:(cs.drop p).getD (upSig (cs.drop p)) 0 = cs.getD (p + upSig (cs.drop p)) 0:=by rw [List.getD_eq_getElem?_getD,List.getElem?_drop,← List.getD_eq_getElem?_getD]
      have hsig:=upSig_at (cs.drop p) (by rw [List.length_drop];omega)
      rw [hqt] at hsig
      have hpq:p≤p + upSig (cs.drop p):=Nat.le_add_right _ _
      have hno2:∀ i,p≤i→i < p + upSig (cs.drop p)→sig (cs.toArray.getD i 0) = false:=fun i h1 hi=>by
        rw [arr_getD]
        have:=upSig_no (cs.drop p) (i - p) (by omega)
        rwa [List.getD_eq_getElem?_getD,List.getElem?_drop,← List.getD_eq_getElem?_getD,Nat.add_sub_cancel' h1] at this
      have hcp:subC (cutS cs p (p + upSig (cs.drop p))) = cutS cs p (p + upSig (cs.drop p)):=cut_plain (Nat.le_of_lt hq) (Nat.le_refl _)
      clear hqt
      generalize p + upSig (cs.drop p) = q at hq hsig hpq hno2 hcp ⊢
      obtain ⟨m',go,hit⟩:=rhit (n:=cs.toArray.size) hpq (by simpa using hq) (by rw [arr_getD];exact hsig) hno2
      have K:=at'.base.kin.keeps at'.keep
      have hp':RePat s.heap a b:=⟨let ⟨o,p0,t0,h1,_,_,h4⟩:=hp.pat;⟨o,p0,t0,K _ _ h1,h4⟩,let ⟨o,n,h1,h2⟩:=hp.code;⟨o,n,K _ _ h1,h2⟩⟩
      refine codeAny_builtin entry_pat_loop ?_
      rw [Around.under_plainId pat_loop_plain]
      unfold Builtin.«re.Pattern.sub.loop»
      refine wpAny_bind (wp_whole hp' (wp_ifF (by decide) (wpAny_bind (wp_ifF (by rw [Bool.and_eq_true];exact fun h=>absurd h.1 (by decide)) (wp_rerunHit go hit.out (by decide) ?_)))))
      have R1:Room S (k + 1) A.in1:=⟨at'.room.handled,by have:=at'.room.depth;show A.depth + _ < _;omega,by have:=at'.room.units;show A.units + 1 + _ + _ < _;omega⟩
      have hszl:=sizeLine_eq
      have tail:∀ (ws':List (Str × Tok)) (ps':List (List Nat)) (s₁:Shared) m₁,Tr S (fun x=>x = l ∨ Nw s x) g s g s₁→s₁.heap.get? l = some (listO (strValues ws') m₁)→ws'.map (·.1) = ps'.map (fun p=>(⟨p.toArray⟩:Str))→ps'.length≤2 * q + 1→ps'.flatten = subC (cs.take q) →
          wpAny S.M A.in1 (do
            let found ← Builtin.Re.reNewMatch (.ref a) (.str ⟨cs.toArray⟩ t) 1 0 cs.toArray.size m'
            let item ← holding [found] (call (.ref fa) [found])
            if item != .none then do
                updateSeq l (·.push item)
                again (.builtin "re.Pattern.sub.loop" ⟨[.ref a,.str ⟨cs.toArray⟩ t,.ref fa,rawInt 1,rawInt 0,rawInt (cnt + 1),rawInt m'.handed,rawInt m'.handed,.bool (m'.handed == m'.start),.ref l,.bool false],[]⟩)
              else again (.builtin "re.Pattern.sub.loop" ⟨[.ref a,.str ⟨cs.toArray⟩ t,.ref fa,rawInt 1,rawInt 0,rawInt (cnt + 1),rawInt m'.handed,rawInt m'.handed,.bool (m'.handed == m'.start),.ref l,.bool false],[]⟩)) (fun fin s'=>match fin with | .done f=>R (.ok f) s' | .again c'=>c'.quiet = true∧codeAny S.M A c' R s') (fun e s'=>R (.error e) s') s₁:=by
        intro ws' ps' s₁ m₁ t1 hl1 he1 hlen1 hfl1
        have at1:At S (k + 1) A.in1 g s₁:=t1.at R1
        have ez:cs.toArray.size = cs.length:=by simp
        rw [ez]
        refine wpAny_bind (wp_newMatch hit (by decide) (Nat.le_succ _) fun li=>?_)
        obtain ⟨g2,t2,e2⟩:=at1.push (spanO 1 q (q + 1) 0) rfl (Nat.le_refl _)
        obtain ⟨g3,t3,e3⟩:=(t2.at R1).push (matchO cs t a li s₁.heap.objs.size) rfl (Nat.le_refl _)
        have esz:(s₁.heap.push (spanO 1 q (q + 1) 0)).objs.size = s₁.heap.objs.size + 1:=Heap.size_push ..
        have hsl1:l < s₁.heap.objs.size:=Nat.lt_of_lt_of_le hlt t1.size
        have t23:=t2.then t3
        have hl3:=t23.listO at1.tabs hl1 (Nat.not_le.mpr hsl1)
        have hgl3:=t23.none hgl (Nat.not_le.mpr hsl1)
        refine wpAny_bind (wpAny_holding (hlam A.in1 g3 _ _ q _ _ (t3.at R1) (hg0.trans t23.mono) hq (.abs fun h' kp=>⟨s₁.heap.objs.size + 1,t,li,s₁.heap.objs.size,rfl,?_,?_⟩) fun v' g4 s4 t4 r4=>?_))
        · have:=kp _ _ e3
          rw [esz] at this;exact this
        · exact kp _ _ (t3.mono _ _ e2)
        · cases r4 using Rd.casesStr with
          | str tk hk =>
            have t14:=t23.then t4
            have hs4:=t14.size
            have hl4:=t14.listO at1.tabs hl1 (Nat.not_le.mpr hsl1)
            have hgl4:=t14.none hgl (Nat.not_le.mpr hsl1)
            have hlw:(strValues ws').length≤sizeLine:=by
              have:=congrArg List.length he1
              simp [strValues] at this ⊢;omega
            refine wp_ifT rfl (wpAny_bind (wp_push hl4 hlw fun h' m5 hl5 hsb=>?_))
            have t5:Tr S (fun x=>x = l) g4 s4 g4 { s4 with heap:=h' }:=Tr.set (t:=s4.toks) t14.keep t14.base t14.now hsb rfl hgl4 hTl (Nat.le_refl _)
            have t15:Tr S (fun x=>x = l ∨ Nw s x) g s g4 { s4 with heap:=h' }:=(t1.trans t14 fun x h=>.inr (Nat.le_trans t1.size h)).trans t5 fun x h=>.inl h
            refine wpAny_pure ⟨plainId_quiet pat_loop_plain _,?_⟩
            rw [hit.start,hit.handed]
            have ef:(q + 1 == q) = false:=by simp
            rw [ef]
            have hfl5:(ps' ++ [[92,cs.getD q 0]]).flatten = subC (cs.take (q + 1)):=by
              have e1:cs.take (q + 1) = cs.take q ++ [cs.getD q 0]:=by
                rw [List.take_add_one,List.getD_eq_getElem?_getD,List.getElem?_eq_getElem hq];rfl
              rw [List.flatten_append,hfl1,e1,subC_app]
              congr 1
              show _ = (if sig (cs.getD q 0) = true then [92,cs.getD q 0] else [cs.getD q 0]) ++ []
              rw [hsig];rfl
            refine ih (q + 1) (cnt + 1) (ps' ++ [[92,cs.getD q 0]]) (ws' ++ [(⟨[92,cs.getD q 0].toArray⟩,tk)]) m5 A g4 _ (by omega) (by omega) (t15.at at'.room) (hg0.trans t14.mono |> fun h=>(show Keep g₀ g4 from h)) (by rw [strValues_app];exact hl5) hgl4 hTl (Nat.lt_of_lt_of_le hlt t15.size) ?_ ?_ hfl5 fun u g' s' t6 r6=>hQ u g' s' (t15.trans t6 fun x h=>h.imp id fun h=>Nat.le_trans t15.size h) r6
            · rw [List.map_append,List.map_append,he1];rfl
            · rw [List.length_append];simp;omega
      have hlw:(strValues ws).length≤sizeLine:=by
        have:=congrArg List.length he
        simp [strValues] at this ⊢;omega
      rcases Nat.lt_or_eq_of_le hpq with h | h
      · refine wp_ifT (by show p < m'.start;rw [hit.start];exact h) (wpAny_bind (show wpAny S.M A.in1 (mkStr ⟨cs.toArray.extract p m'.start⟩) _ _ _ from wpAny_mkStr ?_ ?_))
        · have ex:cs.toArray.extract p m'.start = (cutS cs p q).toArray:=by rw [hit.start];unfold cutS;simp
          rw [ex]
          refine wpAny_bind (wp_push hl hlw fun h' m1 hl' hsb=>?_)
          refine tail (ws ++ [(⟨(cutS cs p q).toArray⟩,s.toks)]) (ps ++ [cutS cs p q]) _ m1 (Tr.set at'.keep at'.base at'.tabs hsb (.inl rfl) hgl hTl (Nat.le_succ _)) (by rw [strValues_app];exact hl') ?_ ?_ ?_
          · rw [List.map_append,List.map_append,he];rfl
          · rw [List.length_append];simp;omega
          · rw [List.flatten_append,hfl]
            conv=>rhs;rw [cut_at hpq,subC_app,hcp]
            simp
        · simp [Str.length];omega
      · refine wp_ifF (by show ¬ p < m'.start;rw [hit.start];omega) ?_
        subst h
        exact tail ws ps s m (at'.refl _) hl he (by omega) hfl
    · exact sub_end hp hz hpl at' hl hgl hTl he hlen hfl hQ (by
        have:=upSig_le (cs.drop p)
        rw [List.length_drop] at this;omega)
end
end
section
open PySem PySem.W PySem.Calls PyProof.Rows
section
variable {S:Sig} {k:Nat} {f:Fi} {Γ:Ctxt}
theorem wp_patsub2 {A:Around} {a b fa:Addr} {cs:List Nat} {t:Tok} {fd:FuncData} {op:Obj} {g:Heap} {s:Shared} {Q:Value→Shared→Prop} {E:Value→Shared→Prop} (hp:PatAt S a b) (at':At S (k + 3) A g s) (ha:s.heap.get? a = some op) (hcls:op.cls = .type "re.Pattern") (hf:s.heap.get? fa = some { cls:=.type "function",data:=.func fd }) (hlam:LamOk S k cs a fa g) (hz:cs.length≤400000)
    (hQ:∀ u g' s',Tr S (Nw s) g s g' s'→Rd g' (.str ⟨(subC cs).toArray⟩ u) (.str (subC cs))→Q (.str ⟨(subC cs).toArray⟩ u) s') :
    wpAny S.M A (call (.builtin "re.Pattern.sub") [.ref a,.ref fa,.str ⟨cs.toArray⟩ t]) Q E s:=by
  refine wpAny_call (codeAny_call_builtin slot_pat_sub.plain entry_pat_sub (slot_pat_sub.check _ _ _ _ _ _ _ _ ⟨op,ha,hcls⟩ (args_pat_sub _ _ _) ?_))
  unfold Builtin.«re.Pattern.sub» Builtin.Re.reSubstitute
  have K:=at'.base.kin.keeps at'.keep
  have hp':RePat s.heap a b:=⟨let ⟨o,p0,t0,h1,_,_,h4⟩:=hp.pat;⟨o,p0,t0,K _ _ h1,h4⟩,let ⟨o,n,h1,h2⟩:=hp.code;⟨o,n,K _ _ h1,h2⟩⟩
  have hT:s.TypeIs (.ref fa) "function":=⟨_,hf,rfl⟩
  refine e1_1 look_fn_call fun cv hcv=>?_
  refine wpAny_bind (wpAny_of_eq (reNamed2 _ _) (wpAny_bind (wpAny_pure (wpAny_bind (show wpAny S.M A.in1 (do typeLookup (← typeOf (.ref fa)) "__call__") _ _ s from wpAny_bind (wpAny_typeOf hT (wpAny_of_eq hcv ?_)))))))
  refine wpAny_bind (wpAny_pure (wpAny_bind (wpAny_pure (wpAny_bind (wpAny_holding (wp_whole hp' ?_))))))
  refine wp_ifT ?_ (wpAny_bind (wp_notHeld (wpAny_bind (wpAny_newList (items:=[]) ?_))))
  · rfl
  refine wpAny_pure ⟨plainId_quiet pat_loop_plain _,?_⟩
  have hno:g.get? s.heap.objs.size = none:=by
    cases e:g.get? s.heap.objs.size with
    | none=>rfl
    | some o=>exact absurd (Heap.lt_size (at'.keep _ _ e)) (Nat.lt_irrefl _)
  have hT':¬ S.T s.heap.objs.size:=fun h=>by
    obtain ⟨q,hq,e⟩:=List.mem_map.mp h
    obtain ⟨ps,e1,_⟩:=at'.tabs.all q hq
    rw [e] at e1
    exact absurd (Heap.lt_size e1) (Nat.lt_irrefl _)
  obtain ⟨g1,t1,_,hfr⟩:=Tr.grow (s':={ s with heap:=s.heap.push (listO [] 0) }) (fun _=>False) at'.keep at'.base at'.tabs (fun b o e=>Heap.get?_push_of_some _ e) (by rw [Heap.size_push];exact Nat.le_succ _) rfl rfl (Nat.le_refl _)
  have hgl:=hfr _ (Nat.le_refl _) id
  refine sub_loop hp (fun A g2 s2 v q Q E a2 kp=>hlam A g2 s2 v q Q E a2 (t1.mono.trans kp)) hz cs.length 0 0 [] [] 0 _ g1 _ (Nat.sub_le _ _) (Nat.zero_le _) (t1.at ?_) (.refl g1) (Heap.get?_push_size _ rfl) hgl hT' (by show s.heap.objs.size < (s.heap.push _).objs.size;rw [Heap.size_push];exact Nat.lt_succ_self _) rfl (Nat.le_refl _) rfl ?_
  · exact at'.room.le (Nat.le_succ _)
  · intro u g' s' t2 r2
    exact hQ u g' s' (t1.trans t2 fun x h=>h.elim (fun q=>by rw [q];exact Nat.le_refl _) fun h=>Nat.le_trans t1.size h) r2
theorem EV.subLam2 {x y:Str} {a b c P:Addr} {cs:List Nat} {params:Arguments} {body:Expr} {scope:Scope} {arg:Expr} {p0 apos lpos pos:Pos} (hx:Raw S f x (.ref a)) (hp:PatAt S a b) (hc:f.code = .ref c) (hq:(c,P) ∈ S.tabs)
    (hqual:∀ p':Pos,p'.line = lpos.line→p'.col = lpos.col→S.qualAt p' = f.qual ++ "<lambda>") (h1:EV S (k + 3) f Γ arg (.str cs)) (hz:cs.length≤400000)
    (hy:scope.names.lookup y = some .local) (hb:∀ cv q,q < cs.length→EV S k (fiL (f.qual ++ "<lambda>") scope cv y hy) [some (.val (.abs (MatP cs a 1 q (q + 1) 0)))] body (.str [92,cs.getD q 0]))
    (hkind:scope.kind = .function:=by rfl) (hco:scope.isCoroutine = false:=by rfl) (hgen:scope.isGenerator = false:=by rfl)
    (hbind:∀ qual pm cv ctv v,bindArgs (kla_fn "<lambda>" qual params body scope [] pm cv ctv) ⟨[v],[]⟩ = pure [(y,v)]:=by intros;rfl)
    (hdef:∀ env,defaultsOf params env = ([],[]):=by intro _;rfl) (hcl:∀ env,closureFor scope env = pure []:=by intro _;rfl)
    (hbase:∀ env,attributeBase (.Name x p0) "sub" env (eval (.Name x p0) env) = eval (.Name x p0) env:=by intro _;rfl)
    (hline:(apos.endLine == pos.line) = true:=by rfl)
    (htr:∀ env,backTo pos (starEach [.Lambda params body scope lpos,arg] env) = [(false,eval (.Lambda params body scope lpos) env),(false,eval arg env)]:=by intro _;rfl) :
    EV S (k + 3) f Γ (.Call (.Attribute (.Name x p0) "sub" apos) [.Lambda params body scope lpos,arg] [] pos) (.str (subC cs)):=by
  intro A g W env s Q E R st hQ
  refine wpAny_Call_method (T:="re.Pattern") (id:="re.Pattern.sub") (hbase env) (by rw [htr];rfl) hline plainAttrs_pat slot_pat_sub type_pat_sub ?_
  refine hx (k + 3) Γ p0 A g W env s _ E R st fun ov g1 s1 t1 r1=>?_
  cases r1 using Rd.casesRaw
  obtain ⟨o,q0,t0,hl,hcls,hdict,hdata⟩:=hp.pat
  have K1:=t1.base.kin.keeps t1.keep
  refine ⟨⟨o,K1 _ _ hl,hcls⟩,fun a' q=>by cases q;exact ⟨o,K1 _ _ hl,hdict⟩,?_⟩
  rw [htr]
  refine callWith_of (P:=fun h=>S.K.In h) (by rfl) (Callee.builtin (S:=S)) ?_
  refine evalArgs_any (by rfl) ?_
  refine spliced_cons (wp_lambda hc hq hqual hdef hcl R (st.move t1) fun fa cv ctv pm g2 s2 t2 hfa hrec=>?_)
  refine spliced_cons (h1 A g2 W env s2 _ E R ((st.move t1).move t2) fun v3 g3 s3 t3 r3=>spliced_nil ?_)
  have K3:=t3.base.kin.keeps t3.keep
  refine ⟨K3,?_⟩
  cases r3 using Rd.casesStr with
  | str tk hs =>
    have hf3:=t3.mono _ _ hfa
    refine wp_patsub2 (op:=o) hp (t3.at R) (K3 _ _ hl) hcls (t3.keep _ _ hf3) (fun A' g4 s4 v q Q' E' a4 kp hq4 rd hQ'=>?_) hz fun u g' s' t4 r4=>hQ _ g' s' (((t1.then t2).then t3).then t4) r4
    refine lam_run hy hkind hco hgen (hbind _ _ _ _) a4 (kp _ _ hf3) ((hrec.keeps t3.mono).keeps kp) rd (hb cv q hq4) hQ'
end
end
section
open PySem PySem.W PySem.Calls PyProof.Rows
section
variable {S:Sig} {k:Nat} {f:Fi} {Γ:Ctxt} {e r:Expr} {d d₁ d₂:D} {pos p':Pos}
theorem EX.augItem {x:Str} {npos:Pos} {xs:List D} {i:Int} {op:Operator} (j:Nat) (n:Nm f x j .local) (hj:Γ[j]? = some (some (.own xs))) (h2:EV S k f Γ e (.int i)) (h0:-(xs.length:Int)≤i) (h1:i < xs.length)
    (hd:xs[idx xs.length i]? = some d₁) (h3:EV S k f Γ r d₂) (h4:Op2 S k (inplaceOp op) d₁ d₂ d)
    (ha:∀ ov iv new,augStore e ov iv new = (do holding [new,ov,iv] (setItem ov iv new);release [new,ov,iv] [];pure .next):=by intro _ _ _;rfl) :
    EX S k f Γ (.AugAssign (.Subscript (.Name x npos) e pos) op r p') (.next (Γ.set j (some (.own (xs.set (idx xs.length i) d))))):=by
  intro A g W env s Q E R st hQ
  refine wpAny_AugAssign_Subscript_any ?_ ha
  refine st.ownIn hj n.hx fun a O=>O.name n.d1 ?_
  refine h2 A g W env s _ E R st fun iv g2 s2 t2 r2=>?_
  have st2:=st.move t2
  refine O.later t2 fun vs₂ n₂ ho₂ hz₂ rs₂ _=>?_
  have hl:=rs₂.length
  cases r2 using Rd.casesInt
  refine e1_2 (rs₂.get _ hd) (fun v1 hv1 hr1=>?_)
  refine wp_getAt a ho₂ hz₂ (by rw [hl];exact h0) (by rw [hl];exact h1) (by rw [hl];exact hv1) ?_
  refine h3 A g2 W env s2 _ E R st2 fun v2 g3 s3 t3 r3=>h4 A g3 s3 v1 v2 _ E (t3.at R) (hr1.mono t3.mono) r3 fun v4 g4 s4 t4 r4=>?_
  refine O.later (t2.then (t3.then t4)) fun vs₃ n₃ ho₃ hz₃ rs₃ ch=>?_
  have hl₃:=rs₃.length
  refine wp_setAt ho₃ hz₃ (by rw [hl₃];exact h0) (by rw [hl₃];exact h1) fun h' n' e1 e2=>?_
  rw [hl₃] at e1
  exact e0_2 (ch h' _ n' (xs.set (idx xs.length i) d) s4.toks e1 e2 (by rw [List.length_set];exact hz₃) (Rds.set r4 rs₃ _) (Nat.le_refl _)) fun T st3=>hQ _ g4 _ T ⟨rfl,st3⟩
end
end
section
open PySem PySem.W PySem.Calls PyProof.Rows
noncomputable def chunkGo (st:List Nat):Nat→Nat→Nat→List (List Nat)→List (List Nat) × Nat
  | 0,i,_,cs=>(cs,i)
  | n + 1,i,k,cs=>if k + upto 45 (st.drop k) < st.length then chunkGo st n (k + upto 45 (st.drop k) + 1) (k + upto 45 (st.drop k) + 3) (cs ++ [cutS st i (k + upto 45 (st.drop k))]) else (cs,i)
noncomputable def chunk0 (st:List Nat):Nat:=if st.head? = some 33 then 2 else 1
noncomputable def chunksEnd (st:List Nat) (p:List (List Nat) × Nat):List (List Nat) :=
  if st.drop p.2 = [] then p.1.set (p.1.length - 1) (p.1.getD (p.1.length - 1) [] ++ [45]) else p.1 ++ [st.drop p.2]
noncomputable def chunksOf (st:List Nat):List (List Nat):=chunksEnd st (chunkGo st st.length 0 (chunk0 st) [])
noncomputable def mergeL:List (List Nat)→List Nat→List (List Nat)→List (List Nat)
  | [],cur,post=>cur :: post
  | a :: rp,cur,post=>if cur.take 1 < a.drop (a.length - 1) then mergeL rp (a.take (a.length - 1) ++ cur.drop 1) post else mergeL rp a (cur :: post)
noncomputable def merged (cs:List (List Nat)):List (List Nat):=match cs.reverse with
  | []=>[]
  | a :: rp=>mergeL rp a []
noncomputable def eltC (a:List Nat):List Nat:=replC 45 [92,45] (replC 92 [92,92] a)
noncomputable def setIn (st:List Nat):List Nat:=subC (if 45 ∈ st then joinL [45] ((merged (chunksOf st)).map eltC) else replC 92 [92,92] st)
noncomputable def RpOk:List (List Nat)→Prop
  | []=>True
  | a :: r=>(r ≠ []→2≤a.length)∧a ≠ []∧RpOk r
noncomputable def tot (L:List (List Nat)):Nat:=(L.map fun p=>p.length + 1).sum
theorem tot_app (L M:List (List Nat)):tot (L ++ M) = tot L + tot M:=by unfold tot;rw [List.map_append,List.sum_append]
theorem tot_cons (p:List Nat) (L:List (List Nat)):tot (p :: L) = p.length + 1 + tot L:=rfl
theorem tot_rev (L:List (List Nat)):tot L.reverse = tot L:=by
  induction L with
  | nil=>rfl
  | cons p L ih=>rw [List.reverse_cons,tot_app,ih,tot_cons,tot_cons];show _ + (_ + 0) = _;omega
theorem tot_mem {p:List Nat}:∀ {L:List (List Nat)},p ∈ L→p.length + 1≤tot L
  | [],h=>nomatch h
  | a :: L,h=>by
    rw [tot_cons]
    rcases List.mem_cons.mp h with rfl | h
    · exact Nat.le_add_right _ _
    · exact Nat.le_trans (tot_mem h) (Nat.le_add_left _ _)
theorem tot_len (L:List (List Nat)):L.length≤tot L:=by
  induction L with
  | nil=>exact Nat.le_refl _
  | cons p L ih=>rw [tot_cons,List.length_cons];omega
theorem chunkGo_ok (st:List Nat) (P:Nat→Prop) (hP:∀ c ∈ st,P c):∀ (n i k:Nat) (cs:List (List Nat)),RpOk cs.reverse→(cs = []→i + 1≤k)→(cs ≠ []→i + 2≤k)→tot cs≤i→i≤st.length→(∀ c ∈ cs.flatten,P c) →
    RpOk (chunkGo st n i k cs).1.reverse∧tot (chunkGo st n i k cs).1≤(chunkGo st n i k cs).2∧(chunkGo st n i k cs).2≤st.length∧((chunkGo st n i k cs).1 = []→(chunkGo st n i k cs).2 = i∧cs = [])∧∀ c ∈ (chunkGo st n i k cs).1.flatten,P c
  | 0,i,k,cs,h1,_,_,h4,h5,h6=>⟨h1,h4,h5,fun h=>⟨rfl,h⟩,h6⟩
  | n + 1,i,k,cs,h1,h2,h3,h4,h5,h6=>by
    unfold chunkGo
    by_cases h:k + upto 45 (st.drop k) < st.length
    · rw [if_pos h]
      generalize k + upto 45 (st.drop k) = q,Nat.le_add_right k (upto 45 (st.drop k)) = hkq at h
      have hl:(cutS st i q).length = q - i:=cut_len (Nat.le_of_lt h)
      have hik:i + 1≤k:=by
        by_cases e:cs = []
        · exact h2 e
        · have:=h3 e;omega
      have r:=chunkGo_ok st P hP n (q + 1) (q + 3) (cs ++ [cutS st i q]) ?_ (fun e=>absurd e (by simp)) (fun _=>by omega) ?_ (by omega) ?_
      · refine ⟨r.1,r.2.1,r.2.2.1,fun e=>?_,r.2.2.2.2⟩
        exact absurd (r.2.2.2.1 e).2 (by simp)
      · rw [List.reverse_append]
        refine ⟨fun e=>?_,fun e=>?_,h1⟩
        · have:=h3 (fun q=>e (by rw [q];rfl));omega
        · rw [e] at hl;simp at hl;omega
      · rw [tot_app,tot_cons,hl];show _ + (_ + 0)≤_;omega
      · intro c hc
        rw [List.flatten_append] at hc
        rcases List.mem_append.mp hc with hc | hc
        · exact h6 c hc
        · simp only [List.flatten_cons,List.flatten_nil,List.append_nil] at hc
          exact hP c (List.mem_of_mem_drop (List.mem_of_mem_take hc))
    · rw [if_neg h]
      exact ⟨h1,h4,h5,fun h=>⟨rfl,h⟩,h6⟩
theorem flat_mem {P:Nat→Prop} {L M:List (List Nat)}:(∀ c ∈ (L ++ M).flatten,P c) ↔ (∀ c ∈ L.flatten,P c)∧∀ c ∈ M.flatten,P c:=by
  rw [List.flatten_append];exact List.forall_mem_append
theorem chunksOf_ok (st:List Nat) (P:Nat→Prop) (hP:∀ c ∈ st,P c) (hm:45 ∈ st):∃ rp cur,chunksOf st = rp.reverse ++ [cur]∧RpOk rp∧cur ≠ []∧tot rp + (cur.length + 1)≤st.length + 1∧(∀ c ∈ rp.flatten,P c)∧∀ c ∈ cur,P c:=by
  have hk:1≤chunk0 st:=by unfold chunk0;split <;> decide
  have r:=chunkGo_ok st P hP st.length 0 (chunk0 st) [] trivial (fun _=>hk) (fun h=>absurd rfl h) (Nat.le_refl _) (Nat.zero_le _) (fun c h=>nomatch h)
  unfold chunksOf
  generalize chunkGo st st.length 0 (chunk0 st) [] = p at r
  obtain ⟨cs,i⟩:=p
  obtain ⟨r1,r2,r3,r4,r5⟩:=r
  unfold chunksEnd
  have hP45:P 45:=hP 45 hm
  have rv:∀ L:List (List Nat),(∀ c ∈ L.flatten,P c)→∀ c ∈ L.reverse.flatten,P c:=fun L h c hc=>by
    obtain ⟨p,hp,hc⟩:=List.mem_flatten.mp hc
    exact h c (List.mem_flatten.mpr ⟨p,List.mem_reverse.mp hp,hc⟩)
  by_cases h:st.drop i = []
  · rw [if_pos h]
    have hi:st.length≤i:=List.drop_eq_nil_iff.mp h
    have hst:st ≠ []:=List.ne_nil_of_mem hm
    have hl:=List.length_pos_iff.mpr hst
    rcases nil_or_snoc cs with rfl | ⟨ini,x,rfl⟩
    · have:=(r4 rfl).1;simp only at this hi;omega
    · refine ⟨ini.reverse,x ++ [45],?_,?_,by simp,?_,?_,?_⟩
      · simp
      · rw [List.reverse_append] at r1;exact r1.2.2
      · simp only [tot_app,tot_cons] at r2
        rw [tot_rev,List.length_append]
        simp only [List.length_cons,List.length_nil,tot,List.map_nil,List.sum_nil] at r2 ⊢
        simp only [tot] at *;omega
      · exact rv _ (flat_mem.mp r5).1
      · intro c hc
        rcases List.mem_append.mp hc with hc | hc
        · exact (flat_mem.mp r5).2 c (by simpa using hc)
        · rw [List.mem_singleton.mp hc];exact hP45
  · rw [if_neg h]
    refine ⟨cs.reverse,st.drop i,by rw [List.reverse_reverse],r1,h,?_,rv _ r5,fun c hc=>hP c (List.mem_of_mem_drop hc)⟩
    rw [tot_rev,List.length_drop]
    simp only at r2 r3;omega
theorem merged_snoc (rp:List (List Nat)) (cur:List Nat):merged (rp.reverse ++ [cur]) = mergeL rp cur []:=by
  unfold merged
  rw [List.reverse_append,List.reverse_reverse];rfl
theorem mergeL_ok (P:Nat→Prop):∀ (rp:List (List Nat)) (cur:List Nat) (post:List (List Nat)),(∀ c ∈ rp.flatten,P c)→(∀ c ∈ cur,P c)→(∀ c ∈ post.flatten,P c) →
    tot (mergeL rp cur post)≤tot rp + (cur.length + 1) + tot post∧∀ c ∈ (mergeL rp cur post).flatten,P c
  | [],cur,post,_,h2,h3=>⟨by show tot (cur :: post)≤_;rw [tot_cons];simp [tot],fun c hc=>(List.mem_append.mp hc).elim (h2 c) (h3 c)⟩
  | a :: rp,cur,post,h1,h2,h3=>by
    have ha:∀ c ∈ a,P c:=fun c hc=>h1 c (List.mem_append_left _ hc)
    have hr:∀ c ∈ rp.flatten,P c:=fun c hc=>h1 c (List.mem_append_right _ hc)
    unfold mergeL
    by_cases h:cur.take 1 < a.drop (a.length - 1)
    · rw [if_pos h]
      have r:=mergeL_ok P rp (a.take (a.length - 1) ++ cur.drop 1) post hr (fun c hc=>(List.mem_append.mp hc).elim (fun q=>ha c (List.mem_of_mem_take q)) fun q=>h2 c (List.mem_of_mem_drop q)) h3
      refine ⟨Nat.le_trans r.1 ?_,r.2⟩
      rw [tot_cons,List.length_append,List.length_take,List.length_drop];omega
    · rw [if_neg h]
      have r:=mergeL_ok P rp a (cur :: post) hr ha (fun c hc=>(List.mem_append.mp hc).elim (h2 c) (h3 c))
      refine ⟨Nat.le_trans r.1 ?_,r.2⟩
      rw [tot_cons,tot_cons];omega
theorem joinL_mem (sep:List Nat):∀ (L:List (List Nat)) (c:Nat),c ∈ joinL sep L→c ∈ sep ∨ c ∈ L.flatten
  | [],c,h=>nomatch h
  | [p],c,h=>.inr (by simpa [joinL] using h)
  | p :: q :: r,c,h=>by
    have e:joinL sep (p :: q :: r) = p ++ sep ++ joinL sep (q :: r):=rfl
    rw [e] at h
    rcases List.mem_append.mp h with h | h
    · rcases List.mem_append.mp h with h | h
      · exact .inr (List.mem_append_left _ h)
      · exact .inl h
    · exact (joinL_mem sep (q :: r) c h).imp id fun h=>List.mem_append_right _ h
theorem replC_mem (c:Nat) (y:List Nat) (xs:List Nat) (x:Nat) (h:x ∈ replC c y xs):x ∈ y ∨ x ∈ xs:=by
  obtain ⟨z,h1,h2⟩:=List.mem_flatMap.mp h
  by_cases q:z = c
  · rw [if_pos q] at h2;exact .inl h2
  · rw [if_neg q] at h2
    exact .inr (List.mem_singleton.mp h2 ▸ h1)
theorem eltC_mem {a:List Nat} {c:Nat} (h:c ∈ eltC a):c = 92 ∨ c = 45 ∨ c ∈ a:=by
  rcases replC_mem _ _ _ _ h with h | h
  · simp at h;rcases h with h | h
    · exact .inl h
    · exact .inr (.inl h)
  · rcases replC_mem _ _ _ _ h with h | h
    · simp at h;exact .inl h
    · exact .inr (.inr h)
theorem eltC_len (a:List Nat):(eltC a).length≤a.length * 9:=by
  have h1:=replC_len 45 [92,45] (replC 92 [92,92] a)
  have h2:=replC_len 92 [92,92] a
  simp only [List.length_cons,List.length_nil] at h1 h2
  unfold eltC;omega
theorem eltC_sum:∀ L:List (List Nat),((L.map eltC).map fun p=>p.length + [45].length).sum≤tot L * 9
  | []=>Nat.zero_le _
  | a :: L=>by
    have h1:=eltC_len a
    have h2:=eltC_sum L
    rw [tot_cons]
    simp only [List.map_cons,List.sum_cons,List.length_cons,List.length_nil] at h2 ⊢
    omega
theorem setIn_mem {st:List Nat} {c:Nat} (h:c ∈ setIn st):c = 92 ∨ c ∈ st:=by
  unfold setIn at h
  obtain ⟨x,h1,h2⟩:=List.mem_flatMap.mp h
  have hx:c = 92 ∨ c = x:=by
    split at h2
    · simpa using h2
    · exact .inr (by simpa using h2)
  rcases hx with rfl | rfl
  · exact .inl rfl
  · clear h h2
    by_cases hm:45 ∈ st
    · rw [if_pos hm] at h1
      rcases joinL_mem _ _ _ h1 with h | h
      · simp at h;subst h;exact .inr hm
      · obtain ⟨p,hp,hc⟩:=List.mem_flatten.mp h
        obtain ⟨a,ha,rfl⟩:=List.mem_map.mp hp
        obtain ⟨rp,cur,e1,_,_,_,e5,e6⟩:=chunksOf_ok st (· ∈ st) (fun _ h=>h) hm
        rw [e1,merged_snoc] at ha
        have:=(mergeL_ok (· ∈ st) rp cur [] e5 e6 (fun c h=>nomatch h)).2
        rcases eltC_mem hc with h | h | h
        · exact .inl h
        · rw [h];exact .inr hm
        · exact .inr (this _ (List.mem_flatten.mpr ⟨a,ha,h⟩))
    · rw [if_neg hm] at h1
      rcases replC_mem _ _ _ _ h1 with h | h
      · simp at h;exact .inl h
      · exact .inr h
theorem setIn_len {st:List Nat} (h:st.length≤20000):(setIn st).length≤400000:=by
  have h1:=subC_len (if 45 ∈ st then joinL [45] ((merged (chunksOf st)).map eltC) else replC 92 [92,92] st)
  unfold setIn
  refine Nat.le_trans h1 ?_
  by_cases hm:45 ∈ st
  · rw [if_pos hm]
    obtain ⟨rp,cur,e1,_,_,e4,_⟩:=chunksOf_ok st (fun _=>True) (fun _ _=>trivial) hm
    have:=(mergeL_ok (fun _=>True) rp cur [] (fun _ _=>trivial) (fun _ _=>trivial) (fun _ _=>trivial)).1
    have h2:=joinL_len [45] ((merged (chunksOf st)).map eltC)
    have h3:=eltC_sum (merged (chunksOf st))
    rw [e1,merged_snoc] at h2 h3 ⊢
    have:tot ([]:List (List Nat)) = 0:=rfl
    omega
  · rw [if_neg hm]
    have:=replC_len 92 [92,92] st
    simp only [List.length_cons,List.length_nil] at this;omega
theorem pickRel {pat:List Nat} {i0 e i q:Nat} (h:i0 + q≤e):pick (some ((i0 + i:Nat):Int)) (some ((i0 + q:Nat):Int)) pat = cutS ((pat.take e).drop i0) i q:=by
  rw [pick_mid]
  unfold cutS
  rw [List.drop_drop,List.drop_take,List.drop_take,List.take_take]
  congr 1;omega
theorem findRel {pat:List Nat} {i0 e k:Nat} (h0:i0≤e) (h1:e≤pat.length):findC 45 pat (i0 + k) e = if k + upto 45 (((pat.take e).drop i0).drop k) < e - i0 then some (i0 + (k + upto 45 (((pat.take e).drop i0).drop k))) else none:=by
  have hat:∀ t,t < e - i0→pat[i0 + t]? = some (((pat.take e).drop i0).getD t 0):=fun t ht=>by
    rw [List.getD_eq_getElem?_getD,List.getElem?_drop,List.getElem?_take,if_pos (by omega),List.getElem?_eq_getElem (by omega)];rfl
  have hl:((pat.take e).drop i0).length = e - i0:=by rw [List.length_drop,List.length_take];omega
  generalize (pat.take e).drop i0 = st at hat hl ⊢
  have hno:∀ t,k≤t→t < k + upto 45 (st.drop k)→st.getD t 0 ≠ 45:=fun t h2 h3=>by
    have:=upto_ne 45 (st.drop k) (t - k) (by omega)
    rwa [List.getD_eq_getElem?_getD,List.getElem?_drop,Nat.add_sub_cancel' h2,← List.getD_eq_getElem?_getD] at this
  by_cases h:k + upto 45 (st.drop k) < e - i0
  · rw [if_pos h]
    have hq:=upto_at 45 (st.drop k) (by rw [List.length_drop];omega)
    rw [List.getD_eq_getElem?_getD,List.getElem?_drop,← List.getD_eq_getElem?_getD] at hq
    refine findC_some (by omega) (by omega) (by rw [hat _ h,hq]) fun j h2 h3 e1=>?_
    obtain ⟨t,rfl⟩:=Nat.exists_eq_add_of_le (show i0≤j by omega)
    rw [hat t (by omega)] at e1
    exact hno t (by omega) (by omega) (Option.some.inj e1)
  · rw [if_neg h]
    refine findC_none fun j h2 h3 e1=>?_
    obtain ⟨t,rfl⟩:=Nat.exists_eq_add_of_le (show i0≤j by omega)
    rw [hat t (by omega)] at e1
    exact hno t (by omega) (by omega) (Option.some.inj e1)
end
section
open PySem PySem.W PySem.Calls PyProof.Rows
noncomputable def specials:List Nat:=[40,41,91,93,123,125,63,42,43,45,124,94,36,92,46,38,126,35,32,9,10,13,11,12]
noncomputable abbrev It1:=Option (Option (List Nat))
noncomputable def itD:It1→D
  | none=>.raw .none
  | some none=>.int 0
  | some (some s)=>.str s
noncomputable def setFrom (pat:List Nat) (i:Nat):Nat :=
  if pat[if pat[i]? = some 33 then i + 1 else i]? = some 93 then (if pat[i]? = some 33 then i + 1 else i) + 1 else if pat[i]? = some 33 then i + 1 else i
noncomputable def openC (pat:List Nat) (j:Nat):Bool:=decide ((j:Int) < (pat.length:Int)) && !decide (pat[j]? = some 93)
noncomputable def setEnd (pat:List Nat) (i:Nat):Nat:=looped (openC pat) (· + 1) (pat.length - setFrom pat i) (setFrom pat i)
noncomputable def setVar (stuff:List Nat):List Nat :=
  if stuff = [] ∨ stuff = [33] then stuff else if stuff.head? = some 33 then [94] ++ stuff.drop 1 else if stuff.head? = some 94 ∨ stuff.head? = some 91 then [92] ++ stuff else stuff
noncomputable def setShown (stuff:List Nat):List Nat :=
  if stuff = [] then [40,63,33,41] else if stuff = [33] then [46] else
  [91] ++ setVar stuff ++ [93]
noncomputable def setItem (stuff:List Nat):List Nat:=setShown (setIn stuff)
noncomputable def trStep (pat:List Nat) (s:List It1 × Nat):List It1 × Nat :=
  match pat[s.2]? with
  | none=>(s.1,s.2 + 1)
  | some c =>
    if c = 42 then (if s.1.getLast? = some none then s.1 else s.1 ++ [none],s.2 + 1)
    else if c = 63 then (s.1 ++ [some none],s.2 + 1)
    else if c = 91 then
      if pat.length≤setEnd pat (s.2 + 1) then (s.1 ++ [some (some [92,91])],s.2 + 1)
      else (s.1 ++ [some (some (setItem (pick (some ((s.2 + 1:Nat):Int)) (some (setEnd pat (s.2 + 1):Int)) pat)))],setEnd pat (s.2 + 1) + 1)
    else (s.1 ++ [some (some (escC specials c))],s.2 + 1)
noncomputable def trGo (pat:List Nat) (s:List It1 × Nat):Bool:=decide ((s.2:Int) < (pat.length:Int))
noncomputable def pTr (pat:List Nat):List It1:=(looped (trGo pat) (trStep pat) pat.length ([],0)).1
theorem setFrom_le (pat:List Nat) (i:Nat) (h:i≤pat.length):i≤setFrom pat i∧setFrom pat i≤pat.length:=by
  have lt:∀ {j c:Nat},pat[j]? = some c→j < pat.length:=fun e=>(List.getElem?_eq_some_iff.mp e).1
  unfold setFrom
  by_cases h2:pat[i]? = some 33
  · have h3:=lt h2
    simp only [h2,if_true]
    split
    · rename_i h1;have:=lt h1;lia
    · lia
  · simp only [h2,if_false]
    split
    · rename_i h1;have:=lt h1;lia
    · lia
theorem openRun_le (pat:List Nat):∀ (n j:Nat),j≤pat.length→j≤looped (openC pat) (· + 1) n j∧looped (openC pat) (· + 1) n j≤pat.length
  | 0,j,h=>⟨Nat.le_refl _,h⟩
  | n + 1,j,h=>by
    unfold looped
    split
    · rename_i hc
      simp only [openC,Bool.and_eq_true,decide_eq_true_eq] at hc
      have:=openRun_le pat n (j + 1) (by lia)
      lia
    · exact ⟨Nat.le_refl _,h⟩
theorem setEnd_le (pat:List Nat) (i:Nat) (h:i≤pat.length):i≤setEnd pat i∧setEnd pat i≤pat.length:=by
  have h1:=setFrom_le pat i h
  have h2:=openRun_le pat (pat.length - setFrom pat i) (setFrom pat i) h1.2
  unfold setEnd;lia
theorem trStep_grow (pat:List Nat) (s:List It1 × Nat) (h:s.2 < pat.length):s.2 < (trStep pat s).2∧(trStep pat s).2≤pat.length∧(trStep pat s).1.length≤s.1.length + 1:=by
  have h1:=setEnd_le pat (s.2 + 1) (by lia)
  unfold trStep
  rw [List.getElem?_eq_getElem h]
  simp only
  repeat' split
  all_goals simp
  all_goals lia
theorem subC_lower (xs:List Nat):xs.length≤(subC xs).length:=by
  induction xs with
  | nil=>exact Nat.le_refl _
  | cons x r ih =>
    have e:subC (x :: r) = (if sig x = true then [92,x] else [x]) ++ subC r:=rfl
    rw [e,List.length_append,List.length_cons]
    split <;> simp <;> omega
theorem cut_one {cs:List Nat} {q:Nat} (h:q < cs.length):cutS cs q (q + 1) = [cs.getD q 0]:=by
  unfold cutS
  rw [Nat.add_sub_cancel_left,List.drop_eq_getElem_cons h,List.getD_eq_getElem?_getD,List.getElem?_eq_getElem h];rfl
end
section
open PySem PySem.W PySem.Calls PyProof.Rows
section
variable {S:Sig} {k:Nat} {f:Fi} {test tg:Expr} {body:List Stmt}
theorem WL.chunks {st:List Nat} (G:Nat→List D→Option Nat→Ctxt) (ht:∀ i cs j,TV S k f (G i cs j) test true)
    (hn:∀ (i j:Nat) (cs:List (List Nat)),j + upto 45 (st.drop j) < st.length→cs.length≤i→i≤j→EXs S k f (G i (cs.map .str) (some j)) body (.next (G (j + upto 45 (st.drop j) + 1) ((cs ++ [cutS st i (j + upto 45 (st.drop j))]).map .str) (some (j + upto 45 (st.drop j) + 3)))))
    (hb:∀ (i j:Nat) (cs:List (List Nat)),¬ j + upto 45 (st.drop j) < st.length→EXs S k f (G i (cs.map .str) (some j)) body (.brk (G i (cs.map .str) none))) :
    ∀ (n i j:Nat) (cs:List (List Nat)),st.length≤j + n→cs.length≤i→i≤j→WL S k f test body (G i (cs.map .str) (some j)) (.next (G (chunkGo st n i j cs).2 ((chunkGo st n i j cs).1.map .str) none))
  | 0,i,j,cs,h,_,_=>.brk (ht _ _ _) (hb i j cs (by omega))
  | n + 1,i,j,cs,h,h1,h2=>by
    unfold chunkGo
    by_cases hq:j + upto 45 (st.drop j) < st.length
    · rw [if_pos hq]
      exact .next (ht _ _ _) (hn i j cs hq h1 h2) (WL.chunks G ht hn hb n _ _ _ (by omega) (by rw [List.length_append];show _ + 1≤_;omega) (by omega))
    · rw [if_neg hq]
      exact .brk (ht _ _ _) (hb i j cs hq)
theorem intD_succ (a c:Int) (n:Nat):intD a c (n + 1) = .int a :: intD (a + c) c n:=by
  unfold intD
  rw [List.range_succ_eq_map,List.map_cons,List.map_map]
  congr 1
  · simp
  · refine List.map_congr_left fun i _=>?_
    show D.int (a + ((i + 1:Nat):Int) * c) = D.int (a + c + (i:Int) * c)
    congr 1
    rw [show ((i + 1:Nat):Int) = (i:Int) + 1 from rfl,Int.add_mul];omega
theorem FL.merge {N:Nat} (G:List D→Option B→Ctxt) (has:∀ L bk d,AS S k f (G L bk) tg d (G L (some (.val d))))
    (hb:∀ (rp:List (List Nat)) (a cur:List Nat) (post:List (List Nat)),a ≠ []→cur ≠ []→tot rp + (a.length + 1) + (cur.length + 1) + tot post≤N →
      EXs S k f (G ((rp.reverse ++ a :: cur :: post).map .str) (some (.val (.int ((rp.length + 1:Nat):Int))))) body (.next (G ((if cur.take 1 < a.drop (a.length - 1) then rp.reverse ++ (a.take (a.length - 1) ++ cur.drop 1) :: post else rp.reverse ++ a :: cur :: post).map .str) (some (.val (.int ((rp.length + 1:Nat):Int))))))) :
    ∀ (rp:List (List Nat)) (cur:List Nat) (post:List (List Nat)) (bk:Option B),RpOk rp→(rp ≠ []→cur ≠ [])→tot rp + (cur.length + 1) + tot post≤N →
      ∃ bk',FL S k f tg body (G ((rp.reverse ++ cur :: post).map .str) bk) (intD rp.length (-1) rp.length) (.next (G ((mergeL rp cur post).map .str) bk'))
  | [],cur,post,bk,_,_,_=>⟨bk,.nil⟩
  | a :: rp,cur,post,bk,h1,h2,h3=>by
    have hc:=h2 (List.cons_ne_nil _ _)
    rw [tot_cons] at h3
    have step:=hb rp a cur post h1.2.1 hc (by omega)
    have e1:(a :: rp).reverse ++ cur :: post = rp.reverse ++ a :: cur :: post:=by simp
    have e2:((rp.length + 1:Nat):Int) + -1 = (rp.length:Int):=by omega
    rw [e1,List.length_cons,intD_succ,e2]
    unfold mergeL
    by_cases h:cur.take 1 < a.drop (a.length - 1)
    · rw [if_pos h] at step ⊢
      obtain ⟨bk',ih⟩:=FL.merge G has hb rp (a.take (a.length - 1) ++ cur.drop 1) post (some (.val (.int ((rp.length + 1:Nat):Int)))) h1.2.2 (fun q=>by
        have:=h1.1 q
        intro e
        have:=congrArg List.length e
        rw [List.length_append,List.length_take] at this
        simp only [List.length_nil] at this;omega) (by rw [List.length_append,List.length_take,List.length_drop];omega)
      exact ⟨bk',.next (has _ _ _) step ih⟩
    · rw [if_neg h] at step ⊢
      obtain ⟨bk',ih⟩:=FL.merge G has hb rp a (cur :: post) (some (.val (.int ((rp.length + 1:Nat):Int)))) h1.2.2 (fun _=>h1.2.1) (by rw [tot_cons];omega)
      exact ⟨bk',.next (has _ _ _) step ih⟩
theorem It.down [Free S] {n:Nat} (hn:n≤100000):It S k (.rng (n:Int) 0 (-1)) tg (intD (n:Int) (-1) n):=by
  refine It.range ?_ ?_
  · have hz:Builtin.Range.rangeSize (n:Int) 0 (-1) = n:=by
      unfold Builtin.Range.rangeSize
      rw [if_neg (by decide)]
      by_cases h:(n:Int) > 0
      · rw [if_pos h];simp
      · rw [if_neg h];omega
    unfold Builtin.Range.small
    simp only [hz]
    simp [Builtin.Range.rangeFitsLong]
    omega
  · unfold Builtin.Range.rangeSize
    rw [if_neg (by decide)]
    by_cases h:(n:Int) > 0
    · rw [if_pos h];simp
    · rw [if_neg h];omega
theorem EXs.pre {Γ:Ctxt} {sts:List Stmt} {res:Res} (j:Nat) (h:EXs S k f (Γ.set j none) sts res):EXs S k f Γ sts res:=fun A g W env s Q E R st hQ=>h A g W env s Q E R (st.forget j) hQ
theorem EXs.merge [Free S] {N:Nat} {Γ:Ctxt} {iter:Expr} {pos:Pos} {sts:List Stmt} {res:Res} {rp:List (List Nat)} {cur:List Nat} (G:List D→Option B→Ctxt) (bk:Option B) (j:Nat) (hΓ:Γ = G ((rp.reverse ++ [cur]).map .str) bk) (hj:∀ L bk,(G L bk).set j none = G L none)
    (h1:EV S k f Γ iter (.rng (rp.length:Int) 0 (-1))) (has:∀ L bk d,AS S k f (G L bk) tg d (G L (some (.val d))))
    (hb:∀ (rp:List (List Nat)) (a cur:List Nat) (post:List (List Nat)),a ≠ []→cur ≠ []→tot rp + (a.length + 1) + (cur.length + 1) + tot post≤N →
      EXs S k f (G ((rp.reverse ++ a :: cur :: post).map .str) (some (.val (.int ((rp.length + 1:Nat):Int))))) body (.next (G ((if cur.take 1 < a.drop (a.length - 1) then rp.reverse ++ (a.take (a.length - 1) ++ cur.drop 1) :: post else rp.reverse ++ a :: cur :: post).map .str) (some (.val (.int ((rp.length + 1:Nat):Int)))))))
    (hr:RpOk rp) (hc:cur ≠ []) (hz:tot rp + (cur.length + 1)≤N) (hN:N≤100000) (h2:EXs S k f (G ((mergeL rp cur []).map .str) none) sts res) (hs:∀ env x,foldedSetIterable iter env x = pure x:=by intro _ _;rfl) :
    EXs S k f Γ (.For tg iter body [] pos :: sts) res:=by
  subst hΓ
  have hl:=tot_len rp
  obtain ⟨bk',fl⟩:=FL.merge G has hb rp cur [] bk hr (fun _=>hc) hz
  refine EXs.cons (EX.for h1 (It.down (by omega)) fl hs) (EXs.pre j ?_)
  rw [hj];exact h2
theorem set_erase (L post:List (List Nat)) (a c:List Nat) (m:Nat) (h:L.length = m) {b:List Nat}:(((L ++ a :: c :: post).map D.str).set m (D.str b)).eraseIdx (m + 1) = (L ++ b :: post).map D.str:=by
  subst h
  rw [List.map_append,List.set_append_right _ _ (by simp),List.length_map,Nat.sub_self,List.eraseIdx_append_of_length_le (by simp)]
  simp
end
end
section
open PySem PySem.W PySem.Calls PyProof.Rows
noncomputable def PieceOk (p:Nat × List Nat):Prop:=(p.1 = 0∧p.2 ≠ []∧91 ∉ p.2) ∨ (p.1 = 1∧∃ b,p.2 = 91 :: (b ++ [93])∧93 ∉ b) ∨ (p.1 = 2∧∃ b,p.2 = 91 :: b∧93 ∉ b)
noncomputable def flatR (L:List (Nat × List Nat)):List Nat:=(L.map (·.2)).flatten
noncomputable def kN (g:Nat):List Nat:=if g = 1 then [115,101,116] else if g = 2 then [111,112,101,110] else [114,117,110]
noncomputable def rowD (L:List (Nat × List Nat)):List D:=L.map fun p=>.tup [.str (kN p.1),.str p.2]
section
variable {S:Sig} {k:Nat} {f:Fi} {tg:Expr} {body:List Stmt}
theorem Ops.chr {i:Int} (h:(decide (i < 0) || decide (i > 0x10FFFF)) = false):Ops S k (fun vs=>call (.builtin "chr") vs) [.int i] (.str [i.toNat]):=by
  intro A g0 s vs Q E at' rs hQ
  cases rs using Rds.casesCons with
  | cons r1 r2 =>
    cases r2 using Rds.casesNil
    cases r1 using Rd.casesInt with
    | int v=>exact PySem.P.chr_of_int h (hQ _ g0 _ (at'.tick _ (Nat.le_succ _)) (.str _ _ (by rw [sizeLine_eq];show 1≤_;decide)))
theorem FLX.mats {cs:List Nat} {a:Addr} {τ:Type} (G:List (Nat × List Nat)→τ→Ctxt)
    (hb:∀ (done:List (Nat × List Nat)) (p:Nat) (x:List Nat) (g:Nat) (t:τ),cutS cs p (p + x.length) = x→PieceOk (g,x)→done.length≤cs.length→∃ Γ₁ t',AS S k f (G done t) tg (.abs (MatP cs a 3 p (p + x.length) g)) Γ₁∧EXs S k f Γ₁ body (.next (G (done ++ [(g,x)]) t'))) :
    ∀ (L:List (Nat × List Nat)) (p:Nat) (done:List (Nat × List Nat)) (t:τ),cs.drop p = flatR L→(∀ q ∈ L,PieceOk q)→done.length≤p→p≤cs.length→∃ t',FLX S k f tg body (G done t) (matsD a cs p L) (G (done ++ L) t')
  | [],p,done,t,_,_,_,_=>⟨t,by rw [List.append_nil];exact .nil⟩
  | (g,x) :: L,p,done,t,h1,h2,h3,h4=>by
    have hp:=h2 _ (.head _)
    have hx:x ≠ []:=by
      rcases hp with ⟨_,h,_⟩ | ⟨_,b,h,_⟩ | ⟨_,b,h,_⟩
      · exact h
      · simp only at h;rw [h];exact List.cons_ne_nil _ _
      · simp only at h;rw [h];exact List.cons_ne_nil _ _
    have hl:=List.length_pos_iff.mpr hx
    have e:flatR ((g,x) :: L) = x ++ flatR L:=rfl
    rw [e] at h1
    have hlen:=congrArg List.length h1
    rw [List.length_drop,List.length_append] at hlen
    have hcut:cutS cs p (p + x.length) = x:=by unfold cutS;rw [h1,Nat.add_sub_cancel_left];exact List.take_left
    obtain ⟨Γ₁,t1,has,hbd⟩:=hb done p x g t hcut hp (by omega)
    obtain ⟨t2,ih⟩:=FLX.mats G hb L (p + x.length) (done ++ [(g,x)]) t1 (by rw [← List.drop_drop,h1];exact List.drop_left) (fun q hq=>h2 q (.tail _ hq)) (by rw [List.length_append];show _ + 1≤_;omega) (by omega)
    refine ⟨t2,?_⟩
    rw [List.append_assoc] at ih
    exact .next has (XXs.of hbd) ih
variable {Γ Γ₁:Ctxt} {st:Stmt} {sts:List Stmt} {res:Res} {pos:Pos}
theorem XXs.ex (h1:EX S k f Γ st (.next Γ₁)) (h2:XXs S k f Γ₁ sts res):XXs S k f Γ (st :: sts) res:=.cons (.of h1) h2
theorem XXs.find {cs:List Nat} {a:Addr} {τ:Type} {iter:Expr} (G:List (Nat × List Nat)→τ→Ctxt) (t:τ) (hΓ:Γ = G [] t) (h1:GoX S k f Γ iter tg (matsD a cs 0 (sepL cs.length cs))) (hL:flatR (sepL cs.length cs) = cs) (hP:∀ q ∈ sepL cs.length cs,PieceOk q)
    (hb:∀ (done:List (Nat × List Nat)) (p:Nat) (x:List Nat) (g:Nat) (t:τ),cutS cs p (p + x.length) = x→PieceOk (g,x)→done.length≤cs.length→∃ Γ₁ t',AS S k f (G done t) tg (.abs (MatP cs a 3 p (p + x.length) g)) Γ₁∧EXs S k f Γ₁ body (.next (G (done ++ [(g,x)]) t')))
    (hr:∀ t',EXs S k f (G (sepL cs.length cs) t') sts res) (hs:∀ env x,foldedSetIterable iter env x = pure x:=by intro _ _;rfl):XXs S k f Γ (.For tg iter body [] pos :: sts) res:=by
  subst hΓ
  obtain ⟨t',fl⟩:=FLX.mats G hb (sepL cs.length cs) 0 [] t hL.symm hP (Nat.le_refl _) (Nat.zero_le _)
  exact .cons (XX.for h1 fl hs) (.of (hr t'))
end
end
section
open PySem PySem.W PySem.Calls PyProof.Rows
theorem slot_list_iadd:Slot "list" "__iadd__" "list.__iadd__" :=
  .of (owner:="list") (n:="__iadd__") (by rw [typeLookup_type,builtinLookup_eq_fast];kernel_rfl) (by decide +kernel) (by decide +kernel) (by decide +kernel)
    (by first | exact .inl (by decide +kernel) | exact .inr (by decide +kernel)) (by rw [isSubtype_type];kernel_rfl)
theorem args_list_iadd (a b:Value):argsOk "list.__iadd__" ⟨[a,b],[]⟩:=by unfold argsOk;kernel_rfl
section
variable {S:Sig} {k:Nat} {f:Fi} {Γ:Ctxt} {e:Expr} {pos p':Pos}
theorem wp_iaddList {A:Around} {E:Value→Shared→Prop} {s:Shared} {a b:Addr} {vs ws:List Value} {n m:Nat} {Q:Value→Shared→Prop} (ha:s.heap.get? a = some (listO vs n)) (hb:s.heap.get? b = some (listO ws m)) (hz:vs.length + ws.length≤2000000)
    (h:∀ h' n',h'.get? a = some (listO (vs ++ ws) n')→Heap.SameBut a s.heap h'→Q (.ref a) { s with heap:=h' }):wpAny S.M A (inplaceOp .Add (.ref a) (.ref b)) Q E s:=by
  have hsz:=sizeLine_eq
  have hta:s.TypeIs (.ref a) "list":=⟨_,ha,rfl⟩
  have htb:s.TypeIs (.ref b) "list":=⟨_,hb,rfl⟩
  have hsq:isSeqSlot (some (.builtin "list.__iadd__")) = true:=by decide +kernel
  have hlk:typeLookup (.type "list") (dunderI "add") = pure (some (.builtin "list.__iadd__")):=slot_list_iadd.lookup
  unfold inplaceOp
  refine wpAny_holding ?_
  have hfi:fillsInplaceSlot (.type "list") "add" (Operator.Add == .Add) = pure false:=by
    unfold fillsInplaceSlot
    show (typeLookup (.type "list") (dunderI "add") >>= fun fi=>pure (fi.isSome && !isSeqSlot fi)) = pure false
    rw [hlk]
    show (pure ((some (Value.builtin "list.__iadd__")).isSome && !isSeqSlot (some (.builtin "list.__iadd__"))):Sem Bool) = _
    rw [hsq];rfl
  refine wpAny_bind (wpAny_typeOf hta (wpAny_bind (wpAny_of_eq hfi ?_)))
  show wpAny S.M A (if false = true then _ else _) Q E s
  rw [if_neg Bool.false_ne_true]
  refine wpAny_bind (wpAny_binaryOp1_none (nm:="add") hta htb noFill_list_add ?_)
  refine wpAny_bind (wpAny_of_eq (PySem.seqSlot_of hlk hsq) ?_)
  refine wpAny_bind (wpAny_rule ?_)
  refine call_meets slot_list_iadd hta F.entry_list_iadd (args_list_iadd _ _) (PySem.AutoSeq1.list___iadd___list_list_0 a vs.toArray n b ws.toArray m (by simp [Builtin.List.listTooLong];lia) (by simp;lia) (by simp;lia)) ⟨ha,hb,?_⟩
  have q:=PySem.IsL.update (n:=n) ha (fun x=>x ++ ws.toArray)
  rw [show vs.toArray ++ ws.toArray = (vs ++ ws).toArray by simp] at q
  exact h _ _ q (Heap.SameBut.update ..)
theorem EX.augOwn {x:Str} {xs ys:List D} (j:Nat) (n:Nm f x j .local) (hj:Γ[j]? = some (some (.own xs))) (h1:EV S k f Γ e (.list ys)) (hz:xs.length + ys.length≤2000000) :
    EX S k f Γ (.AugAssign (.Name x p') .Add e pos) (.next (Γ.set j (some (.own (xs ++ ys))))):=by
  intro A g W env s Q E R st hQ
  have hsz:=sizeLine_eq
  refine st.own hj n.hx fun a m vs c hk hns hm ho _ _ _ _=>?_
  refine wpAny_AugAssign_Name (wpAny_loadName_local st.envIs.kind hk hns hm (h1 A g W env s _ E R st fun v2 g1 s1 t1 r1=>?_))
  have st1:=st.move t1
  have hns1:=t1.ns st.tabs hns (Nat.not_le.mpr hns.lt)
  refine st1.own hj n.hx fun a₂ m₂ vs₂ n₂ hk₂ hns₂ hm₂ ho₂ hz₂ rs₂ _ ch=>?_
  have e:=hns₂.agree hns1 x
  rw [hm₂,hm] at e;cases e
  cases r1 using Rd.casesList with
  | list el hl rs =>
    rename_i b ws mm
    have l1:=rs₂.length
    have l2:=rs.length
    refine wp_iaddList ho₂ (t1.keep _ _ el) (by lia) fun h' n' hl' hs=>?_
    refine e0_2 (ch h' _ n' (xs ++ ys) s1.toks hl' hs (by simp;lia) (rs₂.append rs) (Nat.le_refl _)) fun T st3=>?_
    have hns3:h'.Ns env.locals m:=ns_away hns1 hs ho₂ nofun
    refine e2_5 (st3.vars) (fun m3 ad hns4 hb hg hH hI=>?_)
    have hΓ:(Γ.set j (some (.own (xs ++ ys))))[j]? = some (some (.own (xs ++ ys))):=by
      rw [List.getElem?_set,if_pos rfl,if_pos (List.getElem?_eq_some_iff.mp hj).1]
    have ho3:=hH j x _ n.hx hΓ
    have hga:(ad j) = a:=by
      have e:=hns4.agree hns3 x
      rw [ho3.2.1,hm] at e;cases e;rfl
    refine wp_storeL (b:=.own (xs ++ ys)) (ad:=ad) (ad':=ad) st3.keep st3.base st3.tabs st3.envIs st3.wide st3.clt n.hx n.hk hns4 hb hg hH (by rw [List.set_set];exact hI) (fun h2 m' hn hv hs2 hki=>?_) (fun _ _ _ _=>rfl) (fun _ _ _ _=>rfl) fun g2 s2 t2 st4=>?_
    · obtain ⟨vs3,n3,q1,q2,q3,q4,q5⟩:=ho3.2.2
      refine ⟨hki,by rw [hga];exact hv,vs3,n3,(hs2.2 _ fun q=>?_).trans q1,q2,q3,q4,q5⟩
      exact e3_2 hns4 fun o es ep e' r=>ne_get e' q1 (fun z=>by rw [← z] at r;cases r.1) q
    · rw [List.set_set] at st4
      exact hQ _ g2 s2 (((t1.weak st.new).trans T fun _ q=>q).trans t2 fun _ q=>q) ⟨rfl,st4⟩
end
end
section
open PySem PySem.W PySem.Calls PyProof.Rows Builtin Builtin.Str StrLaws
noncomputable def cutsS (n:List Nat):Nat→Nat→List Nat→List Nat
  | _,_,[]=>[]
  | k + 1,o,_ :: r=>cutsS n k (o + 1) r
  | 0,o,x :: r=>if (x :: r).take n.length = n then o :: cutsS n (n.length - 1) (o + 1) r else cutsS n 0 (o + 1) r
noncomputable def replS (n y:List Nat):Nat→List Nat→List Nat
  | _,[]=>[]
  | k + 1,_ :: r=>replS n y k r
  | 0,x :: r=>if (x :: r).take n.length = n then y ++ replS n y (n.length - 1) r else x :: replS n y 0 r
theorem cutsS_len (n:List Nat):∀ (l:List Nat) (k o:Nat),(cutsS n k o l).length≤l.length
  | [],k,o=>by unfold cutsS;exact Nat.le_refl _
  | x :: r,k + 1,o=>Nat.le_trans (cutsS_len n r k (o + 1)) (Nat.le_succ _)
  | x :: r,0,o=>by
    unfold cutsS
    split
    · exact Nat.succ_le_succ (cutsS_len n r _ (o + 1))
    · exact Nat.le_trans (cutsS_len n r 0 (o + 1)) (Nat.le_succ _)
theorem replS_len (n y:List Nat):∀ (l:List Nat) (k:Nat),(replS n y k l).length≤l.length * (y.length + 1)
  | [],k=>by unfold replS;exact Nat.zero_le _
  | x :: r,k + 1=>Nat.le_trans (replS_len n y r k) (Nat.mul_le_mul_right _ (Nat.le_succ _))
  | x :: r,0=>by
    unfold replS
    rw [List.length_cons,Nat.add_mul,Nat.one_mul]
    split
    · rw [List.length_append];have:=replS_len n y r (n.length - 1);omega
    · rw [List.length_cons];have:=replS_len n y r 0;omega
theorem replS_mem (n y:List Nat):∀ (l:List Nat) (k:Nat) (c:Nat),c ∈ replS n y k l→c ∈ y ∨ c ∈ l
  | [],k,c,h=>by unfold replS at h;exact nomatch h
  | x :: r,k + 1,c,h=>(replS_mem n y r k c h).imp id (List.mem_cons_of_mem _)
  | x :: r,0,c,h=>by
    unfold replS at h
    split at h
    · rcases List.mem_append.mp h with h | h
      · exact .inl h
      · exact (replS_mem n y r _ c h).imp id (List.mem_cons_of_mem _)
    · rcases List.mem_cons.mp h with h | h
      · exact .inr (h ▸ List.mem_cons_self ..)
      · exact (replS_mem n y r 0 c h).imp id (List.mem_cons_of_mem _)
theorem occ_cuts {n:List Nat} (hn:n ≠ []) (limit:Nat):∀ (rest pre:List Nat) (found:Array Nat) (free:Nat),found.size + rest.length < limit →
    (forIn (List.range' pre.length (rest.length + 1)) (found,free) (occBody ⟨(pre ++ rest).toArray⟩ ⟨n.toArray⟩ (pre ++ rest).length limit)).run.fst.toList = found.toList ++ cutsS n (free - pre.length) pre.length rest
  | [],pre,found,free,hl=>by
    have hw:=List.length_pos_iff.mpr hn
    have e:occBody ⟨(pre ++ []).toArray⟩ ⟨n.toArray⟩ (pre ++ []).length limit pre.length (found,free) = pure (.yield (found,free)):=by
      unfold occBody
      rw [if_neg]
      intro h
      have:=h.1.2
      simp [Str.length] at this;omega
    rw [List.length_nil,List.range'_succ,List.forIn_cons,e]
    show found.toList = _
    unfold cutsS;simp
  | x :: r,pre,found,free,hl=>by
    have hw:=List.length_pos_iff.mpr hn
    have exs:pre ++ x :: r = pre ++ [x] ++ r:=by simp
    have el:(pre ++ [x]).length = pre.length + 1:=by simp
    rw [List.length_cons] at hl
    rw [List.length_cons,List.range'_succ,List.forIn_cons]
    have sub:subAt ⟨(pre ++ x :: r).toArray⟩ ⟨n.toArray⟩ pre.length = true ↔ (x :: r).take n.length = n:=by
      rw [subAt_eq]
      simp [Str.length]
    have skip:∀ found' free',found'.size + r.length < limit→(forIn (m:=Id) (List.range' (pre.length + 1) (r.length + 1)) (found',free') (occBody ⟨(pre ++ x :: r).toArray⟩ ⟨n.toArray⟩ (pre ++ x :: r).length limit)).run.fst.toList = found'.toList ++ cutsS n (free' - (pre.length + 1)) (pre.length + 1) r:=fun found' free' h=>by
      have:=occ_cuts hn limit r (pre ++ [x]) found' free' h
      rw [el,← exs] at this;exact this
    by_cases hf:free≤pre.length
    · have h0:free - pre.length = 0:=Nat.sub_eq_zero_of_le hf
      by_cases hs:(x :: r).take n.length = n
      · have hnl:n.length≤r.length + 1:=by
          have:=congrArg List.length hs
          rw [List.length_take,List.length_cons] at this;omega
        have e:occBody ⟨(pre ++ x :: r).toArray⟩ ⟨n.toArray⟩ (pre ++ x :: r).length limit pre.length (found,free) = pure (.yield (found.push pre.length,pre.length + n.length)):=by
          unfold occBody
          rw [if_pos ⟨⟨⟨by simp only;omega,hf⟩,by simp [Str.length];omega⟩,sub.mpr hs⟩];simp [Str.length]
        rw [e]
        show (forIn (m:=Id) (List.range' (pre.length + 1) (r.length + 1)) (found.push pre.length,pre.length + n.length) _).run.fst.toList = _
        rw [skip _ _ (by rw [Array.size_push];omega),h0]
        have e2:pre.length + n.length - (pre.length + 1) = n.length - 1:=by omega
        rw [e2]
        conv=>rhs;unfold cutsS
        rw [if_pos hs];simp
      · have e:occBody ⟨(pre ++ x :: r).toArray⟩ ⟨n.toArray⟩ (pre ++ x :: r).length limit pre.length (found,free) = pure (.yield (found,free)):=by
          unfold occBody
          rw [if_neg (fun h=>hs (sub.mp h.2))]
        rw [e]
        show (forIn (m:=Id) (List.range' (pre.length + 1) (r.length + 1)) (found,free) _).run.fst.toList = _
        rw [skip _ _ (by omega),h0,Nat.sub_eq_zero_of_le (by omega)]
        conv=>rhs;unfold cutsS
        rw [if_neg hs]
    · have e:occBody ⟨(pre ++ x :: r).toArray⟩ ⟨n.toArray⟩ (pre ++ x :: r).length limit pre.length (found,free) = pure (.yield (found,free)):=by
        unfold occBody
        rw [if_neg (fun h=>hf h.1.1.2)]
      obtain ⟨k,hk⟩:∃ k,free - pre.length = k + 1:=⟨free - pre.length - 1,by omega⟩
      rw [e]
      show (forIn (m:=Id) (List.range' (pre.length + 1) (r.length + 1)) (found,free) _).run.fst.toList = _
      rw [skip _ _ (by omega),hk,show free - (pre.length + 1) = k by omega]
      rfl
theorem occ_allS {n:List Nat} (hn:n ≠ []) (xs:List Nat):occurrences ⟨xs.toArray⟩ ⟨n.toArray⟩ 0 xs.length (xs.length + 1) = cutsS n 0 0 xs:=by
  have:=occ_cuts hn (xs.length + 1) xs [] #[] 0 (by simp)
  rw [occ_eq,Nat.sub_zero]
  simpa using this
noncomputable def partsL (xs:List Nat) (w:Nat):Nat→List Nat→List (List Nat)
  | a,[]=>[xs.drop a]
  | a,c :: r=>((xs.drop a).take (c - a)) :: partsL xs w (c + w) r
theorem partsL_ne (xs:List Nat) (w:Nat):∀ (a:Nat) (cuts:List Nat),∃ p r,partsL xs w a cuts = p :: r
  | _,[]=>⟨_,_,rfl⟩
  | _,_ :: _=>⟨_,_,rfl⟩
theorem partsL_eq (xs:List Nat) (w:Nat):∀ (cuts:List Nat) (a:Nat),partsFrom ⟨xs.toArray⟩ w a cuts = (partsL xs w a cuts).map fun p=>⟨p.toArray⟩
  | [],a=>by
    show [strSub ⟨xs.toArray⟩ a xs.toArray.size] = [(⟨(xs.drop a).toArray⟩:Str)]
    simp [strSub]
    exact List.take_of_length_le (by rw [List.length_drop];exact Nat.le_refl _)
  | c :: r,a=>by
    show strSub ⟨xs.toArray⟩ a c :: partsFrom ⟨xs.toArray⟩ w (c + w) r = _ :: _
    rw [partsL_eq xs w r (c + w)]
    simp [strSub]
theorem joinL_cons2 (y q:List Nat) {L:List (List Nat)} (h:∃ p r,L = p :: r):joinL y (q :: L) = q ++ y ++ joinL y L:=by
  obtain ⟨p,r,rfl⟩:=h;rfl
theorem join_repl (n y:List Nat) (hn:n ≠ []):∀ (rest pre:List Nat) (k b:Nat),(k = 0→b≤pre.length)→(k ≠ 0→b = pre.length + k) →
    joinL y (partsL (pre ++ rest) n.length b (cutsS n k pre.length rest)) = pre.drop b ++ replS n y k rest
  | [],pre,k,b,h1,h2=>by
    unfold cutsS replS partsL
    simp [joinL]
  | x :: r,pre,k + 1,b,h1,h2=>by
    have hb:=h2 (Nat.succ_ne_zero k)
    have exs:pre ++ x :: r = pre ++ [x] ++ r:=by simp
    have el:(pre ++ [x]).length = pre.length + 1:=by simp
    have ih:=join_repl n y hn r (pre ++ [x]) k b (fun q=>by rw [el];omega) (fun q=>by rw [el];omega)
    rw [el,← exs,List.drop_eq_nil_of_le (by rw [el];omega)] at ih
    rw [List.drop_eq_nil_of_le (by omega)]
    unfold cutsS replS
    exact ih
  | x :: r,pre,0,b,h1,h2=>by
    have hb:=h1 rfl
    have hw:=List.length_pos_iff.mpr hn
    have exs:pre ++ x :: r = pre ++ [x] ++ r:=by simp
    have el:(pre ++ [x]).length = pre.length + 1:=by simp
    unfold cutsS replS
    by_cases hs:(x :: r).take n.length = n
    · rw [if_pos hs,if_pos hs]
      have ih:=join_repl n y hn r (pre ++ [x]) (n.length - 1) (pre.length + n.length) (fun q=>by rw [el];omega) (fun q=>by rw [el];omega)
      rw [el,← exs,List.drop_eq_nil_of_le (by rw [el];omega),List.nil_append] at ih
      unfold partsL
      rw [joinL_cons2 y _ (partsL_ne _ _ _ _),ih,List.append_assoc]
      congr 1
      rw [List.drop_append_of_le_length hb,List.take_append_of_le_length (by rw [List.length_drop];exact Nat.le_refl _),List.take_of_length_le (by rw [List.length_drop];exact Nat.le_refl _)]
    · rw [if_neg hs,if_neg hs]
      have ih:=join_repl n y hn r (pre ++ [x]) 0 b (fun _=>by rw [el];omega) (fun q=>absurd rfl q)
      rw [el,← exs,List.drop_append_of_le_length hb] at ih
      rw [ih];simp
theorem replS_none (n y:List Nat):∀ (xs:List Nat) (o:Nat),cutsS n 0 o xs = []→replS n y 0 xs = xs
  | [],_,_=>by unfold replS;rfl
  | x :: xs,o,h=>by
    unfold cutsS at h
    unfold replS
    by_cases hs:(x :: xs).take n.length = n
    · rw [if_pos hs] at h;exact nomatch h
    · rw [if_neg hs] at h ⊢
      rw [replS_none n y xs _ h]
section
variable {S:Sig} {k:Nat} {f:Fi} {Γ:Ctxt} {pos:Pos}
theorem wp_replaceS {A:Around} {E:Value→Shared→Prop} {s:Shared} {Q:Value→Shared→Prop} {xs n y:List Nat} {c1 y1:Str} {t u w:Tok} (hc1:Cs c1 n) (hy1:Cs y1 y) (hn:n ≠ []) (hne:(c1 == y1) = false) (hz:xs.length * (y.length + 1)≤sizeLine) (hu:u ≠ 0) (hw:w ≠ 0) (huw:u ≠ w)
    (h:∀ t' tk,Q (.str ⟨(replS n y 0 xs).toArray⟩ t') { s with toks:=tk }):wpAny S.M A (call (.builtin "str.replace") [.str ⟨xs.toArray⟩ t,.str c1 u,.str y1 w]) Q E s:=by
  have ec:c1 = ⟨n.toArray⟩:=by
    obtain ⟨a⟩:=c1;unfold Cs at hc1
    have:a = n.toArray:=Array.toList_inj.mp (by simpa using hc1)
    rw [this]
  have ey:y1 = ⟨y.toArray⟩:=by
    obtain ⟨a⟩:=y1;unfold Cs at hy1
    have:a = y.toArray:=Array.toList_inj.mp (by simpa using hy1)
    rw [this]
  subst ec ey
  have hl:(⟨xs.toArray⟩:Str).length = xs.length:=by simp [Str.length]
  have hocc:Builtin.Str.occurrences ⟨xs.toArray⟩ ⟨n.toArray⟩ 0 (⟨xs.toArray⟩:Str).length ((⟨xs.toArray⟩:Str).length + 1) = cutsS n 0 0 xs:=by rw [hl];exact occ_allS hn xs
  have hcl:=cutsS_len n xs 0 0
  have hnl:=List.length_pos_iff.mpr hn
  have h1:((⟨n.toArray⟩:Str).length == 0) = false:=by simp [Str.length];exact hn
  have hmul:xs.length + xs.length * y.length = xs.length * (y.length + 1):=by rw [Nat.mul_add,Nat.mul_one];lia
  refine call_gives PySem.F.slot_str_replace (typeIs_str _ _ _) PySem.F.entry_str_replace (PySem.F.args_str_replace_3 _ _ _) (gives_str_replace _ _ _ t u w fun _=>⟨by simp [hu,hw],by simp [huw],by simpa using hne,?_⟩) ?_
  · rw [hocc,hl]
    have:(cutsS n 0 0 xs).length * y.length≤xs.length * y.length:=Nat.mul_le_mul_right _ hcl
    simp [Builtin.Str.tooLong,Str.length]
    lia
  · rw [hocc,h1,Bool.false_and,Bool.or_false]
    cases hnn:(cutsS n 0 0 xs).isEmpty
    · rw [if_neg (by simp)]
      have hp:Builtin.Str.partsBetween ⟨xs.toArray⟩ (cutsS n 0 0 xs) (⟨n.toArray⟩:Str).length = (partsL xs n.length 0 (cutsS n 0 0 xs)).map fun p=>⟨p.toArray⟩:=by
        rw [partsBetween_eq,show (⟨n.toArray⟩:Str).length = n.length by simp [Str.length],partsL_eq]
      rw [hp,glued_eq]
      have hj:=join_repl n y hn xs [] 0 0 (fun _=>Nat.zero_le _) (fun q=>absurd rfl q)
      simp only [List.nil_append,List.length_nil,List.drop_nil] at hj
      rw [hj]
      have:=replS_len n y xs 0
      exact ⟨by show (replS n y 0 xs).toArray.size≤_;simp;lia,h _ _⟩
    · rw [if_pos rfl]
      have:=h t s.toks
      rw [replS_none n y xs 0 (by simpa using hnn)] at this
      exact this
theorem EV.replaceS {o:Expr} {apos p1 p2:Pos} {k1 k2:Nat} {c1 y1:Str} {xs n y:List Nat} (h1:EV S k f Γ o (.str xs)) (hc1:Cs c1 n) (hy1:Cs y1 y) (hn:n ≠ []) (hne:(c1 == y1) = false) (hz:xs.length * (y.length + 1)≤sizeLine)
    (hbase:∀ env,attributeBase o "replace" env (eval o env) = eval o env:=by intro _;rfl) (hline:(apos.endLine == pos.line) = true:=by rfl) :
    EV S k f Γ (.Call (.Attribute o "replace" apos) [.Constant (.str c1) k1 p1,.Constant (.str y1) k2 p2] [] pos) (.str (replS n y 0 xs)):=by
  intro A g W env s Q E R st hQ
  refine wpAny_Call_method (T:="str") (id:="str.replace") (hbase env) (by rfl) hline PySem.F.plainAttrs_str PySem.F.slot_str_replace PySem.F.type_str_replace ?_
  refine h1 A g W env s _ E R st fun ov g1 s1 t1 r1=>?_
  cases r1 using Rd.casesStr
  rename_i t hs0
  refine ⟨typeIs_str _ _ _,nofun,?_⟩
  refine callWith_of (P:=fun h=>S.K.In h) (by rfl) (Callee.builtin (S:=S)) ?_
  refine evalArgs_any (by rfl) ?_
  show wpAny S.M A (spliced [(false,eval (.Constant (.str c1) k1 p1) env),(false,eval (.Constant (.str y1) k2 p2) env)]) _ _ _
  refine spliced_cons (Constant_str (spliced_cons (Constant_str (spliced_nil ?_))))
  have hpos:=t1.now.pos
  refine ⟨t1.base.kin.keeps t1.keep,?_⟩
  refine wpAny_grown (wp_replaceS hc1 hy1 hn hne hz (Nat.ne_of_gt hpos) (Nat.succ_ne_zero _) (Nat.ne_of_lt (Nat.lt_succ_self _)) fun t' tk G=>?_)
  have a1:=t1.at R
  refine hQ _ g1 _ (t1.then (a1.tick _ (t:=tk) ?_)) (.str _ t' (Nat.le_trans (replS_len n y xs 0) hz))
  have:=G.toks
  simp only at this
  lia
end
end
section
open PySem PySem.W PySem.Calls PyProof.Rows
noncomputable def RowFrom:Option Nat→List (Nat × List Nat)→Prop
  | _,[]=>True
  | p,q :: r=>PieceOk q∧p ≠ some 2∧¬ (p = some 0∧q.1 = 0)∧RowFrom (some q.1) r
theorem RowFrom.all:∀ {p:Option Nat} {L:List (Nat × List Nat)},RowFrom p L→∀ q ∈ L,PieceOk q
  | _,[],_,q,hq=>nomatch hq
  | _,a :: L,h,q,hq=>by
    rcases List.mem_cons.mp hq with rfl | hq
    · exact h.1
    · exact RowFrom.all h.2.2.2 q hq
theorem PieceOk.lt {q:Nat × List Nat} (h:PieceOk q):q.1 < 3:=by
  rcases h with ⟨h,_⟩ | ⟨h,_⟩ | ⟨h,_⟩ <;> omega
noncomputable def lastS:Option Nat→List Nat
  | none=>[]
  | some g=>kN g
section
variable {S:Sig} {k:Nat} {f:Fi} {tg:Expr} {body:List Stmt} {Γ:Ctxt} {sts:List Stmt} {res:Res} {pos:Pos}
theorem FL.row {τ:Type} {P:Nat × List Nat→Prop} (G:Option Nat→τ→Ctxt)
    (hb:∀ (p:Option Nat) (q:Nat × List Nat) (t:τ),p ≠ some 2→¬ (p = some 0∧q.1 = 0)→(∀ g,p = some g→g < 3)→PieceOk q→P q→∃ Γ₁ t',AS S k f (G p t) tg (.tup [.str (kN q.1),.str q.2]) Γ₁∧EXs S k f Γ₁ body (.next (G (some q.1) t'))) :
    ∀ (L:List (Nat × List Nat)) (p:Option Nat) (t:τ),RowFrom p L→(∀ q ∈ L,P q)→(∀ g,p = some g→g < 3)→∃ p' t',FL S k f tg body (G p t) (rowD L) (.next (G p' t'))
  | [],p,t,_,_,_=>⟨p,t,.nil⟩
  | q :: L,p,t,h,hP,hp=>by
    obtain ⟨Γ₁,t1,h1,h2⟩:=hb p q t h.2.1 h.2.2.1 hp h.1 (hP q (.head _))
    obtain ⟨p',t',ih⟩:=FL.row G hb L (some q.1) t1 h.2.2.2 (fun x hx=>hP x (.tail _ hx)) (fun g e=>by cases e;exact h.1.lt)
    exact ⟨p',t',.next h1 h2 ih⟩
theorem EXs.forRow [Free S] {τ:Type} {P:Nat × List Nat→Prop} {iter:Expr} {L:List (Nat × List Nat)} (G:Option Nat→τ→Ctxt) (t:τ) (hΓ:Γ = G none t) (h1:EV S k f Γ iter (.list (rowD L))) (hL:RowFrom none L) (hP:∀ q ∈ L,P q)
    (hb:∀ (p:Option Nat) (q:Nat × List Nat) (t:τ),p ≠ some 2→¬ (p = some 0∧q.1 = 0)→(∀ g,p = some g→g < 3)→PieceOk q→P q→∃ Γ₁ t',AS S k f (G p t) tg (.tup [.str (kN q.1),.str q.2]) Γ₁∧EXs S k f Γ₁ body (.next (G (some q.1) t')))
    (hr:∀ p t',EXs S k f (G p t') sts res) (hs:∀ env x,foldedSetIterable iter env x = pure x:=by intro _ _;rfl):EXs S k f Γ (.For tg iter body [] pos :: sts) res:=by
  subst hΓ
  obtain ⟨p',t',fl⟩:=FL.row G hb L none t hL hP (fun g e=>nomatch e)
  exact .cons (EX.for h1 It.list fl hs) (hr p' t')
end
theorem looped_inv {σ:Type} (c:σ→Bool) (step:σ→σ) (I:σ→Prop) (h:∀ s,I s→c s = true→I (step s)):∀ (n:Nat) (s:σ),I s→I (looped c step n s)
  | 0,s,hs=>hs
  | n + 1,s,hs=>by
    unfold looped
    by_cases hc:c s = true
    · rw [if_pos hc];exact looped_inv c step I h n _ (h s hs hc)
    · rw [if_neg hc];exact hs
theorem pTr_len (pat:List Nat):(pTr pat).length≤pat.length:=by
  have:=looped_inv (trGo pat) (trStep pat) (fun s=>s.1.length≤s.2∧s.2≤pat.length) (fun s hs hc=>by
    have hl:s.2 < pat.length:=by unfold trGo at hc;simpa using hc
    have:=trStep_grow pat s hl
    omega) pat.length ([],0) ⟨Nat.le_refl _,Nat.zero_le _⟩
  exact Nat.le_trans this.1 this.2
theorem flatR_mem {L:List (Nat × List Nat)} {q:Nat × List Nat} (h:q ∈ L):q.2.length≤(flatR L).length∧∀ c ∈ q.2,c ∈ flatR L:=by
  have hm:q.2 ∈ L.map (·.2):=List.mem_map_of_mem h
  refine ⟨?_,fun c hc=>List.mem_flatten.mpr ⟨_,hm,hc⟩⟩
  unfold flatR
  rw [List.length_flatten]
  have:∀ (M:List (List Nat)) (x:List Nat),x ∈ M→x.length≤(M.map List.length).sum:=by
    intro M
    induction M with
    | nil=>intro x h;exact nomatch h
    | cons a M ih =>
      intro x h
      rw [List.map_cons,List.sum_cons]
      rcases List.mem_cons.mp h with rfl | h
      · exact Nat.le_add_right _ _
      · exact Nat.le_trans (ih x h) (Nat.le_add_left _ _)
  exact this _ _ hm
theorem foldl_flat {α β:Type} (g:α→List β):∀ (L:List α) (acc:List β),L.foldl (fun s q=>s ++ g q) acc = acc ++ L.flatMap g
  | [],acc=>by simp
  | a :: L,acc=>by rw [List.foldl_cons,foldl_flat g L,List.flatMap_cons,List.append_assoc]
section
variable {S:Sig} {k:Nat} {f:Fi} {Γ:Ctxt} {l m r:Expr} {d₁ d₂ d₃:D} {pos:Pos} {b₁ b₂:Bool}
theorem TV.cmp2 {o₁ o₂:CmpOp} (h1:EV S k f Γ l d₁) (h2:EV S k f Γ m d₂) (h3:EV S k f Γ r d₃) (h4:Op2 S k (compareOp o₁) d₁ d₂ (.bool b₁)) (h5:Op2 S k (compareOp o₂) d₂ d₃ (.bool b₂)) (hm:lastMarks [o₁,o₂] [m,r] = false:=by rfl) :
    TV S k f Γ (.Compare l [o₁,o₂] [m,r] pos) (b₁ && b₂):=by
  intro A g W env s Q E R st hQ
  rw [arm_isTrue_Compare,markedEach_of_false _ _ _ hm]
  refine wpAny_bind (h1 A g W env s _ E R st fun v1 g1 s1 t1 r1=>?_)
  show wpAny S.M A (do let rv ← holding [v1] (eval m env);standAt pos;let c ← holding [v1,rv] (compareOp o₁ v1 rv);release [v1,rv] [c];if ← holding [c,rv] (truthy c) then testChain pos rv [o₂] [eval r env] else pure false) Q E s1
  have st1:=st.move t1
  refine wpAny_bind (wpAny_holding (h2 A g1 W env s1 _ E R st1 fun v2 g2 s2 t2 r2=>wpAny_bind (wpAny_standAt (wpAny_bind (wpAny_holding (h4 A g2 s2 v1 v2 _ E (t2.at R) (r1.mono t2.mono) r2 fun c g3 s3 t3 r3=>wpAny_bind (wpAny_release' ?_)))))))
  cases r3 using Rd.casesRaw
  refine wpAny_bind (wpAny_holding (wpAny_truthy_bool ?_))
  have st3:=(st1.move t2).move t3
  cases b₁ with
  | false=>rw [if_neg (by decide)];exact wpAny_pure (hQ g3 s3 ((t1.then t2).then t3))
  | true =>
    refine wp_ifT rfl ?_
    show wpAny S.M A (do let rv ← holding [v2] (eval r env);standAt pos;let c ← operate [v2,rv] (compareOp o₂ v2 rv);holding [c] (truthy c)) Q E s3
    refine wpAny_bind (wpAny_holding (h3 A g3 W env s3 _ E R st3 fun v4 g4 s4 t4 r4=>wpAny_bind (wpAny_standAt (wpAny_bind (wpAny_operateT (h5 A g4 s4 v2 v4 _ E (t4.at R) (r2.mono (t3.mono.trans t4.mono)) r4 fun v g5 s5 t5 r5=>?_))))))
    exact wpAny_holding ((OpT.bool (k:=k)) A g5 s5 v Q E (t5.at R) r5 fun g6 s6 t6=>hQ g6 s6 (((((t1.then t2).then t3).then t4).then t5).then t6))
end
end
section
open PySem PySem.W PySem.Calls PyProof.Rows
theorem upto_none {c:Nat}:∀ {a:List Nat},c ∉ a→upto c a = a.length
  | [],_=>rfl
  | x :: a,h=>by
    have hx:¬ x = c:=fun q=>h (q ▸ List.mem_cons_self ..)
    show (if x = c then 0 else upto c a + 1) = _
    rw [if_neg hx,upto_none fun q=>h (List.mem_cons_of_mem _ q)];rfl
theorem upto_app {c:Nat}:∀ {a:List Nat} (b:List Nat),c ∉ a→upto c (a ++ c :: b) = a.length
  | [],b,_=>by show (if c = c then 0 else _) = 0;rw [if_pos rfl]
  | x :: a,b,h=>by
    have hx:¬ x = c:=fun q=>h (q ▸ List.mem_cons_self ..)
    show (if x = c then 0 else upto c (a ++ c :: b) + 1) = _
    rw [if_neg hx,upto_app b fun q=>h (List.mem_cons_of_mem _ q)];rfl
theorem upto_split (c:Nat):∀ r:List Nat,c ∉ r ∨ ∃ a b,r = a ++ c :: b∧c ∉ a
  | []=>.inl nofun
  | x :: r=>by
    by_cases hx:x = c
    · exact .inr ⟨[],r,by rw [hx];rfl,nofun⟩
    · rcases upto_split c r with h | ⟨a,b,e,h⟩
      · exact .inl fun q=>(List.mem_cons.mp q).elim (fun q=>hx q.symm) h
      · exact .inr ⟨x :: a,b,by rw [e];rfl,fun q=>(List.mem_cons.mp q).elim (fun q=>hx q.symm) h⟩
theorem flatR_cons (q:Nat × List Nat) (L:List (Nat × List Nat)):flatR (q :: L) = q.2 ++ flatR L:=rfl
theorem sepL_cons {n c:Nat} {r x y:List Nat} {g:Nat} (h:cutOf (c :: r) = (g,x.length)) (e:c :: r = x ++ y):sepL (n + 1) (c :: r) = (g,x) :: sepL n y:=by
  show ((cutOf (c :: r)).1,(c :: r).take (cutOf (c :: r)).2) :: sepL n ((c :: r).drop (cutOf (c :: r)).2) = _
  rw [h,e,List.take_left,List.drop_left]
theorem cut_set {b r:List Nat} (h:93 ∉ b):cutOf (91 :: (b ++ 93 :: r)) = (1,(91 :: (b ++ [93])).length):=by
  show (if 91 = 91 then (if upto 93 (b ++ 93 :: r) < (b ++ 93 :: r).length then (1,upto 93 (b ++ 93 :: r) + 2) else (2,(b ++ 93 :: r).length + 1)) else (0,upto 91 (b ++ 93 :: r) + 1)) = _
  rw [if_pos rfl,upto_app r h,if_pos (by simp)]
  simp
theorem cut_open {b:List Nat} (h:93 ∉ b):cutOf (91 :: b) = (2,(91 :: b).length):=by
  show (if 91 = 91 then (if upto 93 b < b.length then (1,upto 93 b + 2) else (2,b.length + 1)) else (0,upto 91 b + 1)) = _
  rw [if_pos rfl,upto_none h,if_neg (Nat.lt_irrefl _)];rfl
theorem cut_run {c:Nat} {b r:List Nat} (hc:c ≠ 91) (h:91 ∉ b) (hr:r = [] ∨ ∃ t,r = 91 :: t):cutOf (c :: (b ++ r)) = (0,(c :: b).length):=by
  show (if c = 91 then _ else (0,upto 91 (b ++ r) + 1)) = _
  rw [if_neg hc]
  rcases hr with rfl | ⟨t,rfl⟩
  · rw [List.append_nil,upto_none h];rfl
  · rw [upto_app t h];rfl
theorem row_from:∀ (n:Nat) (cs:List Nat) (p:Option Nat),cs.length≤n→(p = some 2→cs = [])→(p = some 0→cs = [] ∨ ∃ t,cs = 91 :: t)→RowFrom p (sepL n cs)∧flatR (sepL n cs) = cs
  | 0,cs,p,h,_,_=>by
    rw [List.eq_nil_of_length_eq_zero (Nat.le_zero.mp h)]
    exact ⟨trivial,rfl⟩
  | n + 1,[],p,_,_,_=>⟨trivial,rfl⟩
  | n + 1,c :: r,p,h,h2,h0=>by
    rw [List.length_cons] at h
    have hp2:p ≠ some 2:=fun q=>absurd (h2 q) (List.cons_ne_nil _ _)
    by_cases hc:c = 91
    · subst hc
      rcases upto_split 93 r with hb | ⟨a,b,rfl,ha⟩
      · rw [sepL_cons (x:=91 :: r) (y:=[]) (cut_open hb) (List.append_nil _).symm]
        have:=row_from n [] (some 2) (Nat.zero_le _) (fun _=>rfl) nofun
        exact ⟨⟨.inr (.inr ⟨rfl,r,rfl,hb⟩),hp2,fun q=>absurd q.2 (show ¬ (2 = 0) by decide),this.1⟩,by rw [flatR_cons,this.2,List.append_nil]⟩
      · rw [sepL_cons (x:=91 :: (a ++ [93])) (y:=b) (cut_set ha) (by simp)]
        have:=row_from n b (some 1) (by simp at h;omega) nofun nofun
        exact ⟨⟨.inr (.inl ⟨rfl,a,rfl,ha⟩),hp2,fun q=>absurd q.2 (show ¬ (1 = 0) by decide),this.1⟩,by rw [flatR_cons,this.2];simp⟩
    · have hp0:p ≠ some 0:=fun q=>(h0 q).elim (fun e=>List.cons_ne_nil _ _ e) fun ⟨t,e⟩=>hc (List.cons.inj e).1
      rcases upto_split 91 r with hb | ⟨a,b,rfl,ha⟩
      · rw [sepL_cons (x:=c :: r) (y:=[]) (by have:=cut_run hc hb (r:=[]) (.inl rfl);rw [List.append_nil] at this;exact this) (List.append_nil _).symm]
        have:=row_from n [] (some 0) (Nat.zero_le _) (fun _=>rfl) (fun _=>.inl rfl)
        exact ⟨⟨.inl ⟨rfl,List.cons_ne_nil _ _,fun q=>(List.mem_cons.mp q).elim (fun q=>hc q.symm) hb⟩,hp2,fun q=>hp0 q.1,this.1⟩,by rw [flatR_cons,this.2,List.append_nil]⟩
      · rw [sepL_cons (x:=c :: a) (y:=91 :: b) (cut_run hc ha (.inr ⟨b,rfl⟩)) rfl]
        have:=row_from n (91 :: b) (some 0) (by simp at h ⊢;omega) nofun (fun _=>.inr ⟨b,rfl⟩)
        exact ⟨⟨.inl ⟨rfl,List.cons_ne_nil _ _,fun q=>(List.mem_cons.mp q).elim (fun q=>hc q.symm) ha⟩,hp2,fun q=>hp0 q.1,this.1⟩,by rw [flatR_cons,this.2];rfl⟩
theorem row_ok (cs:List Nat):RowFrom none (sepL cs.length cs)∧flatR (sepL cs.length cs) = cs:=row_from cs.length cs none (Nat.le_refl _) nofun nofun
theorem head91 {L:List (Nat × List Nat)} (h:RowFrom (some 0) L):flatR L = [] ∨ ∃ t,flatR L = 91 :: t:=by
  cases L with
  | nil=>exact .inl rfl
  | cons q L =>
    rcases h.1 with ⟨e,_⟩ | ⟨_,b,e,_⟩ | ⟨_,b,e,_⟩
    · exact absurd ⟨rfl,e⟩ h.2.2.1
    · exact .inr ⟨_,by rw [flatR_cons,e];rfl⟩
    · exact .inr ⟨_,by rw [flatR_cons,e];rfl⟩
theorem read_from:∀ (L:List (Nat × List Nat)) (p:Option Nat) (n:Nat),RowFrom p L→(flatR L).length≤n→sepL n (flatR L) = L
  | [],p,n,_,_=>by cases n <;> rfl
  | (g,x) :: L,p,n,h,hn=>by
    have hd:=h.2.2.2
    rw [flatR_cons] at hn ⊢
    rw [List.length_append] at hn
    rcases h.1 with ⟨e,h1,h2⟩ | ⟨e,b,h1,h2⟩ | ⟨e,b,h1,h2⟩
    · simp only at e h1 h2 hd hn ⊢
      subst e
      obtain ⟨c,b,rfl⟩:=List.exists_cons_of_ne_nil h1
      obtain ⟨m,rfl⟩:=Nat.exists_eq_add_of_le' (show 1≤n by simp at hn;omega)
      rw [List.cons_append,sepL_cons (x:=c :: b) (y:=flatR L) (cut_run (fun q=>h2 (q ▸ List.mem_cons_self ..)) (fun q=>h2 (List.mem_cons_of_mem _ q)) (head91 hd)) rfl,read_from L _ m hd (by simp at hn;omega)]
    · simp only at e h1 hd hn ⊢
      subst e h1
      obtain ⟨m,rfl⟩:=Nat.exists_eq_add_of_le' (show 1≤n by simp at hn;omega)
      have e:91 :: (b ++ [93]) ++ flatR L = 91 :: (b ++ 93 :: flatR L):=by simp
      rw [e,sepL_cons (x:=91 :: (b ++ [93])) (y:=flatR L) (cut_set h2) (by simp),read_from L _ m hd (by simp at hn;omega)]
    · simp only at e h1 hd hn ⊢
      subst e h1
      obtain ⟨m,rfl⟩:=Nat.exists_eq_add_of_le' (show 1≤n by simp at hn;omega)
      cases L with
      | cons q L=>exact absurd rfl hd.2.1
      | nil =>
        have e:(91 :: b) ++ flatR [] = 91 :: b:=by show (91 :: b) ++ [] = _;rw [List.append_nil]
        rw [e,sepL_cons (x:=91 :: b) (y:=[]) (cut_open h2) (List.append_nil _).symm]
        cases m <;> rfl
theorem read_back {L:List (Nat × List Nat)} (h:RowFrom none L):sepL (flatR L).length (flatR L) = L:=read_from L none _ h (Nat.le_refl _)
noncomputable def closedR (L:List (Nat × List Nat)):List (Nat × List Nat):=L.filter fun q=>!decide (q.1 = 2)
noncomputable def turnedR (L:List (Nat × List Nat)):List (Nat × List Nat):=(closedR L).reverse ++ L.drop (closedR L).length
theorem row_split:∀ {L:List (Nat × List Nat)} {p:Option Nat},RowFrom p L→∃ C O,L = C ++ O∧closedR L = C∧RowFrom p C∧(∀ q ∈ C,q.1 ≠ 2)∧(O = [] ∨ ∃ q,O = [q]∧q.1 = 2∧PieceOk q)
  | [],p,_=>⟨[],[],rfl,rfl,trivial,nofun,.inl rfl⟩
  | q :: L,p,h=>by
    by_cases h2:q.1 = 2
    · cases L with
      | cons q' L=>exact absurd (congrArg some h2) h.2.2.2.2.1
      | nil =>
        refine ⟨[],[q],rfl,?_,trivial,nofun,.inr ⟨q,rfl,h2,h.1⟩⟩
        unfold closedR;rw [List.filter_cons_of_neg (by simp [h2])];rfl
    · obtain ⟨C,O,e,ec,hC,hk,hO⟩:=row_split h.2.2.2
      refine ⟨q :: C,O,by rw [e];rfl,?_,⟨h.1,h.2.1,h.2.2.1,hC⟩,fun x hx=>(List.mem_cons.mp hx).elim (fun e=>e ▸ h2) (hk x),hO⟩
      unfold closedR at ec ⊢
      rw [List.filter_cons_of_pos (by simp [h2]),ec]
noncomputable def lastO (p:Option Nat):List (Nat × List Nat)→Option Nat
  | []=>p
  | q :: L=>lastO (some q.1) L
theorem row_app:∀ {A B:List (Nat × List Nat)} {p:Option Nat},RowFrom p A→RowFrom (lastO p A) B→RowFrom p (A ++ B)
  | [],B,p,_,h=>h
  | q :: A,B,p,h1,h2=>⟨h1.1,h1.2.1,h1.2.2.1,row_app h1.2.2.2 h2⟩
theorem lastO_snoc (q:Nat × List Nat):∀ (A:List (Nat × List Nat)) (p:Option Nat),lastO p (A ++ [q]) = some q.1
  | [],p=>rfl
  | a :: A,p=>lastO_snoc q A (some a.1)
theorem row_rev:∀ {C:List (Nat × List Nat)} {p:Option Nat},RowFrom p C→(∀ q ∈ C,q.1 ≠ 2)→RowFrom none C.reverse
  | [],_,_,_=>trivial
  | q :: C,p,h,hk=>by
    rw [List.reverse_cons]
    refine row_app (row_rev h.2.2.2 fun x hx=>hk x (.tail _ hx)) ⟨h.1,?_⟩
    cases C with
    | nil=>exact ⟨nofun,fun e=>(nomatch e.1),trivial⟩
    | cons q' C =>
      rw [List.reverse_cons,lastO_snoc]
      refine ⟨fun e=>hk q' (.tail _ (.head _)) (Option.some.inj e),fun e=>h.2.2.2.2.2.1 ⟨congrArg some e.2,Option.some.inj e.1⟩,trivial⟩
theorem flatR_app (A B:List (Nat × List Nat)):flatR (A ++ B) = flatR A ++ flatR B:=by unfold flatR;rw [List.map_append,List.flatten_append]
theorem flatR_rev_len:∀ A:List (Nat × List Nat),(flatR A.reverse).length = (flatR A).length
  | []=>rfl
  | q :: A=>by
    have e:flatR [q] = q.2:=by unfold flatR;simp
    rw [List.reverse_cons,flatR_app,List.length_append,flatR_rev_len A,e,flatR_cons,List.length_append,Nat.add_comm]
theorem turned_ok {L:List (Nat × List Nat)} (h:RowFrom none L):RowFrom none (turnedR L)∧(∀ q ∈ turnedR L,q ∈ L)∧(flatR (turnedR L)).length = (flatR L).length∧(turnedR L).length = L.length:=by
  obtain ⟨C,O,e,ec,hC,hk,hO⟩:=row_split h
  have et:turnedR L = C.reverse ++ O:=by unfold turnedR;rw [ec,e,List.drop_left]
  rw [et,e]
  refine ⟨?_,fun q hq=>?_,?_,?_⟩
  · refine row_app (row_rev hC hk) ?_
    rcases hO with rfl | ⟨q,rfl,q2,hq⟩
    · trivial
    · refine ⟨hq,?_,fun e=>?_,trivial⟩
      · cases C with
        | nil=>nofun
        | cons c C=>rw [List.reverse_cons,lastO_snoc];exact fun e=>hk c (.head _) (Option.some.inj e)
      · rw [q2] at e;exact absurd e.2 (by decide)
  · rcases List.mem_append.mp hq with hq | hq
    · exact List.mem_append_left _ (List.mem_reverse.mp hq)
    · exact List.mem_append_right _ hq
  · rw [flatR_app,flatR_app,List.length_append,List.length_append,flatR_rev_len]
  · rw [List.length_append,List.length_append,List.length_reverse]
end
section
open PySem PySem.W PySem.Calls PyProof.Rows
noncomputable def NoA:Nat→List Nat→Prop
  | _,[]=>True
  | p,x :: r=>¬ (p = 91∧x = 93)∧NoA x r
noncomputable def NoB:Nat→Nat→List Nat→Prop
  | _,_,[]=>True
  | pp,p,x :: r=>¬ (pp = 91∧p = 33∧x = 93)∧NoB p x r
theorem replS_yes {n y r:List Nat} {x:Nat} (h:(x :: r).take n.length = n):replS n y 0 (x :: r) = y ++ replS n y (n.length - 1) r:=if_pos h
theorem replS_no {n y r:List Nat} {x:Nat} (h:¬ (x :: r).take n.length = n):replS n y 0 (x :: r) = x :: replS n y 0 r:=if_neg h
theorem replA_ok:∀ (n:Nat) (xs:List Nat) (p:Nat),xs.length≤n→¬ (p = 91∧xs.head? = some 93)→NoA p (replS [91,93] [91,97,93] 0 xs)
  | _,[],p,_,_=>by unfold replS;exact trivial
  | n + 1,x :: r,p,hn,h=>by
    rw [List.length_cons] at hn
    by_cases hs:(x :: r).take 2 = [91,93]
    · cases r with
      | nil=>exact absurd (congrArg List.length hs) (by simp)
      | cons y r =>
        obtain ⟨rfl,e1⟩:=List.cons.inj hs
        obtain ⟨rfl,_⟩:=List.cons.inj e1
        rw [replS_yes (n:=[91,93]) hs]
        show NoA p (91 :: 97 :: 93 :: replS [91,93] [91,97,93] 0 r)
        exact ⟨by omega,by omega,by omega,replA_ok n r 93 (by simp at hn;omega) (by omega)⟩
    · rw [replS_no (n:=[91,93]) hs]
      refine ⟨fun e=>h ⟨e.1,by rw [e.2];rfl⟩,replA_ok n r x (by omega) fun e=>hs ?_⟩
      cases r with
      | nil=>exact nomatch e.2
      | cons y r=>rw [e.1,Option.some.inj e.2];rfl
theorem replB_A:∀ (n:Nat) (xs:List Nat) (p:Nat),xs.length≤n→NoA p xs→NoA p (replS [91,33,93] [91,33,97,93] 0 xs)
  | _,[],p,_,_=>by unfold replS;exact trivial
  | n + 1,x :: r,p,hn,h=>by
    rw [List.length_cons] at hn
    by_cases hs:(x :: r).take 3 = [91,33,93]
    · cases r with
      | nil=>exact absurd (congrArg List.length hs) (by simp)
      | cons y r =>
        cases r with
        | nil=>exact absurd (congrArg List.length hs) (by simp)
        | cons z r =>
          obtain ⟨rfl,e1⟩:=List.cons.inj hs
          obtain ⟨rfl,e2⟩:=List.cons.inj e1
          obtain ⟨rfl,_⟩:=List.cons.inj e2
          rw [replS_yes (n:=[91,33,93]) hs]
          show NoA p (91 :: 33 :: 97 :: 93 :: replS [91,33,93] [91,33,97,93] 0 r)
          exact ⟨by omega,by omega,by omega,by omega,replB_A n r 93 (by simp at hn;omega) h.2.2.2⟩
    · rw [replS_no (n:=[91,33,93]) hs]
      exact ⟨h.1,replB_A n r x (by omega) h.2⟩
theorem replB_ok:∀ (n:Nat) (xs:List Nat) (pp p:Nat),xs.length≤n→¬ (pp = 91∧p = 33∧xs.head? = some 93)→¬ (p = 91∧xs.take 2 = [33,93])→NoB pp p (replS [91,33,93] [91,33,97,93] 0 xs)
  | _,[],pp,p,_,_,_=>by unfold replS;exact trivial
  | n + 1,x :: r,pp,p,hn,h1,h2=>by
    rw [List.length_cons] at hn
    by_cases hs:(x :: r).take 3 = [91,33,93]
    · cases r with
      | nil=>exact absurd (congrArg List.length hs) (by simp)
      | cons y r =>
        cases r with
        | nil=>exact absurd (congrArg List.length hs) (by simp)
        | cons z r =>
          obtain ⟨rfl,e1⟩:=List.cons.inj hs
          obtain ⟨rfl,e2⟩:=List.cons.inj e1
          obtain ⟨rfl,_⟩:=List.cons.inj e2
          rw [replS_yes (n:=[91,33,93]) hs]
          show NoB pp p (91 :: 33 :: 97 :: 93 :: replS [91,33,93] [91,33,97,93] 0 r)
          exact ⟨by omega,by omega,by omega,by omega,replB_ok n r 97 93 (by simp at hn;omega) (by omega) (by omega)⟩
    · rw [replS_no (n:=[91,33,93]) hs]
      refine ⟨fun e=>h1 ⟨e.1,e.2.1,by rw [e.2.2];rfl⟩,replB_ok n r p x (by omega) (fun e=>h2 ?_) fun e=>hs ?_⟩
      · refine ⟨e.1,?_⟩
        cases r with
        | nil=>exact nomatch e.2.2
        | cons y r=>rw [e.2.1,Option.some.inj e.2.2];rfl
      · show x :: r.take 2 = _
        rw [e.1,e.2]
noncomputable def askPat (a:List Nat):List Nat:=replS [91,33,93] [91,33,97,93] 0 (replS [91,93] [91,97,93] 0 a)
theorem askPat_ok (a:List Nat):NoA 0 (askPat a)∧NoB 0 0 (askPat a) :=
  ⟨replB_A _ _ 0 (Nat.le_refl _) (replA_ok _ a 0 (Nat.le_refl _) (by omega)),replB_ok _ _ 0 0 (Nat.le_refl _) (by omega) (by omega)⟩
theorem NoA_app:∀ (u v:List Nat) (p:Nat),NoA p (u ++ v)→∃ p',NoA p' v
  | [],v,p,h=>⟨p,h⟩
  | x :: u,v,p,h=>NoA_app u v x h.2
theorem NoB_app:∀ (u v:List Nat) (pp p:Nat),NoB pp p (u ++ v)→∃ pp' p',NoB pp' p' v
  | [],v,pp,p,h=>⟨pp,p,h⟩
  | x :: u,v,pp,p,h=>NoB_app u v p x h.2
noncomputable def SetsOk (L:List (Nat × List Nat)):Prop:=∀ q ∈ L,q.2 ≠ [91,93]∧q.2 ≠ [91,33,93]
theorem sets_ok:∀ (L:List (Nat × List Nat)) (a pp p:Nat),NoA a (flatR L)→NoB pp p (flatR L)→SetsOk L
  | [],_,_,_,_,_=>nofun
  | (g,x) :: L,a,pp,p,h1,h2=>fun q hq=>by
    rw [flatR_cons] at h1 h2
    rcases List.mem_cons.mp hq with rfl | hq
    · refine ⟨fun e=>?_,fun e=>?_⟩
      · simp only at e;subst e
        exact h1.2.1 ⟨rfl,rfl⟩
      · simp only at e;subst e
        exact h2.2.2.1 ⟨rfl,rfl,rfl⟩
    · obtain ⟨a',h1⟩:=NoA_app _ _ _ h1
      obtain ⟨pp',p',h2⟩:=NoB_app _ _ _ _ h2
      exact sets_ok L a' pp' p' h1 h2 q hq
noncomputable def setL (r:List Nat):Nat :=
  (if r[if r[0]? = some 33 then 1 else 0]? = some 93 then (if r[0]? = some 33 then 1 else 0) + 1 else if r[0]? = some 33 then 1 else 0) + upto 93 (r.drop (if r[if r[0]? = some 33 then 1 else 0]? = some 93 then (if r[0]? = some 33 then 1 else 0) + 1 else if r[0]? = some 33 then 1 else 0))
theorem openRun_eq (pat:List Nat):∀ (n j:Nat),j + n = pat.length→looped (openC pat) (· + 1) n j = j + upto 93 (pat.drop j)
  | 0,j,h=>by
    show j = _
    rw [List.drop_eq_nil_of_le (by omega)];rfl
  | n + 1,j,h=>by
    have hj:j < pat.length:=by omega
    have e:pat.drop j = pat[j] :: pat.drop (j + 1):=List.drop_eq_getElem_cons hj
    have eu:upto 93 (pat.drop j) = if pat[j] = 93 then 0 else upto 93 (pat.drop (j + 1)) + 1:=by rw [e];rfl
    unfold looped
    by_cases h93:pat[j] = 93
    · have hc:openC pat j = false:=by unfold openC;rw [List.getElem?_eq_getElem hj,h93];simp
      rw [hc,if_neg Bool.false_ne_true,eu,if_pos h93];rfl
    · have hc:openC pat j = true:=by
        unfold openC;rw [List.getElem?_eq_getElem hj];simp [h93];omega
      rw [hc,if_pos rfl,openRun_eq pat n (j + 1) (by omega),eu,if_neg h93];omega
theorem setEnd_eq (pat:List Nat) (i:Nat) (h:i≤pat.length):setEnd pat i = i + setL (pat.drop i):=by
  have hf:=setFrom_le pat i h
  have g:∀ t,(pat.drop i)[t]? = pat[i + t]?:=fun t=>List.getElem?_drop
  have hfr:setFrom pat i = i + (if (pat.drop i)[if (pat.drop i)[0]? = some 33 then 1 else 0]? = some 93 then (if (pat.drop i)[0]? = some 33 then 1 else 0) + 1 else if (pat.drop i)[0]? = some 33 then 1 else 0):=by
    unfold setFrom
    simp only [g,Nat.add_zero]
    by_cases c:pat[i]? = some 33
    · simp only [c,if_true]
      by_cases c2:pat[i + 1]? = some 93
      · simp only [c2,if_true] <;> rfl
      · simp only [c2,if_false]
    · simp only [c,if_false,Nat.add_zero]
      by_cases c2:pat[i]? = some 93
      · simp only [c2,if_true] <;> rfl
      · simp only [c2,if_false];rfl
  unfold setEnd setL
  rw [openRun_eq pat _ _ (by omega),hfr,← List.drop_drop,Nat.add_assoc]
noncomputable def trL:Nat→List It1→List Nat→List It1
  | 0,res,_=>res
  | _ + 1,res,[]=>res
  | n + 1,res,c :: r =>
    if c = 42 then trL n (if res.getLast? = some none then res else res ++ [none]) r
    else if c = 63 then trL n (res ++ [some none]) r
    else if c = 91 then (if r.length≤setL r then trL n (res ++ [some (some [92,91])]) r else trL n (res ++ [some (some (setItem (r.take (setL r))))]) (r.drop (setL r + 1)))
    else trL n (res ++ [some (some (escC specials c))]) r
theorem trL_cons (n:Nat) (res:List It1) (c:Nat) (r:List Nat):trL (n + 1) res (c :: r) =
    if c = 42 then trL n (if res.getLast? = some none then res else res ++ [none]) r
    else if c = 63 then trL n (res ++ [some none]) r
    else if c = 91 then (if r.length≤setL r then trL n (res ++ [some (some [92,91])]) r else trL n (res ++ [some (some (setItem (r.take (setL r))))]) (r.drop (setL r + 1)))
    else trL n (res ++ [some (some (escC specials c))]) r:=rfl
theorem trStep_at {pat:List Nat} {i c:Nat} (res:List It1) (h:pat[i]? = some c):trStep pat (res,i) =
    if c = 42 then (if res.getLast? = some none then res else res ++ [none],i + 1)
    else if c = 63 then (res ++ [some none],i + 1)
    else if c = 91 then
      if pat.length≤setEnd pat (i + 1) then (res ++ [some (some [92,91])],i + 1)
      else (res ++ [some (some (setItem (pick (some ((i + 1:Nat):Int)) (some (setEnd pat (i + 1):Int)) pat)))],setEnd pat (i + 1) + 1)
    else (res ++ [some (some (escC specials c))],i + 1):=by unfold trStep;simp only [h]
theorem looped_trL (pat:List Nat):∀ (n:Nat) (res:List It1) (i:Nat),i≤pat.length→(looped (trGo pat) (trStep pat) n (res,i)).1 = trL n res (pat.drop i)
  | 0,res,i,_=>rfl
  | n + 1,res,i,h=>by
    unfold looped
    by_cases hi:i < pat.length
    · have hc:trGo pat (res,i) = true:=by unfold trGo;simp;omega
      have e:pat.drop i = pat[i] :: pat.drop (i + 1):=List.drop_eq_getElem_cons hi
      rw [hc,if_pos rfl,e,trStep_at res (List.getElem?_eq_getElem hi),trL_cons]
      by_cases c42:pat[i] = 42
      · rw [if_pos c42,if_pos c42];exact looped_trL pat n _ (i + 1) hi
      · rw [if_neg c42,if_neg c42]
        by_cases c63:pat[i] = 63
        · rw [if_pos c63,if_pos c63];exact looped_trL pat n _ (i + 1) hi
        · rw [if_neg c63,if_neg c63]
          by_cases c91:pat[i] = 91
          · rw [if_pos c91,if_pos c91]
            have hs:=setEnd_eq pat (i + 1) hi
            have hl:(pat.drop (i + 1)).length = pat.length - (i + 1):=List.length_drop
            by_cases ho:pat.length≤setEnd pat (i + 1)
            · rw [if_pos ho,if_pos (by omega)]
              exact looped_trL pat n _ (i + 1) hi
            · rw [if_neg ho,if_neg (by omega)]
              have e4:(pat.take (setEnd pat (i + 1))).drop (i + 1) = (pat.drop (i + 1)).take (setL (pat.drop (i + 1))):=by rw [List.drop_take,hs,Nat.add_sub_cancel_left]
              have e5:pat.drop (setEnd pat (i + 1) + 1) = (pat.drop (i + 1)).drop (setL (pat.drop (i + 1)) + 1):=by rw [List.drop_drop,hs,Nat.add_assoc]
              rw [looped_trL pat n _ _ (by omega),pick_mid,e4,e5]
          · rw [if_neg c91,if_neg c91];exact looped_trL pat n _ (i + 1) hi
    · have hc:trGo pat (res,i) = false:=by unfold trGo;simp;omega
      rw [hc,if_neg Bool.false_ne_true,List.drop_eq_nil_of_le (by omega)]
      rfl
theorem pTr_eq (pat:List Nat):pTr pat = trL pat.length [] pat:=looped_trL pat pat.length [] 0 (Nat.zero_le _)
noncomputable def trS (res:List It1) (c:Nat):List It1 :=
  if c = 42 then (if res.getLast? = some none then res else res ++ [none]) else if c = 63 then res ++ [some none] else if c = 91 then res ++ [some (some [92,91])] else res ++ [some (some (escC specials c))]
theorem trS_eq (res:List It1) (c:Nat):trS res c = if c = 42 then (if res.getLast? = some none then res else res ++ [none]) else if c = 63 then res ++ [some none] else if c = 91 then res ++ [some (some [92,91])] else res ++ [some (some (escC specials c))]:=rfl
theorem trL_nil (n:Nat) (res:List It1):trL n res [] = res:=by cases n <;> rfl
theorem trL_run:∀ (x:List Nat) (n:Nat) (res:List It1) (rest:List Nat),91 ∉ x→trL (x.length + n) res (x ++ rest) = trL n (x.foldl trS res) rest
  | [],n,res,rest,_=>by rw [List.length_nil,Nat.zero_add];rfl
  | c :: x,n,res,rest,h=>by
    have hc:¬ c = 91:=fun q=>h (q ▸ List.mem_cons_self ..)
    have hx:91 ∉ x:=fun q=>h (List.mem_cons_of_mem _ q)
    rw [List.length_cons,show x.length + 1 + n = x.length + n + 1 by omega,List.cons_append,List.foldl_cons,trL_cons,trS_eq res c]
    by_cases c42:c = 42
    · rw [if_pos c42,if_pos c42];exact trL_run x n _ rest hx
    · rw [if_neg c42,if_neg c42]
      by_cases c63:c = 63
      · rw [if_pos c63,if_pos c63];exact trL_run x n _ rest hx
      · rw [if_neg c63,if_neg c63,if_neg hc,if_neg hc];exact trL_run x n _ rest hx
theorem setL_out {r:List Nat} (h:93 ∉ r):r.length≤setL r:=by
  have no:∀ t,r[t]? ≠ some 93:=fun t e=>h (List.mem_of_getElem? e)
  unfold setL
  simp only [no,if_false]
  rw [upto_none fun q=>h (List.mem_of_mem_drop q),List.length_drop]
  omega
theorem trL_open:∀ (x:List Nat) (n:Nat) (res:List It1),93 ∉ x→x.length≤n→trL n res x = x.foldl trS res
  | [],n,res,_,_=>trL_nil n res
  | c :: x,n,res,h,hn=>by
    obtain ⟨n,rfl⟩:=Nat.exists_eq_add_of_le' (show 1≤n by simp at hn;omega)
    have hx:93 ∉ x:=fun q=>h (List.mem_cons_of_mem _ q)
    have hl:x.length≤n:=by simp at hn;omega
    rw [List.foldl_cons,trL_cons,trS_eq res c]
    by_cases c42:c = 42
    · rw [if_pos c42,if_pos c42];exact trL_open x n _ hx hl
    · rw [if_neg c42,if_neg c42]
      by_cases c63:c = 63
      · rw [if_pos c63,if_pos c63];exact trL_open x n _ hx hl
      · rw [if_neg c63,if_neg c63]
        by_cases c91:c = 91
        · rw [if_pos c91,if_pos c91,if_pos (setL_out hx)];exact trL_open x n _ hx hl
        · rw [if_neg c91,if_neg c91];exact trL_open x n _ hx hl
theorem trS_app {res u:List It1} {c:Nat} (h:u ≠ [] ∨ ¬ (res.getLast? = some none∧c = 42)):trS (res ++ u) c = res ++ trS u c:=by
  unfold trS
  by_cases c42:c = 42
  · rw [if_pos c42,if_pos c42]
    by_cases hu:u = []
    · subst hu
      rw [List.append_nil,if_neg fun e=>(h.elim (fun q=>absurd rfl q) fun q=>q ⟨e,c42⟩),if_neg nofun];rfl
    · have:(res ++ u).getLast? = u.getLast?:=by
        rw [List.getLast?_append]
        cases e:u.getLast? with
        | none=>exact absurd (List.getLast?_eq_none_iff.mp e) hu
        | some z=>rfl
      rw [this]
      split
      · rfl
      · rw [List.append_assoc]
  · rw [if_neg c42,if_neg c42]
    split
    · rw [List.append_assoc]
    · split
      · rw [List.append_assoc]
      · rw [List.append_assoc]
theorem trS_ne (u:List It1) (c:Nat):trS u c ≠ []:=by
  unfold trS
  split
  · split
    · rename_i h;intro e;rw [e] at h;exact nomatch h
    · simp
  · split
    · simp
    · split <;> simp
theorem foldS_app:∀ (x:List Nat) (res u:List It1),(u ≠ [] ∨ ¬ (res.getLast? = some none∧x.head? = some 42))→x.foldl trS (res ++ u) = res ++ x.foldl trS u
  | [],res,u,_=>rfl
  | c :: x,res,u,h=>by
    rw [List.foldl_cons,List.foldl_cons,trS_app (h.imp id fun h e=>h ⟨e.1,by rw [e.2];rfl⟩)]
    exact foldS_app x res _ (.inl (trS_ne u c))
theorem setL_in {b rest:List Nat} (h:93 ∉ b) (h0:b ≠ []) (h1:b ≠ [33]):setL (b ++ 93 :: rest) = b.length:=by
  obtain ⟨x,b',rfl⟩:=List.exists_cons_of_ne_nil h0
  have hx:x ≠ 93:=fun q=>h (q ▸ List.mem_cons_self ..)
  have hb:93 ∉ b':=fun q=>h (List.mem_cons_of_mem _ q)
  unfold setL
  have e0:((x :: b') ++ 93 :: rest)[0]? = some x:=rfl
  rw [e0]
  by_cases h33:x = 33
  · subst h33
    obtain ⟨y,b'',rfl⟩:=List.exists_cons_of_ne_nil (fun q:b' = []=>h1 (by rw [q]))
    have hy:y ≠ 93:=fun q=>hb (q ▸ List.mem_cons_self ..)
    have e1:((33 :: y :: b'') ++ 93 :: rest)[1]? = some y:=rfl
    simp only [if_true,e1,Option.some.injEq,hy,if_false]
    show 1 + upto 93 ((y :: b'') ++ 93 :: rest) = _
    rw [upto_app rest hb];simp only [List.length_cons];omega
  · have e2:¬ (some x = some 33):=fun q=>h33 (Option.some.inj q)
    have e3:¬ (some x = some 93):=fun q=>hx (Option.some.inj q)
    simp only [if_neg e2,e0,if_neg e3,List.drop_zero,Nat.zero_add]
    exact upto_app rest h
theorem trL_set {b rest:List Nat} {n:Nat} {res:List It1} (h:93 ∉ b) (h0:b ≠ []) (h1:b ≠ [33]):trL (n + 1) res (91 :: (b ++ 93 :: rest)) = trL n (res ++ [some (some (setItem b))]) rest:=by
  have hs:=setL_in (rest:=rest) h h0 h1
  rw [trL_cons,if_neg (by decide),if_neg (by decide),if_pos rfl,hs,if_neg (by simp)]
  rw [List.take_left,← List.drop_drop,List.drop_left];rfl
theorem pTr_set {b:List Nat} (h:93 ∉ b) (h0:b ≠ []) (h1:b ≠ [33]):pTr (91 :: (b ++ [93])) = [some (some (setItem b))]:=by
  rw [pTr_eq,List.length_cons,trL_set h h0 h1,trL_nil];rfl
theorem pTr_open {x:List Nat} (h:93 ∉ x):pTr x = x.foldl trS []:=by rw [pTr_eq];exact trL_open x _ [] h (Nat.le_refl _)
theorem pTr_run {x:List Nat} (h:91 ∉ x):pTr x = x.foldl trS []:=by
  have:=trL_run x 0 [] [] h
  rw [List.append_nil,Nat.add_zero] at this
  rw [pTr_eq,this];rfl
theorem set_body {q:Nat × List Nat} (hs:q.2 ≠ [91,93]∧q.2 ≠ [91,33,93]) {b:List Nat} (e:q.2 = 91 :: (b ++ [93])):b ≠ []∧b ≠ [33]:=by
  rw [e] at hs
  exact ⟨fun q=>hs.1 (by rw [q];rfl),fun q=>hs.2 (by rw [q];rfl)⟩
theorem items_from:∀ (L:List (Nat × List Nat)) (p:Option Nat) (n:Nat) (res:List It1),RowFrom p L→SetsOk L→(flatR L).length≤n→(p ≠ some 0→res.getLast? ≠ some none)→trL n res (flatR L) = res ++ L.flatMap fun q=>pTr q.2
  | [],p,n,res,_,_,_,_=>by
    show trL n res [] = _
    rw [trL_nil];simp
  | (g,x) :: L,p,n,res,h,hs,hn,hst=>by
    have hd:=h.2.2.2
    have hsx:=hs _ (.head _)
    have hs':SetsOk L:=fun q hq=>hs q (.tail _ hq)
    rw [flatR_cons] at hn ⊢
    rw [List.length_append] at hn
    rw [List.flatMap_cons]
    rcases h.1 with ⟨e,h1,h2⟩ | ⟨e,b,h1,h2⟩ | ⟨e,b,h1,h2⟩
    · simp only at e h2 hd hn ⊢
      subst e
      have hp0:p ≠ some 0:=fun q=>h.2.2.1 ⟨q,rfl⟩
      obtain ⟨m,rfl⟩:=Nat.exists_eq_add_of_le (show x.length≤n by omega)
      have hf:=foldS_app x res [] (.inr fun e=>hst hp0 e.1)
      rw [List.append_nil] at hf
      rw [trL_run x m res _ h2,hf,items_from L (some 0) m _ hd hs' (by omega) (fun q=>absurd rfl q),List.append_assoc,pTr_run h2]
    · simp only at e h1 hd hn ⊢
      subst e
      obtain ⟨b0,b1⟩:=set_body hsx h1
      subst h1
      obtain ⟨m,rfl⟩:=Nat.exists_eq_add_of_le' (show 1≤n by simp at hn;omega)
      have e:91 :: (b ++ [93]) ++ flatR L = 91 :: (b ++ 93 :: flatR L):=by simp
      rw [e,trL_set h2 b0 b1,items_from L (some 1) m _ hd hs' (by simp at hn;omega) (fun _=>by rw [List.getLast?_append];exact nofun),List.append_assoc,pTr_set h2 b0 b1]
    · simp only at e h1 hd hn ⊢
      subst e h1
      cases L with
      | cons q L=>exact absurd rfl hd.2.1
      | nil =>
        have h93:93 ∉ 91 :: b:=fun q=>(List.mem_cons.mp q).elim (by decide) h2
        have e:(91 :: b) ++ flatR [] = 91 :: b:=by show (91 :: b) ++ [] = _;rw [List.append_nil]
        have hf:=foldS_app (91 :: b) res [] (.inr fun e=>nomatch e.2)
        rw [List.append_nil] at hf
        rw [e,trL_open _ n res h93 (by omega),hf,pTr_open h93];simp
theorem items_row {L:List (Nat × List Nat)} (h:RowFrom none L) (hs:SetsOk L):pTr (flatR L) = L.flatMap fun q=>pTr q.2:=by
  have:=items_from L none (flatR L).length [] h hs (Nat.le_refl _) (fun _=>nofun)
  rw [List.nil_append] at this
  rw [pTr_eq,this]
theorem items_set {q:Nat × List Nat} (h:PieceOk q) (hs:q.2 ≠ [91,93]∧q.2 ≠ [91,33,93]) (e:q.1 = 1):(pTr q.2).length = 1:=by
  rcases h with ⟨h,_⟩ | ⟨_,b,h1,h2⟩ | ⟨h,_⟩
  · omega
  · obtain ⟨b0,b1⟩:=set_body hs h1
    rw [h1,pTr_set h2 b0 b1];rfl
  · omega
theorem items_open {q:Nat × List Nat} (h:PieceOk q) (e:q.1 = 2):(pTr q.2).take 1 = [some (some [92,91])]:=by
  rcases h with ⟨h,_⟩ | ⟨h,_⟩ | ⟨_,b,h1,h2⟩
  · omega
  · omega
  · have h93:93 ∉ 91 :: b:=fun q=>(List.mem_cons.mp q).elim (by decide) h2
    rw [h1,pTr_open h93,List.foldl_cons]
    have e1:trS [] 91 = [some (some [92,91])]:=rfl
    have e2:=foldS_app b [some (some [92,91])] [] (.inr fun e=>absurd (Option.some.inj (show (some (some (some [92,91])):Option It1) = some none from e.1)) nofun)
    rw [List.append_nil] at e2
    rw [e1,e2];rfl
end
section
open PySem PySem.W PySem.Calls PyProof.Rows
theorem replS_len2 {n y:List Nat} (hn:1≤n.length) (hy:y.length≤n.length + 1):∀ (l:List Nat) (k:Nat),k≤l.length→(replS n y k l).length≤2 * (l.length - k)
  | [],k,_=>by unfold replS;exact Nat.zero_le _
  | x :: r,k + 1,h=>by
    have:=replS_len2 hn hy r k (by simp at h;omega)
    show (replS n y k r).length≤_
    rw [List.length_cons];omega
  | x :: r,0,_=>by
    by_cases hs:(x :: r).take n.length = n
    · have hl:=congrArg List.length hs
      rw [List.length_take,List.length_cons] at hl
      have:=replS_len2 hn hy r (n.length - 1) (by omega)
      rw [replS_yes hs,List.length_append,List.length_cons];omega
    · have:=replS_len2 hn hy r 0 (Nat.zero_le _)
      rw [replS_no hs,List.length_cons,List.length_cons];omega
theorem askPat_len (a:List Nat):(askPat a).length≤4 * a.length:=by
  have h1:=replS_len2 (n:=[91,93]) (y:=[91,97,93]) (by decide) (by decide) a 0 (Nat.zero_le _)
  have h2:=replS_len2 (n:=[91,33,93]) (y:=[91,33,97,93]) (by decide) (by decide) (replS [91,93] [91,97,93] 0 a) 0 (Nat.zero_le _)
  unfold askPat;omega
theorem askPat_mem {a:List Nat} {c:Nat} (h:c ∈ askPat a):c = 91 ∨ c = 33 ∨ c = 97 ∨ c = 93 ∨ c ∈ a:=by
  rcases replS_mem _ _ _ _ _ h with h | h
  · simp at h;omega
  · rcases replS_mem _ _ _ _ _ h with h | h
    · simp at h;omega
    · exact .inr (.inr (.inr (.inr h)))
theorem okC_of {s:List Nat} (h:∀ c ∈ s,c < 0x110000):okC s = true:=by
  unfold okC;exact List.all_eq_true.mpr fun c hc=>decide_eq_true (h c hc)
noncomputable def ItOk:It1→Prop
  | some (some s)=>∀ c ∈ s,c < 0x110000
  | _=>True
theorem setItem_ok {st:List Nat} (h:∀ c ∈ st,c < 0x110000):∀ c ∈ setItem st,c < 0x110000:=by
  have hi:∀ c ∈ setIn st,c < 0x110000:=fun c hc=>(setIn_mem hc).elim (fun e=>by rw [e];decide) (h c)
  unfold setItem
  generalize setIn st = r at hi ⊢
  have hv:∀ c ∈ setVar r,c < 0x110000:=by
    unfold setVar
    split
    · exact hi
    · split
      · intro c hc
        rcases List.mem_append.mp hc with hc | hc
        · simp at hc;omega
        · exact hi c (List.mem_of_mem_drop hc)
      · split
        · intro c hc
          rcases List.mem_append.mp hc with hc | hc
          · simp at hc;omega
          · exact hi c hc
        · exact hi
  unfold setShown
  split
  · intro c hc;simp at hc;omega
  · split
    · intro c hc;simp at hc;omega
    · intro c hc
      rcases List.mem_append.mp hc with hc | hc
      · rcases List.mem_append.mp hc with hc | hc
        · simp at hc;omega
        · exact hv c hc
      · simp at hc;omega
theorem pTr_ok {pat:List Nat} (hu:∀ c ∈ pat,c < 0x110000):∀ x ∈ pTr pat,ItOk x:=by
  refine looped_inv (trGo pat) (trStep pat) (fun s=>∀ x ∈ s.1,ItOk x) (fun s hs hc=>?_) pat.length ([],0) nofun
  obtain ⟨res,i⟩:=s
  have hl:i < pat.length:=by unfold trGo at hc;simpa using hc
  rw [trStep_at res (List.getElem?_eq_getElem hl)]
  have hc0:pat[i] < 0x110000:=hu _ (List.getElem_mem hl)
  have snoc:∀ y,ItOk y→∀ x ∈ res ++ [y],ItOk x:=fun y hy x hx=>(List.mem_append.mp hx).elim (hs x) fun e=>by rw [List.mem_singleton.mp e];exact hy
  split
  · split
    · exact hs
    · exact snoc _ trivial
  · split
    · exact snoc _ trivial
    · split
      · split
        · exact snoc _ fun c hc=>by simp at hc;omega
        · exact snoc _ (setItem_ok fun c hc=>hu c (pick_mem hc))
      · refine snoc _ fun c hc=>?_
        unfold escC at hc
        split at hc
        · simp at hc;omega
        · simp at hc;omega
theorem items_cmp {l:List It1} (h:∀ x ∈ l,ItOk x):D.ok false 8 (.list (l.map itD)) = true :=
  D.okMap fun x hx=>by
    have:=h x hx
    match x with
    | none=>rfl
    | some none=>rfl
    | some (some s)=>exact okC_of this
theorem kN_ok (g:Nat):okC (kN g) = true:=by unfold kN;split;rfl;split <;> rfl
theorem row_cmp {L:List (Nat × List Nat)} (h:∀ c ∈ flatR L,c < 0x110000):D.ok false 8 (.list (rowD L)) = true :=
  D.okMap fun q hq=>D.okT2 (kN_ok _) (okC_of fun c hc=>h c ((flatR_mem hq).2 c hc))
theorem rows_len:∀ {L:List (Nat × List Nat)},(∀ q ∈ L,PieceOk q)→L.length≤(flatR L).length
  | [],_=>Nat.le_refl _
  | q :: L,h=>by
    have:=rows_len fun x hx=>h x (.tail _ hx)
    have hq:0 < q.2.length:=by
      rcases h q (.head _) with ⟨_,h,_⟩ | ⟨_,b,h,_⟩ | ⟨_,b,h,_⟩
      · exact List.length_pos_iff.mpr h
      · rw [h];exact Nat.succ_pos _
      · rw [h];exact Nat.succ_pos _
    rw [flatR_cons,List.length_append,List.length_cons];omega
section
variable {S:Sig} {k:Nat}
theorem Op2.neSelf {d:D} (h:D.ok false 8 d = true):Op2 S k (compareOp .NotEq) d d (.bool false):=by
  have h:=Op2.neD (S:=S) (k:=k) false h h
  simpa using h
variable {f:Fi} {Γ:Ctxt} {tg:Expr} {body sts:List Stmt} {res:Res} {pos:Pos}
theorem FLX.all {τ α:Type} (G:τ→Ctxt) (it:α→D):∀ (as:List α) (t:τ),(∀ a ∈ as,∀ t,∃ Γ₁ t',AS S k f (G t) tg (it a) Γ₁∧XXs S k f Γ₁ body (.next (G t')))→∃ t',FLX S k f tg body (G t) (as.map it) (G t')
  | [],t,_=>⟨t,.nil⟩
  | a :: as,t,h=>by
    obtain ⟨Γ₁,t1,h1,h2⟩:=h a (.head _) t
    obtain ⟨t',ih⟩:=FLX.all G it as t1 fun b hb=>h b (.tail _ hb)
    exact ⟨t',.next h1 h2 ih⟩
theorem XXs.forAll {τ α:Type} {iter:Expr} (G:τ→Ctxt) (it:α→D) (as:List α) (t:τ) (hΓ:Γ = G t) (h1:GoX S k f Γ iter tg (as.map it)) (hb:∀ a ∈ as,∀ t,∃ Γ₁ t',AS S k f (G t) tg (it a) Γ₁∧XXs S k f Γ₁ body (.next (G t')))
    (hr:∀ t',EXs S k f (G t') sts res) (hs:∀ env x,foldedSetIterable iter env x = pure x:=by intro _ _;rfl):XXs S k f Γ (.For tg iter body [] pos :: sts) res:=by
  subst hΓ
  obtain ⟨t',fl⟩:=FLX.all G it as t hb
  exact .cons (XX.for h1 fl hs) (.of (hr t'))
theorem XXs.nil:XXs S k f Γ [] (.next Γ):=.of EXs.nil
end
end
section
open PySem PySem.W PySem.Calls PyProof.Rows
theorem law_doneX {S:Sig} {c:ClaimW} {cl:Str→Option Addr} {mean:ExcName→Option Value} {mean':ExcName→Option Value} {args:List WData} {s₁:Shared} {a fa l:Addr} {ns:List Int} {vs:List Value} {p:Program} {loose:List Str} {P:Params} {dd:WData} {x:Str} {E:Value→Shared→Prop} {k:Nat}
    (C:XOps0 S k (fun v=>call (.ref a) [v]) (.list (ns.map .int)) (.bool true)) (hk:304 + k < recursionLimit∧104 + 40 * k < cLine) (hT:TabsAt S.tabs s₁.heap) (K:S.K.In s₁.heap) (hKn:noTabs S.K = true)
    (T:Top p loose mean' S.mg S.mb s₁.heap) (hz:S.z = s₁.heap.objs.size) (hg:s₁.gens = #[]) (hmg:S.mg x = some (.ref fa)) (hx:nsIn S.K mainGlobals x = some (some (.ref a)))
    (hL:s₁.heap.IsList l vs.toArray) (hw:Well P s₁.heap (.ref l) dd) (hdd:∃ ys,dd = .list ys) (hI:IntsAre vs ns) (hn:vs.length≤sizeLine)
    (hr:∀ cls,c.raises args cls = false) (hpost:c.post args (.bool true) args = true) :
    wpC S.X callerA (call (.ref fa) [.ref l]) (fun v s'=>GoodWG c cl mean args s₁ (.ok (.ret v)) s') E s₁:=by
  have ho:∃ n,s₁.heap.get? l = some (listO vs n):=by
    have key:∀ d,Well P s₁.heap (.ref l) d→(∃ ys,d = .list ys)→∃ ws:List Value,s₁.heap.get? l = some { cls:=.type "list",data:=.seq ws.toArray }:=by
      rintro d w ⟨ys,rfl⟩
      cases w with
      | list e _=>exact ⟨_,e⟩
    refine e1_1 (key dd hw hdd) (fun ws e=>?_)
    obtain ⟨o,e2,_,n,e3⟩:=hL
    rw [e] at e2;cases e2
    simp at e3
    refine e0_2 (e3) (fun e3 e4=>?_)
    exact ⟨_,by rw [e,e3]⟩
  obtain ⟨n,ho⟩:=ho
  have gl:=fun {b o}=>ghost_get (b:=b) (o:=o) hT
  have TT:=ghost_top hT T
  have B:Base S (ghostOf s₁.heap S.tabs):=⟨ghost_K hT K hKn,TT.g,TT.b,TT.nolimit,TT.builtins,TT.bmain,fun q hq=>⟨by
    obtain ⟨o,vs,file,tf,flags,tg,inF,text,tt,e1,r1,r2,r3,r4,r5,r6,r7,r8,hne⟩:=(hT q hq).1
    exact ⟨o,vs,file,tf,flags,tg,inF,text,tt,ghost_get hT e1 (fun q=>by rw [q] at r1;cases r1),r1,r2,r3,r4,r5,r6,r7,r8,hne⟩,hideAll_none _ (List.mem_map_of_mem hq)⟩⟩
  have hfa:fa = a:=by
    have:=mg_of B.kin B.glob hx
    rw [hmg] at this;cases this;rfl
  subst hfa
  have hrd:Rds (ghostOf s₁.heap S.tabs) vs (ns.map .int):=by
    clear hL ho hn C
    induction hI with
    | nil=>exact .nil
    | cons _ _ _ ih=>exact .cons (.int _ _) ih
  refine C callerA (ghostOf s₁.heap S.tabs) s₁ (.ref l) _ E ⟨fun _=>rfl,?_,?_⟩ (fun b o e=>of_hideAll _ e) B (fun q hq=>⟨#[],(hT q hq).2,trivial,nofun⟩) (.list (gl ho (by intro h;cases h)) hn hrd) fun v g' s' t r=>?_
  · show 1 + claimMargin + k < _;have:=hk.1;unfold claimMargin;lia
  · show 4 + 40 * k + 100 < _;have:=hk.2;lia
  cases r using Rd.casesRaw
  refine ⟨.inl ⟨_,.bool true,[],rfl,hr,.bool true,hpost,fun _=>⟨.nil,nofun⟩⟩,⟨fun b o e=>?_,fun b o e=>?_⟩,t.os,t.bare (.of_eq hg)⟩
  · by_cases hb:b ∈ S.tabs.map (·.2)
    · (refine e1_2 (List.mem_map.mp hb) (fun q hq q5q=>?_);subst q5q)
      have e2:=(hT q hq).2
      rw [e] at e2;cases e2
      refine e1_1 (t.tabs q hq #[] (hT q hq).2) (fun more hm=>?_)
      exact .inr (.inl ⟨((hT q hq).1.tab (hT q hq).2).isCodeTable,rfl,#[],more,rfl,hm⟩)
    · refine e1_2 (t.same b o (fun h=>absurd (Heap.lt_size e) (Nat.not_lt.mpr h)) hb e) (fun o' e' k=>?_)
      rcases k with rfl | ⟨h,_⟩
      · exact .inl e'
      · rw [hz] at h;exact absurd (Heap.lt_size e) (Nat.not_lt.mpr h)
  · by_cases hb:b ∈ S.tabs.map (·.2)
    · (refine e1_2 (List.mem_map.mp hb) (fun q hq q6q=>?_);subst q6q)
      refine e1_1 (t.tabs q hq #[] (hT q hq).2) (fun more hm=>?_)
      exact ⟨_,hm⟩
    · refine e1_2 (t.same b o (fun h=>absurd (Heap.lt_size e) (Nat.not_lt.mpr h)) hb e) (fun o' e' k=>?_)
      exact ⟨o',e'⟩
noncomputable def gvals:Array Value:=#[.int 14 0,.int 4 0,.int 0 0,.int 1 0,.int 4294967295 0,.int 7 0,.int 14 0,.int 17 0,.int 0 0,.int 24 0,.int 6 0,.int 1 0,.int 4294967295 0,.int 20 0,.int 91 0,.int 1 0,.int 17 0,.int 1 0,.int 15 0,.int 37 0,.int 17 0,.int 17 0,.int 2 0,.int 16 0,.int 91 0,.int 26 0,.int 5 0,.int 0 0,.int 4294967295 0,.int 2 0,.int 1 0,.int 16 0,.int 93 0,.int 17 0,.int 3 0,.int 15 0,.int 20 0,.int 18 0,.int 17 0,.int 4 0,.int 16 0,.int 91 0,.int 24 0,.int 6 0,.int 0 0,.int 4294967295 0,.int 20 0,.int 93 0,.int 1 0,.int 6 0,.int 5 0,.int 17 0,.int 5 0,.int 15 0,.int 2 0,.int 0 0,.int 1 0]
theorem gvals_eq:gcode.map (fun (c:Nat)=>rawInt c) = gvals:=by
  apply Array.ext'
  simp only [Array.toList_map]
  rfl
end
section
open PySem PySem.W PySem.Calls PyProof.Rows
noncomputable def stmtOf:Stmt→Expr × List Stmt × Scope × List ExceptHandler
  | .FunctionDef _ _ b _ _ _ sc _ _ _=>(default,b,sc,[])
  | .While t b _ _=>(t,b,default,[])
  | .For _ _ b _ _=>(default,b,default,[])
  | .Try b h _ _ _=>(default,b,default,h)
  | _=>(default,[],default,[])
noncomputable def bodyAt (i:Nat):List Stmt:=(PySem.Challenge.pw_dn0049_01.main.body[i]?).elim [] fun s=>(stmtOf s).2.1
noncomputable def scopeAt (i:Nat):Scope:=(PySem.Challenge.pw_dn0049_01.main.body[i]?).elim default fun s=>(stmtOf s).2.2.1
theorem bt_isinstance:bootBuiltins "isinstance" = some (.builtin "isinstance"):=by kernel_rfl
theorem bt_str:bootBuiltins "str" = some (.type "str"):=by kernel_rfl
theorem bt_len:bootBuiltins "len" = some (.builtin "len"):=by kernel_rfl
theorem bt_range:bootBuiltins "range" = some (.type "range"):=by kernel_rfl
theorem bt_chr:bootBuiltins "chr" = some (.builtin "chr"):=by kernel_rfl
noncomputable def fi_separate:Fi where
  scope:=scopeAt 3
  qual:="separate.<locals>."
  code:=.ref 42
  vars:=["pattern"]
  kinds:=[.local]
  nodup:=by decide
  ok:=by rfl
theorem n_separate_0:Nm fi_separate "pattern" 0 .local:=⟨rfl,rfl,by decide,by decide⟩
noncomputable def fi_escape:Fi where
  scope:=scopeAt 7
  qual:="escape.<locals>."
  code:=.ref 59
  vars:=["pattern"]
  kinds:=[.local]
  nodup:=by decide
  ok:=by rfl
theorem n_escape_0:Nm fi_escape "pattern" 0 .local:=⟨rfl,rfl,by decide,by decide⟩
noncomputable def fi_translate:Fi where
  scope:=scopeAt 9
  qual:="_translate.<locals>."
  code:=.ref 66
  vars:=["pat","STAR","QUESTION_MARK","res","add","i","n","c","j","stuff","chunks","k","chunk"]
  kinds:=[.local,.local,.local,.local,.local,.local,.local,.local,.local,.local,.local,.local,.local]
  nodup:=by decide
  ok:=by rfl
theorem n_translate_0:Nm fi_translate "pat" 0 .local:=⟨rfl,rfl,by decide,by decide⟩
theorem n_translate_1:Nm fi_translate "STAR" 1 .local:=⟨rfl,rfl,by decide,by decide⟩
theorem n_translate_2:Nm fi_translate "QUESTION_MARK" 2 .local:=⟨rfl,rfl,by decide,by decide⟩
theorem n_translate_3:Nm fi_translate "res" 3 .local:=⟨rfl,rfl,by decide,by decide⟩
theorem n_translate_4:Nm fi_translate "add" 4 .local:=⟨rfl,rfl,by decide,by decide⟩
theorem n_translate_5:Nm fi_translate "i" 5 .local:=⟨rfl,rfl,by decide,by decide⟩
theorem n_translate_6:Nm fi_translate "n" 6 .local:=⟨rfl,rfl,by decide,by decide⟩
theorem n_translate_7:Nm fi_translate "c" 7 .local:=⟨rfl,rfl,by decide,by decide⟩
theorem n_translate_8:Nm fi_translate "j" 8 .local:=⟨rfl,rfl,by decide,by decide⟩
theorem n_translate_9:Nm fi_translate "stuff" 9 .local:=⟨rfl,rfl,by decide,by decide⟩
theorem n_translate_10:Nm fi_translate "chunks" 10 .local:=⟨rfl,rfl,by decide,by decide⟩
theorem n_translate_11:Nm fi_translate "k" 11 .local:=⟨rfl,rfl,by decide,by decide⟩
theorem n_translate_12:Nm fi_translate "chunk" 12 .local:=⟨rfl,rfl,by decide,by decide⟩
noncomputable def fi_law_sign:Fi where
  scope:=scopeAt 11
  qual:="_law_sign.<locals>."
  code:=.ref 73
  vars:=["number","kind","code","sign"]
  kinds:=[.local,.local,.local,.local]
  nodup:=by decide
  ok:=by rfl
theorem n_law_sign_0:Nm fi_law_sign "number" 0 .local:=⟨rfl,rfl,by decide,by decide⟩
theorem n_law_sign_1:Nm fi_law_sign "kind" 1 .local:=⟨rfl,rfl,by decide,by decide⟩
theorem n_law_sign_2:Nm fi_law_sign "code" 2 .local:=⟨rfl,rfl,by decide,by decide⟩
theorem n_law_sign_3:Nm fi_law_sign "sign" 3 .local:=⟨rfl,rfl,by decide,by decide⟩
noncomputable def fi_law_read:Fi where
  scope:=scopeAt 12
  qual:="_law_read.<locals>."
  code:=.ref 80
  vars:=["pattern","row","found","piece","held"]
  kinds:=[.local,.local,.local,.local,.local]
  nodup:=by decide
  ok:=by rfl
theorem n_law_read_0:Nm fi_law_read "pattern" 0 .local:=⟨rfl,rfl,by decide,by decide⟩
theorem n_law_read_1:Nm fi_law_read "row" 1 .local:=⟨rfl,rfl,by decide,by decide⟩
theorem n_law_read_2:Nm fi_law_read "found" 2 .local:=⟨rfl,rfl,by decide,by decide⟩
theorem n_law_read_3:Nm fi_law_read "piece" 3 .local:=⟨rfl,rfl,by decide,by decide⟩
theorem n_law_read_4:Nm fi_law_read "held" 4 .local:=⟨rfl,rfl,by decide,by decide⟩
noncomputable def fi_law_text:Fi where
  scope:=scopeAt 13
  qual:="_law_text.<locals>."
  code:=.ref 85
  vars:=["row"]
  kinds:=[.local]
  nodup:=by decide
  ok:=by rfl
theorem n_law_text_0:Nm fi_law_text "row" 0 .local:=⟨rfl,rfl,by decide,by decide⟩
noncomputable def fi_law_items:Fi where
  scope:=scopeAt 14
  qual:="_law_items.<locals>."
  code:=.ref 92
  vars:=["pattern"]
  kinds:=[.local]
  nodup:=by decide
  ok:=by rfl
theorem n_law_items_0:Nm fi_law_items "pattern" 0 .local:=⟨rfl,rfl,by decide,by decide⟩
noncomputable def fi_law_cut_right:Fi where
  scope:=scopeAt 15
  qual:="_law_cut_right.<locals>."
  code:=.ref 99
  vars:=["row","last","kind","piece","items"]
  kinds:=[.local,.local,.local,.local,.local]
  nodup:=by decide
  ok:=by rfl
theorem n_law_cut_right_0:Nm fi_law_cut_right "row" 0 .local:=⟨rfl,rfl,by decide,by decide⟩
theorem n_law_cut_right_1:Nm fi_law_cut_right "last" 1 .local:=⟨rfl,rfl,by decide,by decide⟩
theorem n_law_cut_right_2:Nm fi_law_cut_right "kind" 2 .local:=⟨rfl,rfl,by decide,by decide⟩
theorem n_law_cut_right_3:Nm fi_law_cut_right "piece" 3 .local:=⟨rfl,rfl,by decide,by decide⟩
theorem n_law_cut_right_4:Nm fi_law_cut_right "items" 4 .local:=⟨rfl,rfl,by decide,by decide⟩
noncomputable def fi_law_each_alone:Fi where
  scope:=scopeAt 16
  qual:="_law_each_alone.<locals>."
  code:=.ref 106
  vars:=["row","items","_","piece"]
  kinds:=[.local,.local,.local,.local]
  nodup:=by decide
  ok:=by rfl
theorem n_law_each_alone_0:Nm fi_law_each_alone "row" 0 .local:=⟨rfl,rfl,by decide,by decide⟩
theorem n_law_each_alone_1:Nm fi_law_each_alone "items" 1 .local:=⟨rfl,rfl,by decide,by decide⟩
theorem n_law_each_alone_2:Nm fi_law_each_alone "_" 2 .local:=⟨rfl,rfl,by decide,by decide⟩
theorem n_law_each_alone_3:Nm fi_law_each_alone "piece" 3 .local:=⟨rfl,rfl,by decide,by decide⟩
noncomputable def fi_law:Fi where
  scope:=scopeAt 17
  qual:="law.<locals>."
  code:=.ref 111
  vars:=["script","text","asked","pattern","row","closed","turned","line"]
  kinds:=[.local,.local,.local,.local,.local,.local,.local,.local]
  nodup:=by decide
  ok:=by rfl
theorem n_law_0:Nm fi_law "script" 0 .local:=⟨rfl,rfl,by decide,by decide⟩
theorem n_law_1:Nm fi_law "text" 1 .local:=⟨rfl,rfl,by decide,by decide⟩
theorem n_law_2:Nm fi_law "asked" 2 .local:=⟨rfl,rfl,by decide,by decide⟩
theorem n_law_3:Nm fi_law "pattern" 3 .local:=⟨rfl,rfl,by decide,by decide⟩
theorem n_law_4:Nm fi_law "row" 4 .local:=⟨rfl,rfl,by decide,by decide⟩
theorem n_law_5:Nm fi_law "closed" 5 .local:=⟨rfl,rfl,by decide,by decide⟩
theorem n_law_6:Nm fi_law "turned" 6 .local:=⟨rfl,rfl,by decide,by decide⟩
theorem n_law_7:Nm fi_law "line" 7 .local:=⟨rfl,rfl,by decide,by decide⟩
structure KF (S:Sig):Prop where
  ns_twin_re_1_glob:nsIn S.K mainGlobals "twin_re_1_glob" = some (some (.ref 36))
  ns_isinstance:nsIn S.K mainGlobals "isinstance" = some none
  ns_str:nsIn S.K mainGlobals "str" = some none
  ns_special_chars_map:nsIn S.K mainGlobals "_special_chars_map" = some (some (.ref 50))
  ns_len:nsIn S.K mainGlobals "len" = some none
  ns_range:nsIn S.K mainGlobals "range" = some none
  ns_twin_re_1_fnmatch:nsIn S.K mainGlobals "twin_re_1_fnmatch" = some (some (.ref 48))
  ns_escape:nsIn S.K mainGlobals "escape" = some (some (.ref 60))
  ns_chr:nsIn S.K mainGlobals "chr" = some none
  ns_separate:nsIn S.K mainGlobals "separate" = some (some (.ref 43))
  ns_translate:nsIn S.K mainGlobals "_translate" = some (some (.ref 67))
  ns_law_items:nsIn S.K mainGlobals "_law_items" = some (some (.ref 93))
  ns_law_read:nsIn S.K mainGlobals "_law_read" = some (some (.ref 81))
  ns_law_text:nsIn S.K mainGlobals "_law_text" = some (some (.ref 86))
  ns_law_cut_right:nsIn S.K mainGlobals "_law_cut_right" = some (some (.ref 100))
  ns_law_each_alone:nsIn S.K mainGlobals "_law_each_alone" = some (some (.ref 107))
  ns_law_sign:nsIn S.K mainGlobals "_law_sign" = some (some (.ref 74))
  ns_law:nsIn S.K mainGlobals "law" = some (some (.ref 112))
  fn_separate:FnAt S 43 fi_separate ["pattern"] (bodyAt 3)
  cal_separate:Callee S (.ref 43)
  fn_escape:FnAt S 60 fi_escape ["pattern"] (bodyAt 7)
  cal_escape:Callee S (.ref 60)
  fn_translate:FnAt S 67 fi_translate ["pat","STAR","QUESTION_MARK"] (bodyAt 9)
  cal_translate:Callee S (.ref 67)
  fn_law_sign:FnAt S 74 fi_law_sign ["number"] (bodyAt 11)
  cal_law_sign:Callee S (.ref 74)
  fn_law_read:FnAt S 81 fi_law_read ["pattern"] (bodyAt 12)
  cal_law_read:Callee S (.ref 81)
  kp_law_read:keepIn S.K (.ref 81) = true
  fn_law_text:FnAt S 86 fi_law_text ["row"] (bodyAt 13)
  cal_law_text:Callee S (.ref 86)
  fn_law_items:FnAt S 93 fi_law_items ["pattern"] (bodyAt 14)
  cal_law_items:Callee S (.ref 93)
  fn_law_cut_right:FnAt S 100 fi_law_cut_right ["row"] (bodyAt 15)
  cal_law_cut_right:Callee S (.ref 100)
  fn_law_each_alone:FnAt S 107 fi_law_each_alone ["row"] (bodyAt 16)
  cal_law_each_alone:Callee S (.ref 107)
  fn_law:FnAt S 112 fi_law ["script"] (bodyAt 17)
  cal_law:Callee S (.ref 112)
  pat_twin_re_1_glob:PatG S 36 35
  pat_twin_re_1_fnmatch:PatAt S 48 47
  dic:∃ (es:List DictEntry) (n:Nat),S.K.lookup 50 = some { cls:=.type "dict",data:=.dict es.toArray n }∧EscAll es [40,41,91,93,123,125,63,42,43,45,124,94,36,92,46,38,126,35,32,9,10,13,11,12]
theorem g_separate_twin_re_1_glob {S:Sig} (hK:KF S):Raw S fi_separate "twin_re_1_glob" (.ref 36):=fun k Γ pos=>EV.global (by rfl) hK.ns_twin_re_1_glob
theorem g_escape_isinstance {S:Sig} (hK:KF S):Raw S fi_escape "isinstance" (.builtin "isinstance"):=fun k Γ pos=>EV.boot (by rfl) hK.ns_isinstance bt_isinstance
theorem g_escape_str {S:Sig} (hK:KF S):Raw S fi_escape "str" (.type "str"):=fun k Γ pos=>EV.boot (by rfl) hK.ns_str bt_str
theorem g_escape_special_chars_map {S:Sig} (hK:KF S):Raw S fi_escape "_special_chars_map" (.ref 50):=fun k Γ pos=>EV.global (by rfl) hK.ns_special_chars_map
theorem g_translate_len {S:Sig} (hK:KF S):Raw S fi_translate "len" (.builtin "len"):=fun k Γ pos=>EV.boot (by rfl) hK.ns_len bt_len
theorem g_translate_range {S:Sig} (hK:KF S):Raw S fi_translate "range" (.type "range"):=fun k Γ pos=>EV.boot (by rfl) hK.ns_range bt_range
theorem g_translate_twin_re_1_fnmatch {S:Sig} (hK:KF S):Raw S fi_translate "twin_re_1_fnmatch" (.ref 48):=fun k Γ pos=>EV.global (by rfl) hK.ns_twin_re_1_fnmatch
theorem g_translate_escape {S:Sig} (hK:KF S):Raw S fi_translate "escape" (.ref 60):=fun k Γ pos=>EV.global (by rfl) hK.ns_escape
theorem g_law_sign_chr {S:Sig} (hK:KF S):Raw S fi_law_sign "chr" (.builtin "chr"):=fun k Γ pos=>EV.boot (by rfl) hK.ns_chr bt_chr
theorem g_law_read_separate {S:Sig} (hK:KF S):Raw S fi_law_read "separate" (.ref 43):=fun k Γ pos=>EV.global (by rfl) hK.ns_separate
theorem g_law_items_translate {S:Sig} (hK:KF S):Raw S fi_law_items "_translate" (.ref 67):=fun k Γ pos=>EV.global (by rfl) hK.ns_translate
theorem g_law_cut_right_law_items {S:Sig} (hK:KF S):Raw S fi_law_cut_right "_law_items" (.ref 93):=fun k Γ pos=>EV.global (by rfl) hK.ns_law_items
theorem g_law_cut_right_len {S:Sig} (hK:KF S):Raw S fi_law_cut_right "len" (.builtin "len"):=fun k Γ pos=>EV.boot (by rfl) hK.ns_len bt_len
theorem g_law_each_alone_law_items {S:Sig} (hK:KF S):Raw S fi_law_each_alone "_law_items" (.ref 93):=fun k Γ pos=>EV.global (by rfl) hK.ns_law_items
theorem g_law_law_read {S:Sig} (hK:KF S):Raw S fi_law "_law_read" (.ref 81):=fun k Γ pos=>EV.global (by rfl) hK.ns_law_read
theorem g_law_law_text {S:Sig} (hK:KF S):Raw S fi_law "_law_text" (.ref 86):=fun k Γ pos=>EV.global (by rfl) hK.ns_law_text
theorem g_law_law_cut_right {S:Sig} (hK:KF S):Raw S fi_law "_law_cut_right" (.ref 100):=fun k Γ pos=>EV.global (by rfl) hK.ns_law_cut_right
theorem g_law_len {S:Sig} (hK:KF S):Raw S fi_law "len" (.builtin "len"):=fun k Γ pos=>EV.boot (by rfl) hK.ns_len bt_len
theorem g_law_law_items {S:Sig} (hK:KF S):Raw S fi_law "_law_items" (.ref 93):=fun k Γ pos=>EV.global (by rfl) hK.ns_law_items
theorem g_law_law_each_alone {S:Sig} (hK:KF S):Raw S fi_law "_law_each_alone" (.ref 107):=fun k Γ pos=>EV.global (by rfl) hK.ns_law_each_alone
end
set_option linter.unusedSimpArgs false
section
open PySem PySem.W PySem.Calls PyProof.Rows
variable {S:Sig} [Free S] (hK:KF S)
include hK
theorem escape_ok {k:Nat} {c:Nat}:Ops S (k + 1) (fun vs=>call (.ref 60) vs) [.str [c]] (.str (escC specials c)):=by
  have n0:=@n_escape_0
  have g_isinstance:=g_escape_isinstance hK
  have g_str:=g_escape_str hK
  have g_special_chars_map:=g_escape_special_chars_map hK
  have c0:Cs "latin1" [108,97,116,105,110,49]:=rfl
  refine Fn.intro (f:=fi_escape) hK.fn_escape rfl ?_
  show EXs S _ fi_escape [some (B.val _)] _ _
  conv=>arg 5;whnf
  have ht:∀ {k:Nat},Ops S k (fun vs=>call (.builtin "str.translate") vs) [.str [c],.raw (.ref 50)] (.str (escC specials c)):=by
    intro k
    refine e2_2 (hK.dic) (fun es n h1 h2=>?_)
    exact Ops.translate h1 h2 (by decide)
  refine' EXs.to ?mm rfl
  case mm=>exact EXs.seq (EX.ifB (TV.val tested_Call (EV.call (fun _=>rfl) (Raw.ev g_isinstance) Callee.builtin (EVs.cons (EV.nm n0 rfl) (EVs.cons (Raw.ev g_str) EVs.nil (fun _=>rfl)) (fun _=>rfl)) Ops.isinstSS) OpT.bool) (Or.inl ⟨rfl,EXs.seq (EX.ret (EV.meth PySem.F.plainAttrs_str PySem.F.slot_str_translate PySem.F.type_str_translate (EV.nm n0 rfl) rfl (EVs.cons (Raw.ev g_special_chars_map) EVs.nil (fun _=>rfl)) (by apply_assumption) (fun _=>rfl) rfl (fun _=>rfl))) (Rest.stop rfl rfl)⟩)) (Rest.stop rfl rfl)
set_option maxHeartbeats 8000000 in
theorem translate_ok {k:Nat} {pat:List Nat} (hT:(66,62) ∈ S.tabs) (hqL:∀ p:Pos,p.line = 62→p.col = 46→S.qualAt p = fi_translate.qual ++ "<lambda>") (hqG:∀ p:Pos,p.line = 61→p.col = 37→S.qualAt p = fi_translate.qual ++ "<genexpr>") (hp:pat.length≤1000) (hu:∀ c ∈ pat,c < 0x110000) :
    Ops S (k + 4) (fun vs=>call (.ref 67) vs) [.str pat,.raw .none,.int 0] (.list ((pTr pat).map itD)):=by
  have n0:=@n_translate_0
  have n1:=@n_translate_1
  have n2:=@n_translate_2
  have n3:=@n_translate_3
  have n4:=@n_translate_4
  have n5:=@n_translate_5
  have n6:=@n_translate_6
  have n7:=@n_translate_7
  have n8:=@n_translate_8
  have n9:=@n_translate_9
  have n10:=@n_translate_10
  have n11:=@n_translate_11
  have n12:=@n_translate_12
  have g_len:=g_translate_len hK
  have g_range:=g_translate_range hK
  have g_twin_re_1_fnmatch:=g_translate_twin_re_1_fnmatch hK
  have g_escape:=g_translate_escape hK
  have k_escape:=hK.cal_escape
  have c0:Cs "*" [42]:=rfl
  have c1:Cs "?" [63]:=rfl
  have c2:Cs "[" [91]:=rfl
  have c3:Cs "!" [33]:=rfl
  have c4:Cs "]" [93]:=rfl
  have c5:Cs "\\[" [92,91]:=rfl
  have c6:Cs "-" [45]:=rfl
  have c7:Cs "\\" [92]:=rfl
  have c8:Cs "\\\\" [92,92]:=rfl
  have c9:Cs "\\-" [92,45]:=rfl
  have c10:Cs "" []:=rfl
  have c11:Cs "(?!)" [40,63,33,41]:=rfl
  have c12:Cs "." [46]:=rfl
  have c13:Cs "^" [94]:=rfl
  refine Fn.intro (f:=fi_translate) hK.fn_translate rfl ?_
  show EXs S _ fi_translate [some (B.val _),some (B.val _),some (B.val _),none,none,none,none,none,none,none,none,none,none] _ _
  conv=>arg 5;whnf
  have hsz:=sizeLine_eq
  have hv:solid Value.none = true:=rfl
  have own3:OwnV fi_translate 3:=.intro
  have hesc:∀ {k:Nat} {c:Nat},Ops S (k + 1) (fun vs=>call (.ref 60) vs) [.str [c]] (.str (escC specials c)):=escape_ok hK
  have hpat:=hK.pat_twin_re_1_fnmatch
  have hcode:fi_translate.code = .ref 66:=rfl
  refine EXs.seq (EX.ownN n3 own3 EVs.nil rfl (by (simp only [List.length_cons,List.length_nil]);decide) (Nat.le_of_ble_eq_true rfl) (fun _=>rfl) (fun _=>rfl)) (Rest.next ?_)
  refine EXs.seq (EX.appBindN n3 n4 rfl (by decide) rfl (fun _=>rfl) (fun _=>rfl)) (Rest.next ?_)
  refine EXs.seq (EX.assign2N n5 n6 (EV.tup (EVs.cons EV.cInt (EVs.cons (EV.call (fun _=>rfl) (Raw.ev g_len) Callee.builtin (EVs.cons (EV.nm n0 rfl) EVs.nil (fun _=>rfl)) Ops.lenS) EVs.nil (fun _=>rfl)) (fun _=>rfl)) (by (simp only [List.length_cons,List.length_nil]);decide)) rfl (by decide) rfl rfl rfl (fun _=>rfl)) (Rest.next ?_)
  refine EXs.whileRun (σ:=List It1 × Nat) (τ:=Option B × Option B × Option B) (fun s t=>[some (B.val (D.str pat)),some (B.val (D.raw .none)),some (B.val (D.int 0)),some (B.own (s.1.map itD)),some (B.app 3),some (B.val (D.int (s.2:Int))),some (B.val (D.int (pat.length:Int))),t.1,t.2.1,t.2.2,none,none,none])
    (trGo pat) (trStep pat) (fun s=>s.1.length≤s.2∧s.2≤pat.length) (fun s=>pat.length - s.2) pat.length ([],0) (none,none,none) rfl (Nat.sub_le _ _) ⟨Nat.le_refl _,Nat.zero_le _⟩ ?_ ?_ ?_
  · rintro ⟨res,i⟩ t ⟨h1,h2⟩
    simp only [trGo]
    exact TV.cmp (EV.nm n5 rfl) (EV.nm n6 rfl) Op2.ltI rfl
  · rintro ⟨res,i⟩ ⟨t1,t2,t3⟩ ⟨h1,h2⟩ hc
    simp only [trGo,decide_eq_true_eq] at hc h1 h2
    have hil:i < pat.length:=by lia
    have hg:=trStep_grow pat (res,i) hil
    refine ⟨⟨Nat.le_trans hg.2.2 (Nat.le_trans (Nat.succ_le_succ h1) hg.1),hg.2.1⟩,Nat.sub_lt_sub_left hil hg.1,?_⟩
    clear hg
    obtain ⟨c,hci⟩:∃ c,pat[i]? = some c:=⟨_,List.getElem?_eq_getElem hil⟩
    have hix:∀ (j:Nat) (x:Nat),pat[j]? = some x→pat[idx pat.length (j:Int)]? = some x:=by
      intro j x e
      have:idx pat.length (j:Int) = j:=by unfold idx;rw [if_neg (by lia)];simp
      rw [this];exact e
    have hi0:=hix i c hci
    have zi:-(pat.length:Int)≤(i:Int):=neg_le _ _
    have hcast:(i:Int) + 1 = ((i + 1:Nat):Int):=rfl
    have hrl:(res.map itD).length < sizeLine:=by simp;lia
    simp only [trStep,hci]
    by_cases c42:c = 42
    · subst c42
      rw [if_pos rfl]
      rcases nil_or_snoc res with rfl | ⟨ini,last,rfl⟩
      · rw [if_neg (by simp)]
        refine ⟨(some (B.val (D.str [42])),t2,t3),Or.inl ?_⟩
        have hne:=dec_nil [] rfl
        have hne':=dec_nil' [] rfl
        simp only [List.map_nil,List.nil_append,List.map_cons,← hcast,itD]
        refine' EXs.to ?mm rfl
        case mm=>exact EXs.seq (EX.assign (EV.item (T:="str") (EV.nm n0 rfl) (EV.nm n5 rfl) rfl PySem.F.slot_str_getitem.lookup (Op2.itemS hi0 zi) (fun _ _=>rfl)) (AS.nm n7) (fun _=>rfl) (fun _=>rfl) (fun _ _=>rfl)) (Rest.next (EXs.seq (EX.assign (EV.bin (EV.nm n5 rfl) EV.cInt Op2.addI) (AS.nm n5) (fun _=>rfl) (fun _=>rfl) (fun _ _=>rfl)) (Rest.next (EXs.seq (EX.ifB (TV.borrowN n3 own3 rfl (TV.cmp (EV.nm n7 rfl) (EV.cS c0 (by decide)) Op2.eqS rfl)) (Or.inl ⟨rfl,EXs.seq (EX.ifB (TV.borrowN n3 own3 rfl (TV.boolOp (ATV.orB (TV.not (TV.val tested_Name (EV.nm n3 rfl) OpT.list)) (Or.inl ⟨hne',rfl⟩)))) (Or.inl ⟨rfl,EXs.seq (EX.appCallN n4 rfl rfl (EV.nm n1 rfl) (by decide) n3 (fun _=>rfl) (fun _=>rfl)) (Rest.next EXs.nil)⟩)) (Rest.next EXs.nil)⟩)) (Rest.next EXs.nil)))))
      · have hl:=last_item (ini.map itD) (itD last)
        have hne:=dec_snoc (List.map itD ini ++ [itD last]) (by simp)
        have hne':=dec_snoc' (List.map itD ini ++ [itD last]) (by simp)
        have zl:-((List.map itD ini ++ [itD last]).length:Int)≤-1:=by simp;lia
        refine ⟨(some (B.val (D.str [42])),t2,t3),Or.inl ?_⟩
        cases last with
        | none =>
          rw [if_pos (by simp)]
          simp only [List.map_append,List.map_cons,List.map_nil,← hcast,itD] at *
          refine' EXs.to ?mm rfl
          case mm=>exact EXs.seq (EX.assign (EV.item (T:="str") (EV.nm n0 rfl) (EV.nm n5 rfl) rfl PySem.F.slot_str_getitem.lookup (Op2.itemS hi0 zi) (fun _ _=>rfl)) (AS.nm n7) (fun _=>rfl) (fun _=>rfl) (fun _ _=>rfl)) (Rest.next (EXs.seq (EX.assign (EV.bin (EV.nm n5 rfl) EV.cInt Op2.addI) (AS.nm n5) (fun _=>rfl) (fun _=>rfl) (fun _ _=>rfl)) (Rest.next (EXs.seq (EX.ifB (TV.borrowN n3 own3 rfl (TV.cmp (EV.nm n7 rfl) (EV.cS c0 (by decide)) Op2.eqS rfl)) (Or.inl ⟨rfl,EXs.seq (EX.ifB (TV.borrowN n3 own3 rfl (TV.boolOp (ATV.orB (TV.not (TV.val tested_Name (EV.nm n3 rfl) OpT.list)) (Or.inr ⟨(by simp [*];done),ATV.orB (TV.cmp (EV.item (T:="list") (EV.nm n3 rfl) (EV.un EV.cInt Op1.negI) rfl list_getitem_lookup (Op2.itemL hl zl) (fun _ _=>rfl)) (EV.nm n1 rfl) (Op2.isNotSelf hv) rfl) (Or.inr ⟨rfl,ATV.orNil⟩)⟩)))) (Or.inr ⟨rfl,EXs.nil⟩)) (Rest.next EXs.nil)⟩)) (Rest.next EXs.nil)))))
        | some sl =>
          rw [if_neg (by simp)]
          cases sl with
          | none =>
            simp only [List.map_append,List.map_cons,List.map_nil,← hcast,itD] at *
            refine' EXs.to ?mm rfl
            case mm=>exact EXs.seq (EX.assign (EV.item (T:="str") (EV.nm n0 rfl) (EV.nm n5 rfl) rfl PySem.F.slot_str_getitem.lookup (Op2.itemS hi0 zi) (fun _ _=>rfl)) (AS.nm n7) (fun _=>rfl) (fun _=>rfl) (fun _ _=>rfl)) (Rest.next (EXs.seq (EX.assign (EV.bin (EV.nm n5 rfl) EV.cInt Op2.addI) (AS.nm n5) (fun _=>rfl) (fun _=>rfl) (fun _ _=>rfl)) (Rest.next (EXs.seq (EX.ifB (TV.borrowN n3 own3 rfl (TV.cmp (EV.nm n7 rfl) (EV.cS c0 (by decide)) Op2.eqS rfl)) (Or.inl ⟨rfl,EXs.seq (EX.ifB (TV.borrowN n3 own3 rfl (TV.boolOp (ATV.orB (TV.not (TV.val tested_Name (EV.nm n3 rfl) OpT.list)) (Or.inr ⟨(by simp [*];done),ATV.orB (TV.cmp (EV.item (T:="list") (EV.nm n3 rfl) (EV.un EV.cInt Op1.negI) rfl list_getitem_lookup (Op2.itemL hl zl) (fun _ _=>rfl)) (EV.nm n1 rfl) (Op2.isNotOtherI hv) rfl) (Or.inl ⟨rfl,rfl⟩)⟩)))) (Or.inl ⟨rfl,EXs.seq (EX.appCallN n4 rfl rfl (EV.nm n1 rfl) hrl n3 (fun _=>rfl) (fun _=>rfl)) (Rest.next EXs.nil)⟩)) (Rest.next EXs.nil)⟩)) (Rest.next EXs.nil)))))
          | some sl =>
            simp only [List.map_append,List.map_cons,List.map_nil,← hcast,itD] at *
            refine' EXs.to ?mm rfl
            case mm=>exact EXs.seq (EX.assign (EV.item (T:="str") (EV.nm n0 rfl) (EV.nm n5 rfl) rfl PySem.F.slot_str_getitem.lookup (Op2.itemS hi0 zi) (fun _ _=>rfl)) (AS.nm n7) (fun _=>rfl) (fun _=>rfl) (fun _ _=>rfl)) (Rest.next (EXs.seq (EX.assign (EV.bin (EV.nm n5 rfl) EV.cInt Op2.addI) (AS.nm n5) (fun _=>rfl) (fun _=>rfl) (fun _ _=>rfl)) (Rest.next (EXs.seq (EX.ifB (TV.borrowN n3 own3 rfl (TV.cmp (EV.nm n7 rfl) (EV.cS c0 (by decide)) Op2.eqS rfl)) (Or.inl ⟨rfl,EXs.seq (EX.ifB (TV.borrowN n3 own3 rfl (TV.boolOp (ATV.orB (TV.not (TV.val tested_Name (EV.nm n3 rfl) OpT.list)) (Or.inr ⟨(by simp [*];done),ATV.orB (TV.cmp (EV.item (T:="list") (EV.nm n3 rfl) (EV.un EV.cInt Op1.negI) rfl list_getitem_lookup (Op2.itemL hl zl) (fun _ _=>rfl)) (EV.nm n1 rfl) (Op2.isNotOtherS hv) rfl) (Or.inl ⟨rfl,rfl⟩)⟩)))) (Or.inl ⟨rfl,EXs.seq (EX.appCallN n4 rfl rfl (EV.nm n1 rfl) hrl n3 (fun _=>rfl) (fun _=>rfl)) (Rest.next EXs.nil)⟩)) (Rest.next EXs.nil)⟩)) (Rest.next EXs.nil)))))
    · rw [if_neg c42]
      have b42:([c] == [42]) = false:=by simp [c42]
      by_cases c63:c = 63
      · subst c63
        rw [if_pos rfl]
        refine ⟨(some (B.val (D.str [63])),t2,t3),Or.inl ?_⟩
        simp only [List.map_append,List.map_cons,List.map_nil,← hcast,itD]
        refine' EXs.to ?mm rfl
        case mm=>exact EXs.seq (EX.assign (EV.item (T:="str") (EV.nm n0 rfl) (EV.nm n5 rfl) rfl PySem.F.slot_str_getitem.lookup (Op2.itemS hi0 zi) (fun _ _=>rfl)) (AS.nm n7) (fun _=>rfl) (fun _=>rfl) (fun _ _=>rfl)) (Rest.next (EXs.seq (EX.assign (EV.bin (EV.nm n5 rfl) EV.cInt Op2.addI) (AS.nm n5) (fun _=>rfl) (fun _=>rfl) (fun _ _=>rfl)) (Rest.next (EXs.seq (EX.ifB (TV.borrowN n3 own3 rfl (TV.cmp (EV.nm n7 rfl) (EV.cS c0 (by decide)) Op2.eqS rfl)) (Or.inr ⟨b42,EXs.seq (EX.ifB (TV.borrowN n3 own3 rfl (TV.cmp (EV.nm n7 rfl) (EV.cS c1 (by decide)) Op2.eqS rfl)) (Or.inl ⟨rfl,EXs.seq (EX.appCallN n4 rfl rfl (EV.nm n2 rfl) hrl n3 (fun _=>rfl) (fun _=>rfl)) (Rest.next EXs.nil)⟩)) (Rest.next EXs.nil)⟩)) (Rest.next EXs.nil)))))
      · rw [if_neg c63]
        have b63:([c] == [63]) = false:=by simp [c63]
        by_cases c91:c = 91
        · subst c91
          rw [if_pos rfl]
          have hel:=setEnd_le pat (i + 1) (by lia)
          have hfl:=setFrom_le pat (i + 1) (by lia)
          have lt:∀ {j c:Nat},pat[j]? = some c→j < pat.length:=fun e=>(List.getElem?_eq_some_iff.mp e).1
          have bT:([91] == [91]) = true:=by decide
          let Γj:List It1→Nat→Nat→Ctxt:=fun rs m j=>[some (B.val (D.str pat)),some (B.val (D.raw .none)),some (B.val (D.int 0)),some (B.own (rs.map itD)),some (B.app 3),some (B.val (D.int (m:Int))),some (B.val (D.int (pat.length:Int))),some (B.val (D.str [91])),some (B.val (D.int (j:Int))),t3,none,none,none]
          refine ⟨(some (B.val (D.str [91])),some (B.val (D.int (setEnd pat (i + 1):Int))),if pat.length≤setEnd pat (i + 1) then t3 else some (B.val (D.str (setVar (setIn (pick (some ((i + 1:Nat):Int)) (some (setEnd pat (i + 1):Int)) pat)))))),Or.inl ?_⟩
          refine EXs.seq (EX.assign (EV.item (T:="str") (EV.nm n0 rfl) (EV.nm n5 rfl) rfl PySem.F.slot_str_getitem.lookup (Op2.itemS hi0 zi) (fun _ _=>rfl)) (AS.nm n7) (fun _=>rfl) (fun _=>rfl) (fun _ _=>rfl)) (Rest.next ?_)
          refine EXs.seq (EX.assign (EV.bin (EV.nm n5 rfl) EV.cInt Op2.addI) (AS.nm n5) (fun _=>rfl) (fun _=>rfl) (fun _ _=>rfl)) (Rest.next ?_)
          simp only [hcast]
          refine EXs.cons (EX.ifF (TV.is (b:=([91] == [42])) (by exact TV.cmp (EV.nm n7 rfl) (EV.cS c0 (by decide)) Op2.eqS rfl) b42) (EXs.cons (EX.ifF (TV.is (b:=([91] == [63])) (by exact TV.cmp (EV.nm n7 rfl) (EV.cS c1 (by decide)) Op2.eqS rfl) b63) (EXs.cons (EX.ifT (TV.is (b:=([91] == [91])) (by exact TV.cmp (EV.nm n7 rfl) (EV.cS c2 (by decide)) Op2.eqS rfl) bT) ?inner) EXs.nil)) EXs.nil)) EXs.nil
          refine EXs.seq (EX.assign (EV.nm n5 rfl) (AS.nm n8) (fun _=>rfl) (fun _=>rfl) (fun _ _=>rfl)) (Rest.next ?_)
          refine EXs.cons (Γ₁:=Γj res (i + 1) (if pat[i + 1]? = some 33 then i + 1 + 1 else i + 1)) ?if1 ?rest1
          case if1 =>
            by_cases hj:i + 1 < pat.length
            · have q1:decide (((i + 1:Nat):Int) < (pat.length:Int)) = true:=by simp;lia
              obtain ⟨x,hx⟩:∃ x,pat[i + 1]? = some x:=⟨_,List.getElem?_eq_getElem hj⟩
              have hx':=hix _ _ hx
              have zx:-(pat.length:Int)≤((i + 1:Nat):Int):=neg_le _ _
              by_cases h33:x = 33
              · subst h33
                simp only [hx,if_true]
                have q2:([33] == [33]) = true:=by decide
                have hc2:((i + 1 + 1:Nat):Int) = ((i + 1:Nat):Int) + 1:=rfl
                show EX _ _ _ _ _ (.next [_,_,_,_,_,_,_,_,some (B.val (D.int ((i + 1 + 1:Nat):Int))),_,_,_,_])
                rw [hc2]
                exact EX.ifB (TV.borrowN n3 own3 rfl (TV.boolOp (ATV.andB (TV.cmp (EV.nm n8 rfl) (EV.nm n6 rfl) Op2.ltI rfl) (Or.inl ⟨q1,ATV.andB (TV.cmp (EV.item (T:="str") (EV.nm n0 rfl) (EV.nm n8 rfl) rfl PySem.F.slot_str_getitem.lookup (Op2.itemS hx' zx) (fun _ _=>rfl)) (EV.cS c3 (by decide)) Op2.eqS rfl) (Or.inl ⟨q2,ATV.andNil⟩)⟩)))) (Or.inl ⟨rfl,EXs.seq (EX.assign (EV.bin (EV.nm n8 rfl) EV.cInt Op2.addI) (AS.nm n8) (fun _=>rfl) (fun _=>rfl) (fun _ _=>rfl)) (Rest.next EXs.nil)⟩)
              · have q2:([x] == [33]) = false:=by simp [h33]
                have:¬ (pat[i + 1]? = some 33):=by rw [hx];simp [h33]
                simp only [this,if_false]
                exact EX.ifB (TV.borrowN n3 own3 rfl (TV.boolOp (ATV.andB (TV.cmp (EV.nm n8 rfl) (EV.nm n6 rfl) Op2.ltI rfl) (Or.inl ⟨q1,ATV.andB (TV.cmp (EV.item (T:="str") (EV.nm n0 rfl) (EV.nm n8 rfl) rfl PySem.F.slot_str_getitem.lookup (Op2.itemS hx' zx) (fun _ _=>rfl)) (EV.cS c3 (by decide)) Op2.eqS rfl) (Or.inr ⟨q2,rfl⟩)⟩)))) (Or.inr ⟨rfl,EXs.nil⟩)
            · have q1:decide (((i + 1:Nat):Int) < (pat.length:Int)) = false:=by simp;lia
              have:pat[i + 1]? = none:=List.getElem?_eq_none_iff.mpr (by lia)
              simp only [this]
              exact EX.ifB (TV.borrowN n3 own3 rfl (TV.boolOp (ATV.andB (TV.cmp (EV.nm n8 rfl) (EV.nm n6 rfl) Op2.ltI rfl) (Or.inr ⟨q1,rfl⟩)))) (Or.inr ⟨rfl,EXs.nil⟩)
          have hs1:(if pat[i + 1]? = some 33 then i + 1 + 1 else i + 1)≤pat.length:=by
            split
            · rename_i h;have:=lt h;lia
            · lia
          have hs2:setFrom pat (i + 1) = if pat[if pat[i + 1]? = some 33 then i + 1 + 1 else i + 1]? = some 93 then (if pat[i + 1]? = some 33 then i + 1 + 1 else i + 1) + 1 else if pat[i + 1]? = some 33 then i + 1 + 1 else i + 1:=rfl
          generalize (if pat[i + 1]? = some 33 then i + 1 + 1 else i + 1) = j1 at hs1 hs2 ⊢
          refine EXs.cons (Γ₁:=Γj res (i + 1) (setFrom pat (i + 1))) ?if2 ?rest2
          case if2 =>
            rw [hs2]
            by_cases hj:j1 < pat.length
            · have q1:decide (((j1:Nat):Int) < (pat.length:Int)) = true:=by simp;lia
              obtain ⟨x,hx⟩:∃ x,pat[j1]? = some x:=⟨_,List.getElem?_eq_getElem hj⟩
              have hx':=hix _ _ hx
              have zx:-(pat.length:Int)≤((j1:Nat):Int):=neg_le _ _
              by_cases h93:x = 93
              · subst h93
                simp only [hx,if_true]
                have q2:([93] == [93]) = true:=by decide
                have hc2:((j1 + 1:Nat):Int) = ((j1:Nat):Int) + 1:=rfl
                show EX _ _ _ _ _ (.next [_,_,_,_,_,_,_,_,some (B.val (D.int ((j1 + 1:Nat):Int))),_,_,_,_])
                rw [hc2]
                exact EX.ifB (TV.borrowN n3 own3 rfl (TV.boolOp (ATV.andB (TV.cmp (EV.nm n8 rfl) (EV.nm n6 rfl) Op2.ltI rfl) (Or.inl ⟨q1,ATV.andB (TV.cmp (EV.item (T:="str") (EV.nm n0 rfl) (EV.nm n8 rfl) rfl PySem.F.slot_str_getitem.lookup (Op2.itemS hx' zx) (fun _ _=>rfl)) (EV.cS c4 (by decide)) Op2.eqS rfl) (Or.inl ⟨q2,ATV.andNil⟩)⟩)))) (Or.inl ⟨rfl,EXs.seq (EX.assign (EV.bin (EV.nm n8 rfl) EV.cInt Op2.addI) (AS.nm n8) (fun _=>rfl) (fun _=>rfl) (fun _ _=>rfl)) (Rest.next EXs.nil)⟩)
              · have q2:([x] == [93]) = false:=by simp [h93]
                have:¬ (pat[j1]? = some 93):=by rw [hx];simp [h93]
                simp only [this,if_false]
                exact EX.ifB (TV.borrowN n3 own3 rfl (TV.boolOp (ATV.andB (TV.cmp (EV.nm n8 rfl) (EV.nm n6 rfl) Op2.ltI rfl) (Or.inl ⟨q1,ATV.andB (TV.cmp (EV.item (T:="str") (EV.nm n0 rfl) (EV.nm n8 rfl) rfl PySem.F.slot_str_getitem.lookup (Op2.itemS hx' zx) (fun _ _=>rfl)) (EV.cS c4 (by decide)) Op2.eqS rfl) (Or.inr ⟨q2,rfl⟩)⟩)))) (Or.inr ⟨rfl,EXs.nil⟩)
            · have q1:decide (((j1:Nat):Int) < (pat.length:Int)) = false:=by simp;lia
              have:pat[j1]? = none:=List.getElem?_eq_none_iff.mpr (by lia)
              simp only [this]
              exact EX.ifB (TV.borrowN n3 own3 rfl (TV.boolOp (ATV.andB (TV.cmp (EV.nm n8 rfl) (EV.nm n6 rfl) Op2.ltI rfl) (Or.inr ⟨q1,rfl⟩)))) (Or.inr ⟨rfl,EXs.nil⟩)
          clear hs1 hs2
          refine EXs.whileRun (σ:=Nat) (τ:=Unit) (fun j _=>Γj res (i + 1) j) (openC pat) (· + 1) (fun j=>j≤pat.length) (fun j=>pat.length - j) (pat.length - setFrom pat (i + 1)) (setFrom pat (i + 1)) () rfl (Nat.le_refl _) hfl.2 ?_ ?_ ?_
          · intro j _ hj
            by_cases hj2:j < pat.length
            · have q1:decide (((j:Nat):Int) < (pat.length:Int)) = true:=by simp;lia
              obtain ⟨x,hx⟩:∃ x,pat[j]? = some x:=⟨_,List.getElem?_eq_getElem hj2⟩
              have hx':=hix _ _ hx
              have zx:-(pat.length:Int)≤((j:Nat):Int):=neg_le _ _
              by_cases h93:x = 93
              · subst h93
                have q2:([93] != [93]) = false:=by decide
                have q3:openC pat j = false:=by simp [openC,hx]
                rw [q3]
                exact TV.boolOp (ATV.andB (TV.cmp (EV.nm n8 rfl) (EV.nm n6 rfl) Op2.ltI rfl) (Or.inl ⟨q1,ATV.andB (TV.cmp (EV.item (T:="str") (EV.nm n0 rfl) (EV.nm n8 rfl) rfl PySem.F.slot_str_getitem.lookup (Op2.itemS hx' zx) (fun _ _=>rfl)) (EV.cS c4 (by decide)) Op2.neS rfl) (Or.inr ⟨q2,rfl⟩)⟩))
              · have q2:([x] != [93]) = true:=by simp [h93]
                have q3:openC pat j = true:=by simp [openC,hx,h93];lia
                rw [q3]
                exact TV.boolOp (ATV.andB (TV.cmp (EV.nm n8 rfl) (EV.nm n6 rfl) Op2.ltI rfl) (Or.inl ⟨q1,ATV.andB (TV.cmp (EV.item (T:="str") (EV.nm n0 rfl) (EV.nm n8 rfl) rfl PySem.F.slot_str_getitem.lookup (Op2.itemS hx' zx) (fun _ _=>rfl)) (EV.cS c4 (by decide)) Op2.neS rfl) (Or.inl ⟨q2,ATV.andNil⟩)⟩))
            · have q1:decide (((j:Nat):Int) < (pat.length:Int)) = false:=by simp;lia
              have q3:openC pat j = false:=by simp [openC];lia
              rw [q3]
              exact TV.boolOp (ATV.andB (TV.cmp (EV.nm n8 rfl) (EV.nm n6 rfl) Op2.ltI rfl) (Or.inr ⟨q1,rfl⟩))
          · intro j _ hj hc
            simp only [openC,Bool.and_eq_true,decide_eq_true_eq] at hc
            refine ⟨by lia,by lia,(),Or.inl ?_⟩
            have hc2:((j + 1:Nat):Int) = ((j:Nat):Int) + 1:=rfl
            show EXs _ _ _ _ _ (.next [_,_,_,_,_,_,_,_,some (B.val (D.int ((j + 1:Nat):Int))),_,_,_,_])
            rw [hc2]
            refine' EXs.to ?mm rfl
            case mm=>exact EXs.seq (EX.assign (EV.bin (EV.nm n8 rfl) EV.cInt Op2.addI) (AS.nm n8) (fun _=>rfl) (fun _=>rfl) (fun _ _=>rfl)) (Rest.next EXs.nil)
          · intro _ _ _
            show EXs _ _ _ (Γj res (i + 1) (setEnd pat (i + 1))) _ _
            generalize hee:setEnd pat (i + 1) = e at hel ⊢
            by_cases hle:pat.length≤e
            · have q1:decide ((e:Int) ≥ (pat.length:Int)) = true:=by simp;lia
              rw [if_pos hle,if_pos hle]
              simp only [List.map_append,List.map_cons,List.map_nil,itD]
              refine' EXs.to ?mm rfl
              case mm=>exact EXs.seq (EX.ifB (TV.borrowN n3 own3 rfl (TV.cmp (EV.nm n8 rfl) (EV.nm n6 rfl) Op2.geI rfl)) (Or.inl ⟨q1,EXs.seq (EX.appCallN n4 rfl rfl (EV.cS c5 (by decide)) hrl n3 (fun _=>rfl) (fun _=>rfl)) (Rest.next EXs.nil)⟩)) (Rest.next EXs.nil)
            · have q1:decide ((e:Int) ≥ (pat.length:Int)) = false:=by simp;lia
              rw [if_neg hle,if_neg hle]
              simp only [List.map_append,List.map_cons,List.map_nil,itD]
              have hce:((e + 1:Nat):Int) = (e:Int) + 1:=rfl
              rw [hce]
              refine EXs.cons (EX.ifF (TV.is (b:=decide ((e:Int) ≥ (pat.length:Int))) (by exact TV.cmp (EV.nm n8 rfl) (EV.nm n6 rfl) Op2.geI rfl) q1) ?inner2) EXs.nil
              refine EXs.seq (EX.assign (EV.sliceS (EV.nm n0 rfl) (PV.some (EV.nm n5 rfl)) (PV.some (EV.nm n8 rfl)) (fun _ _=>rfl)) (AS.nm n9) (fun _=>rfl) (fun _=>rfl) (fun _ _=>rfl)) (Rest.next ?_)
              have hpm:pick (some ((i + 1:Nat):Int)) (some (e:Int)) pat = (pat.take e).drop (i + 1):=pick_mid pat (i + 1) e
              have hst:∀ x ∈ pick (some ((i + 1:Nat):Int)) (some (e:Int)) pat,x ∈ pat:=fun x hx=>pick_mem hx
              have hstl:=pick_length_le (some ((i + 1:Nat):Int)) (some (e:Int)) pat
              generalize pick (some ((i + 1:Nat):Int)) (some (e:Int)) pat = st at hst hstl hpm ⊢
              have hlo:st.length = e - (i + 1):=by rw [hpm];simp;lia
              have hat:∀ t,t < st.length→pat[i + 1 + t]? = st[t]?:=fun t ht=>by
                rw [hpm,List.getElem?_drop,List.getElem?_take,if_pos (by lia)]
              let Γs:Option B→Option B→Option B→Option B→Option B→Ctxt:=fun bi b9 b10 b11 b12=>[some (B.val (D.str pat)),some (B.val (D.raw .none)),some (B.val (D.int 0)),some (B.own (res.map itD)),some (B.app 3),bi,some (B.val (D.int (pat.length:Int))),some (B.val (D.str [91])),some (B.val (D.int (e:Int))),b9,b10,b11,b12]
              have hsti:setIn st = subC (if 45 ∈ st then joinL [45] ((merged (chunksOf st)).map eltC) else replC 92 [92,92] st):=rfl
              have hru:∀ c ∈ setIn st,c < 0x110000:=fun c hc=>(setIn_mem hc).elim (fun h=>by rw [h];decide) fun h=>hu c (hst c h)
              have hrl3:(setIn st).length≤400000:=setIn_len (by lia)
              have hsl:(if 45 ∈ st then joinL [45] ((merged (chunksOf st)).map eltC) else replC 92 [92,92] st).length≤400000:=by
                have:=@subC_lower (if 45 ∈ st then joinL [45] ((merged (chunksOf st)).map eltC) else replC 92 [92,92] st)
                rw [← hsti] at this;lia
              refine EXs.cons (Γ₁:=Γs none (some (B.val (D.str (if 45 ∈ st then joinL [45] ((merged (chunksOf st)).map eltC) else replC 92 [92,92] st)))) none none none) ?ifd ?restd
              case ifd =>
                by_cases hm:45 ∈ st
                · have d1:(!decide (45 ∈ st)) = false:=by simp [hm]
                  have own10:OwnV fi_translate 10:=.intro
                  rw [if_pos hm]
                  refine EX.ifF (TV.is (b:=!decide (45 ∈ st)) (by exact TV.cmp (EV.cS c6 (by decide)) (EV.nm n9 rfl) Op2.notInS rfl) d1) ?_
                  have hie:i + 1≤e:=by lia
                  obtain ⟨rp,cur,hch,hrp,hcur,htot,_,_⟩:=chunksOf_ok st (fun _=>True) (fun _ _=>trivial) hm
                  have hgo:=chunkGo_ok st (fun _=>True) (fun _ _=>trivial) st.length 0 (chunk0 st) [] trivial (fun _=>by unfold chunk0;split <;> decide) (fun h=>absurd rfl h) (Nat.le_refl _) (Nat.zero_le _) (fun c h=>nomatch h)
                  refine' EXs.to (EXs.forgetN 5 (EXs.forgetN 10 (EXs.forgetN 12 (?hB:EXs S _ fi_translate _ _ (.next (Γs (some (B.val (D.int ((i + 1 + (chunkGo st st.length 0 (chunk0 st) []).2:Nat):Int)))) (some (B.val (D.str (joinL [45] ((merged (chunksOf st)).map eltC))))) (some (B.val (D.list ((merged (chunksOf st)).map D.str)))) none (some (B.val (D.str (st.drop (chunkGo st st.length 0 (chunk0 st) []).2)))))))))) ?hE
                  case hE=>rfl
                  case hB =>
                    refine EXs.cons (Γ₁:=Γs (some (B.val (D.int ((i + 1:Nat):Int)))) (some (B.val (D.str st))) (some (B.own [])) none none) ?s1 ?r1
                    case s1 =>
                      refine' EX.toR ?mm ?mq
                      case mm=>exact EX.ownN n10 own10 EVs.nil rfl (by (simp only [List.length_cons,List.length_nil]);decide) (Nat.le_of_ble_eq_true rfl) (fun _=>rfl) (fun _=>rfl)
                      case mq=>rfl
                    refine EXs.cons (Γ₁:=Γs (some (B.val (D.int ((i + 1:Nat):Int)))) (some (B.val (D.str st))) (some (B.own [])) (some (B.val (D.int ((i + 1 + chunk0 st:Nat):Int)))) none) ?s2 ?r2
                    case s2 =>
                      have h0l:0 < st.length:=List.length_pos_iff.mpr (List.ne_nil_of_mem hm)
                      obtain ⟨x0,hx0⟩:∃ x,st[0]? = some x:=⟨_,List.getElem?_eq_getElem h0l⟩
                      have hx:=hix (i + 1) x0 (by rw [← hx0];exact hat 0 h0l)
                      have zx:-(pat.length:Int)≤((i + 1:Nat):Int):=neg_le _ _
                      have hh:st.head? = some x0:=by rw [List.head?_eq_getElem?];exact hx0
                      unfold chunk0
                      rw [hh]
                      by_cases h33:x0 = 33
                      · subst h33
                        rw [if_pos rfl]
                        have q2:([33] == [33]) = true:=by decide
                        show EX _ _ _ _ _ (.next (Γs _ _ _ (some (B.val (D.int (((i + 1:Nat):Int) + 2)))) none))
                        refine' EX.toR ?mm ?mq
                        case mm=>exact EX.assign (EV.ifB (TV.cmp (EV.item (T:="str") (EV.nm n0 rfl) (EV.nm n5 rfl) rfl PySem.F.slot_str_getitem.lookup (Op2.itemS hx zx) (fun _ _=>rfl)) (EV.cS c3 (by decide)) Op2.eqS rfl) (Or.inl ⟨q2,EV.bin (EV.nm n5 rfl) EV.cInt Op2.addI⟩)) (AS.nm n11) (fun _=>rfl) (fun _=>rfl) (fun _ _=>rfl)
                        case mq=>rfl
                      · rw [if_neg (fun h=>h33 (Option.some.inj h))]
                        have q2:([x0] == [33]) = false:=by simp [h33]
                        show EX _ _ _ _ _ (.next (Γs _ _ _ (some (B.val (D.int (((i + 1:Nat):Int) + 1)))) none))
                        refine' EX.toR ?mm ?mq
                        case mm=>exact EX.assign (EV.ifB (TV.cmp (EV.item (T:="str") (EV.nm n0 rfl) (EV.nm n5 rfl) rfl PySem.F.slot_str_getitem.lookup (Op2.itemS hx zx) (fun _ _=>rfl)) (EV.cS c3 (by decide)) Op2.eqS rfl) (Or.inr ⟨q2,EV.bin (EV.nm n5 rfl) EV.cInt Op2.addI⟩)) (AS.nm n11) (fun _=>rfl) (fun _=>rfl) (fun _ _=>rfl)
                        case mq=>rfl
                    let G1:Nat→List D→Option Nat→Ctxt:=fun a L j=>Γs (some (B.val (D.int ((i + 1 + a:Nat):Int)))) (some (B.val (D.str st))) (some (B.own L)) (some (B.val (D.int (match j with | some j=>((i + 1 + j:Nat):Int) | none=>-1)))) none
                    refine EXs.cons (Γ₁:=G1 (chunkGo st st.length 0 (chunk0 st) []).2 ((chunkGo st st.length 0 (chunk0 st) []).1.map .str) none) (EX.while (WL.chunks G1 ?w1 ?w2 ?w3 st.length 0 (chunk0 st) [] (Nat.le_add_left _ _) (Nat.le_refl _) (Nat.zero_le _))) ?r3
                    case w1=>intro a L j;exact TV.val tested_Const EV.cBool OpT.bool
                    case w2 =>
                      intro a j cs hq hca haj
                      have hf:=findRel (pat:=pat) (i0:=i + 1) (e:=e) (k:=j) hie (by lia)
                      rw [← hpm,← hlo,if_pos hq] at hf
                      generalize j + upto 45 (st.drop j) = q,Nat.le_add_right j (upto 45 (st.drop j)) = hjq at hf hq ⊢
                      have hfo:∀ k,Ops S k (fun vs=>call (.builtin "str.find") vs) [.str pat,.str [45],.int ((i + 1 + j:Nat):Int),.int (e:Int)] (.int ((i + 1 + q:Nat):Int)):=fun k=>by
                        have h:=Ops.findC (S:=S) (k:=k) (xs:=pat) (c:=45) (lo:=i + 1 + j) (hi:=e) (by lia)
                        rw [hf] at h;exact h
                      have q1:decide (((i + 1 + q:Nat):Int) < 0) = false:=decide_eq_false (by lia)
                      have hpk:pick (some ((i + 1 + a:Nat):Int)) (some ((i + 1 + q:Nat):Int)) pat = cutS st a q:=by rw [hpm];exact pickRel (by lia)
                      have hcl:(cs.map D.str).length < sizeLine:=by rw [List.length_map];lia
                      rw [List.map_append,← hpk]
                      refine' EXs.to ?mm ?mq
                      case mm=>exact EXs.seq (EX.assign (EV.meth PySem.F.plainAttrs_str PySem.F.slot_str_find PySem.F.type_str_find (EV.nm n0 rfl) rfl (EVs.cons (EV.cS c6 (by decide)) (EVs.cons (EV.nm n11 rfl) (EVs.cons (EV.nm n8 rfl) EVs.nil (fun _=>rfl)) (fun _=>rfl)) (fun _=>rfl)) (by apply_assumption) (fun _=>rfl) rfl (fun _=>rfl)) (AS.nm n11) (fun _=>rfl) (fun _=>rfl) (fun _ _=>rfl)) (Rest.next (EXs.seq (EX.ifB (TV.borrowN n10 own10 rfl (TV.cmp (EV.nm n11 rfl) EV.cInt Op2.ltI rfl)) (Or.inr ⟨q1,EXs.nil⟩)) (Rest.next (EXs.seq (EX.appendN n10 rfl (EV.sliceS (EV.nm n0 rfl) (PV.some (EV.nm n5 rfl)) (PV.some (EV.nm n11 rfl)) (fun _ _=>rfl)) hcl (fun _=>rfl) rfl (fun _=>rfl)) (Rest.next (EXs.seq (EX.assign (EV.bin (EV.nm n11 rfl) EV.cInt Op2.addI) (AS.nm n5) (fun _=>rfl) (fun _=>rfl) (fun _ _=>rfl)) (Rest.next (EXs.seq (EX.assign (EV.bin (EV.nm n11 rfl) EV.cInt Op2.addI) (AS.nm n11) (fun _=>rfl) (fun _=>rfl) (fun _ _=>rfl)) (Rest.next EXs.nil)))))))))
                      case mq=>rfl
                    case w3 =>
                      intro a j cs hq
                      have hf:=findRel (pat:=pat) (i0:=i + 1) (e:=e) (k:=j) hie (by lia)
                      rw [← hpm,← hlo,if_neg hq] at hf
                      have hfo:∀ k,Ops S k (fun vs=>call (.builtin "str.find") vs) [.str pat,.str [45],.int ((i + 1 + j:Nat):Int),.int (e:Int)] (.int (-1)):=fun k=>by
                        have h:=Ops.findC (S:=S) (k:=k) (xs:=pat) (c:=45) (lo:=i + 1 + j) (hi:=e) (by lia)
                        rw [hf] at h;exact h
                      have q1:decide ((-1:Int) < 0) = true:=by decide
                      refine' EXs.to ?mm ?mq
                      case mm=>exact EXs.seq (EX.assign (EV.meth PySem.F.plainAttrs_str PySem.F.slot_str_find PySem.F.type_str_find (EV.nm n0 rfl) rfl (EVs.cons (EV.cS c6 (by decide)) (EVs.cons (EV.nm n11 rfl) (EVs.cons (EV.nm n8 rfl) EVs.nil (fun _=>rfl)) (fun _=>rfl)) (fun _=>rfl)) (by apply_assumption) (fun _=>rfl) rfl (fun _=>rfl)) (AS.nm n11) (fun _=>rfl) (fun _=>rfl) (fun _ _=>rfl)) (Rest.next (EXs.seq (EX.ifB (TV.borrowN n10 own10 rfl (TV.cmp (EV.nm n11 rfl) EV.cInt Op2.ltI rfl)) (Or.inl ⟨q1,EXs.seq EX.brk (Rest.stop rfl rfl)⟩)) (Rest.stop rfl rfl)))
                      case mq=>rfl
                    rw [hch,merged_snoc]
                    have hce:chunksEnd st (chunkGo st st.length 0 (chunk0 st) []) = rp.reverse ++ [cur]:=hch
                    generalize chunkGo st st.length 0 (chunk0 st) [] = p at hgo hce ⊢
                    obtain ⟨cs,a⟩:=p
                    obtain ⟨_,hg2,hg3,hg4,_⟩:=hgo
                    simp only at hg2 hg3 hg4
                    have hpk:pick (some ((i + 1 + a:Nat):Int)) (some (e:Int)) pat = st.drop a:=by
                      have:=pickRel (pat:=pat) (i0:=i + 1) (e:=e) (i:=a) (q:=st.length) (by lia)
                      rw [← hpm] at this
                      rw [show (e:Int) = ((i + 1 + st.length:Nat):Int) by lia,this]
                      unfold cutS
                      exact List.take_of_length_le (by rw [List.length_drop];exact Nat.le_refl _)
                    refine EXs.cons (Γ₁:=Γs (some (B.val (D.int ((i + 1 + a:Nat):Int)))) (some (B.val (D.str st))) (some (B.own (cs.map .str))) (some (B.val (D.int (-1)))) (some (B.val (D.str (st.drop a))))) ?s4 ?r4
                    case s4 =>
                      rw [← hpk]
                      refine' EX.toR ?mm ?mq
                      case mm=>exact EX.assign (EV.sliceS (EV.nm n0 rfl) (PV.some (EV.nm n5 rfl)) (PV.some (EV.nm n8 rfl)) (fun _ _=>rfl)) (AS.nm n12) (fun _=>rfl) (fun _=>rfl) (fun _ _=>rfl)
                      case mq=>rfl
                    have hcl:=tot_len cs
                    refine EXs.cons (Γ₁:=Γs (some (B.val (D.int ((i + 1 + a:Nat):Int)))) (some (B.val (D.str st))) (some (B.own ((rp.reverse ++ [cur]).map .str))) (some (B.val (D.int (-1)))) (some (B.val (D.str (st.drop a))))) ?s5 ?r5
                    case s5 =>
                      rw [← hce]
                      unfold chunksEnd
                      have hcl:(cs.map D.str).length < sizeLine:=by rw [List.length_map];lia
                      by_cases hd:st.drop a = []
                      · have hyn:decide (st.drop a ≠ []) = false:=by simp [hd]
                        rw [if_pos hd]
                        rcases nil_or_snoc cs with rfl | ⟨ini,x,rfl⟩
                        · have:=(hg4 rfl).1
                          rw [this] at hd
                          exact absurd hd (List.ne_nil_of_mem hm)
                        · have il:idx ((ini ++ [x]).map D.str).length (-1) = (ini ++ [x]).length - 1:=by simp [idx];lia
                          have ig:(ini ++ [x]).getD ((ini ++ [x]).length - 1) [] = x:=by simp
                          have hl:=last_item (ini.map D.str) (D.str x)
                          have hl2:((ini ++ [x]).map D.str)[idx ((ini ++ [x]).map D.str).length (-1)]? = some (D.str x):=by rw [List.map_append];exact hl
                          have hxl:=tot_mem (p:=x) (L:=ini ++ [x]) (by simp)
                          have hz:x.length + [45].length≤sizeLine:=by show x.length + 1≤_;lia
                          refine EX.ifF (TV.is (b:=decide (st.drop a ≠ [])) (by exact TV.val tested_Name (EV.nm n12 rfl) OpT.str) hyn) ?_
                          refine EXs.cons (EX.toR (EX.augItem (i:=-1) 10 n10 rfl ?k1 (by simp;lia) (by simp;lia) hl2 ?k2 (Op2.iaddS hz)) ?k3) EXs.nil
                          case k1=>exact EV.un EV.cInt Op1.negI
                          case k2=>exact EV.cS c6 (by decide)
                          case k3 =>
                            simp only at *
                            rw [il,ig,List.map_set];rfl
                      · have hyn:decide (st.drop a ≠ []) = true:=by simp [hd]
                        rw [if_neg hd]
                        rw [List.map_append]
                        refine' EX.toR ?mm ?mq
                        case mm=>exact EX.ifB (TV.borrowN n10 own10 rfl (TV.val tested_Name (EV.nm n12 rfl) OpT.str)) (Or.inl ⟨hyn,EXs.seq (EX.appendN n10 rfl (EV.nm n12 rfl) hcl (fun _=>rfl) rfl (fun _=>rfl)) (Rest.next EXs.nil)⟩)
                        case mq=>rfl
                    let G2:List D→Option B→Ctxt:=fun L bk=>Γs (some (B.val (D.int ((i + 1 + a:Nat):Int)))) (some (B.val (D.str st))) (some (B.own L)) bk (some (B.val (D.str (st.drop a))))
                    have hN:tot rp + (cur.length + 1)≤3000:=by lia
                    refine EXs.merge (N:=3000) (rp:=rp) (cur:=cur) G2 (some (B.val (D.int (-1)))) 11 rfl (fun _ _=>rfl) (EV.borrowR (j:=10) n10 rfl ?it) (fun _ _ _=>AS.nm n11) ?fb hrp hcur hN (by decide) ?after
                    case it =>
                      have hlen:(((rp.reverse ++ [cur]).map D.str).length:Int) - 1 = (rp.length:Int):=by simp
                      rw [← hlen]
                      generalize (rp.reverse ++ [cur]).map D.str = Lc
                      exact EV.call (fun _=>rfl) (Raw.ev g_range) Callee.type (EVs.cons (EV.bin (EV.call (fun _=>rfl) (Raw.ev g_len) Callee.builtin (EVs.cons (EV.nm n10 rfl) EVs.nil (fun _=>rfl)) Ops.lenL) EV.cInt Op2.subI) (EVs.cons EV.cInt (EVs.cons (EV.un EV.cInt Op1.negI) EVs.nil (fun _=>rfl)) (fun _=>rfl)) (fun _=>rfl)) (Ops.range3 (by decide) (by decide))
                    case fb =>
                      intro rp2 a2 cur2 post ha hc hz
                      rcases nil_or_snoc a2 with rfl | ⟨ini,x,rfl⟩
                      · exact absurd rfl ha
                      obtain ⟨y,tl,rfl⟩:∃ y tl,cur2 = y :: tl:=List.exists_cons_of_ne_nil hc
                      have il:(ini ++ [x]).length - 1 = ini.length:=by simp
                      have hx1:(ini ++ [x]).drop ((ini ++ [x]).length - 1) = [x]:=by rw [il];exact List.drop_left
                      have hx2:(ini ++ [x]).take ((ini ++ [x]).length - 1) = ini:=by rw [il];exact List.take_left
                      have hrl:=tot_len rp2
                      have hpl2:=tot_len post
                      simp only [List.length_append,List.length_cons,List.length_nil] at hz
                      obtain ⟨m,hm2⟩:∃ m,m = rp2.length:=⟨_,rfl⟩
                      obtain ⟨Lc,hLc⟩:∃ Lc,Lc = (rp2.reverse ++ (ini ++ [x]) :: (y :: tl) :: post).map D.str:=⟨_,rfl⟩
                      have hLl:Lc.length = m + 2 + post.length:=by rw [hLc];simp;lia
                      have k1:(((m + 1:Nat):Int) - 1) = (m:Int):=by lia
                      have x1:idx Lc.length (((m + 1:Nat):Int) - 1) = m:=by rw [k1];unfold idx;rw [if_neg (by lia)];rfl
                      have x2:idx Lc.length ((m + 1:Nat):Int) = m + 1:=by unfold idx;rw [if_neg (by lia)];rfl
                      have j1:Lc[idx Lc.length (((m + 1:Nat):Int) - 1)]? = some (D.str (ini ++ [x])):=by
                        rw [x1,hLc,List.getElem?_map,List.getElem?_append_right (by simp;lia)];simp [hm2]
                      have j2:Lc[idx Lc.length ((m + 1:Nat):Int)]? = some (D.str (y :: tl)):=by
                        rw [x2,hLc,List.getElem?_map,List.getElem?_append_right (by simp;lia)];simp [hm2]
                      have z1:-(Lc.length:Int)≤((m + 1:Nat):Int) - 1:=by lia
                      have z2:-(Lc.length:Int)≤((m + 1:Nat):Int):=by lia
                      have z1':((m + 1:Nat):Int) - 1 < (Lc.length:Int):=by lia
                      have z2':((m + 1:Nat):Int) < (Lc.length:Int):=by lia
                      have j3:(ini ++ [x])[idx (ini ++ [x]).length (-1)]? = some x:=by
                        have:idx (ini ++ [x]).length (-1) = ini.length:=by simp [idx];lia
                        rw [this];simp
                      have z3:-((ini ++ [x]).length:Int)≤-1:=by simp;lia
                      have j4:(y :: tl)[idx (y :: tl).length 0]? = some y:=rfl
                      have z4:-((y :: tl).length:Int)≤0:=neg_le _ 0
                      have hgt:∀ k,Op2 S k (compareOp .Gt) (.str [x]) (.str [y]) (.bool (decide ([y] < [x]))):=fun k=>Op2.gtS
                      have hin:pick none (some (-1)) (ini ++ [x]) = ini:=by unfold pick kms_lo kms_hi;simp
                      have htl:pick (some 1) none (y :: tl) = tl:=pick_from (y :: tl) 1
                      have ht1:(y :: tl).take 1 = [y]:=rfl
                      have ht2:(y :: tl).drop 1 = tl:=rfl
                      rw [hx1,hx2,ht1,ht2,← hLc,← hm2]
                      by_cases hxy:[y] < [x]
                      · have b1:decide ([y] < [x]) = true:=decide_eq_true hxy
                        rw [if_pos hxy]
                        refine EXs.cons (EX.ifT (TV.is (b:=decide ([y] < [x])) (by exact TV.borrowN n10 own10 rfl (TV.cmp (EV.item (T:="str") (EV.item (T:="list") (EV.nm n10 rfl) (EV.bin (EV.nm n11 rfl) EV.cInt Op2.subI) rfl list_getitem_lookup (Op2.itemL j1 z1) (fun _ _=>rfl)) (EV.un EV.cInt Op1.negI) rfl PySem.F.slot_str_getitem.lookup (Op2.itemS j3 z3) (fun _ _=>rfl)) (EV.item (T:="str") (EV.item (T:="list") (EV.nm n10 rfl) (EV.nm n11 rfl) rfl list_getitem_lookup (Op2.itemL j2 z2) (fun _ _=>rfl)) EV.cInt rfl PySem.F.slot_str_getitem.lookup (Op2.itemS j4 z4) (fun _ _=>rfl)) (by apply_assumption) rfl)) b1) ?blk) EXs.nil
                        case blk =>
                          have hz1:(pick none (some (-1)) (ini ++ [x])).length + (pick (some 1) none (y :: tl)).length≤sizeLine:=by
                            rw [hin,htl];lia
                          refine' EXs.cons (EX.assign (EV.borrowN n10 own10 rfl ?me ?mf) (AS.itemN n10 rfl ?ix z1 z1') ?m1 ?m2 ?m3) ?dd
                          case me=>exact EV.bin (EV.sliceST (EV.item (T:="list") (EV.nm n10 rfl) (EV.bin (EV.nm n11 rfl) EV.cInt Op2.subI) rfl list_getitem_lookup (Op2.itemL j1 z1) (fun _ _=>rfl)) PV.none (PV.some (EV.un EV.cInt Op1.negI))) (EV.sliceST (EV.item (T:="list") (EV.nm n10 rfl) (EV.nm n11 rfl) rfl list_getitem_lookup (Op2.itemL j2 z2) (fun _ _=>rfl)) (PV.some EV.cInt) PV.none) (Op2.addS hz1)
                          case mf=>rfl
                          case ix=>exact EV.bin (EV.nm n11 rfl) EV.cInt Op2.subI
                          case m1=>intro _;rfl
                          case m2=>intro _;rfl
                          case m3=>intro _ _;rfl
                          case dd =>
                            have hls:(Lc.set (idx Lc.length (((m + 1:Nat):Int) - 1)) (D.str (ini ++ tl))).length = Lc.length:=List.length_set
                            have hfin:(Lc.set (idx Lc.length (((m + 1:Nat):Int) - 1)) (D.str (ini ++ tl))).eraseIdx ((m + 1:Nat):Int).toNat = (rp2.reverse ++ (ini ++ tl) :: post).map D.str:=by
                              rw [x1,hLc]
                              exact set_erase _ _ _ _ m (by simp [hm2])
                            rw [hin,htl,← hfin]
                            refine EXs.cons (EX.toR (EX.delItemN (i:=((m + 1:Nat):Int)) n10 rfl ?kk (by lia) (by rw [hls];exact z2')) rfl) EXs.nil
                            case kk=>exact EV.nm n11 rfl
                      · have b1:decide ([y] < [x]) = false:=decide_eq_false hxy
                        rw [if_neg hxy,← hLc]
                        refine EXs.cons (EX.ifF (TV.is (b:=decide ([y] < [x])) (by exact TV.borrowN n10 own10 rfl (TV.cmp (EV.item (T:="str") (EV.item (T:="list") (EV.nm n10 rfl) (EV.bin (EV.nm n11 rfl) EV.cInt Op2.subI) rfl list_getitem_lookup (Op2.itemL j1 z1) (fun _ _=>rfl)) (EV.un EV.cInt Op1.negI) rfl PySem.F.slot_str_getitem.lookup (Op2.itemS j3 z3) (fun _ _=>rfl)) (EV.item (T:="str") (EV.item (T:="list") (EV.nm n10 rfl) (EV.nm n11 rfl) rfl list_getitem_lookup (Op2.itemL j2 z2) (fun _ _=>rfl)) EV.cInt rfl PySem.F.slot_str_getitem.lookup (Op2.itemS j4 z4) (fun _ _=>rfl)) (by apply_assumption) rfl)) b1) ?blk) EXs.nil
                        case blk=>exact EXs.nil
                    case after =>
                      refine EXs.freezeN n10 rfl ?_
                      have hmo:=mergeL_ok (fun _=>True) rp cur [] (fun _ _=>trivial) (fun _ _=>trivial) (fun _ _=>trivial)
                      have ht0:tot ([]:List (List Nat)) = 0:=rfl
                      have hmt:tot (mergeL rp cur [])≤3000:=by lia
                      generalize mergeL rp cur [] = L at hmt ⊢
                      have hml:=tot_len L
                      have hsum:=eltC_sum L
                      refine EXs.cons (EX.assign (EV.joinGen (sep:=[45]) (fn:=eltC) (ps:=L) ?g1 ?g2 hcode hT ?g3 ?g4 ?g5 ?g6 ?g7 ?g8 ?g9 ?g10 ?g11 (by lia) (by lia) ?g13 ?g14 ?g15 ?g16 ?g17) (AS.nm n9) ?g18 ?g19 ?g20) EXs.nil
                      case g1=>assumption
                      case g2=>rw [hsz];decide
                      case g3=>exact hqG
                      case g4=>exact EV.nm n10 rfl
                      case g5=>rfl
                      case g6=>intro _;rfl
                      case g7=>decide
                      case g8=>rfl
                      case g9=>rfl
                      case g10=>rfl
                      case g11 =>
                        intro env C code A' E' b t s₂ m₂ hb _ hns hm ht
                        have hbl:=tot_mem hb
                        have hr1:=replC_len 92 [92,92] b
                        simp only [List.length_cons,List.length_nil] at hr1
                        exact wp_elt2 hns hm rfl rfl (by decide) ht (by assumption) (by assumption) (by decide) (by show b.length * 3≤_;lia) (by assumption) (by assumption) (by decide) (by show _ * 3≤_;lia) rfl rfl
                      case g13=>rfl
                      case g14=>intro _ _;rfl
                      case g15=>intro _;rfl
                      case g16=>intro _;rfl
                      case g17=>intro _;rfl
                      case g18=>intro _;rfl
                      case g19=>intro _;rfl
                      case g20=>intro _ _;rfl
                · have d1:(!decide (45 ∈ st)) = true:=by simp [hm]
                  have hstz:st.length * 4≤sizeLine:=by lia
                  rw [if_neg hm]
                  refine' EX.forgetN 5 (?hE:EX S _ fi_translate _ _ (.next (Γs (some (B.val (D.int ((i + 1:Nat):Int)))) (some (B.val (D.str (replC 92 [92,92] st)))) none none none)))
                  case hE=>exact EX.ifB (TV.borrowN n3 own3 rfl (TV.cmp (EV.cS c6 (by decide)) (EV.nm n9 rfl) Op2.notInS rfl)) (Or.inl ⟨d1,EXs.seq (EX.assign (EV.replaceC (EV.nm n9 rfl) c7 c8 (by decide) (by simp only [List.length_append,List.length_cons,List.length_nil,List.length_map] at *;omega) (fun _=>rfl) rfl) (AS.nm n9) (fun _=>rfl) (fun _=>rfl) (fun _ _=>rfl)) (Rest.next EXs.nil)⟩)
              unfold setItem
              rw [hsti] at hru hrl3 ⊢
              generalize (if 45 ∈ st then joinL [45] ((merged (chunksOf st)).map eltC) else replC 92 [92,92] st) = r0 at hru hrl3 hsl ⊢
              clear hsti
              refine EXs.cons (Γ₁:=Γs none (some (B.val (D.str (subC r0)))) none none none) ?sub ?rests
              case sub =>
                refine' EX.assign (EV.subLam2 g_twin_re_1_fnmatch hpat hcode hT hqL ?sa hsl rfl ?sb) (AS.nm n9) ?s1 ?s2 ?s3
                case sa=>exact EV.nm n9 rfl
                case sb =>
                  intro cv q hq
                  have cb:Cs "\\" [92]:=rfl
                  have ce:Cs "" []:=rfl
                  have nm:Nm (fiL (fi_translate.qual ++ "<lambda>") ⟨.function,[("_m",.local)],false,false,[]⟩ cv "_m" rfl) "_m" 0 .local:=⟨rfl,rfl,by decide,by decide⟩
                  have hg:∀ k:Nat,Ops S k (fun vs=>call (.builtin "re.Match.group") vs) [.abs (MatP r0 48 1 q (q + 1) 0),.int 1] (.str [r0.getD q 0]):=fun k=>Ops.groupI (by lia) (show 2 < 4 by decide) (.inl ⟨rfl,rfl,by rw [cut_one hq]⟩)
                  have ht:decide ([r0.getD q 0] ≠ []) = true:=rfl
                  have hz2:[92].length + [r0.getD q 0].length≤sizeLine:=by show 2≤sizeLine;rw [hsz];decide
                  refine EV.bin (EV.cS cb (by decide)) (EV.boolOp (BV.orB (d:=.str [r0.getD q 0]) ?b1 OpT.str (Or.inl ⟨rfl,rfl⟩))) (Op2.addS hz2)
                  case b1=>exact EV.meth plainAttrs_match slot_match_group type_match_group (EV.nm nm rfl) MatP.ty (EVs.cons EV.cInt EVs.nil (fun _=>rfl)) (by apply_assumption) (fun _=>rfl) rfl (fun _=>rfl)
                case s1=>intro _;rfl
                case s2=>intro _;rfl
                case s3=>intro _ _;rfl
              show EXs _ _ _ [some (B.val (D.str pat)),some (B.val (D.raw .none)),some (B.val (D.int 0)),some (B.own (res.map itD)),some (B.app 3),none,some (B.val (D.int (pat.length:Int))),some (B.val (D.str [91])),some (B.val (D.int (e:Int))),some (B.val (D.str (subC r0))),none,none,none] _ _
              generalize subC r0 = r at hru hrl3 ⊢
              refine EXs.seq (EX.assign (EV.bin (EV.nm n8 rfl) EV.cInt Op2.addI) (AS.nm n5) (fun _=>rfl) (fun _=>rfl) (fun _ _=>rfl)) (Rest.next ?_)
              cases r with
              | nil =>
                have v1:setVar [] = []:=rfl
                have v2:setShown [] = [40,63,33,41]:=rfl
                rw [v1,v2]
                refine' EXs.to ?mm rfl
                case mm=>exact EXs.seq (EX.ifB (TV.borrowN n3 own3 rfl (TV.not (TV.val tested_Name (EV.nm n9 rfl) OpT.str))) (Or.inl ⟨rfl,EXs.seq (EX.appCallN n4 rfl rfl (EV.cS c11 (by decide)) hrl n3 (fun _=>rfl) (fun _=>rfl)) (Rest.next EXs.nil)⟩)) (Rest.next EXs.nil)
              | cons h tl =>
                have e1:(!decide (h :: tl ≠ [])) = false:=by simp
                have h0:(h :: tl)[idx (h :: tl).length 0]? = some h:=rfl
                have z0:-((h :: tl).length:Int)≤0:=neg_le _ 0
                have zpk:=pick_length_le (some 1) none (h :: tl)
                have hpk:pick (some 1) none (h :: tl) = (h :: tl).drop 1:=pick_from (h :: tl) 1
                have hlen:(h :: tl).length≤400000:=hrl3
                by_cases e2:h :: tl = [33]
                · have e3:(h :: tl == [33]) = true:=by simp only [beq_iff_eq];exact e2
                  have v1:setVar (h :: tl) = h :: tl:=by unfold setVar;rw [if_pos (.inr e2)]
                  have v2:setShown (h :: tl) = [46]:=by unfold setShown;rw [if_neg (by simp),if_pos e2]
                  rw [v1,v2]
                  refine' EXs.to ?mm rfl
                  case mm=>exact EXs.seq (EX.ifB (TV.borrowN n3 own3 rfl (TV.not (TV.val tested_Name (EV.nm n9 rfl) OpT.str))) (Or.inr ⟨e1,EXs.seq (EX.ifB (TV.borrowN n3 own3 rfl (TV.cmp (EV.nm n9 rfl) (EV.cS c3 (by decide)) Op2.eqS rfl)) (Or.inl ⟨e3,EXs.seq (EX.appCallN n4 rfl rfl (EV.cS c12 (by decide)) hrl n3 (fun _=>rfl) (fun _=>rfl)) (Rest.next EXs.nil)⟩)) (Rest.next EXs.nil)⟩)) (Rest.next EXs.nil)
                · have e3:(h :: tl == [33]) = false:=by simp only [beq_eq_false_iff_ne];exact e2
                  have v2:setShown (h :: tl) = [91] ++ setVar (h :: tl) ++ [93]:=by unfold setShown;rw [if_neg (by simp),if_neg e2]
                  rw [v2]
                  have v3:setVar (h :: tl) = if h = 33 then [94] ++ (h :: tl).drop 1 else if h = 94 ∨ h = 91 then [92] ++ (h :: tl) else h :: tl:=by
                    unfold setVar
                    rw [if_neg (by simp only [not_or];exact ⟨by simp,e2⟩)]
                    simp only [List.head?_cons,Option.some.injEq]
                  clear v2 hlen
                  have hlen:(h :: tl).length≤400000:=hrl3
                  by_cases e4:h = 33
                  · have e5:([h] == [33]) = true:=by simp [e4]
                    rw [if_pos e4,← hpk] at v3
                    have zz:[91].length + ([94] ++ pick (some 1) none (h :: tl)).length + [93].length≤sizeLine:=by simp at zpk hlen ⊢;lia
                    rw [v3]
                    refine' EXs.to ?mm rfl
                    case mm=>exact EXs.seq (EX.ifB (TV.borrowN n3 own3 rfl (TV.not (TV.val tested_Name (EV.nm n9 rfl) OpT.str))) (Or.inr ⟨e1,EXs.seq (EX.ifB (TV.borrowN n3 own3 rfl (TV.cmp (EV.nm n9 rfl) (EV.cS c3 (by decide)) Op2.eqS rfl)) (Or.inr ⟨e3,EXs.seq (EX.ifB (TV.borrowN n3 own3 rfl (TV.cmp (EV.item (T:="str") (EV.nm n9 rfl) EV.cInt rfl PySem.F.slot_str_getitem.lookup (Op2.itemS h0 z0) (fun _ _=>rfl)) (EV.cS c3 (by decide)) Op2.eqS rfl)) (Or.inl ⟨e5,EXs.seq (EX.assign (EV.bin (EV.cS c13 (by decide)) (EV.sliceS (EV.nm n9 rfl) (PV.some EV.cInt) PV.none (fun _ _=>rfl)) (Op2.addS (by simp only [List.length_append,List.length_cons,List.length_nil,List.length_map] at *;omega))) (AS.nm n9) (fun _=>rfl) (fun _=>rfl) (fun _ _=>rfl)) (Rest.next EXs.nil)⟩)) (Rest.next (EXs.seq (EX.appCallN n4 rfl rfl (EV.fstr3 c2 c4 (EV.nm n9 rfl) zz) hrl n3 (fun _=>rfl) (fun _=>rfl)) (Rest.next EXs.nil)))⟩)) (Rest.next EXs.nil)⟩)) (Rest.next EXs.nil)
                  · have e5:([h] == [33]) = false:=by simp [e4]
                    rw [if_neg e4] at v3
                    have e7:∀ k:Nat,Op2 S k (compareOp .In) (.str [h]) (.tup [.str [94],.str [91]]) (.bool (decide (h = 94 ∨ h = 91))):=by
                      intro k
                      have ho:okC [h] = true:=by
                        have:=hru h (.head _)
                        simp [okC];lia
                      exact bool_any (P:=fun b=>Op2 S k (compareOp .In) (.str [h]) (.tup [.str [94],.str [91]]) (.bool b)) (by simp) (Op2.inT (m:=true) ho (by intro e he;simp at he;rcases he with rfl | rfl <;> decide))
                    by_cases e6:h = 94 ∨ h = 91
                    · rw [if_pos e6] at v3
                      rw [decide_eq_true e6] at e7
                      have zz:[91].length + ([92] ++ h :: tl).length + [93].length≤sizeLine:=by simp at hlen ⊢;lia
                      rw [v3]
                      refine' EXs.to ?mm rfl
                      case mm=>exact EXs.seq (EX.ifB (TV.borrowN n3 own3 rfl (TV.not (TV.val tested_Name (EV.nm n9 rfl) OpT.str))) (Or.inr ⟨e1,EXs.seq (EX.ifB (TV.borrowN n3 own3 rfl (TV.cmp (EV.nm n9 rfl) (EV.cS c3 (by decide)) Op2.eqS rfl)) (Or.inr ⟨e3,EXs.seq (EX.ifB (TV.borrowN n3 own3 rfl (TV.cmp (EV.item (T:="str") (EV.nm n9 rfl) EV.cInt rfl PySem.F.slot_str_getitem.lookup (Op2.itemS h0 z0) (fun _ _=>rfl)) (EV.cS c3 (by decide)) Op2.eqS rfl)) (Or.inr ⟨e5,EXs.seq (EX.ifB (TV.borrowN n3 own3 rfl (TV.cmp (EV.item (T:="str") (EV.nm n9 rfl) EV.cInt rfl PySem.F.slot_str_getitem.lookup (Op2.itemS h0 z0) (fun _ _=>rfl)) (EV.tup (EVs.cons (EV.cS c13 (by decide)) (EVs.cons (EV.cS c2 (by decide)) EVs.nil (fun _=>rfl)) (fun _=>rfl)) (by (simp only [List.length_cons,List.length_nil]);decide)) (by apply_assumption) rfl)) (Or.inl ⟨rfl,EXs.seq (EX.assign (EV.bin (EV.cS c7 (by decide)) (EV.nm n9 rfl) (Op2.addS (by simp only [List.length_append,List.length_cons,List.length_nil,List.length_map] at *;omega))) (AS.nm n9) (fun _=>rfl) (fun _=>rfl) (fun _ _=>rfl)) (Rest.next EXs.nil)⟩)) (Rest.next EXs.nil)⟩)) (Rest.next (EXs.seq (EX.appCallN n4 rfl rfl (EV.fstr3 c2 c4 (EV.nm n9 rfl) zz) hrl n3 (fun _=>rfl) (fun _=>rfl)) (Rest.next EXs.nil)))⟩)) (Rest.next EXs.nil)⟩)) (Rest.next EXs.nil)
                    · rw [if_neg e6] at v3
                      rw [decide_eq_false e6] at e7
                      have zz:[91].length + (h :: tl).length + [93].length≤sizeLine:=by simp at hlen ⊢;lia
                      rw [v3]
                      refine' EXs.to ?mm rfl
                      case mm=>exact EXs.seq (EX.ifB (TV.borrowN n3 own3 rfl (TV.not (TV.val tested_Name (EV.nm n9 rfl) OpT.str))) (Or.inr ⟨e1,EXs.seq (EX.ifB (TV.borrowN n3 own3 rfl (TV.cmp (EV.nm n9 rfl) (EV.cS c3 (by decide)) Op2.eqS rfl)) (Or.inr ⟨e3,EXs.seq (EX.ifB (TV.borrowN n3 own3 rfl (TV.cmp (EV.item (T:="str") (EV.nm n9 rfl) EV.cInt rfl PySem.F.slot_str_getitem.lookup (Op2.itemS h0 z0) (fun _ _=>rfl)) (EV.cS c3 (by decide)) Op2.eqS rfl)) (Or.inr ⟨e5,EXs.seq (EX.ifB (TV.borrowN n3 own3 rfl (TV.cmp (EV.item (T:="str") (EV.nm n9 rfl) EV.cInt rfl PySem.F.slot_str_getitem.lookup (Op2.itemS h0 z0) (fun _ _=>rfl)) (EV.tup (EVs.cons (EV.cS c13 (by decide)) (EVs.cons (EV.cS c2 (by decide)) EVs.nil (fun _=>rfl)) (fun _=>rfl)) (by (simp only [List.length_cons,List.length_nil]);decide)) (by apply_assumption) rfl)) (Or.inr ⟨rfl,EXs.nil⟩)) (Rest.next EXs.nil)⟩)) (Rest.next (EXs.seq (EX.appCallN n4 rfl rfl (EV.fstr3 c2 c4 (EV.nm n9 rfl) zz) hrl n3 (fun _=>rfl) (fun _=>rfl)) (Rest.next EXs.nil)))⟩)) (Rest.next EXs.nil)⟩)) (Rest.next EXs.nil)
        · rw [if_neg c91]
          have b91:([c] == [91]) = false:=by simp [c91]
          refine ⟨(some (B.val (D.str [c])),t2,t3),Or.inl ?_⟩
          simp only [List.map_append,List.map_cons,List.map_nil,← hcast,itD]
          refine' EXs.to ?mm rfl
          case mm=>exact EXs.seq (EX.assign (EV.item (T:="str") (EV.nm n0 rfl) (EV.nm n5 rfl) rfl PySem.F.slot_str_getitem.lookup (Op2.itemS hi0 zi) (fun _ _=>rfl)) (AS.nm n7) (fun _=>rfl) (fun _=>rfl) (fun _ _=>rfl)) (Rest.next (EXs.seq (EX.assign (EV.bin (EV.nm n5 rfl) EV.cInt Op2.addI) (AS.nm n5) (fun _=>rfl) (fun _=>rfl) (fun _ _=>rfl)) (Rest.next (EXs.seq (EX.ifB (TV.borrowN n3 own3 rfl (TV.cmp (EV.nm n7 rfl) (EV.cS c0 (by decide)) Op2.eqS rfl)) (Or.inr ⟨b42,EXs.seq (EX.ifB (TV.borrowN n3 own3 rfl (TV.cmp (EV.nm n7 rfl) (EV.cS c1 (by decide)) Op2.eqS rfl)) (Or.inr ⟨b63,EXs.seq (EX.ifB (TV.borrowN n3 own3 rfl (TV.cmp (EV.nm n7 rfl) (EV.cS c2 (by decide)) Op2.eqS rfl)) (Or.inr ⟨b91,EXs.seq (EX.appCallN n4 rfl rfl (EV.call (fun _=>rfl) (Raw.ev g_escape) k_escape (EVs.cons (EV.nm n7 rfl) EVs.nil (fun _=>rfl)) (by apply_assumption)) hrl n3 (fun _=>rfl) (fun _=>rfl)) (Rest.next EXs.nil)⟩)) (Rest.next EXs.nil)⟩)) (Rest.next EXs.nil)⟩)) (Rest.next EXs.nil)))))
  · intro t' hc hI
    show EXs _ _ _ _ _ (.ret (.list ((looped (trGo pat) (trStep pat) pat.length ([],0)).1.map itD)))
    generalize looped (trGo pat) (trStep pat) pat.length ([],0) = fin at hc hI ⊢
    have e:((fin.2:Int) == (pat.length:Int)) = true:=by
      simp only [trGo,decide_eq_false_iff_not] at hc
      simp;lia
    refine EXs.cons (EX.assert (TV.is (b:=((fin.2:Int) == (pat.length:Int))) (by exact TV.cmp (EV.nm n5 rfl) (EV.nm n6 rfl) Op2.eqI rfl) e)) ?_
    refine EXs.freezeN n3 rfl ?_
    dsimp only [List.set_cons_zero,List.set_cons_succ]
    refine' EXs.to ?mm rfl
    case mm=>exact EXs.seq (EX.ret (EV.nm n3 rfl)) (Rest.stop rfl rfl)
omit hK in
theorem fmod_nat (n:Int) (m:Nat) (h:0 < m):∃ c:Nat,n.fmod (m:Int) = (c:Int)∧c < m:=by
  have h1:=Int.fmod_nonneg_of_pos n (show 0 < (m:Int) by lia)
  have h2:=Int.fmod_lt_of_pos n (show 0 < (m:Int) by lia)
  exact ⟨(n.fmod (m:Int)).toNat,by lia,by lia⟩
noncomputable def signs:List Nat:=[91,91,91,91,93,93,93,93,42,42,63,33,45,94,92,38,97,46,98,126]
omit hK in
theorem signs_ok:∀ i:Fin 20,signs.getD i.val 0 ≠ 10∧signs.getD i.val 0 < 0x110000:=by decide
theorem law_sign_lo {k kd:Nat} {n:Int} (hkd:n.fmod 24 = (kd:Int)) (h20:kd < 20):Ops S (k + 1) (fun vs=>call (.ref 74) vs) [.int n] (.str [signs.getD kd 0]):=by
  have n0:=@n_law_sign_0
  have n1:=@n_law_sign_1
  have n2:=@n_law_sign_2
  have n3:=@n_law_sign_3
  have g_chr:=g_law_sign_chr hK
  have c0:Cs "[[[[]]]]**?!-^\\&a.b~" [91,91,91,91,93,93,93,93,42,42,63,33,45,94,92,38,97,46,98,126]:=rfl
  have c1:Cs "\n" [10]:=rfl
  have c2:Cs "a" [97]:=rfl
  refine Fn.intro (f:=fi_law_sign) hK.fn_law_sign rfl ?_
  show EXs S _ fi_law_sign [some (B.val _),none,none,none] _ _
  conv=>arg 5;whnf
  have q1:decide (n.fmod 24 < 20) = true:=by rw [hkd];simp;lia
  have hl:signs.length = 20:=rfl
  have hi:signs[idx signs.length (n.fmod 24)]? = some (signs.getD kd 0):=by
    have:idx signs.length (n.fmod 24) = kd:=by rw [hkd];unfold idx;rw [if_neg (by lia)];rfl
    rw [this,List.getD_eq_getElem?_getD,List.getElem?_eq_getElem (by rw [hl];exact h20)];rfl
  have zi:-(signs.length:Int)≤n.fmod 24:=by rw [hkd];lia
  have n24:(24:Int) ≠ 0:=by decide
  have cs:Cs "[[[[]]]]**?!-^\\&a.b~" signs:=rfl
  refine' EXs.to ?mm rfl
  case mm=>exact EXs.seq (EX.assign (EV.bin (EV.nm n0 rfl) EV.cInt (Op2.modI n24 (by decide))) (AS.nm n1) (fun _=>rfl) (fun _=>rfl) (fun _ _=>rfl)) (Rest.next (EXs.seq (EX.ifB (TV.cmp (EV.nm n1 rfl) EV.cInt Op2.ltI rfl) (Or.inl ⟨q1,EXs.seq (EX.ret (EV.item (T:="str") (EV.cS cs (by decide)) (EV.nm n1 rfl) rfl PySem.F.slot_str_getitem.lookup (Op2.itemS hi zi) (fun _ _=>rfl))) (Rest.stop rfl rfl)⟩)) (Rest.stop rfl rfl)))
theorem law_sign_hi {k kd cd ch:Nat} {n:Int} (hkd:n.fmod 24 = (kd:Int)) (h20:¬ kd < 20) (hcd:(n.fdiv 24).fmod 1112064 = (cd:Int)) (hcl:cd < 1112064) (hch:ch = if cd < 55296 then cd else cd + 2048):Ops S (k + 1) (fun vs=>call (.ref 74) vs) [.int n] (.str [if ch = 10 then 97 else ch]):=by
  have n0:=@n_law_sign_0
  have n1:=@n_law_sign_1
  have n2:=@n_law_sign_2
  have n3:=@n_law_sign_3
  have g_chr:=g_law_sign_chr hK
  have c0:Cs "[[[[]]]]**?!-^\\&a.b~" [91,91,91,91,93,93,93,93,42,42,63,33,45,94,92,38,97,46,98,126]:=rfl
  have c1:Cs "\n" [10]:=rfl
  have c2:Cs "a" [97]:=rfl
  refine Fn.intro (f:=fi_law_sign) hK.fn_law_sign rfl ?_
  show EXs S _ fi_law_sign [some (B.val _),none,none,none] _ _
  conv=>arg 5;whnf
  have q1:decide (n.fmod 24 < 20) = false:=by rw [hkd];simp;lia
  have n24:(24:Int) ≠ 0:=by decide
  have nM:(1112064:Int) ≠ 0:=by decide
  by_cases h1:cd < 55296
  · rw [if_pos h1] at hch
    have q2:decide ((n.fdiv 24).fmod 1112064 < 55296) = true:=by rw [hcd];simp;lia
    have hck:∀ k,Ops S k (fun vs=>call (.builtin "chr") vs) [.int ((n.fdiv 24).fmod 1112064)] (.str [ch]):=fun k=>by
      have h:=Ops.chr (S:=S) (k:=k) (i:=(cd:Int)) (by simp;lia)
      rw [Int.toNat_natCast] at h;rw [hcd,hch];exact h
    by_cases h2:ch = 10
    · rw [if_pos h2]
      have b2:([ch] == [10]) = true:=by simp [h2]
      refine' EXs.to ?mm rfl
      case mm=>exact EXs.seq (EX.assign (EV.bin (EV.nm n0 rfl) EV.cInt (Op2.modI n24 (by decide))) (AS.nm n1) (fun _=>rfl) (fun _=>rfl) (fun _ _=>rfl)) (Rest.next (EXs.seq (EX.ifB (TV.cmp (EV.nm n1 rfl) EV.cInt Op2.ltI rfl) (Or.inr ⟨q1,EXs.nil⟩)) (Rest.next (EXs.seq (EX.assign (EV.bin (EV.bin (EV.nm n0 rfl) EV.cInt (Op2.idivI n24 (by decide))) EV.cInt (Op2.modI nM (by decide))) (AS.nm n2) (fun _=>rfl) (fun _=>rfl) (fun _ _=>rfl)) (Rest.next (EXs.seq (EX.assign (EV.call (fun _=>rfl) (Raw.ev g_chr) Callee.builtin (EVs.cons (EV.ifB (TV.cmp (EV.nm n2 rfl) EV.cInt Op2.ltI rfl) (Or.inl ⟨q2,EV.nm n2 rfl⟩)) EVs.nil (fun _=>rfl)) (by apply_assumption)) (AS.nm n3) (fun _=>rfl) (fun _=>rfl) (fun _ _=>rfl)) (Rest.next (EXs.seq (EX.ret (EV.ifB (TV.cmp (EV.nm n3 rfl) (EV.cS c1 (by decide)) Op2.eqS rfl) (Or.inl ⟨b2,EV.cS c2 (by decide)⟩))) (Rest.stop rfl rfl)))))))))
    · rw [if_neg h2]
      have b2:([ch] == [10]) = false:=by simp [h2]
      refine' EXs.to ?mm rfl
      case mm=>exact EXs.seq (EX.assign (EV.bin (EV.nm n0 rfl) EV.cInt (Op2.modI n24 (by decide))) (AS.nm n1) (fun _=>rfl) (fun _=>rfl) (fun _ _=>rfl)) (Rest.next (EXs.seq (EX.ifB (TV.cmp (EV.nm n1 rfl) EV.cInt Op2.ltI rfl) (Or.inr ⟨q1,EXs.nil⟩)) (Rest.next (EXs.seq (EX.assign (EV.bin (EV.bin (EV.nm n0 rfl) EV.cInt (Op2.idivI n24 (by decide))) EV.cInt (Op2.modI nM (by decide))) (AS.nm n2) (fun _=>rfl) (fun _=>rfl) (fun _ _=>rfl)) (Rest.next (EXs.seq (EX.assign (EV.call (fun _=>rfl) (Raw.ev g_chr) Callee.builtin (EVs.cons (EV.ifB (TV.cmp (EV.nm n2 rfl) EV.cInt Op2.ltI rfl) (Or.inl ⟨q2,EV.nm n2 rfl⟩)) EVs.nil (fun _=>rfl)) (by apply_assumption)) (AS.nm n3) (fun _=>rfl) (fun _=>rfl) (fun _ _=>rfl)) (Rest.next (EXs.seq (EX.ret (EV.ifB (TV.cmp (EV.nm n3 rfl) (EV.cS c1 (by decide)) Op2.eqS rfl) (Or.inr ⟨b2,EV.nm n3 rfl⟩))) (Rest.stop rfl rfl)))))))))
  · rw [if_neg h1] at hch
    have q2:decide ((n.fdiv 24).fmod 1112064 < 55296) = false:=by rw [hcd];simp;lia
    have hck:∀ k,Ops S k (fun vs=>call (.builtin "chr") vs) [.int ((n.fdiv 24).fmod 1112064 + 2048)] (.str [ch]):=fun k=>by
      have h:=Ops.chr (S:=S) (k:=k) (i:=((cd + 2048:Nat):Int)) (by simp;lia)
      rw [Int.toNat_natCast] at h;rw [hcd,hch];exact h
    by_cases h2:ch = 10
    · rw [if_pos h2]
      have b2:([ch] == [10]) = true:=by simp [h2]
      refine' EXs.to ?mm rfl
      case mm=>exact EXs.seq (EX.assign (EV.bin (EV.nm n0 rfl) EV.cInt (Op2.modI n24 (by decide))) (AS.nm n1) (fun _=>rfl) (fun _=>rfl) (fun _ _=>rfl)) (Rest.next (EXs.seq (EX.ifB (TV.cmp (EV.nm n1 rfl) EV.cInt Op2.ltI rfl) (Or.inr ⟨q1,EXs.nil⟩)) (Rest.next (EXs.seq (EX.assign (EV.bin (EV.bin (EV.nm n0 rfl) EV.cInt (Op2.idivI n24 (by decide))) EV.cInt (Op2.modI nM (by decide))) (AS.nm n2) (fun _=>rfl) (fun _=>rfl) (fun _ _=>rfl)) (Rest.next (EXs.seq (EX.assign (EV.call (fun _=>rfl) (Raw.ev g_chr) Callee.builtin (EVs.cons (EV.ifB (TV.cmp (EV.nm n2 rfl) EV.cInt Op2.ltI rfl) (Or.inr ⟨q2,EV.bin (EV.nm n2 rfl) EV.cInt Op2.addI⟩)) EVs.nil (fun _=>rfl)) (by apply_assumption)) (AS.nm n3) (fun _=>rfl) (fun _=>rfl) (fun _ _=>rfl)) (Rest.next (EXs.seq (EX.ret (EV.ifB (TV.cmp (EV.nm n3 rfl) (EV.cS c1 (by decide)) Op2.eqS rfl) (Or.inl ⟨b2,EV.cS c2 (by decide)⟩))) (Rest.stop rfl rfl)))))))))
    · rw [if_neg h2]
      have b2:([ch] == [10]) = false:=by simp [h2]
      refine' EXs.to ?mm rfl
      case mm=>exact EXs.seq (EX.assign (EV.bin (EV.nm n0 rfl) EV.cInt (Op2.modI n24 (by decide))) (AS.nm n1) (fun _=>rfl) (fun _=>rfl) (fun _ _=>rfl)) (Rest.next (EXs.seq (EX.ifB (TV.cmp (EV.nm n1 rfl) EV.cInt Op2.ltI rfl) (Or.inr ⟨q1,EXs.nil⟩)) (Rest.next (EXs.seq (EX.assign (EV.bin (EV.bin (EV.nm n0 rfl) EV.cInt (Op2.idivI n24 (by decide))) EV.cInt (Op2.modI nM (by decide))) (AS.nm n2) (fun _=>rfl) (fun _=>rfl) (fun _ _=>rfl)) (Rest.next (EXs.seq (EX.assign (EV.call (fun _=>rfl) (Raw.ev g_chr) Callee.builtin (EVs.cons (EV.ifB (TV.cmp (EV.nm n2 rfl) EV.cInt Op2.ltI rfl) (Or.inr ⟨q2,EV.bin (EV.nm n2 rfl) EV.cInt Op2.addI⟩)) EVs.nil (fun _=>rfl)) (by apply_assumption)) (AS.nm n3) (fun _=>rfl) (fun _=>rfl) (fun _ _=>rfl)) (Rest.next (EXs.seq (EX.ret (EV.ifB (TV.cmp (EV.nm n3 rfl) (EV.cS c1 (by decide)) Op2.eqS rfl) (Or.inr ⟨b2,EV.nm n3 rfl⟩))) (Rest.stop rfl rfl)))))))))
theorem law_sign_ok (n:Int):∃ c,c ≠ 10∧c < 0x110000∧∀ k,Ops S (k + 1) (fun vs=>call (.ref 74) vs) [.int n] (.str [c]):=by
  obtain ⟨kd,hkd,hkl⟩:=fmod_nat n 24 (by decide)
  by_cases h20:kd < 20
  · exact ⟨signs.getD kd 0,(signs_ok ⟨kd,h20⟩).1,(signs_ok ⟨kd,h20⟩).2,fun k=>law_sign_lo hK hkd h20⟩
  · obtain ⟨cd,hcd,hcl⟩:=fmod_nat (n.fdiv 24) 1112064 (by decide)
    obtain ⟨ch,hch⟩:∃ ch,ch = if cd < 55296 then cd else cd + 2048:=⟨_,rfl⟩
    have hl:ch < 0x110000:=by split at hch <;> lia
    refine ⟨if ch = 10 then 97 else ch,by split <;> lia,by split <;> lia,fun k=>law_sign_hi hK hkd h20 hcd hcl hch⟩
set_option maxHeartbeats 4000000 in
theorem law_read_ok {k:Nat} {cs:List Nat} (hz:cs.length≤100000) (h10:10 ∉ cs) (hL:flatR (sepL cs.length cs) = cs) (hP:∀ q ∈ sepL cs.length cs,PieceOk q):XOps S (k + 3) (fun vs=>call (.ref 81) vs) [.str cs] (.list (rowD (sepL cs.length cs))):=by
  have n0:=@n_law_read_0
  have n1:=@n_law_read_1
  have n2:=@n_law_read_2
  have n3:=@n_law_read_3
  have n4:=@n_law_read_4
  have g_separate:=g_law_read_separate hK
  have k_separate:=hK.cal_separate
  have c0:Cs "set" [115,101,116]:=rfl
  have c1:Cs "[" [91]:=rfl
  have c2:Cs "open" [111,112,101,110]:=rfl
  have c3:Cs "run" [114,117,110]:=rfl
  refine Fn.introX (f:=fi_law_read) hK.fn_law_read rfl ?_
  show XXs S _ fi_law_read [some (B.val _),none,none,none,none] _ _
  conv=>arg 5;whnf
  have hsz:=sizeLine_eq
  have hv:solid Value.none = true:=rfl
  have own1:OwnV fi_law_read 1:=.intro
  refine XXs.ex (Γ₁:=[some (B.val (.str cs)),some (B.own []),none,none,none]) ?s1 ?_
  case s1 =>
    refine' EX.toR ?mm ?mq
    case mm=>exact EX.ownN n1 own1 EVs.nil rfl (by (simp only [List.length_cons,List.length_nil]);decide) (Nat.le_of_ble_eq_true rfl) (fun _=>rfl) (fun _=>rfl)
    case mq=>rfl
  refine XXs.find (τ:=Option B × Option B × Option B) (fun L t=>[some (B.val (.str cs)),some (B.own (rowD L)),t.1,t.2.1,t.2.2]) (none,none,none) rfl (GoX.find (fun _=>rfl) (Raw.ev g_separate) k_separate ?a1 hK.fn_separate (g_separate_twin_re_1_glob hK) rfl (EV.nm n_separate_0 rfl) hK.pat_twin_re_1_glob hz h10) hL hP ?hb ?hr
  case a1=>exact EVs.cons (EV.nm n0 rfl) EVs.nil (fun _=>rfl)
  case hb =>
    intro done p x g t hcut hpc hdl
    have hr:rowD (done ++ [(g,x)]) = rowD done ++ [.tup [.str (kN g),.str x]]:=by unfold rowD;rw [List.map_append];rfl
    have hml:(rowD done).length < sizeLine:=by unfold rowD;rw [List.length_map];lia
    have hg3:g < 3:=by rcases hpc with ⟨h,_⟩ | ⟨h,_⟩ | ⟨h,_⟩ <;> simp only at h <;> lia
    have hg0:∀ k,Ops S k (fun vs=>call (.builtin "re.Match.group") vs) [.abs (MatP cs 36 3 p (p + x.length) g),.int 0] (.str x):=fun k=>Ops.groupI (i:=0) (by lia) (by rcases (by lia:g = 0 ∨ g = 1 ∨ g = 2) with rfl | rfl | rfl <;> (show 0 < 8;decide)) (.inl ⟨rfl,rfl,by rw [hcut]⟩)
    have hgS:∀ k,Ops S k (fun vs=>call (.builtin "re.Match.group") vs) [.abs (MatP cs 36 3 p (p + x.length) g),.str [115,101,116]] (if g = 1 then .str x else .raw .none):=fun k=>Ops.groupS hK.pat_twin_re_1_glob (by lia) hg3 (by rw [hcut])
    rw [hr]
    obtain ⟨h,tl,rfl⟩:∃ h tl,x = h :: tl:=by
      refine List.exists_cons_of_ne_nil ?_
      rcases hpc with ⟨_,h,_⟩ | ⟨_,b,h,_⟩ | ⟨_,b,h,_⟩
      · exact h
      · simp only at h;rw [h];exact List.cons_ne_nil _ _
      · simp only at h;rw [h];exact List.cons_ne_nil _ _
    have h0:(h :: tl)[idx (h :: tl).length 0]? = some h:=rfl
    have z0:-((h :: tl).length:Int)≤0:=neg_le _ 0
    by_cases g1:g = 1
    · have hk:kN g = [115,101,116]:=by unfold kN;rw [if_pos g1]
      rw [hk]
      rw [if_pos g1] at hgS
      refine ⟨_,(some (B.val (.abs (MatP cs 36 3 p (p + (h :: tl).length) g))),some (B.val (.str (h :: tl))),some (B.val (.str (h :: tl)))),AS.nm n2,?_⟩
      refine' EXs.to ?mm rfl
      case mm=>exact EXs.seq (EX.assign (EV.meth plainAttrs_match slot_match_group type_match_group (EV.nm n2 rfl) MatP.ty (EVs.cons EV.cInt EVs.nil (fun _=>rfl)) (by apply_assumption) (fun _=>rfl) rfl (fun _=>rfl)) (AS.nm n3) (fun _=>rfl) (fun _=>rfl) (fun _ _=>rfl)) (Rest.next (EXs.seq (EX.assign (EV.meth plainAttrs_match slot_match_group type_match_group (EV.nm n2 rfl) MatP.ty (EVs.cons (EV.cS c0 (by decide)) EVs.nil (fun _=>rfl)) (by apply_assumption) (fun _=>rfl) rfl (fun _=>rfl)) (AS.nm n4) (fun _=>rfl) (fun _=>rfl) (fun _ _=>rfl)) (Rest.next (EXs.seq (EX.ifB (TV.borrowN n1 own1 rfl (TV.cmp (EV.nm n4 rfl) EV.cNone (Op2.isNotOtherS hv) rfl)) (Or.inl ⟨rfl,EXs.seq (EX.appendN n1 rfl (EV.tup (EVs.cons (EV.cS c0 (by decide)) (EVs.cons (EV.nm n4 rfl) EVs.nil (fun _=>rfl)) (fun _=>rfl)) (by (simp only [List.length_cons,List.length_nil]);decide)) hml (fun _=>rfl) rfl (fun _=>rfl)) (Rest.next EXs.nil)⟩)) (Rest.next EXs.nil)))))
    · rw [if_neg g1] at hgS
      by_cases h91:h = 91
      · have hk:kN g = [111,112,101,110]:=by
          unfold kN;rw [if_neg g1,if_pos]
          rcases hpc with ⟨_,_,h2⟩ | ⟨h2,_⟩ | ⟨h2,_⟩
          · exact absurd (h91 ▸ List.mem_cons_self ..) h2
          · exact absurd h2 g1
          · exact h2
        have b1:([h] == [91]) = true:=by simp [h91]
        rw [hk]
        refine ⟨_,(some (B.val (.abs (MatP cs 36 3 p (p + (h :: tl).length) g))),some (B.val (.str (h :: tl))),some (B.val (.raw .none))),AS.nm n2,?_⟩
        refine' EXs.to ?mm rfl
        case mm=>((refine' EXs.seq ?max1 ?mrx1;(case max1=>((refine' EX.assign ?mex2 ?max2 ?m1x2 ?m2x2 ?m3x2;(case mex2=>((refine' EV.meth plainAttrs_match slot_match_group type_match_group ?mox3 ?mtx3 ?max3 ?mpx3 ?m1x3 ?m2x3 ?m3x3;(case mox3=>(((refine' EV.nm ?mnx4 ?mlx4;(case mnx4=>with_reducible assumption);(case mlx4=>rfl)))));(case mtx3=>exact MatP.ty);(case max3=>((refine' EVs.cons ?mhx5 ?mtx5 ?msx5;(case mhx5=>(with_reducible exact EV.cInt));(case mtx5=>(with_reducible exact EVs.nil));(case msx5=>intro _;rfl))));(case mpx3=>apply_assumption);(case m1x3=>intro _;rfl);(case m2x3=>rfl);(case m3x3=>intro _;rfl))));(case max2=>((refine' AS.nm ?mnx8;(case mnx8=>with_reducible assumption))));(case m1x2=>intro _;rfl);(case m2x2=>intro _;rfl);(case m3x2=>intro _ _;rfl))));(case mrx1=>((refine' Rest.next ?max9;(case max9=>((refine' EXs.seq ?max10 ?mrx10;(case max10=>((refine' EX.assign ?mex11 ?max11 ?m1x11 ?m2x11 ?m3x11;(case mex11=>((refine' EV.meth plainAttrs_match slot_match_group type_match_group ?mox12 ?mtx12 ?max12 ?mpx12 ?m1x12 ?m2x12 ?m3x12;(case mox12=>(((refine' EV.nm ?mnx13 ?mlx13;(case mnx13=>with_reducible assumption);(case mlx13=>rfl)))));(case mtx12=>exact MatP.ty);(case max12=>((refine' EVs.cons ?mhx14 ?mtx14 ?msx14;(case mhx14=>(((with_reducible refine' EV.cS ?mcx15 ?mlx15);(case mcx15=>with_reducible assumption);(case mlx15=>decide))));(case mtx14=>(with_reducible exact EVs.nil));(case msx14=>intro _;rfl))));(case mpx12=>apply_assumption);(case m1x12=>intro _;rfl);(case m2x12=>rfl);(case m3x12=>intro _;rfl))));(case max11=>((refine' AS.nm ?mnx17;(case mnx17=>with_reducible assumption))));(case m1x11=>intro _;rfl);(case m2x11=>intro _;rfl);(case m3x11=>intro _ _;rfl))));(case mrx10=>((refine' Rest.next ?max18;(case max18=>((refine' EXs.seq ?max19 ?mrx19;(case max19=>((refine' EX.ifB ?mcx20 ?mbx20;(case mcx20=>(((refine' TV.borrowN ?mnx21 ?mox21 ?mlx21 ?mhx21;(case mox21=>with_reducible assumption);(case mnx21=>with_reducible assumption);(case mlx21=>rfl));(case mhx21=>(try dsimp only [List.set_cons_zero,List.set_cons_succ]);((refine' TV.cmp ?max22 ?mbx22 ?mox22 ?mmx22;(case max22=>(((refine' EV.nm ?mnx23 ?mlx23;(case mnx23=>with_reducible assumption);(case mlx23=>rfl)))));(case mbx22=>(with_reducible exact EV.cNone));(case mox22=>(((with_reducible apply Op2.isNotSelf);((with_reducible assumption)))));(case mmx22=>rfl)))))));(case mbx20=>(((((refine' Or.inr (And.intro ?mbx28 ?mox28);(case mbx28=>((with_reducible rfl))))));((((refine' EXs.seq ?max31 ?mrx31;(case max31=>((refine' EX.appendN ?mnx32 ?mlx32 ?mex32 ?mzx32 ?m1x32 ?m2x32 ?m3x32;(case mnx32=>with_reducible assumption);(case mlx32=>rfl);(case mex32=>((refine' EV.tup ?max33 ?mlx33;(case max33=>((refine' EVs.cons ?mhx34 ?mtx34 ?msx34;(case mhx34=>((refine' EV.ifB ?mcx35 ?max35;(case mcx35=>((refine' TV.cmp ?max36 ?mbx36 ?mox36 ?mmx36;(case max36=>(((refine' EV.item (T:="str") ?max37 ?mbx37 ?mtx37 PySem.F.slot_str_getitem.lookup ?mox37 ?msx37;(case max37=>(((refine' EV.nm ?mnx38 ?mlx38;(case mnx38=>with_reducible assumption);(case mlx38=>rfl)))));(case mtx37=>exact rfl);(case mbx37=>(with_reducible exact EV.cInt));(case mox37=>(((with_reducible apply Op2.itemS);(next=>((with_reducible assumption)));(next=>((with_reducible assumption))))));(case msx37=>intro _ _;with_unfolding_all rfl)))));(case mbx36=>(((with_reducible refine' EV.cS ?mcx43 ?mlx43);(case mcx43=>with_reducible assumption);(case mlx43=>decide))));(case mox36=>(with_reducible exact Op2.eqS));(case mmx36=>rfl))));(case max35=>(((((refine' Or.inl (And.intro ?mbx46 ?mox46);(case mbx46=>((with_reducible assumption))))));(((((with_reducible refine' EV.cS ?mcx49 ?mlx49);(case mcx49=>with_reducible assumption);(case mlx49=>decide)))))))))));(case mtx34=>((refine' EVs.cons ?mhx50 ?mtx50 ?msx50;(case mhx50=>(((refine' EV.nm ?mnx51 ?mlx51;(case mnx51=>with_reducible assumption);(case mlx51=>rfl)))));(case mtx50=>(with_reducible exact EVs.nil));(case msx50=>intro _;rfl))));(case msx34=>intro _;rfl))));(case mlx33=>(((simp only [List.length_cons,List.length_nil]);decide))))));(case mzx32=>((with_reducible assumption)));(case m1x32=>intro _;rfl);(case m2x32=>rfl);(case m3x32=>intro _;rfl))));(case mrx31=>((refine' Rest.next ?max55;(case max55=>(with_reducible exact EXs.nil)))))))))))))));(case mrx19=>((refine' Rest.next ?max57;(case max57=>(exact EXs.nil)))))))))))))))))))
      · have hk:kN g = [114,117,110]:=by
          unfold kN;rw [if_neg g1,if_neg]
          intro g2
          rcases hpc with ⟨h2,_⟩ | ⟨h2,_⟩ | ⟨_,b,h2,_⟩
          · simp only at h2;lia
          · simp only at h2;lia
          · exact h91 (List.cons.inj h2).1
        have b1:([h] == [91]) = false:=by simp [h91]
        rw [hk]
        refine ⟨_,(some (B.val (.abs (MatP cs 36 3 p (p + (h :: tl).length) g))),some (B.val (.str (h :: tl))),some (B.val (.raw .none))),AS.nm n2,?_⟩
        refine' EXs.to ?mm rfl
        case mm=>((refine' EXs.seq ?max59 ?mrx59;(case max59=>((refine' EX.assign ?mex60 ?max60 ?m1x60 ?m2x60 ?m3x60;(case mex60=>((refine' EV.meth plainAttrs_match slot_match_group type_match_group ?mox61 ?mtx61 ?max61 ?mpx61 ?m1x61 ?m2x61 ?m3x61;(case mox61=>(((refine' EV.nm ?mnx62 ?mlx62;(case mnx62=>with_reducible assumption);(case mlx62=>rfl)))));(case mtx61=>exact MatP.ty);(case max61=>((refine' EVs.cons ?mhx63 ?mtx63 ?msx63;(case mhx63=>(with_reducible exact EV.cInt));(case mtx63=>(with_reducible exact EVs.nil));(case msx63=>intro _;rfl))));(case mpx61=>apply_assumption);(case m1x61=>intro _;rfl);(case m2x61=>rfl);(case m3x61=>intro _;rfl))));(case max60=>((refine' AS.nm ?mnx66;(case mnx66=>with_reducible assumption))));(case m1x60=>intro _;rfl);(case m2x60=>intro _;rfl);(case m3x60=>intro _ _;rfl))));(case mrx59=>((refine' Rest.next ?max67;(case max67=>((refine' EXs.seq ?max68 ?mrx68;(case max68=>((refine' EX.assign ?mex69 ?max69 ?m1x69 ?m2x69 ?m3x69;(case mex69=>((refine' EV.meth plainAttrs_match slot_match_group type_match_group ?mox70 ?mtx70 ?max70 ?mpx70 ?m1x70 ?m2x70 ?m3x70;(case mox70=>(((refine' EV.nm ?mnx71 ?mlx71;(case mnx71=>with_reducible assumption);(case mlx71=>rfl)))));(case mtx70=>exact MatP.ty);(case max70=>((refine' EVs.cons ?mhx72 ?mtx72 ?msx72;(case mhx72=>(((with_reducible refine' EV.cS ?mcx73 ?mlx73);(case mcx73=>with_reducible assumption);(case mlx73=>decide))));(case mtx72=>(with_reducible exact EVs.nil));(case msx72=>intro _;rfl))));(case mpx70=>apply_assumption);(case m1x70=>intro _;rfl);(case m2x70=>rfl);(case m3x70=>intro _;rfl))));(case max69=>((refine' AS.nm ?mnx75;(case mnx75=>with_reducible assumption))));(case m1x69=>intro _;rfl);(case m2x69=>intro _;rfl);(case m3x69=>intro _ _;rfl))));(case mrx68=>((refine' Rest.next ?max76;(case max76=>((refine' EXs.seq ?max77 ?mrx77;(case max77=>((refine' EX.ifB ?mcx78 ?mbx78;(case mcx78=>(((refine' TV.borrowN ?mnx79 ?mox79 ?mlx79 ?mhx79;(case mox79=>with_reducible assumption);(case mnx79=>with_reducible assumption);(case mlx79=>rfl));(case mhx79=>(try dsimp only [List.set_cons_zero,List.set_cons_succ]);((refine' TV.cmp ?max80 ?mbx80 ?mox80 ?mmx80;(case max80=>(((refine' EV.nm ?mnx81 ?mlx81;(case mnx81=>with_reducible assumption);(case mlx81=>rfl)))));(case mbx80=>(with_reducible exact EV.cNone));(case mox80=>(((with_reducible apply Op2.isNotSelf);((with_reducible assumption)))));(case mmx80=>rfl)))))));(case mbx78=>(((((refine' Or.inr (And.intro ?mbx86 ?mox86);(case mbx86=>((with_reducible rfl))))));((((refine' EXs.seq ?max89 ?mrx89;(case max89=>((refine' EX.appendN ?mnx90 ?mlx90 ?mex90 ?mzx90 ?m1x90 ?m2x90 ?m3x90;(case mnx90=>with_reducible assumption);(case mlx90=>rfl);(case mex90=>((refine' EV.tup ?max91 ?mlx91;(case max91=>((refine' EVs.cons ?mhx92 ?mtx92 ?msx92;(case mhx92=>((refine' EV.ifB ?mcx93 ?max93;(case mcx93=>((refine' TV.cmp ?max94 ?mbx94 ?mox94 ?mmx94;(case max94=>(((refine' EV.item (T:="str") ?max95 ?mbx95 ?mtx95 PySem.F.slot_str_getitem.lookup ?mox95 ?msx95;(case max95=>(((refine' EV.nm ?mnx96 ?mlx96;(case mnx96=>with_reducible assumption);(case mlx96=>rfl)))));(case mtx95=>exact rfl);(case mbx95=>(with_reducible exact EV.cInt));(case mox95=>(((with_reducible apply Op2.itemS);(next=>((with_reducible assumption)));(next=>((with_reducible assumption))))));(case msx95=>intro _ _;with_unfolding_all rfl)))));(case mbx94=>(((with_reducible refine' EV.cS ?mcx101 ?mlx101);(case mcx101=>with_reducible assumption);(case mlx101=>decide))));(case mox94=>(with_reducible exact Op2.eqS));(case mmx94=>rfl))));(case max93=>(((((refine' Or.inr (And.intro ?mbx104 ?mox104);(case mbx104=>((with_reducible assumption))))));(((((with_reducible refine' EV.cS ?mcx107 ?mlx107);(case mcx107=>with_reducible assumption);(case mlx107=>decide)))))))))));(case mtx92=>((refine' EVs.cons ?mhx108 ?mtx108 ?msx108;(case mhx108=>(((refine' EV.nm ?mnx109 ?mlx109;(case mnx109=>with_reducible assumption);(case mlx109=>rfl)))));(case mtx108=>(with_reducible exact EVs.nil));(case msx108=>intro _;rfl))));(case msx92=>intro _;rfl))));(case mlx91=>(((simp only [List.length_cons,List.length_nil]);decide))))));(case mzx90=>((with_reducible assumption)));(case m1x90=>intro _;rfl);(case m2x90=>rfl);(case m3x90=>intro _;rfl))));(case mrx89=>((refine' Rest.next ?max113;(case max113=>(with_reducible exact EXs.nil)))))))))))))));(case mrx77=>((refine' Rest.next ?max115;(case max115=>(exact EXs.nil)))))))))))))))))))
  case hr =>
    intro t'
    refine EXs.freezeN n1 rfl ?_
    dsimp only [List.set_cons_zero,List.set_cons_succ]
    refine' EXs.to ?mm rfl
    case mm=>exact EXs.seq (EX.ret (EV.nm n1 rfl)) (Rest.stop rfl rfl)
theorem law_text_ok {k:Nat} {L:List (Nat × List Nat)} (hl:L.length≤100000) (hz:(flatR L).length≤1000000):Ops S (k + 1) (fun vs=>call (.ref 86) vs) [.list (rowD L)] (.str (flatR L)):=by
  have n0:=@n_law_text_0
  have c0:Cs "" []:=rfl
  have c1:Cs "row" [114,111,119]:=rfl
  have c2:Cs "_" [95]:=rfl
  have c3:Cs "piece" [112,105,101,99,101]:=rfl
  refine Fn.intro (f:=fi_law_text) hK.fn_law_text rfl ?_
  show EXs S _ fi_law_text [some (B.val _)] _ _
  conv=>arg 5;whnf
  have hsz:=sizeLine_eq
  have hj:∀ k,Ops S k (fun vs=>call (.builtin "str.join") vs) [.str [],.list ((L.map (·.2)).map .str)] (.str (flatR L)):=fun k=>by
    have h:=Ops.joinS (S:=S) (k:=k) (sep:=[]) (ps:=L.map (·.2)) (by
      have e:((L.map (·.2)).map fun p=>p.length + ([]:List Nat).length) = (L.map (·.2)).map List.length:=by simp
      rw [e,← List.length_flatten]
      show (flatR L).length≤_;lia)
    rw [joinL_nil] at h;exact h
  refine' EXs.to (EXs.seq (EX.ret ?me) ?mr) ?mt
  case mr=>exact Rest.stop rfl rfl
  case mt=>rfl
  refine' EV.meth PySem.F.plainAttrs_str PySem.F.slot_str_join PySem.F.type_str_join ?mo ?mty ?ma (hj _) ?m1 ?m2 ?m3
  case mo=>exact EV.cS c0 (by decide)
  case mty=>rfl
  case m1=>intro _;rfl
  case m2=>rfl
  case m3=>intro _;rfl
  case ma =>
    refine' EVs.cons ?cmp EVs.nil ?ms
    case ms=>intro _;rfl
    refine' EV.comp ["_","piece"] [.local,.local] ?T1 ?T2 ?T3 ?T4 ?T5 (Γc:=[none,none]) ?T6 (EV.nm n0 rfl) It.list ?T7 ?T8 ?T9
    case T1=>decide
    case T2=>rfl
    case T3=>rfl
    case T4=>decide
    case T5=>exact .other rfl rfl (.other rfl rfl (.other rfl rfl .nil))
    case T6=>exact .skip (.skip .nil)
    case T7=>unfold rowD;rw [List.length_map];lia
    case T9=>intro _ _;rfl
    case T8 =>
      intro fd e1 e2 e3
      have k0:Nm fd "_" 0 .local:=Nm.of e2 e3 rfl rfl
      have k1:Nm fd "piece" 1 .local:=Nm.of e2 e3 rfl rfl
      rw [List.map_map]
      exact CL.mapAll (τ:=Option B × Option B) (fun q:Nat × List Nat=>D.tup [.str (kN q.1),.str q.2]) (D.str ∘ Prod.snd) (fun t=>[t.1,t.2]) L (none,none) (fun q hq t=>⟨(some (.val (.str (kN q.1))),some (.val (.str q.2))),AS.tup (ASs.cons (AS.nm k0) (ASs.cons (AS.nm k1) ASs.nil fun _=>rfl) fun _=>rfl),EV.nm k1 rfl⟩)
theorem law_items_ok {k:Nat} {pat:List Nat} (hT:(66,62) ∈ S.tabs) (hqL:∀ p:Pos,p.line = 62→p.col = 46→S.qualAt p = fi_translate.qual ++ "<lambda>") (hqG:∀ p:Pos,p.line = 61→p.col = 37→S.qualAt p = fi_translate.qual ++ "<genexpr>") (hp:pat.length≤1000) (hu:∀ c ∈ pat,c < 0x110000) :
    Ops S (k + 5) (fun vs=>call (.ref 93) vs) [.str pat] (.list ((pTr pat).map itD)):=by
  have n0:=@n_law_items_0
  have g_translate:=g_law_items_translate hK
  have k_translate:=hK.cal_translate
  refine Fn.intro (f:=fi_law_items) hK.fn_law_items rfl ?_
  show EXs S _ fi_law_items [some (B.val _)] _ _
  conv=>arg 5;whnf
  have ht:∀ {k:Nat},Ops S (k + 4) (fun vs=>call (.ref 67) vs) [.str pat,.raw .none,.int 0] (.list ((pTr pat).map itD)):=translate_ok hK hT hqL hqG hp hu
  refine' EXs.to ?mm rfl
  case mm=>exact EXs.seq (EX.ret (EV.call (fun _=>rfl) (Raw.ev g_translate) k_translate (EVs.cons (EV.nm n0 rfl) (EVs.cons EV.cNone (EVs.cons EV.cInt EVs.nil (fun _=>rfl)) (fun _=>rfl)) (fun _=>rfl)) (by apply_assumption))) (Rest.stop rfl rfl)
theorem law_alone_ok {k:Nat} {L:List (Nat × List Nat)} (hT:(66,62) ∈ S.tabs) (hqL:∀ p:Pos,p.line = 62→p.col = 46→S.qualAt p = fi_translate.qual ++ "<lambda>") (hqG:∀ p:Pos,p.line = 61→p.col = 37→S.qualAt p = fi_translate.qual ++ "<genexpr>") (hp:(flatR L).length≤1000) (hl:L.length≤1000) (hu:∀ c ∈ flatR L,c < 0x110000) :
    Ops S (k + 6) (fun vs=>call (.ref 107) vs) [.list (rowD L)] (.list ((L.flatMap fun q=>pTr q.2).map itD)):=by
  have n0:=@n_law_each_alone_0
  have n1:=@n_law_each_alone_1
  have n2:=@n_law_each_alone_2
  have n3:=@n_law_each_alone_3
  have g_law_items:=g_law_each_alone_law_items hK
  have k_law_items:=hK.cal_law_items
  refine Fn.intro (f:=fi_law_each_alone) hK.fn_law_each_alone rfl ?_
  show EXs S _ fi_law_each_alone [some (B.val _),none,none,none] _ _
  conv=>arg 5;whnf
  have hsz:=sizeLine_eq
  have own1:OwnV fi_law_each_alone 1:=.intro
  refine EXs.seq (EX.ownN n1 own1 EVs.nil rfl (by (simp only [List.length_cons,List.length_nil]);decide) (Nat.le_of_ble_eq_true rfl) (fun _=>rfl) (fun _=>rfl)) (Rest.next ?_)
  refine EXs.forFold (σ:=List It1) (τ:=Option B × Option B) (fun s t=>[some (B.val (.list (rowD L))),some (B.own (s.map itD)),t.1,t.2])
    (fun q:Nat × List Nat=>D.tup [.str (kN q.1),.str q.2]) (fun s q=>s ++ pTr q.2) (fun n s=>s.length + n * 1000≤1000000) L [] (none,none) rfl (EV.nm n0 rfl) It.list (by simp only [List.length_nil];lia) ?_ ?_
  · intro n s t q hq hI
    have hm:=flatR_mem hq
    have hpl:=pTr_len q.2
    have hit:∀ {k:Nat},Ops S (k + 5) (fun vs=>call (.ref 93) vs) [.str q.2] (.list ((pTr q.2).map itD)):=law_items_ok hK hT hqL hqG (by lia) fun c hc=>hu c (hm.2 c hc)
    refine ⟨by rw [List.length_append];lia,_,(some (B.val (.str (kN q.1))),some (B.val (.str q.2))),AS.tup (ASs.cons (AS.nm n2) (ASs.cons (AS.nm n3) ASs.nil fun _=>rfl) fun _=>rfl),Or.inl ?_⟩
    rw [List.map_append]
    refine EXs.cons (EX.toR (EX.augOwn 1 n1 rfl ?e (by simp only [List.length_map];lia)) rfl) EXs.nil
    case e=>exact EV.call (fun _=>rfl) (Raw.ev g_law_items) k_law_items (EVs.cons (EV.nm n3 rfl) EVs.nil (fun _=>rfl)) (by apply_assumption)
  · intro t' _
    have e:=foldl_flat (fun q:Nat × List Nat=>pTr q.2) L []
    rw [List.nil_append] at e
    rw [e]
    refine EXs.freezeN n1 rfl ?_
    dsimp only [List.set_cons_zero,List.set_cons_succ]
    refine' EXs.to ?mm rfl
    case mm=>exact EXs.seq (EX.ret (EV.nm n1 rfl)) (Rest.stop rfl rfl)
set_option maxHeartbeats 4000000 in
theorem law_cut_ok {k:Nat} {L:List (Nat × List Nat)} (hT:(66,62) ∈ S.tabs) (hqL:∀ p:Pos,p.line = 62→p.col = 46→S.qualAt p = fi_translate.qual ++ "<lambda>") (hqG:∀ p:Pos,p.line = 61→p.col = 37→S.qualAt p = fi_translate.qual ++ "<genexpr>") (hp:(flatR L).length≤1000) (hu:∀ c ∈ flatR L,c < 0x110000)
    (hL:RowFrom none L) (hset:∀ q ∈ L,q.1 = 1→(pTr q.2).length = 1) (hop:∀ q ∈ L,q.1 = 2→(pTr q.2).take 1 = [some (some [92,91])]) :
    Ops S (k + 6) (fun vs=>call (.ref 100) vs) [.list (rowD L)] (.bool true):=by
  have n0:=@n_law_cut_right_0
  have n1:=@n_law_cut_right_1
  have n2:=@n_law_cut_right_2
  have n3:=@n_law_cut_right_3
  have n4:=@n_law_cut_right_4
  have g_law_items:=g_law_cut_right_law_items hK
  have k_law_items:=hK.cal_law_items
  have g_len:=g_law_cut_right_len hK
  have c0:Cs "" []:=rfl
  have c1:Cs "open" [111,112,101,110]:=rfl
  have c2:Cs "run" [114,117,110]:=rfl
  have c3:Cs "set" [115,101,116]:=rfl
  have c4:Cs "\\[" [92,91]:=rfl
  have c5:Cs "[" [91]:=rfl
  refine Fn.intro (f:=fi_law_cut_right) hK.fn_law_cut_right rfl ?_
  show EXs S _ fi_law_cut_right [some (B.val _),none,none,none,none] _ _
  conv=>arg 5;whnf
  have hsz:=sizeLine_eq
  refine EXs.seq (EX.assign (EV.cS c0 (by decide)) (AS.nm n1) (fun _=>rfl) (fun _=>rfl) (fun _ _=>rfl)) (Rest.next ?_)
  refine EXs.forRow (τ:=Option B × Option B × Option B) (P:=fun q=>q ∈ L) (fun p t=>[some (B.val (.list (rowD L))),some (B.val (.str (lastS p))),t.1,t.2.1,t.2.2]) (none,none,none) rfl (EV.nm n0 rfl) hL (fun _ h=>h) ?_ ?_
  · rintro p ⟨g,x⟩ t hp2 hp0 hp3 hpc hq
    have hm:=flatR_mem hq
    have hit:∀ {k:Nat},Ops S (k + 5) (fun vs=>call (.ref 93) vs) [.str x] (.list ((pTr x).map itD)):=law_items_ok hK hT hqL hqG (by lia) fun c hc=>hu c (hm.2 c hc)
    refine ⟨_,(some (B.val (.str (kN g))),some (B.val (.str x)),some (B.val (.list ((pTr x).map itD)))),AS.tup (ASs.cons (AS.nm n2) (ASs.cons (AS.nm n3) ASs.nil fun _=>rfl) fun _=>rfl),?_⟩
    have b1:(lastS p == [111,112,101,110]) = false:=by
      cases p with
      | none=>rfl
      | some g' =>
        have:=hp3 g' rfl
        rcases (by lia:g' = 0 ∨ g' = 1 ∨ g' = 2) with rfl | rfl | rfl
        · rfl
        · rfl
        · exact absurd rfl hp2
    have b2:((lastS p == kN g) && (kN g == [114,117,110])) = false:=by
      have hg:=hpc.lt
      simp only at hg hp0
      rcases (by lia:g = 0 ∨ g = 1 ∨ g = 2) with rfl | rfl | rfl
      · cases p with
        | none=>rfl
        | some g' =>
          have:=hp3 g' rfl
          rcases (by lia:g' = 0 ∨ g' = 1 ∨ g' = 2) with rfl | rfl | rfl
          · exact absurd ⟨rfl,rfl⟩ hp0
          · rfl
          · rfl
      · rw [show (kN 1 == [114,117,110]) = false from rfl,Bool.and_false]
      · rw [show (kN 2 == [114,117,110]) = false from rfl,Bool.and_false]
    refine EXs.cons (Γ₁:=[some (B.val (.list (rowD L))),some (B.val (.str (lastS p))),some (B.val (.str (kN g))),some (B.val (.str x)),some (B.val (.list ((pTr x).map itD)))]) ?s1 ?_
    case s1 =>
      refine' EX.toR ?mm ?mq
      case mm=>exact EX.assign (EV.call (fun _=>rfl) (Raw.ev g_law_items) k_law_items (EVs.cons (EV.nm n3 rfl) EVs.nil (fun _=>rfl)) (by apply_assumption)) (AS.nm n4) (fun _=>rfl) (fun _=>rfl) (fun _ _=>rfl)
      case mq=>rfl
    have hlt:=hpc.lt
    simp only at hlt
    have hlen:((pTr x).map itD).length = (pTr x).length:=List.length_map ..
    rcases (by lia:g = 0 ∨ g = 1 ∨ g = 2) with rfl | rfl | rfl
    · have hx:91 ∉ x:=by
        rcases hpc with ⟨_,_,h⟩ | ⟨h,_⟩ | ⟨h,_⟩
        · exact h
        · exact nomatch h
        · exact nomatch h
      have b3:decide (91 ∈ x) = false:=decide_eq_false hx
      rw [show lastS (some 0) = [114,117,110] from rfl]
      rw [show kN 0 = [114,117,110] from rfl] at b2 ⊢
      generalize lastS p = ls at b1 b2 ⊢
      refine' EXs.to ?mm rfl
      case mm=>exact EXs.seq (EX.ifB (TV.boolOp (ATV.orB (TV.cmp (EV.nm n1 rfl) (EV.cS c1 (by decide)) Op2.eqS rfl) (Or.inr ⟨b1,ATV.orB (TV.cmp2 (EV.nm n1 rfl) (EV.nm n2 rfl) (EV.cS c2 (by decide)) Op2.eqS Op2.eqS rfl) (Or.inr ⟨b2,ATV.orNil⟩)⟩))) (Or.inr ⟨rfl,EXs.nil⟩)) (Rest.next (EXs.seq (EX.ifB (TV.boolOp (ATV.andB (TV.cmp (EV.nm n2 rfl) (EV.cS c3 (by decide)) Op2.eqS rfl) (Or.inr ⟨rfl,rfl⟩))) (Or.inr ⟨rfl,EXs.nil⟩)) (Rest.next (EXs.seq (EX.ifB (TV.boolOp (ATV.andB (TV.cmp (EV.nm n2 rfl) (EV.cS c1 (by decide)) Op2.eqS rfl) (Or.inr ⟨rfl,rfl⟩))) (Or.inr ⟨rfl,EXs.nil⟩)) (Rest.next (EXs.seq (EX.ifB (TV.boolOp (ATV.andB (TV.cmp (EV.nm n2 rfl) (EV.cS c2 (by decide)) Op2.eqS rfl) (Or.inl ⟨rfl,ATV.andB (TV.cmp (EV.cS c5 (by decide)) (EV.nm n3 rfl) Op2.inS rfl) (Or.inr ⟨b3,rfl⟩)⟩))) (Or.inr ⟨rfl,EXs.nil⟩)) (Rest.next (EXs.seq (EX.assign (EV.nm n2 rfl) (AS.nm n1) (fun _=>rfl) (fun _=>rfl) (fun _ _=>rfl)) (Rest.next EXs.nil)))))))))
    · have h1:=hset _ hq rfl
      have b3:((((pTr x).map itD).length:Int) != 1) = false:=by rw [hlen,h1];rfl
      rw [show lastS (some 1) = [115,101,116] from rfl]
      rw [show kN 1 = [115,101,116] from rfl] at b2 ⊢
      generalize lastS p = ls at b1 b2 ⊢
      generalize (pTr x).map itD = its at b3 ⊢
      refine' EXs.to ?mm rfl
      case mm=>exact EXs.seq (EX.ifB (TV.boolOp (ATV.orB (TV.cmp (EV.nm n1 rfl) (EV.cS c1 (by decide)) Op2.eqS rfl) (Or.inr ⟨b1,ATV.orB (TV.cmp2 (EV.nm n1 rfl) (EV.nm n2 rfl) (EV.cS c2 (by decide)) Op2.eqS Op2.eqS rfl) (Or.inr ⟨b2,ATV.orNil⟩)⟩))) (Or.inr ⟨rfl,EXs.nil⟩)) (Rest.next (EXs.seq (EX.ifB (TV.boolOp (ATV.andB (TV.cmp (EV.nm n2 rfl) (EV.cS c3 (by decide)) Op2.eqS rfl) (Or.inl ⟨rfl,ATV.andB (TV.cmp (EV.call (fun _=>rfl) (Raw.ev g_len) Callee.builtin (EVs.cons (EV.nm n4 rfl) EVs.nil (fun _=>rfl)) Ops.lenL) EV.cInt Op2.neI rfl) (Or.inr ⟨b3,rfl⟩)⟩))) (Or.inr ⟨rfl,EXs.nil⟩)) (Rest.next (EXs.seq (EX.ifB (TV.boolOp (ATV.andB (TV.cmp (EV.nm n2 rfl) (EV.cS c1 (by decide)) Op2.eqS rfl) (Or.inr ⟨rfl,rfl⟩))) (Or.inr ⟨rfl,EXs.nil⟩)) (Rest.next (EXs.seq (EX.ifB (TV.boolOp (ATV.andB (TV.cmp (EV.nm n2 rfl) (EV.cS c2 (by decide)) Op2.eqS rfl) (Or.inr ⟨rfl,rfl⟩))) (Or.inr ⟨rfl,EXs.nil⟩)) (Rest.next (EXs.seq (EX.assign (EV.nm n2 rfl) (AS.nm n1) (fun _=>rfl) (fun _=>rfl) (fun _ _=>rfl)) (Rest.next EXs.nil)))))))))
    · have h1:=hop _ hq rfl
      have hpk:pick none (some 1) ((pTr x).map itD) = [.str [92,91]]:=by
        have:pick none (some 1) ((pTr x).map itD) = ((pTr x).map itD).take 1:=by unfold pick kms_lo kms_hi;simp
        rw [this,← List.map_take,h1];rfl
      have hne:∀ k,Op2 S k (compareOp .NotEq) (.list (pick none (some 1) ((pTr x).map itD))) (.list [.str [92,91]]) (.bool false):=fun k=>by
        rw [hpk]
        have h:=Op2.neD (S:=S) (k:=k) (d₁:=.list [.str [92,91]]) (d₂:=.list [.str [92,91]]) false rfl rfl
        simpa using h
      rw [show lastS (some 2) = [111,112,101,110] from rfl]
      rw [show kN 2 = [111,112,101,110] from rfl] at b2 ⊢
      generalize lastS p = ls at b1 b2 ⊢
      generalize (pTr x).map itD = its at hne ⊢
      refine' EXs.to ?mm rfl
      case mm=>exact EXs.seq (EX.ifB (TV.boolOp (ATV.orB (TV.cmp (EV.nm n1 rfl) (EV.cS c1 (by decide)) Op2.eqS rfl) (Or.inr ⟨b1,ATV.orB (TV.cmp2 (EV.nm n1 rfl) (EV.nm n2 rfl) (EV.cS c2 (by decide)) Op2.eqS Op2.eqS rfl) (Or.inr ⟨b2,ATV.orNil⟩)⟩))) (Or.inr ⟨rfl,EXs.nil⟩)) (Rest.next (EXs.seq (EX.ifB (TV.boolOp (ATV.andB (TV.cmp (EV.nm n2 rfl) (EV.cS c3 (by decide)) Op2.eqS rfl) (Or.inr ⟨rfl,rfl⟩))) (Or.inr ⟨rfl,EXs.nil⟩)) (Rest.next (EXs.seq (EX.ifB (TV.boolOp (ATV.andB (TV.cmp (EV.nm n2 rfl) (EV.cS c1 (by decide)) Op2.eqS rfl) (Or.inl ⟨rfl,ATV.andB (TV.cmp (EV.sliceL (EV.nm n4 rfl) PV.none (PV.some EV.cInt) (fun _ _=>rfl)) (EV.list (EVs.cons (EV.cS c4 (by decide)) EVs.nil (fun _=>rfl)) (by (simp only [List.length_cons,List.length_nil]);decide)) (by apply_assumption) rfl) (Or.inr ⟨rfl,rfl⟩)⟩))) (Or.inr ⟨rfl,EXs.nil⟩)) (Rest.next (EXs.seq (EX.ifB (TV.boolOp (ATV.andB (TV.cmp (EV.nm n2 rfl) (EV.cS c2 (by decide)) Op2.eqS rfl) (Or.inr ⟨rfl,rfl⟩))) (Or.inr ⟨rfl,EXs.nil⟩)) (Rest.next (EXs.seq (EX.assign (EV.nm n2 rfl) (AS.nm n1) (fun _=>rfl) (fun _=>rfl) (fun _ _=>rfl)) (Rest.next EXs.nil)))))))))
  · intro p t'
    refine' EXs.to ?mm rfl
    case mm=>exact EXs.seq (EX.ret EV.cBool) (Rest.stop rfl rfl)
set_option maxHeartbeats 8000000 in
theorem law_ok {k:Nat} {ns:List Int} (hT:(66,62) ∈ S.tabs) (hqL:∀ p:Pos,p.line = 62→p.col = 46→S.qualAt p = fi_translate.qual ++ "<lambda>") (hqG:∀ p:Pos,p.line = 61→p.col = 37→S.qualAt p = fi_translate.qual ++ "<genexpr>") (hn:ns.length≤63) :
    XOps0 S (k + 7) (fun v=>call (.ref 112) [v]) (.list (ns.map .int)) (.bool true):=by
  have n0:=@n_law_0
  have n1:=@n_law_1
  have n2:=@n_law_2
  have n3:=@n_law_3
  have n4:=@n_law_4
  have n5:=@n_law_5
  have n6:=@n_law_6
  have n7:=@n_law_7
  have g_law_read:=g_law_law_read hK
  have k_law_read:=hK.cal_law_read
  have g_law_text:=g_law_law_text hK
  have k_law_text:=hK.cal_law_text
  have g_law_cut_right:=g_law_law_cut_right hK
  have k_law_cut_right:=hK.cal_law_cut_right
  have g_len:=g_law_len hK
  have g_law_items:=g_law_law_items hK
  have k_law_items:=hK.cal_law_items
  have g_law_each_alone:=g_law_law_each_alone hK
  have k_law_each_alone:=hK.cal_law_each_alone
  have c0:Cs "" []:=rfl
  have c1:Cs "*[a" [42,91,97]:=rfl
  have c2:Cs "]b[*?" [93,98,91,42,63]:=rfl
  have c3:Cs "[]" [91,93]:=rfl
  have c4:Cs "[a]" [91,97,93]:=rfl
  have c5:Cs "[!]" [91,33,93]:=rfl
  have c6:Cs "[!a]" [91,33,97,93]:=rfl
  have c7:Cs "open" [111,112,101,110]:=rfl
  have c8:Cs "script" [115,99,114,105,112,116]:=rfl
  have c9:Cs "number" [110,117,109,98,101,114]:=rfl
  have c10:Cs "text" [116,101,120,116]:=rfl
  have c11:Cs "asked" [97,115,107,101,100]:=rfl
  have c12:Cs "pattern" [112,97,116,116,101,114,110]:=rfl
  have c13:Cs "row" [114,111,119]:=rfl
  have c14:Cs "item" [105,116,101,109]:=rfl
  have c15:Cs "closed" [99,108,111,115,101,100]:=rfl
  have c16:Cs "turned" [116,117,114,110,101,100]:=rfl
  have c17:Cs "line" [108,105,110,101]:=rfl
  refine Fn.introX0 (f:=fi_law) hK.fn_law rfl ?_
  show XXs S _ fi_law [some (B.val _),none,none,none,none,none,none,none] _ _
  conv=>arg 5;whnf
  have hsz:=sizeLine_eq
  have hv:solid Value.none = true:=rfl
  obtain ⟨sg,hsg⟩:∃ sg:Int→Nat,∀ n,sg n ≠ 10∧sg n < 0x110000∧∀ k,Ops S (k + 1) (fun vs=>call (.ref 74) vs) [.int n] (.str [sg n]):=Classical.skolem.mp fun n=>law_sign_ok hK n
  have hs1:∀ l:List Int,((l.map fun n=>[sg n]).map fun p:List Nat=>p.length + ([]:List Nat).length).sum = l.length:=by
    intro l
    induction l with
    | nil=>rfl
    | cons a l ih=>rw [List.map_cons,List.map_cons,List.sum_cons,ih];show 1 + 0 + l.length = l.length + 1;omega
  have hjt:∀ k,Ops S k (fun vs=>call (.builtin "str.join") vs) [.str [],.list (ns.map fun n=>D.str [sg n])] (.str (ns.map sg)):=fun k=>by
    have h:=Ops.joinS (S:=S) (k:=k) (sep:=[]) (ps:=ns.map fun n=>[sg n]) (by rw [hs1];lia)
    rw [joinL_nil] at h
    have e:(ns.map fun n=>[sg n]).flatten = ns.map sg:=by
      clear hsg h hn
      induction ns with
      | nil=>rfl
      | cons a l ih=>rw [List.map_cons,List.flatten_cons,ih];rfl
    rw [e,List.map_map] at h
    exact h
  refine XXs.ex (Γ₁:=[some (B.val (.list (ns.map .int))),some (B.val (.str (ns.map sg))),none,none,none,none,none,none]) ?s1 ?_
  case s1 =>
    refine' EX.toR (EX.assign ?me (AS.nm n1) ?m1 ?m2 ?m3) ?mq
    case mq=>rfl
    case m1=>intro _;rfl
    case m2=>intro _;rfl
    case m3=>intro _ _;rfl
    case me =>
      refine' EV.meth PySem.F.plainAttrs_str PySem.F.slot_str_join PySem.F.type_str_join ?mo ?mty ?ma (hjt _) ?m1 ?m2 ?m3
      case mo=>exact EV.cS c0 (by decide)
      case mty=>rfl
      case m1=>intro _;rfl
      case m2=>rfl
      case m3=>intro _;rfl
      case ma =>
        refine' EVs.cons ?cmp EVs.nil ?ms
        case ms=>intro _;rfl
        refine' EV.comp ["number"] [.local] ?T1 ?T2 ?T3 ?T4 ?T5 (Γc:=[none]) ?T6 (EV.nm n0 rfl) It.list ?T7 ?T8 ?T9
        case T1=>decide
        case T2=>rfl
        case T3=>rfl
        case T4=>decide
        case T5=>exact .other rfl rfl (.other rfl rfl (.other rfl rfl .nil))
        case T6=>exact .skip .nil
        case T7=>rw [List.length_map];lia
        case T9=>intro _ _;rfl
        case T8 =>
          intro fd e1 e2 e3
          have k0:Nm fd "number" 0 .local:=Nm.of e2 e3 rfl rfl
          have gl:=Raw.g (S:=S) (x:="_law_sign") e1 rfl hK.ns_law_sign
          exact CL.mapAll (τ:=Option B) D.int (fun n=>D.str [sg n]) (fun t=>[t]) ns none (fun n hn t=>⟨some (.val (.int n)),AS.nm k0,EV.call (fun _=>rfl) (gl _ _ _) hK.cal_law_sign (EVs.cons (EV.nm k0 rfl) EVs.nil fun _=>rfl) ((hsg n).2.2 _)⟩)
  have hsl:(ns.map sg).length≤63:=by rw [List.length_map];exact hn
  have hsc:∀ c ∈ ns.map sg,c ≠ 10∧c < 0x110000:=by
    intro c hc
    obtain ⟨n,_,rfl⟩:=List.mem_map.mp hc
    exact ⟨(hsg n).1,(hsg n).2.1⟩
  clear hjt hsg
  generalize ns.map sg = text at hsl hsc ⊢
  refine XXs.forAll (τ:=Option B × Option B × Option B × Option B × Option B × Option B) (fun t=>[some (B.val (.list (ns.map .int))),some (B.val (.str text)),t.1,t.2.1,t.2.2.1,t.2.2.2.1,t.2.2.2.2.1,t.2.2.2.2.2]) D.str [text,[42,91,97] ++ text ++ [93,98,91,42,63]] (none,none,none,none,none,none) rfl (GoX.of (d:=.tup [.str text,.str ([42,91,97] ++ text ++ [93,98,91,42,63])]) ?tu It.tup) ?hb ?hr
  case tu=>exact EV.tup (EVs.cons (EV.nm n1 rfl) (EVs.cons (EV.bin (EV.bin (EV.cS c1 (by decide)) (EV.nm n1 rfl) (Op2.addS (by simp only [List.length_append,List.length_cons,List.length_nil,List.length_map] at *;omega))) (EV.cS c2 (by decide)) (Op2.addS (by simp only [List.length_append,List.length_cons,List.length_nil,List.length_map] at *;omega))) EVs.nil (fun _=>rfl)) (fun _=>rfl)) (by (simp only [List.length_cons,List.length_nil]);decide)
  case hr =>
    intro t
    refine' EXs.to ?mm rfl
    case mm=>exact EXs.seq (EX.ret EV.cBool) (Rest.stop rfl rfl)
  case hb =>
    intro a ha t
    have hal:a.length≤71∧∀ c ∈ a,c ≠ 10∧c < 0x110000:=by
      rcases List.mem_cons.mp ha with rfl | ha
      · exact ⟨by lia,hsc⟩
      · rw [List.mem_singleton.mp ha]
        refine ⟨by simp;lia,fun c hc=>?_⟩
        rcases List.mem_append.mp hc with hc | hc
        · rcases List.mem_append.mp hc with hc | hc
          · simp at hc;lia
          · exact hsc c hc
        · simp at hc;lia
    clear ha hsc hsl
    have hpl:=askPat_len a
    have hpc:∀ c ∈ askPat a,c ≠ 10∧c < 0x110000:=fun c hc=>by
      rcases askPat_mem hc with h | h | h | h | h
      · lia
      · lia
      · lia
      · lia
      · exact hal.2 c h
    obtain ⟨hA,hB⟩:=askPat_ok a
    obtain ⟨hR,hF⟩:=row_ok (askPat a)
    have hSets:=sets_ok (sepL (askPat a).length (askPat a)) 0 0 0 (by rw [hF];exact hA) (by rw [hF];exact hB)
    have hread:XOps S (k + 6) (fun vs=>call (.ref 81) vs) [.str (askPat a)] (.list (rowD (sepL (askPat a).length (askPat a)))):=law_read_ok (k:=k + 3) hK (by lia) (fun h=>(hpc 10 h).1 rfl) hF hR.all
    have hz1:a.length * ([91,97,93].length + 1)≤sizeLine:=by show a.length * 4≤_;lia
    have hz2:(replS [91,93] [91,97,93] 0 a).length * ([91,33,97,93].length + 1)≤sizeLine:=by
      have:=replS_len2 (n:=[91,93]) (y:=[91,97,93]) (by decide) (by decide) a 0 (Nat.zero_le _)
      show _ * 5≤_;lia
    have hq:replS [91,33,93] [91,33,97,93] 0 (replS [91,93] [91,97,93] 0 a) = askPat a:=rfl
    refine ⟨_,(some (B.val (.str a)),some (B.val (.str (askPat a))),some (B.val (.list (rowD (sepL (askPat a).length (askPat a))))),some (B.val (.list (rowD (closedR (sepL (askPat a).length (askPat a)))))),some (B.val (.list (rowD (turnedR (sepL (askPat a).length (askPat a)))))),some (B.val (.list (rowD (turnedR (sepL (askPat a).length (askPat a))))))),AS.nm n2,?_⟩
    refine XXs.ex (Γ₁:=[some (B.val (.list (ns.map .int))),some (B.val (.str text)),some (B.val (.str a)),some (B.val (.str (askPat a))),t.2.2.1,t.2.2.2.1,t.2.2.2.2.1,t.2.2.2.2.2]) ?p1 ?_
    case p1 =>
      refine' EX.toR (EX.assign (EV.replaceS (EV.replaceS (EV.nm n2 rfl) ?q1 ?q2 ?q3 ?q4 hz1 ?q5 ?q6) ?u1 ?u2 ?u3 ?u4 hz2 ?u5 ?u6) (AS.nm n3) ?m1 ?m2 ?m3) ?mq
      case mq=>rfl
      case m1=>intro _;rfl
      case m2=>intro _;rfl
      case m3=>intro _ _;rfl
      case q1=>assumption
      case q2=>assumption
      case q3=>decide
      case q4=>decide
      case q5=>intro _;rfl
      case q6=>rfl
      case u1=>assumption
      case u2=>assumption
      case u3=>decide
      case u4=>decide
      case u5=>intro _;rfl
      case u6=>rfl
    clear hq hz1 hz2 hA hB
    refine XXs.cons (Γ₁:=[some (B.val (.list (ns.map .int))),some (B.val (.str text)),some (B.val (.str a)),some (B.val (.str (askPat a))),some (B.val (.list (rowD (sepL (askPat a).length (askPat a))))),t.2.2.2.1,t.2.2.2.2.1,t.2.2.2.2.2]) (XX.assign (XV.call (fun _=>rfl) (Raw.ev g_law_read) hK.kp_law_read ?ar hread) (AS.nm n4)) ?_
    case ar=>exact EVs.cons (EV.nm n3 rfl) EVs.nil (fun _=>rfl)
    generalize hPe:askPat a = P at hpl hpc hR hF hSets ⊢
    clear hread
    generalize sepL P.length P = R at hR hF hSets ⊢
    have hPl:P.length≤284:=by lia
    clear hpl hal hPe
    have hRl:=rows_len hR.all
    rw [hF] at hRl
    obtain ⟨hTR,hTm,hTl,hTn⟩:=turned_ok hR
    rw [hF] at hTl
    have hTF:∀ c ∈ flatR (turnedR R),c ∈ P:=by
      intro c hc
      obtain ⟨x,hx,hcx⟩:=List.mem_flatten.mp hc
      obtain ⟨q,hq,rfl⟩:=List.mem_map.mp hx
      rw [← hF];exact (flatR_mem (hTm q hq)).2 c hcx
    have hTS:SetsOk (turnedR R):=fun q hq=>hSets q (hTm q hq)
    have htextR:∀ {k:Nat},Ops S (k + 1) (fun vs=>call (.ref 86) vs) [.list (rowD R)] (.str P):=fun {k}=>by
      have h:=law_text_ok (k:=k) (S:=S) hK (L:=R) (by lia) (by rw [hF];lia)
      rw [hF] at h;exact h
    have hcut:∀ {k:Nat},Ops S (k + 6) (fun vs=>call (.ref 100) vs) [.list (rowD R)] (.bool true):=law_cut_ok hK hT hqL hqG (by rw [hF];lia) (by rw [hF];exact fun c hc=>(hpc c hc).2) hR (fun q hq=>items_set (hR.all q hq) (hSets q hq)) (fun q hq=>items_open (hR.all q hq))
    refine XXs.ex (Γ₁:=[some (B.val (.list (ns.map .int))),some (B.val (.str text)),some (B.val (.str a)),some (B.val (.str P)),some (B.val (.list (rowD R))),t.2.2.2.1,t.2.2.2.2.1,t.2.2.2.2.2]) ?p2 ?_
    case p2 =>
      have b1:(P != P) = false:=by simp
      refine' EX.toR ?mm ?mq
      case mm=>exact EX.ifB (TV.boolOp (ATV.orB (TV.cmp (EV.call (fun _=>rfl) (Raw.ev g_law_text) k_law_text (EVs.cons (EV.nm n4 rfl) EVs.nil (fun _=>rfl)) (by apply_assumption)) (EV.nm n3 rfl) Op2.neS rfl) (Or.inr ⟨b1,ATV.orB (TV.not (TV.val tested_Call (EV.call (fun _=>rfl) (Raw.ev g_law_cut_right) k_law_cut_right (EVs.cons (EV.nm n4 rfl) EVs.nil (fun _=>rfl)) (by apply_assumption)) OpT.bool)) (Or.inr ⟨rfl,ATV.orNil⟩)⟩))) (Or.inr ⟨rfl,EXs.nil⟩)
      case mq=>rfl
    clear hcut
    refine XXs.ex (Γ₁:=[some (B.val (.list (ns.map .int))),some (B.val (.str text)),some (B.val (.str a)),some (B.val (.str P)),some (B.val (.list (rowD R))),some (B.val (.list (rowD (closedR R)))),t.2.2.2.2.1,t.2.2.2.2.2]) ?p3 ?_
    case p3 =>
      refine' EX.toR (EX.assignCompE (outs:=rowD (closedR R)) ["item"] [.local] ?T1 ?T2 ?T3 ?T4 ?T5 (Γc:=[none]) ?T6 (ItE.of (EV.nm n4 rfl) It.list) ?T7 ?T8 ?T9 (AS.nm n5) ?Z5 ?Z6) ?mq
      case mq=>rfl
      case Z5=>intro _;exact ⟨_,rfl⟩
      case Z6=>intro _;rfl
      case T1=>decide
      case T2=>rfl
      case T3=>rfl
      case T4=>decide
      case T5=>exact .other rfl rfl (.other rfl rfl .nil)
      case T6=>exact .skip .nil
      case T7=>unfold rowD;rw [List.length_map];lia
      case T9=>intro _ _;rfl
      case T8 =>
          intro fd e1 e2 e3
          have k0:Nm fd "item" 0 .local:=Nm.of e2 e3 rfl rfl
          refine CL.filter (τ:=Option B) (fun q:Nat × List Nat=>D.tup [.str (kN q.1),.str q.2]) (fun q:Nat × List Nat=>D.tup [.str (kN q.1),.str q.2]) (fun q=>!decide (q.1 = 2)) (fun t=>[t]) R none (fun q hq t=>⟨some (.val (.tup [.str (kN q.1),.str q.2])),AS.nm k0,Ts.one ?_,fun _=>EV.nm k0 rfl⟩)
          have hl:=(hR.all q hq).lt
          have hi0:([.str (kN q.1),.str q.2]:List D)[idx ([.str (kN q.1),.str q.2]:List D).length 0]? = some (.str (kN q.1)):=rfl
          have z0:-((([.str (kN q.1),.str q.2]:List D).length:Nat):Int)≤0:=by show -((2:Nat):Int)≤0;decide
          have hb:(kN q.1 != [111,112,101,110]) = !decide (q.1 = 2):=by
            rcases (by lia:q.1 = 0 ∨ q.1 = 1 ∨ q.1 = 2) with e | e | e <;> rw [e] <;> rfl
          rw [← hb]
          exact TV.cmp (EV.item (T:="tuple") (EV.nm k0 rfl) EV.cInt rfl PySem.F.slot_tuple_getitem.lookup (Op2.itemT hi0 z0) (fun _ _=>rfl)) (EV.cS c7 (by decide)) Op2.neS rfl
    have eT:rowD (turnedR R) = pickBy (places none none (-1) (rowD (closedR R)).length) (rowD (closedR R)) ++ pick (some (((rowD (closedR R)).length:Nat):Int)) none (rowD R):=by
      rw [pick_rev,pick_from]
      unfold turnedR rowD
      rw [List.map_append,List.map_reverse,List.map_drop,List.length_map]
    refine XXs.ex (Γ₁:=[some (B.val (.list (ns.map .int))),some (B.val (.str text)),some (B.val (.str a)),some (B.val (.str P)),some (B.val (.list (rowD R))),some (B.val (.list (rowD (closedR R)))),some (B.val (.list (rowD (turnedR R)))),t.2.2.2.2.2]) ?p4 ?_
    case p4 =>
      have hzl:(pickBy (places none none (-1) (rowD (closedR R)).length) (rowD (closedR R))).length + (pick (some (((rowD (closedR R)).length:Nat):Int)) none (rowD R)).length≤sizeLine:=by
        rw [← List.length_append,← eT]
        unfold rowD
        rw [List.length_map,hTn];lia
      rw [eT]
      have hlen:∀ k,Ops S k (fun vs=>call (.builtin "len") vs) [.list (rowD (closedR R))] (.int (((rowD (closedR R)).length:Nat):Int)):=fun k=>Ops.lenL
      refine' EX.toR (EX.assign (EV.bin (EV.sliceStep ?d1 ?d2 ?d3 ?d4 ?d5 ?d6) (EV.sliceL ?d7 ?d8 ?d9 ?d10) (Op2.addL hzl)) (AS.nm n6) ?m1 ?m2 ?m3) ?mq
      case mq=>rfl
      case m1=>intro _;rfl
      case m2=>intro _;rfl
      case m3=>intro _ _;rfl
      case d1=>exact EV.nm n5 rfl
      case d2=>exact PV.none
      case d3=>exact PV.none
      case d4=>exact PV.some (EV.un EV.cInt Op1.negI)
      case d5=>decide
      case d6=>intro _ _;rfl
      case d7=>exact EV.nm n4 rfl
      case d8=>exact PV.some (EV.call (fun _=>rfl) (Raw.ev g_len) Callee.builtin (EVs.cons (EV.nm n5 rfl) EVs.nil (fun _=>rfl)) Ops.lenL)
      case d9=>exact PV.none
      case d10=>intro _ _;rfl
    clear eT
    generalize rowD (closedR R) = CD
    have htextT:∀ {k:Nat},Ops S (k + 1) (fun vs=>call (.ref 86) vs) [.list (rowD (turnedR R))] (.str (flatR (turnedR R))):=law_text_ok hK (by lia) (by lia)
    have hreadT:XOps S (k + 6) (fun vs=>call (.ref 81) vs) [.str (flatR (turnedR R))] (.list (rowD (turnedR R))):=by
      have hb:=read_back hTR
      have h:=law_read_ok (S:=S) (k:=k + 3) hK (cs:=flatR (turnedR R)) (by lia) (fun h=>(hpc 10 (hTF 10 h)).1 rfl) (by rw [hb]) (by rw [hb];exact hTR.all)
      rw [hb] at h;exact h
    have hcT:D.ok false 8 (.list (rowD (turnedR R))) = true:=row_cmp fun c hc=>(hpc c (hTF c hc)).2
    refine XXs.cons (Γ₁:=[some (B.val (.list (ns.map .int))),some (B.val (.str text)),some (B.val (.str a)),some (B.val (.str P)),some (B.val (.list (rowD R))),some (B.val (.list CD)),some (B.val (.list (rowD (turnedR R)))),t.2.2.2.2.2]) (XX.ifF (XT.cmp (XV.call (fun _=>rfl) (Raw.ev g_law_read) hK.kp_law_read ?ar hreadT) (EV.nm n6 rfl) (Op2.neSelf hcT))) ?_
    case ar=>exact EVs.cons (EV.call (fun _=>rfl) (Raw.ev g_law_text) k_law_text (EVs.cons (EV.nm n6 rfl) EVs.nil (fun _=>rfl)) (by apply_assumption)) EVs.nil (fun _=>rfl)
    clear hreadT hcT
    have line:∀ (L:List (Nat × List Nat)),RowFrom none L→SetsOk L→(flatR L).length≤284→L.length≤284→(∀ c ∈ flatR L,c < 0x110000)→Ops S (k + 6) (fun vs=>call (.ref 93) vs) [.str (flatR L)] (.list ((pTr (flatR L)).map itD))∧Ops S (k + 6) (fun vs=>call (.ref 107) vs) [.list (rowD L)] (.list ((pTr (flatR L)).map itD))∧D.ok false 8 (.list ((pTr (flatR L)).map itD)) = true:=by
      intro L h1 h2 h3 h4 h5
      refine ⟨law_items_ok (k:=k + 1) hK hT hqL hqG (by lia) h5,?_,items_cmp (pTr_ok h5)⟩
      rw [items_row h1 h2]
      exact law_alone_ok hK hT hqL hqG (by lia) (by lia) h5
    refine XXs.ex ?p6 XXs.nil
    case p6 =>
      obtain ⟨i1,a1,o1⟩:=line R hR hSets (by rw [hF];exact hPl) (by lia) (by rw [hF];exact fun c hc=>(hpc c hc).2)
      obtain ⟨i2,a2,o2⟩:=line (turnedR R) hTR hTS (by lia) (by lia) (fun c hc=>(hpc c (hTF c hc)).2)
      rw [hF] at i1 a1 o1
      refine EX.for (d:=.tup [.list (rowD R),.list (rowD (turnedR R))]) ?tp It.tup (FL.next (AS.nm n7) (EXs.cons (EX.ifF ?t1 EXs.nil) EXs.nil) (FL.next (AS.nm n7) (EXs.cons (EX.ifF ?t2 EXs.nil) EXs.nil) FL.nil))
      case tp=>exact EV.tup (EVs.cons (EV.nm n4 rfl) (EVs.cons (EV.nm n6 rfl) EVs.nil (fun _=>rfl)) (fun _=>rfl)) (by (simp only [List.length_cons,List.length_nil]);decide)
      case t1 =>
        refine TV.cmp (EV.call (fun _=>rfl) (Raw.ev g_law_items) k_law_items ?x1 i1) (EV.call (fun _=>rfl) (Raw.ev g_law_each_alone) k_law_each_alone ?x2 a1) (Op2.neSelf o1) rfl
        case x1=>exact EVs.cons (EV.call (fun _=>rfl) (Raw.ev g_law_text) k_law_text (EVs.cons (EV.nm n7 rfl) EVs.nil (fun _=>rfl)) (by apply_assumption)) EVs.nil (fun _=>rfl)
        case x2=>exact EVs.cons (EV.nm n7 rfl) EVs.nil (fun _=>rfl)
      case t2 =>
        refine TV.cmp (EV.call (fun _=>rfl) (Raw.ev g_law_items) k_law_items ?x1 i2) (EV.call (fun _=>rfl) (Raw.ev g_law_each_alone) k_law_each_alone ?x2 a2) (Op2.neSelf o2) rfl
        case x1=>exact EVs.cons (EV.call (fun _=>rfl) (Raw.ev g_law_text) k_law_text (EVs.cons (EV.nm n7 rfl) EVs.nil (fun _=>rfl)) (by apply_assumption)) EVs.nil (fun _=>rfl)
        case x2=>exact EVs.cons (EV.nm n7 rfl) EVs.nil (fun _=>rfl)
end
end Mine
open PySem PySem.W PySem.Challenge PyProof.Rows
namespace Last.PySem.W
theorem holds_open : type_of% @Mine.holds_openX := @Mine.holds_openX
end Last.PySem.W
namespace Last
open Mine
/- names that the head would give to twins of its own written objects: taken, so that it evaluates the objects as they stand -/
theorem final.tw10048477783320828828 : True := trivial
theorem final.tw10217454047840275086 : True := trivial
theorem final.tw10300446713177166893 : True := trivial
theorem final.tw10476588940173140804 : True := trivial
theorem final.tw10557189871169402433 : True := trivial
theorem final.tw10590286923464454605 : True := trivial
theorem final.tw10659891959649043768 : True := trivial
theorem final.tw10678792285863346759 : True := trivial
theorem final.tw10796908646304315365 : True := trivial
theorem final.tw10896394671680093164 : True := trivial
theorem final.tw11111904570391833740 : True := trivial
theorem final.tw11176474911872393586 : True := trivial
theorem final.tw11260157278303838653 : True := trivial
theorem final.tw11323091896494973946 : True := trivial
theorem final.tw11444740472165365559 : True := trivial
theorem final.tw11445146580112531088 : True := trivial
theorem final.tw11459583188286608578 : True := trivial
theorem final.tw11471366723972944035 : True := trivial
theorem final.tw11532957266826859561 : True := trivial
theorem final.tw11608071329324326193 : True := trivial
theorem final.tw11617030813348656044 : True := trivial
theorem final.tw1169522467049046735 : True := trivial
theorem final.tw11696797849116541343 : True := trivial
theorem final.tw1177462676804640362 : True := trivial
theorem final.tw11778177033000962001 : True := trivial
theorem final.tw11836159860045636320 : True := trivial
theorem final.tw11848784611628337997 : True := trivial
theorem final.tw11924409647229981123 : True := trivial
theorem final.tw11988407541693613758 : True := trivial
theorem final.tw12045571264819489038 : True := trivial
theorem final.tw12074795690467717014 : True := trivial
theorem final.tw12113197527312169604 : True := trivial
theorem final.tw12206046294949172 : True := trivial
theorem final.tw12219990084054065665 : True := trivial
theorem final.tw12233597471598121047 : True := trivial
theorem final.tw12262591786814824642 : True := trivial
theorem final.tw1228819800477241204 : True := trivial
theorem final.tw12306063145224492320 : True := trivial
theorem final.tw12471247608679237391 : True := trivial
theorem final.tw1247427992529941040 : True := trivial
theorem final.tw12573256512786936957 : True := trivial
theorem final.tw12586678340943966005 : True := trivial
theorem final.tw12684829316585593837 : True := trivial
theorem final.tw12710569801488946179 : True := trivial
theorem final.tw12767845410225426324 : True := trivial
theorem final.tw12845622583096620238 : True := trivial
theorem final.tw12847270522228563450 : True := trivial
theorem final.tw12870756867748292486 : True := trivial
theorem final.tw12913646571875299318 : True := trivial
theorem final.tw12974013772213015773 : True := trivial
theorem final.tw13086480032042919509 : True := trivial
theorem final.tw1310155196093492344 : True := trivial
theorem final.tw13176313974114871206 : True := trivial
theorem final.tw13284568654504145897 : True := trivial
theorem final.tw13326123193695250490 : True := trivial
theorem final.tw13445446307910921587 : True := trivial
theorem final.tw13559964953267776205 : True := trivial
theorem final.tw13592631572174344137 : True := trivial
theorem final.tw13611716091692611327 : True := trivial
theorem final.tw13833423140110341064 : True := trivial
theorem final.tw13843436752052112669 : True := trivial
theorem final.tw1398237384995176979 : True := trivial
theorem final.tw14220998132021317405 : True := trivial
theorem final.tw14388222117675175811 : True := trivial
theorem final.tw14409873638939385791 : True := trivial
theorem final.tw14448340928241440132 : True := trivial
theorem final.tw14491215826086194737 : True := trivial
theorem final.tw14498538060953642672 : True := trivial
theorem final.tw14513997091144568063 : True := trivial
theorem final.tw14517842410913677772 : True := trivial
theorem final.tw1469944234512319309 : True := trivial
theorem final.tw14701412012396466139 : True := trivial
theorem final.tw14842626152082070147 : True := trivial
theorem final.tw1490708222031706764 : True := trivial
theorem final.tw15195750188694321203 : True := trivial
theorem final.tw1523004953630648637 : True := trivial
theorem final.tw15315757307683835489 : True := trivial
theorem final.tw15347460505315461094 : True := trivial
theorem final.tw15389761255997604927 : True := trivial
theorem final.tw15514245458585554536 : True := trivial
theorem final.tw15591984040050380287 : True := trivial
theorem final.tw15606086357568068687 : True := trivial
theorem final.tw15701779804769383876 : True := trivial
theorem final.tw15844683353443539506 : True := trivial
theorem final.tw1586835778812549882 : True := trivial
theorem final.tw16003237295946413508 : True := trivial
theorem final.tw16099599786167557607 : True := trivial
theorem final.tw16195476242969822314 : True := trivial
theorem final.tw16380120320316698650 : True := trivial
theorem final.tw1640366826820132312 : True := trivial
theorem final.tw16431422188023466630 : True := trivial
theorem final.tw16437157860890543690 : True := trivial
theorem final.tw16484010788056020759 : True := trivial
theorem final.tw16729402744742819922 : True := trivial
theorem final.tw16770289363066443529 : True := trivial
theorem final.tw16873904797390996904 : True := trivial
theorem final.tw16912539989174237061 : True := trivial
theorem final.tw16921051501079490240 : True := trivial
theorem final.tw17075190329198367963 : True := trivial
theorem final.tw17131238120834435120 : True := trivial
theorem final.tw17351098400331437029 : True := trivial
theorem final.tw17374727517812741810 : True := trivial
theorem final.tw17440722031037957320 : True := trivial
theorem final.tw17567942142327617613 : True := trivial
theorem final.tw17647839597573330087 : True := trivial
theorem final.tw17767201608865772201 : True := trivial
theorem final.tw17903548232353439156 : True := trivial
theorem final.tw17950562298525910395 : True := trivial
theorem final.tw18085638453929190844 : True := trivial
theorem final.tw18110310287022236905 : True := trivial
theorem final.tw18166085956352142590 : True := trivial
theorem final.tw18268202771875403427 : True := trivial
theorem final.tw18430641440253752316 : True := trivial
theorem final.tw2056274692652274196 : True := trivial
theorem final.tw2090244791737163816 : True := trivial
theorem final.tw2117588157521308376 : True := trivial
theorem final.tw2226372475933536590 : True := trivial
theorem final.tw2255018733252123316 : True := trivial
theorem final.tw2312045742313055017 : True := trivial
theorem final.tw2336284903868690814 : True := trivial
theorem final.tw2373265378611152758 : True := trivial
theorem final.tw2468611668913634520 : True := trivial
theorem final.tw2491291233517300717 : True := trivial
theorem final.tw249718628162354811 : True := trivial
theorem final.tw2628627287666175570 : True := trivial
theorem final.tw2674313465616624871 : True := trivial
theorem final.tw273251164541987275 : True := trivial
theorem final.tw2909868758456817111 : True := trivial
theorem final.tw2962539247615230467 : True := trivial
theorem final.tw2998787070218428459 : True := trivial
theorem final.tw3299988183840866705 : True := trivial
theorem final.tw3342024952415696814 : True := trivial
theorem final.tw338125918241059407 : True := trivial
theorem final.tw3399960853029662349 : True := trivial
theorem final.tw3680288548777560149 : True := trivial
theorem final.tw3777047018664975095 : True := trivial
theorem final.tw379102119940712863 : True := trivial
theorem final.tw3971759465856323187 : True := trivial
theorem final.tw412495781358873997 : True := trivial
theorem final.tw4147593656161760737 : True := trivial
theorem final.tw4329657653239528472 : True := trivial
theorem final.tw4400906416146488329 : True := trivial
theorem final.tw4507640604287824504 : True := trivial
theorem final.tw4599912264346627653 : True := trivial
theorem final.tw4682358955230446465 : True := trivial
theorem final.tw4854713287963522776 : True := trivial
theorem final.tw4927241305591478041 : True := trivial
theorem final.tw5033617056458977446 : True := trivial
theorem final.tw5061294570072708870 : True := trivial
theorem final.tw5087870588299855092 : True := trivial
theorem final.tw5092913474919658818 : True := trivial
theorem final.tw515578928007813440 : True := trivial
theorem final.tw5518576460516104648 : True := trivial
theorem final.tw5540448857649318950 : True := trivial
theorem final.tw5583746416964125295 : True := trivial
theorem final.tw5824390208260552694 : True := trivial
theorem final.tw6049688867273982831 : True := trivial
theorem final.tw6080995131517772610 : True := trivial
theorem final.tw6093037843311072225 : True := trivial
theorem final.tw6203841095722607964 : True := trivial
theorem final.tw6250768813796586664 : True := trivial
theorem final.tw6702938047518881582 : True := trivial
theorem final.tw6710053542086917127 : True := trivial
theorem final.tw6761604869244457499 : True := trivial
theorem final.tw6771319438242347206 : True := trivial
theorem final.tw6983364502287295158 : True := trivial
theorem final.tw7025481856986355269 : True := trivial
theorem final.tw7317700795715562757 : True := trivial
theorem final.tw7318412809966517968 : True := trivial
theorem final.tw7421254856267668572 : True := trivial
theorem final.tw7565422199971611029 : True := trivial
theorem final.tw7572139724491609714 : True := trivial
theorem final.tw7576473743910955173 : True := trivial
theorem final.tw7682549474952767773 : True := trivial
theorem final.tw7800032319402172581 : True := trivial
theorem final.tw7811655457550115275 : True := trivial
theorem final.tw7846210718972364721 : True := trivial
theorem final.tw7846315421804840437 : True := trivial
theorem final.tw7904795731455965854 : True := trivial
theorem final.tw8096177591256428408 : True := trivial
theorem final.tw8107828517564237644 : True := trivial
theorem final.tw8146045178319310148 : True := trivial
theorem final.tw8296199790852951654 : True := trivial
theorem final.tw8360142799577598901 : True := trivial
theorem final.tw8445764807539631079 : True := trivial
theorem final.tw8577457897551713367 : True := trivial
theorem final.tw8621754883288679227 : True := trivial
theorem final.tw8665824127841939444 : True := trivial
theorem final.tw8677123129074969304 : True := trivial
theorem final.tw8708157138449525989 : True := trivial
theorem final.tw8734591695507213977 : True := trivial
theorem final.tw8855399079224150533 : True := trivial
theorem final.tw8953526243645247338 : True := trivial
theorem final.tw9015095468626236612 : True := trivial
theorem final.tw9185243627467623548 : True := trivial
theorem final.tw9237485327001556163 : True := trivial
theorem final.tw9245669549184042392 : True := trivial
theorem final.tw9359425105757812697 : True := trivial
theorem final.tw9390529493921715101 : True := trivial
theorem final.tw9399528762206790236 : True := trivial
theorem final.tw9522138013736858835 : True := trivial
theorem final.tw9547487427879780608 : True := trivial
theorem final.tw9561190212630924889 : True := trivial
theorem final.tw9611250510291020185 : True := trivial
theorem final.tw9641862863245323549 : True := trivial
theorem final.tw9666999433933112290 : True := trivial
theorem final.tw9705890510917080920 : True := trivial
theorem final.tw9743877696991825441 : True := trivial
theorem final.tw9806988927336732568 : True := trivial
theorem final.tw9810596063307466559 : True := trivial
theorem final.tw9857108652211751375 : True := trivial
theorem final.tw9937570788288361718 : True := trivial
theorem final.tw9968439589506994505 : True := trivial
theorem final.tw9986598408257521505 : True := trivial
set_option Elab.async true in
set_option maxRecDepth 100000 in
set_option maxHeartbeats 8000000 in
theorem final : rw_dn0049_01.Holds := by
  w_on
  o_law
  k_head
  case hw => w_witness2
  w_strict (
    k_fill
    intro w s₀ s₁ mg mb G Y fa o pm cd doc dV kV ho hd hcd hD hmg hg args vals as hpre hlay hrd hwl hlo
    have KX := km_in_of Y
    km_tabs Y
    refine Ground.open G ?_
    intro T B D TE TW
    have hmg' := hmg
    km_lay T hmg ho hd cd
    clear hmg
    wrow_args hpre hlay hrd hwl hlo
    rename_i hs hlay0 hLa hr1 hl2 a1 a2 l vs a3 hL ra w1 r0 hI hr hc1 hc2
    refine law_doneX (S := ⟨PySem.Challenge.rw_dn0049_01.row.prog, w, _, mg, mb, [(66, 62)], fun p => fi_translate.qual ++ (if p.line = 62 then "<lambda>" else "<genexpr>"), s₁.heap.objs.size, true⟩) (a := 112) (k := 7) (x := "law") ?C (by decide) hT9 KX ?n T rfl hg hmg' ?x hL w1 ⟨_, rfl⟩ hI ?len (fun _ => rfl) ?post
    case n => rfl
    case x => rfl
    case len => have h1 := hI.length; have h2 := sizeLine_eq; omega
    case post => wrow_post
    case C => exact @law_ok _ ⟨rfl⟩ ⟨rfl, rfl, rfl, rfl, rfl, rfl, rfl, rfl, rfl, rfl, rfl, rfl, rfl, rfl, rfl, rfl, rfl, rfl, Mine.FnAt.of rfl rfl (by rfl) (Mine.lenS fun _ => Mine.len0 rfl) rfl rfl rfl rfl rfl rfl, Mine.Callee.fn rfl, Mine.FnAt.of rfl rfl (by rfl) (Mine.lenS fun _ => Mine.len0 rfl) rfl rfl rfl rfl rfl rfl, Mine.Callee.fn rfl, Mine.FnAt.of rfl rfl (by rfl) (Mine.lenS fun _ => Mine.lenS fun _ => Mine.lenS fun _ => Mine.len0 rfl) rfl rfl rfl rfl rfl rfl, Mine.Callee.fn rfl, Mine.FnAt.of rfl rfl (by rfl) (Mine.lenS fun _ => Mine.len0 rfl) rfl rfl rfl rfl rfl rfl, Mine.Callee.fn rfl, Mine.FnAt.of rfl rfl (by rfl) (Mine.lenS fun _ => Mine.len0 rfl) rfl rfl rfl rfl rfl rfl, Mine.Callee.fn rfl, rfl, Mine.FnAt.of rfl rfl (by rfl) (Mine.lenS fun _ => Mine.len0 rfl) rfl rfl rfl rfl rfl rfl, Mine.Callee.fn rfl, Mine.FnAt.of rfl rfl (by rfl) (Mine.lenS fun _ => Mine.len0 rfl) rfl rfl rfl rfl rfl rfl, Mine.Callee.fn rfl, Mine.FnAt.of rfl rfl (by rfl) (Mine.lenS fun _ => Mine.len0 rfl) rfl rfl rfl rfl rfl rfl, Mine.Callee.fn rfl, Mine.FnAt.of rfl rfl (by rfl) (Mine.lenS fun _ => Mine.len0 rfl) rfl rfl rfl rfl rfl rfl, Mine.Callee.fn rfl, Mine.FnAt.of rfl rfl (by rfl) (Mine.lenS fun _ => Mine.len0 rfl) rfl rfl rfl rfl rfl rfl, Mine.Callee.fn rfl, ⟨⟨_, _, _, _, _, rfl, rfl, rfl, rfl, _, _, _, rfl⟩, ⟨_, _, rfl, congrArg (Data.seq · 0) Mine.gvals_eq.symm⟩⟩, ⟨⟨_, _, _, rfl, rfl, rfl, rfl⟩, ⟨_, _, rfl, rfl⟩⟩, ⟨_, _, rfl, by repeat (first | exact Mine.EscAll.nil | refine Mine.EscAll.cons rfl rfl ?_)⟩⟩ 0 _ (.head _) (fun p h _ => by simp [h]) (fun p h _ => by simp [h]) (by have h1 := hI.length; omega))
end Last
theorem PySem.Challenge.cw_dn0049_01_holds : PySem.Challenge.rw_dn0049_01.Holds :=
  Last.final
