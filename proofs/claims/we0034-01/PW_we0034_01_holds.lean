import PyProof.Rows.All
import Wide.All
import OpenK.AllK
import Wide.FinOn
import KE.KNest
import KE.KRevIter
import KE.KSortTup
import KE.KLam
import KE.KSortKey
import PySem.Challenge.RW_we0034_01
set_option Elab.async false
set_option linter.all false
set_option genSizeOf false
set_option genInjectivity false
section
open PySem
namespace Wk
noncomputable def zIi(st:Stmt):Str×Arguments×List Stmt×Scope×PySem.Expr×Pos:=Stmt.casesOn (motive_2:=fun _=>Str×Arguments×List Stmt×Scope×PySem.Expr×Pos) st (fun n a b _ _ _ s _ _ p=>(n,a,b,s,default,p)) (fun _ _ _ _ _ _ _ _ _ _=>(("":Str),default,[],default,default,default)) (fun _ _ _ _ _ _ _ _ _ _ _=>(("":Str),default,[],default,default,default)) (fun _ _=>(("":Str),default,[],default,default,default)) (fun _ _=>(("":Str),default,[],default,default,default)) (fun _ t _=>(("":Str),default,[],default,t,default)) (fun _ _ _ _ _ _ _=>(("":Str),default,[],default,default,default)) (fun _ _ _ _=>(("":Str),default,[],default,default,default)) (fun _ _ _ _ _=>(("":Str),default,[],default,default,default)) (fun _ t b _ _=>(("":Str),default,b,default,t,default)) (fun _ _ _ _ _=>(("":Str),default,[],default,default,default)) (fun t b _ _=>(("":Str),default,b,default,t,default)) (fun t b _ _=>(("":Str),default,b,default,t,default)) (fun _ _ _=>(("":Str),default,[],default,default,default)) (fun _ _ _=>(("":Str),default,[],default,default,default)) (fun _ _ _=>(("":Str),default,[],default,default,default)) (fun _ _ _=>(("":Str),default,[],default,default,default)) (fun _ _ _ _ _=>(("":Str),default,[],default,default,default)) (fun _ _ _ _ _=>(("":Str),default,[],default,default,default)) (fun _ _ _=>(("":Str),default,[],default,default,default)) (fun _ _=>(("":Str),default,[],default,default,default)) (fun _ _ _ _=>(("":Str),default,[],default,default,default)) (fun _ _=>(("":Str),default,[],default,default,default)) (fun _ _=>(("":Str),default,[],default,default,default)) (fun _ _=>(("":Str),default,[],default,default,default)) (fun _=>(("":Str),default,[],default,default,default)) (fun _=>(("":Str),default,[],default,default,default)) (fun _=>(("":Str),default,[],default,default,default))
noncomputable def eparts(e:PySem.Expr):Option Const×List (Option PySem.Expr)×List PySem.Expr:=PySem.Expr.casesOn (motive_1:=fun _=>Option Const×List (Option PySem.Expr)×List PySem.Expr) e (fun _ _ _=>(none,[],[])) (fun _ _ _=>(none,[],[])) (fun _ _ _ _=>(none,[],[])) (fun _ _ _=>(none,[],[])) (fun _ _ _ _=>(none,[],[])) (fun _ _ _ _=>(none,[],[])) (fun k v _=>(none,k,v)) (fun _ _ _=>(none,[],[])) (fun _ _ _ _=>(none,[],[])) (fun _ _ _ _=>(none,[],[])) (fun _ _ _ _ _=>(none,[],[])) (fun _ _ _ _=>(none,[],[])) (fun _ _=>(none,[],[])) (fun _ _=>(none,[],[])) (fun _ _=>(none,[],[])) (fun _ _ _ _=>(none,[],[])) (fun _ v _ _=>(none,[],v)) (fun _ _ _ _=>(none,[],[])) (fun _ _=>(none,[],[])) (fun c _ _=>(some c,[],[])) (fun _ _ _=>(none,[],[])) (fun _ _ _=>(none,[],[])) (fun _ _=>(none,[],[])) (fun _ _=>(none,[],[])) (fun _ _=>(none,[],[])) (fun _ _ _=>(none,[],[])) (fun _ _ _ _=>(none,[],[]))
noncomputable def sName(st:Stmt):Str:=(zIi st).1
noncomputable def sArgs(st:Stmt):Arguments:=(zIi st).2.1
noncomputable def sBody(st:Stmt):List Stmt:=(zIi st).2.2.1
noncomputable def sScope(st:Stmt):Scope:=(zIi st).2.2.2.1
noncomputable def stTest(st:Stmt):PySem.Expr:=(zIi st).2.2.2.2.1
noncomputable def sPos(st:Stmt):Pos:=(zIi st).2.2.2.2.2
private theorem k0{c:Const}{P:Prop}(h:(none:Option Const)=some c):P:=by cases h
private theorem k1{c c':Const}{k:Nat}{p:Pos}(h:some c'=some c):∃a b,PySem.Expr.Constant c' k p=.Constant c a b:=by cases h;exact⟨_,_,rfl⟩
private theorem eparts_is{e:PySem.Expr}{c:Const}:(eparts e).1=some c→∃a b,e=.Constant c a b:=PySem.Expr.casesOn (motive_1:=fun e=>(eparts e).1=some c→∃a b,e=.Constant c a b) e (fun _ _ _ h=>k0 h) (fun _ _ _ h=>k0 h) (fun _ _ _ _ h=>k0 h) (fun _ _ _ h=>k0 h) (fun _ _ _ _ h=>k0 h) (fun _ _ _ _ h=>k0 h) (fun _ _ _ h=>k0 h) (fun _ _ _ h=>k0 h) (fun _ _ _ _ h=>k0 h) (fun _ _ _ _ h=>k0 h) (fun _ _ _ _ _ h=>k0 h) (fun _ _ _ _ h=>k0 h) (fun _ _ h=>k0 h) (fun _ _ h=>k0 h) (fun _ _ h=>k0 h) (fun _ _ _ _ h=>k0 h) (fun _ _ _ _ h=>k0 h) (fun _ _ _ _ h=>k0 h) (fun _ _ h=>k0 h) (fun _ _ _ h=>k1 h) (fun _ _ _ h=>k0 h) (fun _ _ _ h=>k0 h) (fun _ _ h=>k0 h) (fun _ _ h=>k0 h) (fun _ _ h=>k0 h) (fun _ _ _ h=>k0 h) (fun _ _ _ _ h=>k0 h)
end Wk
end
section
open PySem PySem.W
namespace Mine
variable{tb:String→Option Builtin}{p:Program}{w:World}{n₀:Nat}{ann:Option Value}
private theorem wY:∀(n m:Nat) (s:Shared) (t:Thread) {s' t'},segGo tb p w n₀ ann 1 n s t=some (s',t')→segGo tb p w n₀ ann 1 (n+m) s t=segGo tb p w n₀ ann 1 m s' t'
  | 0, m, s, t, s', t', h => by
    obtain⟨rfl,rfl⟩:s=s'∧t=t':=by simpa [segGo] using h
    rw[Nat.zero_add]
  | n + 1, m, s, t, s', t', h => by
    rw[show n+1+m=n+m+1 by lia]
    unfold segGo at h
    conv=>lhs;unfold segGo
    cases he:endAt 1 t with
    | some f=>rw[he] at h;cases h
    | none =>
      rw[he] at h
      cases hk:stepOk n₀ ann t with
      | false=>rw[hk] at h;cases h
      | true =>
        rw[hk] at h
        cases hs:step (denote tb) p w s t with
        | halt o s₂=>rw[hs] at h;cases h
        | go s₂ t₂=>rw[hs] at h;exact wY n m s₂ t₂ h
structure Go(tb:String→Option Builtin)(p:Program)(w:World)(n₀:Nat){α:Type}(n:Nat)(t:Sem α)(s:Shared)(a:α)(s':Shared):Prop where
 run:∀(ann:Option Value) (K:α→Sem Fin) (H:Value→Sem Fin) (gd:Bool→Bool) (lv:List Value→List Value) (code:Code) (pos:Pos) (st:List Frame),1≤st.length →
  ∃pos',segGo tb p w n₀ ann 1 n s ⟨t.wrap K H gd lv,code,pos,st⟩=some (s',⟨K a,code,pos',st⟩)
private theorem Go.seg{α:Type}{n:Nat}{t:Sem α}{s a s'}(h:Go tb p w n₀ n t s a s')(K:α→Sem Fin)(H:Value→Sem Fin)(gd:Bool→Bool)(lv:List Value→List Value)(code:Code)(pos:Pos)(st:List Frame)(hl:1≤st.length) :
  ∃pos',segGo tb p w n₀ ann 1 n s ⟨t.wrap K H gd lv,code,pos,st⟩=some (s',⟨K a,code,pos',st⟩):=h.run ann K H gd lv code pos st hl
private theorem Go.pure{α:Type}(a:α)(s:Shared):Go tb p w n₀ 0 (.pure a) s a s:=.mk fun ann K H gd lv code pos st _=>⟨pos,rfl⟩
private theorem Go.rule{α:Type}{n:Nat}{s s':Shared}{a:α}{tag k}(h:Go tb p w n₀ n (k ()) s a s'):Go tb p w n₀ (n+1) (.rule tag k) s a s':=.mk fun ann K H gd lv code pos st hl=>by
 obtain⟨q,e⟩:=h.run ann K H gd lv code pos st hl
 exact⟨q,by rw[←e];cases hb:(st.length==1) <;> simp only[segGo,endAt,Sem.wrap,hb,stepOk,Thread.calm,Thread.atCollectorCode,Thread.yieldsInsideHandler,step] <;> rfl⟩
private theorem Go.at{α:Type}{n:Nat}{s s':Shared}{a:α}{pos1 k}(h:Go tb p w n₀ n (k ()) s a s'):Go tb p w n₀ (n+1) (.at pos1 k) s a s':=.mk fun ann K H gd lv code pos st hl=>by
 obtain⟨q,e⟩:=h.run ann K H gd lv code pos1 st hl
 exact⟨q,by rw[←e];cases hb:(st.length==1) <;> simp only[segGo,endAt,Sem.wrap,hb,stepOk,Thread.calm,Thread.atCollectorCode,Thread.yieldsInsideHandler,step] <;> rfl⟩
private theorem Go.fresh{α:Type}{n:Nat}{s s':Shared}{a:α}{k}(h:Go tb p w n₀ n (k s.toks) {s with toks:=s.toks+1} a s'):Go tb p w n₀ (n+1) (.fresh k) s a s':=.mk fun ann K H gd lv code pos st hl=>by
 obtain⟨q,e⟩:=h.run ann K H gd lv code pos st hl
 exact⟨q,by rw[←e];cases hb:(st.length==1) <;> simp only[segGo,endAt,Sem.wrap,hb,stepOk,Thread.calm,Thread.atCollectorCode,Thread.yieldsInsideHandler,step] <;> rfl⟩
private theorem Go.ask{α:Type}{n:Nat}{s s':Shared}{a:α}{k}(h:Go tb p w n₀ n (k ⟨p,w.params⟩) s a s'):Go tb p w n₀ (n+1) (.ask k) s a s':=.mk fun ann K H gd lv code pos st hl=>by
 obtain⟨q,e⟩:=h.run ann K H gd lv code pos st hl
 exact⟨q,by rw[←e];cases hb:(st.length==1) <;> simp only[segGo,endAt,Sem.wrap,hb,stepOk,Thread.calm,Thread.atCollectorCode,Thread.yieldsInsideHandler,step] <;> rfl⟩
private theorem Go.load{α:Type}{n:Nat}{s s':Shared}{a:α}{x part k o}(ho:s.heap.get? x=some o)(h:Go tb p w n₀ n (k o) s a s'):Go tb p w n₀ (n+1) (.load x part k) s a s':=.mk fun ann K H gd lv code pos st hl=>by
 obtain⟨q,e⟩:=h.run ann K H gd lv code pos st hl
 exact⟨q,by rw[←e];cases hb:(st.length==1) <;> simp only[segGo,endAt,Sem.wrap,hb,stepOk,Thread.calm,Thread.atCollectorCode,Thread.yieldsInsideHandler,step,ho] <;> rfl⟩
private theorem Go.update{α:Type}{n:Nat}{s s':Shared}{a:α}{x part f k}(ho:(s.heap.get? x).isSome=true)(hn:n₀≤x)(h:Go tb p w n₀ n (k ()) {s with heap:=s.heap.update x f} a s'):Go tb p w n₀ (n+1) (.update x part f k) s a s':=.mk fun ann K H gd lv code pos st hl=>by
 obtain⟨q,e⟩:=h.run ann K H gd lv code pos st hl
 have hb':Nat.ble n₀ x=true:=Nat.ble_eq_true_of_le hn
 exact⟨q,by rw[←e];cases hb:(st.length==1) <;> simp only[segGo,endAt,Sem.wrap,hb,stepOk,Thread.calm,Thread.atCollectorCode,Thread.yieldsInsideHandler,step,ho,hb',if_true] <;> rfl⟩
private theorem Go.alloc{α:Type}{n:Nat}{s s':Shared}{a:α}{o k}(h:Go tb p w n₀ n (k s.heap.objs.size) {s with heap:=s.heap.push o} a s'):Go tb p w n₀ (n+1) (.alloc o k) s a s':=.mk fun ann K H gd lv code pos st hl=>by
 obtain⟨q,e⟩:=h.run ann K H gd lv code pos st hl
 exact⟨q,by rw[←e];cases hb:(st.length==1) <;> simp only[segGo,endAt,Sem.wrap,hb,stepOk,Thread.calm,Thread.atCollectorCode,Thread.yieldsInsideHandler,step] <;> rfl⟩
private theorem Go.call{α:Type}{m n:Nat}{f args bid bargs hd g l k}{s s₁ s':Shared}{r}{a:α}(h0:denote tb (.call f args)=.pure (.again (.builtin bid bargs)))(hq:bid.startsWith "lifetime."=false)
  (h1:Go tb p w n₀ m (denote tb (.builtin bid bargs)) s (.done r) s₁) (h2:Go tb p w n₀ n (k (.ok r)) s₁ a s'):Go tb p w n₀ (n+1+m+2) (.call (.call f args) hd g l k) s a s':=.mk fun ann K H gd lv code pos st hl=>by
 obtain⟨q2,e2⟩:=h2.run ann K H gd lv code pos st hl
 refine⟨q2,?_⟩
 have hx:(st.length+1==1)=false:=beq_eq_false_iff_ne.mpr (by lia)
 obtain⟨kp,st1⟩:∃kp,step (denote tb) p w s ⟨.call (.call f args) hd (gd g) (lv l) fun x=>(k x).wrap K H gd lv,code,pos,st⟩ =
   .go s ⟨denote tb (.call f args),.call f args,pos,.ret (fun x=>(k x).wrap K H gd lv) hd (gd g) (lv l) code pos kp::st⟩:=⟨_,rfl⟩
 obtain⟨q1,e1⟩:=h1.run ann Sem.pure Sem.raise _root_.id _root_.id (.builtin bid bargs) pos (.ret (fun x=>(k x).wrap K H gd lv) hd (gd g) (lv l) code pos (keptBy (.call f args) (.builtin bid bargs) (lv l) kp)::st) (by simp)
 rw[show(denote tb (Code.builtin bid bargs)).wrap Sem.pure Sem.raise _root_.id _root_.id=denote tb (Code.builtin bid bargs) by rw[←Sem.bind_eq_wrap];exact bind_pure (m:=Sem) _] at e1
 rw[show n+1+m+2=1+(1+(m+(1+n))) by lia]
 refine(wY 1 _ _ _ (s':=s) (t':=⟨denote tb (.call f args),.call f args,pos,.ret (fun x=>(k x).wrap K H gd lv) hd (gd g) (lv l) code pos kp::st⟩) ?_).trans ?_
 ·cases hb:(st.length==1) <;> simp only[segGo,endAt,Sem.wrap,hb,stepOk,Thread.calm,Thread.atCollectorCode,Thread.yieldsInsideHandler,st1] <;> rfl
 rw[h0]
 refine(wY 1 _ _ _ (s':=s) (t':=⟨denote tb (.builtin bid bargs),.builtin bid bargs,pos,.ret (fun x=>(k x).wrap K H gd lv) hd (gd g) (lv l) code pos (keptBy (.call f args) (.builtin bid bargs) (lv l) kp)::st⟩) ?_).trans ?_
 ·obtain⟨hp,gs,dr,tk,os⟩:=s
  simp only[segGo,endAt,List.length_cons,hx,stepOk,Thread.calm,Thread.atCollectorCode,Thread.yieldsInsideHandler,hq,PySem.W.step_again]
  rfl
 refine(wY m _ _ _ e1).trans ?_
 refine(wY 1 _ _ _ (s':=s₁) (t':=⟨(k (.ok r)).wrap K H gd lv,code,pos,st⟩) ?_).trans e2
 simp only[segGo,endAt,List.length_cons,hx,stepOk,Thread.calm,Thread.atCollectorCode,Thread.yieldsInsideHandler]
 rfl
private theorem Go.wrap{α β:Type}{n m:Nat}{t:Sem α}{s a s₁}{K:α→Sem β}{H:Value→Sem β}{gd:Bool→Bool}{lv:List Value→List Value}{b s₂}
  (h:Go tb p w n₀ n t s a s₁) (k:Go tb p w n₀ m (K a) s₁ b s₂):Go tb p w n₀ (n+m) (t.wrap K H gd lv) s b s₂:=.mk fun ann K' H' gd' lv' code pos st hl=>by
 rw[Sem.wrap_wrap]
 obtain⟨q,e⟩:=h.run ann _ _ _ _ code pos st hl
 obtain⟨q',e'⟩:=k.run ann K' H' gd' lv' code q st hl
 exact⟨q',(wY n m _ _ e).trans e'⟩
private theorem Go.bind{α β:Type}{n m:Nat}{t:Sem α}{s a s₁}{K:α→Sem β}{b s₂}
  (h:Go tb p w n₀ n t s a s₁) (k:Go tb p w n₀ m (K a) s₁ b s₂):Go tb p w n₀ (n+m) (t>>=K) s b s₂:=by
 rw[Sem.bind_eq_wrap'];exact h.wrap k
private theorem Go.keep{α:Type}{n:Nat}{t:Sem α}{s a s₁}{vs:List Value}(h:Go tb p w n₀ n t s a s₁):Go tb p w n₀ n (t.keep vs) s a s₁:=by
 rw[Sem.keep_eq_wrap];exact h.wrap (.pure _ _)
private theorem Go.holding{α:Type}{n:Nat}{t:Sem α}{s a s₁}{vs:List Value}(h:Go tb p w n₀ n t s a s₁):Go tb p w n₀ n (holding vs t) s a s₁:=by
 unfold PySem.holding
 split
 ·exact h
 ·exact h.keep
end Mine
end
section
open PySem PySem.W Mine
namespace Mine
variable{p:Program}{w:World}{n₀:Nat}{s:Shared}
private theorem zK6(k:Int)(t:Tok):specialOf (.int k t) (Str.ofString "__hash__")=Sem.pure (some (.builtin "int.__hash__")):=by kernel_rfl
private theorem zKy(k:Int)(t:Tok):bindSpecial (.builtin "int.__hash__") (.int k t)=Sem.pure (.builtin "int.__hash__",[.int k t]):=by kernel_rfl
private theorem zPn(k:Int)(t:Tok):Go treeTable p w n₀ 1 (bindSpecialIfBound? (.int k t) (Str.ofString "__hash__")) s (some (.builtin "int.__hash__",[.int k t])) s:=by
 unfold bindSpecialIfBound?
 rw[zK6]
 refine Go.bind (n:=0) (m:=1) (.pure _ _) ?_
 show Go treeTable p w n₀ 1 (Sem.ask _) _ _ _
 refine Go.ask ?_
 show Go treeTable p w n₀ 0 (if w.params.followText "special-get-raises"=true then _ else _) _ _ _
 split
 ·rw[zKy];exact Go.pure _ _
 ·rw[zKy];exact Go.pure _ _
private theorem zNq(k:Int)(t:Tok):denote treeTable (.builtin "int.__hash__" ⟨[.int k t],[]⟩)=Sem.fresh fun tk=>Sem.pure (.done (.ret (.int (rawHash k) tk))):=by kernel_rfl
private theorem zKz(k:Int)(t:Tok):denote treeTable (.call (.builtin "int.__hash__") ⟨[.int k t],[]⟩)=.pure (.again (.builtin "int.__hash__" ⟨[.int k t],[]⟩)):=by kernel_rfl
private theorem zFx(k:Int)(t:Tok):Go treeTable p w n₀ 4 (call (.builtin "int.__hash__") [.int k t]) s (.int (rawHash k) s.toks) {s with toks:=s.toks+1}:=by
 show Go treeTable p w n₀ 4 (Sem.call (.call (.builtin "int.__hash__") ⟨[.int k t],[]⟩) _ _ _ _) _ _ _
 exact Go.call (m:=1) (n:=0) (zKz k t) (by decide +kernel) (by rw[zNq];exact Go.fresh (Go.pure _ _)) (Go.pure _ _)
private theorem go_hash(k:Int)(t:Tok):Go treeTable p w n₀ 5 (pyHash (.int k t)) s (hashInt k) {s with toks:=s.toks+1}:=by
 have hr:=rawHash_range k
 show Go treeTable p w n₀ 5 (pyHashByItsType (.int k t)) _ _ _
 unfold pyHashByItsType
 refine Go.bind (n:=0) (m:=5) (a:=()) (s₁:=s) (by exact Go.pure _ _) ?_
 rw[zK6]
 refine Go.bind (n:=0) (m:=5) (.pure _ _) ?_
 show Go treeTable p w n₀ 5 (if (some (Value.builtin "int.__hash__")==some Value.none)=true then _ else _) _ _ _
 rw[if_neg (by rw[beq_builtin_none];exact Bool.false_ne_true)]
 refine Go.bind (n:=0) (m:=5) (.pure _ _) ?_
 show Go treeTable p w n₀ 5 (callSpecialIfBoundUnlessNone? (.int k t) (Str.ofString "__hash__") _>>=_) _ _ _
 refine Go.bind (n:=5) (m:=0) (a:=some (.int (rawHash k) s.toks)) (s₁:={s with toks:=s.toks+1}) ?_ ?_
 ·unfold callSpecialIfBoundUnlessNone?
  refine Go.holding ?_
  refine Go.bind (n:=1) (m:=4) (zPn k t) ?_
  show Go treeTable p w n₀ 4 (call (.builtin "int.__hash__") [.int k t]>>=_) _ _ _
  exact Go.bind (n:=4) (m:=0) (zFx k t) (Go.pure _ _)
 ·show Go treeTable p w n₀ 0 (if (decide (-(2:Int)^63≤rawHash k)&&decide (rawHash k<2^63))=true then _ else _) _ _ _
  rw[if_pos (by rw[decide_eq_true hr.1,decide_eq_true hr.2];rfl)]
  exact Go.pure _ _
end Mine
namespace Mine
variable{p:Program}{w:World}{n₀:Nat}{s:Shared}
noncomputable def R(p:Program)(w:World)(n₀:Nat)(B:Nat){α:Type}(t:Sem α)(s:Shared)(a:α)(s':Shared):Prop:=∃n,n≤B∧Go treeTable p w n₀ n t s a s'
private theorem R.pure{B:Nat}{α:Type}{a:α}:R p w n₀ B (Sem.pure a) s a s:=⟨0,Nat.zero_le _,.pure _ _⟩
private theorem R.pure0{α:Type}{a:α}:R p w n₀ 0 (Sem.pure a) s a s:=⟨0,Nat.zero_le _,.pure _ _⟩
private theorem R.bind{B1 B2 B:Nat}{α β:Type}{t:Sem α}{a s₁}{K:α→Sem β}{b s₂}(h:R p w n₀ B1 t s a s₁)(k:R p w n₀ B2 (K a) s₁ b s₂)(hB:B1+B2≤B:=by lia):R p w n₀ B (t>>=K) s b s₂:=let ⟨_,l,x⟩:=h;let ⟨_,m,y⟩:=k;⟨_,by lia,x.bind y⟩
private theorem R.holding{B:Nat}{α:Type}{t:Sem α}{a s₁}{vs:List Value}(h:R p w n₀ B t s a s₁):R p w n₀ B (holding vs t) s a s₁:=let ⟨_,l,x⟩:=h;⟨_,l,x.holding⟩
private theorem R.rule{B:Nat}{α:Type}{tag k}{a:α}{s'}(h:R p w n₀ B (k ()) s a s'):R p w n₀ (B+1) (.rule tag k) s a s':=let ⟨_,l,x⟩:=h;⟨_,by lia,.rule x⟩
private theorem R.at{B:Nat}{α:Type}{pos k}{a:α}{s'}(h:R p w n₀ B (k ()) s a s'):R p w n₀ (B+1) (.at pos k) s a s':=let ⟨_,l,x⟩:=h;⟨_,by lia,.at x⟩
private theorem R.load{B:Nat}{α:Type}{x part k o}{a:α}{s'}(ho:s.heap.get? x=some o)(h:R p w n₀ B (k o) s a s'):R p w n₀ (B+1) (.load x part k) s a s':=let ⟨_,l,y⟩:=h;⟨_,by lia,.load ho y⟩
private theorem R.update{B:Nat}{α:Type}{x part f k}{a:α}{s'}(ho:(s.heap.get? x).isSome=true)(hn:n₀≤x)
   (h:R p w n₀ B (k ()) {s with heap:=s.heap.update x f} a s'):R p w n₀ (B+1) (.update x part f k) s a s':=let ⟨_,l,y⟩:=h;⟨_,by lia,.update ho hn y⟩
private theorem R.alloc{B:Nat}{α:Type}{o k}{a:α}{s'}(h:R p w n₀ B (k s.heap.objs.size) {s with heap:=s.heap.push o} a s'):R p w n₀ (B+1) (.alloc o k) s a s':=let ⟨_,l,y⟩:=h;⟨_,by lia,.alloc y⟩
private theorem R.fresh{B:Nat}{α:Type}{k}{a:α}{s'}(h:R p w n₀ B (k s.toks) {s with toks:=s.toks+1} a s'):R p w n₀ (B+1) (.fresh k) s a s':=let ⟨_,l,y⟩:=h;⟨_,by lia,.fresh y⟩
noncomputable def zE(es:Array DictEntry)(n:Nat):Obj:={cls:=.type "dict",data:=.dict es n}
noncomputable def upd(h:Heap)(d:Addr)(o:Obj):Heap:=h.update d fun _=>o
private theorem zAv{h:Heap}{d:Addr}{o o':Obj}(e:h.get? d=some o)(ho':o'.isFreed=false):(upd h d o').get? d=some o':=Heap.get?_update_self _ e ho'
private theorem zJc{h:Heap}{d b:Addr}{o':Obj}(ne:d≠b):(upd h d o').get? b=h.get? b:=Heap.get?_update_other _ _ ne
private theorem zGq{h:Heap}{d:Addr}{o o':Obj}:upd (upd h d o) d o'=upd h d o':=by
 obtain⟨objs,l⟩:=h
 simp only[upd,Heap.update,Heap.mk.injEq,and_true]
 apply Array.ext_getElem?
 intro i
 simp only[Array.getElem?_modify]
 by_cases hi:d=i
 ·simp only[hi,if_true,Option.map_map];rfl
 ·simp[hi]
private theorem upd_eq{h:Heap}{d:Addr}{o:Obj}{f:Obj→Obj}(e:h.get? d=some o):h.update d f=upd h d (f o):=by
 obtain⟨objs,l⟩:=h
 have e':=(Heap.get?_some_iff.mp e).1
 simp only[upd,Heap.update,Heap.mk.injEq,and_true]
 apply Array.ext_getElem?
 intro i
 simp only[Array.getElem?_modify]
 by_cases hi:d=i
 ·subst hi;simp only[if_true];rw[show objs[d]?=some o from e'];rfl
 ·simp[hi]
private theorem zDs{h:Heap}{d:Addr}{o:Obj}(e:h.get? d=some o):upd h d o=h:=by
 obtain⟨objs,l⟩:=h
 have e':=(Heap.get?_some_iff.mp e).1
 simp only[upd,Heap.update,Heap.mk.injEq,and_true]
 apply Array.ext_getElem?
 intro i
 simp only[Array.getElem?_modify]
 by_cases hi:d=i
 ·subst hi;simp only[if_true];rw[show objs[d]?=some o from e'];rfl
 ·simp[hi]
private theorem zI4{h:Heap}{o o':Obj}:upd (h.push o) h.objs.size o'=h.push o':=by
 obtain⟨objs,l⟩:=h
 simp only[upd,Heap.update,Heap.push,Heap.mk.injEq,and_true]
 apply Array.ext_getElem?
 intro i
 simp only[Array.getElem?_modify,Array.getElem?_push]
 by_cases hi:objs.size=i
 ·subst hi;simp
 ·simp[hi,Ne.symm hi]
private theorem zOa{h:Heap}{d:Addr}{o:Obj}:(upd h d o).objs.size=h.objs.size:=Heap.size_after_update _ _ _
section
variable{d:Addr}{es:Array DictEntry}{n:Nat}{k:Int}{t:Tok}{v:Value}
private theorem qO{part:Option Value}(hd:s.heap.get? d=some (zE es n)):R p w n₀ 1 (dictEntries d part) s es s:=by
 unfold dictEntries
 exact R.bind (R.load hd R.pure0) R.pure0
private theorem zJe{part:Option Value}(hd:s.heap.get? d=some (zE es n)):R p w n₀ 1 (dictEpoch d part) s n s:=by
 unfold dictEpoch
 exact R.bind (R.load hd R.pure0) R.pure0
private theorem zJa(hk:∀e∈es,e.hash≠hashInt k):placesWithHash es.size (fun i=>es[i]?.map (·.hash)) (hashInt k)=[]:=by
 unfold placesWithHash
 rw[List.filter_eq_nil_iff]
 intro i hi
 have hi':i<es.size:=List.mem_range.mp hi
 simp only[Array.getElem?_eq_getElem hi',Option.map_some,beq_iff_eq,Option.some.injEq]
 exact hk _ (Array.getElem_mem hi')
private theorem zOl(hd:s.heap.get? d=some (zE es n))(hk:∀e∈es,e.hash≠hashInt k):R p w n₀ 1 (dictFind d (.int k t) (hashInt k)) s none s:=by
 unfold dictFind
 refine R.holding (R.bind (B2:=0) (qO hd) ?_)
 show R p w n₀ 0 (if ((Value.int k t::_).all carriedByValue)=true then _ else _) _ _ _
 rw[zJa hk]
 exact R.bind R.pure0 R.pure0
private theorem zP5{es:Array DictEntry}{n:Nat}(h:es.size≤sizeLine):(Data.dict es n).pastItsLine=none:=by
 show(if es.size>sizeLine+1 then some "dict:memory" else none)=none
 rw[if_neg (by lia)]
private theorem zH8{f:DictEntry}{part:Option Value}(hn:n₀≤d)(hd:s.heap.get? d=some (zE es n))(hz:es.size+1≤sizeLine) :
  R p w n₀ 3 (updateDictKeys d (·.push f) part) s () {s with heap:=upd s.heap d (zE (es.push f) (n+1))}:=by
 unfold updateDictKeys
 refine R.bind (B2:=2) (R.load hd R.pure0) ?_
 refine R.bind (B2:=1) (R.update (by rw[hd];rfl) hn R.pure0) ?_
 rw[upd_eq hd]
 unfold lookBehind
 refine R.bind (B2:=0) (R.load (o:=zE (es.push f) (n+1)) (zAv hd rfl) R.pure0) ?_
 rw[show(zE (es.push f) (n+1)).data=.dict (es.push f) (n+1) from rfl,zP5 (by rw[Array.size_push];exact hz)]
 exact R.pure
private theorem zGo(hn:n₀≤d)(hd:s.heap.get? d=some (zE es n))(hk:∀e∈es,e.hash≠hashInt k)(hz:es.size+1≤sizeLine) :
  R p w n₀ 5 (dictSetHashed d (.int k t) (hashInt k) v) s () {s with heap:=upd s.heap d (zE (es.push ⟨hashInt k,.int k t,v⟩) (n+1))}:=by
 unfold dictSetHashed
 refine R.holding (R.bind (B2:=4) (zOl hd hk) ?_)
 exact R.bind (R.rule R.pure0) (zH8 hn hd hz)
private theorem r_set(hn:n₀≤d)(hd:s.heap.get? d=some (zE es n))(hk:∀e∈es,e.hash≠hashInt k)(hz:es.size+1≤sizeLine) :
  R p w n₀ 10 (dictSet d (.int k t) v) s () {s with heap:=upd s.heap d (zE (es.push ⟨hashInt k,.int k t,v⟩) (n+1)),toks:=s.toks+1}:=by
 unfold dictSet
 refine R.holding (R.bind (B1:=5) (B2:=5) ⟨_,Nat.le_refl _,go_hash k t⟩ ?_)
 exact zGo (s:={s with toks:=s.toks+1}) hn hd hk hz
noncomputable def kT(i:Int):Sem Value:=mkInt i
noncomputable def vT(pos:Pos)(x:Str):Sem Value:=do let x ← mkText x;standAt pos;pure x
noncomputable def pT(pos:Pos)(q:Int×Str):Sem Value×Sem Value:=(kT q.1,vT pos q.2)
noncomputable def ent1(q:Int×Str)(t:Nat):DictEntry:=⟨hashInt q.1,.int q.1 t,.str q.2 (t+1)⟩
noncomputable def ent3(t:Nat):List (Int×Str)→List DictEntry
 | []=>[]
 | q::r=>ent1 q t::ent3 (t+3) r
private theorem r_kT{i:Int}:R p w n₀ 1 (kT i) s (.int i s.toks) {s with toks:=s.toks+1}:=R.fresh R.pure0
private theorem r_vT{pos:Pos}{x:Str}:R p w n₀ 2 (vT pos x) s (.str x s.toks) {s with toks:=s.toks+1} :=
 R.bind (R.fresh R.pure0) (R.bind (B:=1) (R.at R.pure0) R.pure0)
private theorem zCm{E:List DictEntry}{H:List Int}{q:Int}(h:(E.map (·.hash)++hashInt q::H).Nodup):∀e∈E.toArray,e.hash≠hashInt q:=by
 intro e he heq
 have he':e∈E:=by simpa using he
 rw[List.nodup_append] at h
 exact h.2.2 _ (List.mem_map.mpr ⟨e,he',rfl⟩) _ (List.mem_cons_self ..) heq
private theorem zOu {pos : Pos} (f : Sem Value × Sem Value → PUnit → Sem (ForInStep PUnit)) (hf : ∀ (x : Sem Value × Sem Value) u, f x u = (do
        let kv ← x.1
        let vv ← holding [kv] x.2
        let _ ← holding [kv,vv] (dictSet d kv vv)
        pure (.yield PUnit.unit))) (hn:n₀≤d):∀(l:List (Int×Str)) (E:List DictEntry) (n:Nat) (s:Shared),s.heap.get? d=some (zE E.toArray n)→(E.map (·.hash)++l.map fun q=>hashInt q.1).Nodup→E.length+l.length≤sizeLine →
      R p w n₀ (13*l.length) (forIn (l.map (pT pos)) PUnit.unit f) s PUnit.unit {s with heap:=upd s.heap d (zE (E++ent3 s.toks l).toArray (n+l.length)),toks:=s.toks+3*l.length}
  | [], E, n, s, hd, _, _ => by
    have e:=zDs hd
    simp only[ent3,List.append_nil,List.length_nil,Nat.add_zero,Nat.mul_zero,e]
    exact R.pure
  | q :: r, E, n, s, hd, hN, hz => by
    rw[List.map_cons] at hN
    rw[List.map_cons,List.forIn_cons,hf]
    rw[List.length_cons] at hz
    refine R.bind (B1:=13) (B2:=13*r.length) (a:=.yield PUnit.unit) (R.bind (B:=13) r_kT (R.bind (B:=12) (R.holding r_vT) (R.bind (B:=10) (R.holding (r_set (s:={s with toks:=s.toks+1+1}) hn hd (zCm hN) (by rw[List.size_toArray];lia))) R.pure0))) ?_ (by rw[List.length_cons];lia)
    have:=zOu (pos:=pos) f hf hn r (E++[ent1 q s.toks]) (n+1) {s with heap:=upd s.heap d (zE (E++[ent1 q s.toks]).toArray (n+1)),toks:=s.toks+3} (zAv hd rfl) (by simpa [ent1] using hN) (by simp;lia)
    dsimp only at this
    rw[zGq] at this
    rw[List.push_toArray]
    rw[show ent3 s.toks (q::r)=ent1 q s.toks::ent3 (s.toks+3) r from rfl,List.length_cons,show n+(r.length+1)=n+1+r.length by lia,show s.toks+3*(r.length+1)=s.toks+3+3*r.length by lia,show E++ent1 q s.toks::ent3 (s.toks+3) r=E++[ent1 q s.toks]++ent3 (s.toks+3) r by simp]
    exact this
noncomputable def zK5(t:Nat):List (Int×Str)→List (Value×Value)
 | []=>[]
 | q::r=>(.int q.1 t,.str q.2 (t+1))::zK5 (t+2) r
noncomputable def ent2(t:Nat):List (Int×Str)→List DictEntry
 | []=>[]
 | q::r=>ent1 q t::ent2 (t+2) r
private theorem zAk{pos:Pos}:∀(l:List (Int×Str)) (s:Shared),R p w n₀ (3*l.length) (evalPairs (l.map (pT pos))) s (zK5 s.toks l) {s with toks:=s.toks+2*l.length}
  | [],s=>R.pure
  | q :: r, s => by
    rw[List.map_cons]
    unfold evalPairs
    rw[List.length_cons]
    refine R.bind (B2:=2+3*r.length) r_kT (R.bind (B2:=3*r.length) (R.holding r_vT) (R.bind (B2:=0) (R.holding (zAk (pos:=pos) r _)) ?_))
    rw[show s.toks+2*(r.length+1)=s.toks+1+1+2*r.length by lia]
    exact R.pure
private theorem zLc (f : Value × Value → PUnit → Sem (ForInStep PUnit)) (hf : ∀ (x : Value × Value) u, f x u = (do
        let _ ← dictSet d x.1 x.2
        pure (.yield PUnit.unit))) (hn:n₀≤d):∀(l:List (Int×Str)) (tk:Nat) (E:List DictEntry) (n:Nat) (s:Shared),s.heap.get? d=some (zE E.toArray n)→(E.map (·.hash)++l.map fun q=>hashInt q.1).Nodup→E.length+l.length≤sizeLine →
      R p w n₀ (10*l.length) (forIn (zK5 tk l) PUnit.unit f) s PUnit.unit {s with heap:=upd s.heap d (zE (E++ent2 tk l).toArray (n+l.length)),toks:=s.toks+l.length}
  | [], tk, E, n, s, hd, _, _ => by
    have e:=zDs hd
    simp only[ent2,List.append_nil,List.length_nil,Nat.add_zero,e]
    exact R.pure
  | q :: r, tk, E, n, s, hd, hN, hz => by
    rw[List.map_cons] at hN
    rw[show zK5 tk (q::r)=(.int q.1 tk,.str q.2 (tk+1))::zK5 (tk+2) r from rfl,List.forIn_cons,hf]
    rw[List.length_cons] at hz
    refine R.bind (B1:=10) (B2:=10*r.length) (a:=.yield PUnit.unit) (R.bind (B:=10) (r_set hn hd (zCm hN) (by rw[List.size_toArray];lia)) R.pure0) ?_ (by rw[List.length_cons];lia)
    have:=zLc f hf hn r (tk+2) (E++[ent1 q tk]) (n+1) {s with heap:=upd s.heap d (zE (E++[ent1 q tk]).toArray (n+1)),toks:=s.toks+1} (zAv hd rfl) (by simpa [ent1] using hN) (by simp;lia)
    dsimp only at this
    rw[zGq] at this
    rw[List.push_toArray]
    rw[show ent2 tk (q::r)=ent1 q tk::ent2 (tk+2) r from rfl,List.length_cons,show n+(r.length+1)=n+1+r.length by lia,show s.toks+(r.length+1)=s.toks+1+r.length by lia,show E++ent1 q tk::ent2 (tk+2) r=E++[ent1 q tk]++ent2 (tk+2) r by simp]
    exact this
noncomputable def ents(t:Nat)(l:List (Int×Str)):List DictEntry:=if l.length≤15 then ent2 t l else ent3 t l
private theorem zJp{pos:Pos}(l:List (Int×Str))(s:Shared)(hn:n₀≤s.heap.objs.size)(hN:(l.map fun q=>hashInt q.1).Nodup)(hz:l.length≤sizeLine) :
  R p w n₀ (2+13*l.length) (subDict (l.map (pT pos))) s s.heap.objs.size {s with heap:=s.heap.push (zE (ents s.toks l).toArray l.length),toks:=s.toks+3*l.length}:=by
 unfold subDict ents
 refine R.bind (B2:=1+13*l.length) (R.alloc R.pure0) ?_
 have hg:(s.heap.push (zE #[] 0)).get? s.heap.objs.size=some (zE (([]:List DictEntry).toArray) 0):=Heap.get?_push_size _ rfl
 refine R.bind (B1:=1+13*l.length) (B2:=0) (a:=()) (s₁:={s with heap:=s.heap.push (zE (if l.length≤15 then ent2 s.toks l else ent3 s.toks l).toArray l.length),toks:=s.toks+3*l.length}) (R.holding ?_) R.pure
 rw[List.length_map]
 split
 ·refine R.bind (B2:=10*l.length) (zAk l _) (R.holding ?_)
  have:=zLc (p:=p) (w:=w) (d:=s.heap.objs.size) (f:=_) (fun _ _=>rfl) hn l s.toks [] 0 {s with heap:=s.heap.push (zE #[] 0),toks:=s.toks+2*l.length} hg (by simpa using hN) (by simpa using hz)
  dsimp only at this
  rw[zI4,Nat.zero_add,List.nil_append,show s.toks+2*l.length+l.length=s.toks+3*l.length by lia] at this
  exact R.bind this R.pure0
 ·refine R.bind (B2:=13*l.length) (R.rule R.pure0) ?_
  have:=zOu (p:=p) (w:=w) (pos:=pos) (d:=s.heap.objs.size) (f:=_) (fun _ _=>rfl) hn l [] 0 {s with heap:=s.heap.push (zE #[] 0)} hg (by simpa using hN) (by simpa using hz)
  dsimp only at this
  rw[zI4,Nat.zero_add,List.nil_append] at this
  exact R.bind this R.pure0
variable{a:Addr}
private theorem isd:isSubtype (.type "dict") (.type "dict")=Sem.pure true:=by kernel_rfl
private theorem itd:typeLookup (.type "dict") (Str.ofString "__iter__")=Sem.pure (some (.builtin "dict.__iter__")):=by kernel_rfl
private theorem r_isd(ha:s.heap.get? a=some (zE es n)):R p w n₀ 1 (isInstance (.ref a) (.type "dict")) s true s:=by
 unfold isInstance
 refine R.bind (B2:=0) (R.bind (B:=1) (R.load ha R.pure0) R.pure0) ?_
 show R p w n₀ 0 (isSubtype (.type "dict") (.type "dict")) _ _ _
 rw[isd];exact R.pure
private theorem r_itd(ha:s.heap.get? a=some (zE es n)):R p w n₀ 1 (specialOf (.ref a) (Str.ofString "__iter__")) s (some (.builtin "dict.__iter__")) s:=by
 unfold specialOf
 refine R.bind (B2:=0) (R.bind (B:=1) (R.load ha R.pure0) R.pure0) ?_
 show R p w n₀ 0 (typeLookup (.type "dict") (Str.ofString "__iter__")) _ _ _
 rw[itd];exact R.pure
private theorem r_put{key v:Value}{h:Int}(e:∃k t,key=.int k t∧h=hashInt k)(hn:n₀≤d)(hd:s.heap.get? d=some (zE es n))(hk:∀e∈es,e.hash≠h)(hz:es.size+1≤sizeLine) :
  R p w n₀ 4 (dictPut d h key v) s () {s with heap:=upd s.heap d (zE (es.push ⟨h,key,v⟩) (n+1))}:=by
 obtain⟨k,t,rfl,rfl⟩:=e
 unfold dictPut
 exact R.bind (zOl hd hk) (zH8 hn hd hz)
noncomputable def jA(e:DictEntry):Prop:=∃k t,e.key=.int k t∧e.hash=hashInt k
private theorem zAx{n':Nat}(f:Nat→PUnit→Sem (ForInStep PUnit))(hf:∀(i:Nat) u,f i u=(do
      let some e:=(← dictEntries a)[i]? | unsupported "dict.changed-during-merge"
      let _ ← holding [e.key,e.val] do
        if false then
          if (← dictFind d e.key e.hash).isSome then rule "dict.merge.duplicate-key";raiseNew (← newExc (.type "KeyError") [e.key])
        dictPut d e.hash e.key e.val
      if (← dictEpoch a) != n' then unsupported "dict.changed-during-merge"
      pure (.yield PUnit.unit))) (hn:n₀≤d) (hne:d≠a):∀(B A E:List DictEntry) (n:Nat) (s:Shared),s.heap.get? d=some (zE E.toArray n)→s.heap.get? a=some (zE (A++B).toArray n')→(∀e∈B,jA e)→(E.map (·.hash)++B.map (·.hash)).Nodup→E.length+B.length≤sizeLine →
      R p w n₀ (6*B.length) (forIn (List.range' A.length B.length) PUnit.unit f) s PUnit.unit {s with heap:=upd s.heap d (zE (E++B).toArray (n+B.length))}
  | [], A, E, n, s, hd, ha, _, _, _ => by
    have e:=zDs hd
    simp only[List.append_nil,List.length_nil,Nat.add_zero,e,List.range'_zero]
    exact R.pure
  | b :: r, A, E, n, s, hd, ha, hB, hN, hz => by
    rw[List.length_cons] at hz
    rw[List.length_cons,List.range'_succ,List.forIn_cons,hf]
    have hk:∀e∈E.toArray,e.hash≠b.hash:=by
      intro e he heq
      have he':e∈E:=by simpa using he
      rw[List.map_cons,List.nodup_append] at hN
      exact hN.2.2 _ (List.mem_map.mpr ⟨e,he',rfl⟩) _ (List.mem_cons_self ..) heq
    have hget:(A++b::r).toArray[A.length]?=some b:=by simp
    have ha':(upd s.heap d (zE (E.toArray.push b) (n+1))).get? a=some (zE (A++b::r).toArray n'):=(zJc hne).trans ha
    refine R.bind (B1:=6) (B2:=6*r.length) (a:=.yield PUnit.unit) (s₁:={s with heap:=upd s.heap d (zE (E.toArray.push b) (n+1))}) ?_ ?_
    · refine R.bind (B2:=5) (qO ha) ?_
      rw[hget]
      refine R.bind (B2:=1) (R.holding (r_put (hB b (List.mem_cons_self ..)) hn hd hk (by rw[List.size_toArray];lia))) ?_
      refine R.bind (B2:=0) (zJe (s:={s with heap:=upd s.heap d (zE (E.toArray.push b) (n+1))}) ha') ?_
      show R p w n₀ 0 (if (n' != n')=true then _ else _) _ _ _
      rw[if_neg (by simp)]
      exact R.pure
    · have:=zAx f hf hn hne r (A++[b]) (E++[b]) (n+1) {s with heap:=upd s.heap d (zE (E++[b]).toArray (n+1))} (zAv hd rfl) (by rw[List.append_assoc,List.singleton_append,←List.push_toArray];exact ha') (fun e he=>hB e (List.mem_cons_of_mem _ he)) (by simpa using hN) (by simp;lia)
      dsimp only at this
      rw[zGq] at this
      rw[List.push_toArray,show n+(r.length+1)=n+1+r.length by lia,show E++b::r=E++[b]++r by simp]
      rw[List.length_append,List.length_singleton] at this
      exact this
private theorem zP7{n':Nat}{E B:List DictEntry}(hn:n₀≤d)(hne:d≠a)(hsys:(a==sysModules)=false)(hE:E≠[])(hd:s.heap.get? d=some (zE E.toArray n))(ha:s.heap.get? a=some (zE B.toArray n'))(hB:∀e∈B,jA e)(hN:(E.map (·.hash)++B.map (·.hash)).Nodup)(hz:E.length+B.length≤sizeLine) :
  R p w n₀ (5+6*B.length) (mergeMapping d (.ref a) false) s () {s with heap:=upd s.heap d (zE (E++B).toArray (n+B.length))}:=by
 unfold mergeMapping
 refine R.bind (B2:=4+6*B.length) (r_isd ha) ?_
 show R p w n₀ (4+6*B.length) (specialOf (.ref a) (Str.ofString "__iter__")>>=_) _ _ _
 refine R.bind (B2:=3+6*B.length) (r_itd ha) ?_
 refine R.bind (B2:=3+6*B.length) (a:=true) (s₁:=s) R.pure0 ?_
 ·show R p w n₀ (3+6*B.length) (if (a==sysModules)=true then _ else _) _ _ _
  rw[hsys,if_neg Bool.false_ne_true]
  refine R.bind (B2:=2+6*B.length) (qO hd) ?_
  rw[show E.toArray.isEmpty=false by cases E <;> simp_all]
  refine R.bind (B2:=1+6*B.length) (qO ha) ?_
  refine R.bind (B2:=6*B.length) (zJe ha) ?_
  rw[List.size_toArray,List.range_eq_range']
  have:=zAx (p:=p) (w:=w) (f:=_) (fun _ _=>rfl) hn hne B [] E n s hd ha hB hN hz
  exact R.bind this R.pure0
end
end Mine
namespace Mine
variable{p:Program}{w:World}{n₀:Nat}
private theorem R.onRaise{s:Shared}{α:Type}{t:Sem α}{a s₁}{h:Value→Sem Unit}{B:Nat}(x:R p w n₀ B t s a s₁):R p w n₀ B (t.onRaise h) s a s₁:=by
 obtain⟨n,hb,x⟩:=x
 refine⟨n,hb,?_⟩
 rw[Sem.onRaise_eq_wrap];exact x.wrap (.pure _ _)
noncomputable def iT(pos:Pos)(q:Int×Str):Option (Sem Value)×Sem Value:=(some (kT q.1),vT pos q.2)
private theorem zHm:∀(l:List (Int×Str)) (t:Nat),(ent2 t l).length=l.length
 | [],_=>rfl
 | _::r,t=>congrArg (· + 1) (zHm r (t+2))
private theorem zH5:∀(l:List (Int×Str)) (t:Nat),(ent3 t l).length=l.length
 | [],_=>rfl
 | _::r,t=>congrArg (· + 1) (zH5 r (t+3))
private theorem zEo:∀(l:List (Int×Str)) (t:Nat),(ent2 t l).map (·.hash)=l.map fun q=>hashInt q.1
 | [],_=>rfl
 | _::r,t=>congrArg (List.cons _) (zEo r (t+2))
private theorem zEk:∀(l:List (Int×Str)) (t:Nat),(ent3 t l).map (·.hash)=l.map fun q=>hashInt q.1
 | [],_=>rfl
 | _::r,t=>congrArg (List.cons _) (zEk r (t+3))
private theorem zCd:∀(l:List (Int×Str)) (t:Nat),∀e∈ent2 t l,jA e
  | [],_,_,h=>nomatch h
  | q :: r, t, e, h => by
    rcases List.mem_cons.mp h with rfl|h
    · exact⟨_,_,rfl,rfl⟩
    · exact zCd r (t+2) e h
private theorem zC9:∀(l:List (Int×Str)) (t:Nat),∀e∈ent3 t l,jA e
  | [],_,_,h=>nomatch h
  | q :: r, t, e, h => by
    rcases List.mem_cons.mp h with rfl|h
    · exact⟨_,_,rfl,rfl⟩
    · exact zC9 r (t+3) e h
private theorem zMp(l:List (Int×Str))(t:Nat):(ents t l).length=l.length:=by
 unfold ents;split <;> first | exact zHm l t | exact zH5 l t
private theorem zAj(l:List (Int×Str))(t:Nat):(ents t l).map (·.hash)=l.map fun q=>hashInt q.1:=by
 unfold ents;split <;> first | exact zEo l t | exact zEk l t
private theorem zJ2(l:List (Int×Str))(t:Nat):∀e∈ents t l,jA e:=by
 unfold ents;split <;> first | exact zCd l t | exact zC9 l t
noncomputable def zL4(run:List (Sem Value×Sem Value))(main:Option Addr):Sem (Option Addr) :=
  if run.isEmpty=true then pure main
      else
        match main with
        | none => do
          let r ← subDict run
          pure (some r)
        | some d => do
          let sub ← holding [Value.ref d] (subDict run)
          (holding [Value.ref d,Value.ref sub] (mergeMapping d (Value.ref sub) false)).onRaise fun x=>do
              let _ ← holding [Value.ref d,x] (runValue (Code.builtin "proto.let_go" {}))
              pure ()
          pure (some d)
noncomputable abbrev Main:=Option (Addr×List DictEntry)
noncomputable def yT(H:Heap)(t:Nat)(m:Main)(run:List (Int×Str)):Heap×Nat×Main :=
  match run with
  | []=>(H,t,m)
  | run => match m with
    | none=>(H.push (zE (ents t run).toArray run.length),t+3*run.length,some (H.objs.size,ents t run))
    | some (d,E)=>(upd (H.push (zE (ents t run).toArray run.length)) d (zE (E++ents t run).toArray (E.length+run.length)),t+3*run.length,some (d,E++ents t run))
noncomputable def yL(m:Main):List Int:=(m.map fun x=>x.2.map (·.hash)).getD []
noncomputable def OkM(n₀:Nat)(H:Heap)(m:Main):Prop:=∀d E,m=some (d,E)→H.get? d=some (zE E.toArray E.length)∧E≠[]∧n₀≤d
private theorem zKi{pos:Pos}{s:Shared}(m:Main)(run:List (Int×Str))(h2:2≤n₀)(hs:n₀≤s.heap.objs.size)(ok:OkM n₀ s.heap m)(hN:(yL m++run.map fun q=>hashInt q.1).Nodup)(hz:(yL m).length+run.length≤sizeLine) :
    R p w n₀ (7+19*run.length) (zL4 (run.map (pT pos)) (m.map (·.1))) s ((yT s.heap s.toks m run).2.2.map (·.1)) {s with heap:=(yT s.heap s.toks m run).1,toks:=(yT s.heap s.toks m run).2.1} ∧
    OkM n₀ (yT s.heap s.toks m run).1 (yT s.heap s.toks m run).2.2∧n₀≤(yT s.heap s.toks m run).1.objs.size∧yL (yT s.heap s.toks m run).2.2=yL m++run.map fun q=>hashInt q.1:=by
  cases run with
  | nil=>exact⟨R.pure,ok,hs,by simp[yT]⟩
  | cons q r =>
    have hrun:(q::r)≠[]:=List.cons_ne_nil _ _
    generalize hrr:q::r=run at hrun hN hz ⊢
    have hNr:(run.map fun q=>hashInt q.1).Nodup:=(List.nodup_append.mp hN).2.1
    have hlen:=zMp run s.toks
    have sub:=zJp (p:=p) (w:=w) (n₀:=n₀) (pos:=pos) run s hs hNr (by lia)
    have hgs:(s.heap.push (zE (ents s.toks run).toArray run.length)).get? s.heap.objs.size=some (zE (ents s.toks run).toArray run.length):=Heap.get?_push_size _ rfl
    have hne:ents s.toks run≠[]:=by intro e;rw[e] at hlen;subst hrr;simp at hlen
    cases m with
    | none =>
      have e:yT s.heap s.toks none run=(s.heap.push (zE (ents s.toks run).toArray run.length),s.toks+3*run.length,some (s.heap.objs.size,ents s.toks run)):=by subst hrr;rfl
      rw[e]
      refine⟨?_,?_,?_,?_⟩
      · subst hrr
        exact R.bind sub R.pure0
      · rintro d E ⟨⟩
        refine⟨?_,hne,hs⟩
        rw[hlen];exact hgs
      · rw[Heap.size_push];lia
      · show(ents s.toks run).map (·.hash)=_
        rw[zAj];rfl
    | some x =>
      obtain⟨d,E⟩:=x
      obtain⟨hd,hE,hn⟩:=ok d E rfl
      have e:yT s.heap s.toks (some (d,E)) run=(upd (s.heap.push (zE (ents s.toks run).toArray run.length)) d (zE (E++ents s.toks run).toArray (E.length+run.length)),s.toks+3*run.length,some (d,E++ents s.toks run)):=by subst hrr;rfl
      rw[e]
      have hdp:(s.heap.push (zE (ents s.toks run).toArray run.length)).get? d=some (zE E.toArray E.length):=Heap.get?_push_of_some _ hd
      have hda:d≠s.heap.objs.size:=Nat.ne_of_lt (Heap.lt_size hd)
      have hsys:(s.heap.objs.size==sysModules)=false:=by
        have:sysModules=1:=rfl
        rw[this];exact beq_eq_false_iff_ne.mpr (by lia)
      have hNe:(E.map (·.hash)++(ents s.toks run).map (·.hash)).Nodup:=by rw[zAj];exact hN
      have hzz:E.length+(ents s.toks run).length≤sizeLine:=by rw[hlen];simpa [yL] using hz
      have mg:=zP7 (p:=p) (w:=w) (s:={s with heap:=s.heap.push (zE (ents s.toks run).toArray run.length),toks:=s.toks+3*run.length}) hn hda hsys hE hdp hgs (zJ2 run s.toks) hNe hzz
      rw[hlen] at mg
      refine⟨?_,?_,?_,?_⟩
      · subst hrr
        refine R.bind (B2:=5+6*(q::r).length) (R.holding sub) ?_
        exact R.bind (R.onRaise (R.holding mg)) R.pure0
      · rintro d' E' ⟨⟩
        refine⟨?_,by simp[hE],hn⟩
        rw[List.length_append,hlen]
        exact zAv hdp rfl
      · show n₀≤(upd _ _ _).objs.size
        rw[zOa,Heap.size_push];lia
      · show(E++ents s.toks run).map (·.hash)=_
        rw[List.map_append,zAj];rfl
noncomputable def QY(st:Heap×Nat×Main×List (Int×Str))(q:Int×Str):Heap×Nat×Main×List (Int×Str) :=
 match st with
 | (H,t,m,run)=>if (run++[q]).length==17 then (match yT H t m (run++[q]) with | (H',t',m')=>(H',t',m',[])) else (H,t,m,run++[q])
private theorem zMc{pos:Pos}(f:Option (Sem Value)×Sem Value→Option Addr×List (Sem Value×Sem Value)→Sem (ForInStep (Option Addr×List (Sem Value×Sem Value))))
    (hf:∀k v m run,f (some k,v) (m,run)=(if ((run++[(k,v)]).length==17)=true then (zL4 (run++[(k,v)]) m>>=fun m'=>pure (.yield (m',[]))) else pure (.yield (m,run++[(k,v)])))) (h2:2≤n₀) :
    ∀ (l : List (Int × Str)) (m : Main) (run : List (Int × Str)) (s : Shared), n₀ ≤ s.heap.objs.size → OkM n₀ s.heap m → (yL m ++ (run ++ l).map fun q => hashInt q.1).Nodup → (yL m).length + run.length + l.length ≤ sizeLine →
      ∀st,l.foldl QY (s.heap,s.toks,m,run)=st →
      R p w n₀ (20*(run.length+l.length)) (forIn (l.map (iT pos)) (m.map (·.1),run.map (pT pos)) f) s (st.2.2.1.map (·.1),st.2.2.2.map (pT pos)) {s with heap:=st.1,toks:=st.2.1} ∧
      n₀≤st.1.objs.size∧OkM n₀ st.1 st.2.2.1∧(yL st.2.2.1++st.2.2.2.map fun q=>hashInt q.1).Nodup∧(yL st.2.2.1).length+st.2.2.2.length=(yL m).length+run.length+l.length
  | [], m, run, s, hs, ok, hN, hz, st, e => by
    subst e
    exact⟨R.pure,hs,ok,by simpa using hN,by simp⟩
  | q :: r, m, run, s, hs, ok, hN, hz, st, e => by
    rw[List.length_cons] at hz
    rw[List.foldl_cons] at e
    rw[List.map_cons,List.forIn_cons]
    rw[show iT pos q=(some (kT q.1),vT pos q.2) from rfl,hf]
    have er:run.map (pT pos)++[(kT q.1,vT pos q.2)]=(run++[q]).map (pT pos):=by simp[pT]
    have hN1:(yL m++(run++[q]).map fun q=>hashInt q.1).Nodup:=by
      rw[show run++q::r=(run++[q])++r by simp,List.map_append,←List.append_assoc] at hN
      exact(List.nodup_append.mp hN).1
    have hz1:(yL m).length+(run++[q]).length≤sizeLine:=by simp;lia
    rw[er,List.length_map]
    by_cases h17:((run++[q]).length==17)=true
    · have es:QY (s.heap,s.toks,m,run) q=((yT s.heap s.toks m (run++[q])).1,(yT s.heap s.toks m (run++[q])).2.1,(yT s.heap s.toks m (run++[q])).2.2,[]):=by
        show(if ((run++[q]).length==17)=true then ((yT s.heap s.toks m (run++[q])).1,(yT s.heap s.toks m (run++[q])).2.1,(yT s.heap s.toks m (run++[q])).2.2,[]) else _)=_
        rw[if_pos h17]
      rw[es] at e
      obtain⟨x1,x2,x3,x4⟩:=zKi (p:=p) (w:=w) (pos:=pos) m (run++[q]) h2 hs ok hN1 hz1
      rw[if_pos h17]
      have ih:=zMc (pos:=pos) f hf h2 r (yT s.heap s.toks m (run++[q])).2.2 [] {s with heap:=(yT s.heap s.toks m (run++[q])).1,toks:=(yT s.heap s.toks m (run++[q])).2.1} x3 x2
        (by rw[x4];simpa [List.append_assoc] using hN) (by rw[x4];simp;lia) st e
      refine⟨?_,ih.2.1,ih.2.2.1,ih.2.2.2.1,by rw[ih.2.2.2.2,x4];simp;lia⟩
      have h17':run.length+1=17:=by simpa using h17
      have z:(run++[q]).length=17:=by simp;lia
      rw[z] at x1
      exact R.bind (R.bind (B:=7+19*17) x1 R.pure0) ih.1 (by simp only[List.length_nil,List.length_cons];lia)
    · have es:QY (s.heap,s.toks,m,run) q=(s.heap,s.toks,m,run++[q]):=by
        show(if ((run++[q]).length==17)=true then _ else (s.heap,s.toks,m,run++[q]))=_
        rw[if_neg h17]
      rw[es] at e
      rw[if_neg h17]
      have ih:=zMc (pos:=pos) f hf h2 r m (run++[q]) s hs ok (by simpa using hN) (by simp;lia) st e
      refine⟨?_,ih.2.1,ih.2.2.1,ih.2.2.2.1,by rw[ih.2.2.2.2];simp;lia⟩
      exact R.bind R.pure0 ih.1 (by simp only[List.length_append,List.length_cons,List.length_nil];lia)
noncomputable def dispS(H:Heap)(t:Nat)(l:List (Int×Str)):Heap×Nat×Main:=match l.foldl QY (H,t,none,[]) with | (H',t',m',run')=>yT H' t' m' run'
private theorem zLp{pos:Pos}{s:Shared}(l:List (Int×Str))(h2:2≤n₀)(hs:n₀≤s.heap.objs.size)(hN:(l.map fun q=>hashInt q.1).Nodup)(hz:l.length≤sizeLine){H':Heap}{t':Nat}{d:Addr}{E:List DictEntry}(e:dispS s.heap s.toks l=(H',t',some (d,E))) :
  R p w n₀ (20*l.length+7+19*l.length) (dictDisplay (l.map (iT pos))) s (.ref d) {s with heap:=H',toks:=t'}:=by
 unfold dictDisplay
 have lp:=fun f hf=>zMc (p:=p) (w:=w) (n₀:=n₀) (pos:=pos) f hf h2 l none [] s hs (fun _ _ h=>nomatch h) (by simpa [yL] using hN) (by simpa [yL] using hz) _ rfl
 obtain⟨_,y1,y2,y3,y4⟩:=lp (fun x st=>match x,st with
  | (some k,v),(m,run)=>(if ((run++[(k,v)]).length==17)=true then (zL4 (run++[(k,v)]) m>>=fun m'=>pure (.yield (m',[]))) else pure (.yield (m,run++[(k,v)])))
  | _,st=>pure (.yield st)) (fun _ _ _ _=>rfl)
 rw[show(yL none).length=0 from rfl,List.length_nil] at y4
 refine R.bind (B2:=7+19*l.length) (lp _ (fun _ _ _ _=>rfl)).1 ?_ (by rw[List.length_nil];lia)
 obtain⟨z1,z2,z3,z4⟩:=zKi (p:=p) (w:=w) (pos:=pos) (s:={s with heap:=(l.foldl QY (s.heap,s.toks,none,[])).1,toks:=(l.foldl QY (s.heap,s.toks,none,[])).2.1}) (l.foldl QY (s.heap,s.toks,none,[])).2.2.1 (l.foldl QY (s.heap,s.toks,none,[])).2.2.2 h2 y1 y2 y3 (by lia)
 have e':yT (l.foldl QY (s.heap,s.toks,none,[])).1 (l.foldl QY (s.heap,s.toks,none,[])).2.1 (l.foldl QY (s.heap,s.toks,none,[])).2.2.1 (l.foldl QY (s.heap,s.toks,none,[])).2.2.2=(H',t',some (d,E)):=e
 simp only[e'] at z1
 refine R.bind (B2:=0) z1 R.pure (by lia)
noncomputable def cInt:Const→Option Int | .int i=>some i | _=>none
noncomputable def cStr:Const→Option Str | .str x=>some x | _=>none
private theorem cInt_is{c:Const}{i:Int}(h:cInt c=some i):c=.int i:=by cases c <;> first | (cases h;done) | (cases h;rfl)
private theorem zPx{c:Const}{x:Str}(h:cStr c=some x):c=.str x:=by cases c <;> first | (cases h;done) | (cases h;rfl)
noncomputable def keyI(k:Option PySem.Expr):Option Int:=k.bind fun e=>(Wk.eparts e).1.bind cInt
noncomputable def valS(v:PySem.Expr):Option Str:=(Wk.eparts v).1.bind cStr
noncomputable def zDw(st:Stmt):List (Int×Str):=((Wk.eparts (Wk.stTest st)).2.1.zip (Wk.eparts (Wk.stTest st)).2.2).filterMap fun q=>(keyI q.1).bind fun i=>(valS q.2).map fun x=>(i,x)
noncomputable def zC:Nat→List (Int×Str)→List (List (Int×Str))
 | 0,_=>[]
 | n+1,l=>l.take 17::zC n (l.drop 17)
noncomputable def bigE(t:Nat):List (List (Int×Str))→List DictEntry
 | []=>[]
 | c::cs=>ents t c++bigE (t+3*c.length) cs
end Mine
namespace Mine
variable{p:Program}{w:World}{n₀:Nat}{ann:Option Value}
noncomputable def zIm(env:Env)(x:Str)(np:Pos)(v:Value):Sem Flow:=do
 let f ← assignStores env v none [assign (.Name x np) env]
 match f with
 | .next=>execs [] env
 | f=>pure f
noncomputable def zB6(ks:List (Option PySem.Expr))(vs:List PySem.Expr)(dp:Pos)(env:Env):List (Option (Sem Value)×Sem Value) :=
 (evalEachOpt ks env).zip ((evalEach vs env).map fun v=>do let x ← v;standAt dp;pure x)
private theorem zNw(env:Env)(x:Str)(np dp pos:Pos)(ks:List (Option PySem.Expr))(vs:List PySem.Expr) :
  exec (.Assign [.Name x np] (.Dict ks vs dp) pos) env=Sem.at pos fun _=>Sem.at dp fun _=>(dictDisplay (zB6 ks vs dp env))>>=fun v=>assignStores env v none [assign (.Name x np) env]:=rfl
private theorem zM5(env:Env)(x:Str)(np dp pos:Pos)(ks:List (Option PySem.Expr))(vs:List PySem.Expr) :
  execs [.Assign [.Name x np] (.Dict ks vs dp) pos] env=(Sem.at pos fun _=>Sem.at dp fun _=>dictDisplay (zB6 ks vs dp env))>>=zIm env x np:=by
 show(exec _ env>>=_)=_
 rw[zNw]
 show Sem.at pos (fun _=>Sem.at dp fun _=>((dictDisplay (zB6 ks vs dp env)>>=fun v=>assignStores env v none [assign (.Name x np) env])>>=_))=Sem.at pos (fun _=>Sem.at dp fun _=>dictDisplay (zB6 ks vs dp env)>>=zIm env x np)
 rw[bind_assoc]
 rfl
noncomputable def isCI(k:Option PySem.Expr):Bool:=(keyI k).isSome
noncomputable def isCS(v:PySem.Expr):Bool:=(valS v).isSome
noncomputable def qZ:List (Option PySem.Expr)→List PySem.Expr→Bool
 | [],[]=>true
 | k::ks,v::vs=>isCI k&&isCS v&&qZ ks vs
 | _,_=>false
private theorem zQj{k:Option PySem.Expr}(h:isCI k=true):∃i a b,k=some (.Constant (.int i) a b):=by
 obtain⟨i,hi⟩:=Option.isSome_iff_exists.mp h
 obtain⟨e,rfl,he⟩:=Option.bind_eq_some_iff.mp hi
 obtain⟨c,hc,hi⟩:=Option.bind_eq_some_iff.mp he
 obtain⟨a,b,rfl⟩:=Wk.eparts_is hc
 obtain rfl:=cInt_is hi
 exact⟨_,_,_,rfl⟩
private theorem isCS_is{v:PySem.Expr}(h:isCS v=true):∃x a b,v=.Constant (.str x) a b:=by
 obtain⟨i,hi⟩:=Option.isSome_iff_exists.mp h
 obtain⟨c,hc,hi⟩:=Option.bind_eq_some_iff.mp hi
 obtain⟨a,b,rfl⟩:=Wk.eparts_is hc
 obtain rfl:=zPx hi
 exact⟨_,_,_,rfl⟩
private theorem zM1(env:Env)(dp pos:Pos)(t:List PySem.Expr)(ks:List (Option PySem.Expr)):∀(vs:List PySem.Expr),qZ ks vs=true→zB6 ks vs dp env=(zDw (.Assign t (.Dict ks vs dp) pos)).map (iT dp):=by
  induction ks with
  | nil=>intro vs h;cases vs with | nil=>rfl | cons=>cases h
  | cons k ks ih =>
    intro vs h
    cases vs with
    | nil=>cases h
    | cons v vs =>
      have h':(isCI k&&isCS v&&qZ ks vs)=true:=h
      rw[Bool.and_eq_true,Bool.and_eq_true] at h'
      obtain⟨i,a,b,rfl⟩:=zQj h'.1.1
      obtain⟨x,c,d,rfl⟩:=isCS_is h'.1.2
      show(some (kT i),vT dp x)::zB6 ks vs dp env=_
      rw[ih vs h'.2]
      rfl
private theorem zPh{env:Env}{c:Code}{q:Pos}{Bf:List Frame}{x:Str}{np dp pos:Pos}{ks:List (Option PySem.Expr)}{vs:List PySem.Expr}{s s':Shared}{v:Value}{B:Nat}{t:List PySem.Expr}(hc:qZ ks vs=true)
    (h:R p w n₀ B (dictDisplay ((zDw (.Assign t (.Dict ks vs dp) pos)).map (iT dp))) s v s') (hB:1≤Bf.length) {M:Nat} {r:Flow×Shared×Code×Pos}
    (tl:∀p',segRun treeTable p w n₀ ann 1 M s' ⟨(zIm env x np v).wrap doneF deadEnd id id,c,p',Bf⟩=some r) :
    segRun treeTable p w n₀ ann 1 (B+2+M) s (piecesOf [.Assign [.Name x np] (.Dict ks vs dp) pos] env c q Bf)=some r:=by
  obtain⟨n,hn,g⟩:=h
  have g2:Go treeTable p w n₀ (n+1+1) (Sem.at pos fun _=>Sem.at dp fun _=>dictDisplay (zB6 ks vs dp env)) s v s':=by
    rw[zM1 env dp pos t ks vs hc]
    exact .at (.at g)
  obtain⟨q',e⟩:=g2.seg (ann:=ann) (fun v=>(zIm env x np v).wrap doneF deadEnd id id) deadEnd id id c q Bf hB
  have e':segGo treeTable p w n₀ ann 1 (n+2) s (piecesOf [.Assign [.Name x np] (.Dict ks vs dp) pos] env c q Bf)=some (s',⟨(zIm env x np v).wrap doneF deadEnd id id,c,q',Bf⟩):=by
    rw[←e]
    unfold piecesOf
    rw[zM5,Sem.bind_eq_wrap',Sem.wrap_wrap]
    rfl
  have e2:=seg_go e' (tl q')
  have:∀(k n:Nat) (s:Shared) (t:Thread) (r),segRun treeTable p w n₀ ann 1 n s t=some r→segRun treeTable p w n₀ ann 1 (n+k) s t=some r:=by
    intro k n
    induction n with
    | zero=>intro s t r h;cases h
    | succ n ih =>
      intro s t r h
      rw[show n+1+k=n+k+1 by lia]
      unfold segRun at h ⊢
      cases he:endAt 1 t with
      | some f=>rw[he] at h;exact h
      | none =>
        rw[he] at h
        cases hk:stepOk n₀ ann t with
        | false=>rw[hk] at h;cases h
        | true =>
          rw[hk] at h
          cases hs:step (denote treeTable) p w s t with
          | halt o s'=>rw[hs] at h;cases h
          | go s₂ t₂=>rw[hs] at h;exact ih s₂ t₂ r h
  have:=this (B-n) _ _ _ _ e2
  rw[show B+2+M=n+2+M+(B-n) by lia]
  exact this
private theorem zPq{p:Program}{w:World}{n:Nat}{s s':SharedT}{t:Thread}(h:(impGoT treeTable p w n s t).map (fun r=>(r.1,r.2.atExitBegin.map List.isEmpty))=some (s',some true)):importEnds treeTable p w (n+1) s.abs t=some s'.abs:=by
  obtain⟨⟨s2,t2⟩,e,e'⟩:=Option.map_eq_some_iff.mp h
  obtain⟨rfl,e3⟩:=Prod.mk.inj e'
  have g:=impGo_of e
  refine imp_go g ?_
  unfold importEnds
  dsimp only at e3
  cases he:t2.atExitBegin with
  | none=>rw[he] at e3;cases e3
  | some l =>
    rw[he] at e3
    cases l with
    | nil=>rfl
    | cons a b=>cases e3
noncomputable def zBg:List Int→Bool
 | a::b::r=>decide (a<b)&&zBg (b::r)
 | _=>true
private theorem zOs:∀(l:List Int) (a:Int),zBg (a::l)=true→∀b∈l,a<b
  | [],_,_,_,h=>nomatch h
  | c :: r, a, h, b, hb => by
    have h':(decide (a<c)&&zBg (c::r))=true:=h
    rw[Bool.and_eq_true,decide_eq_true_eq] at h'
    rcases List.mem_cons.mp hb with rfl|hb
    · exact h'.1
    · exact Int.lt_trans h'.1 (zOs r c h'.2 b hb)
private theorem zH2:∀(l:List Int),zBg l=true→l.Nodup
  | [],_=>List.nodup_nil
  | [a],_=>by simp
  | a :: b :: r, h => by
    rw[List.nodup_cons]
    refine⟨fun hm=>Int.lt_irrefl a (zOs _ a h a hm),zH2 (b::r) ?_⟩
    have h':(decide (a<b)&&zBg (b::r))=true:=h
    rw[Bool.and_eq_true] at h'
    exact h'.2
end Mine
end
section
open PySem PySem.W
set_option maxRecDepth 1000000
set_option maxHeartbeats 0
namespace Mine
noncomputable abbrev pg:Program:=PySem.Challenge.pw_we0034_01
noncomputable def zKh:List Stmt:=behindTheImports pg
noncomputable def stm(i:Nat):Stmt:=zKh.getD i (.Pass ⟨0,0,0,0⟩)
noncomputable def S(x:String):Str:=Str.ofString x
noncomputable def vi(i:Int)(t:Nat):Value:=.int i t
noncomputable def vr(a:Addr):Value:=.ref a
noncomputable def vs(x:String)(t:Nat):Value:=.str (Str.ofString x) t
noncomputable def en(p:Params)(x:String)(t:Nat)(v:Value):DictEntry:=⟨PyData.keyHash p (Str.ofString x),.str (Str.ofString x) t,v⟩
noncomputable def fnO(st:Stmt)(cls:Value)(g:Nat)(md code:Value):Obj:=⟨cls,none,.func ⟨Wk.sName st,Wk.sName st,Wk.sArgs st,.stmts (Wk.sBody st),Wk.sScope st,g,[],.none,.none,.none,md,none,code,.none,0⟩,#[]⟩
noncomputable def N:Obj→BT→BT→BT:=BT.node
noncomputable def Z:BT:=BT.nil
noncomputable def lf:Life:=(Life.mk [] [] [] 0 [] [] false #[] [] 0 false false false 0 [2000,10,10] false 0 true [] [] 0 false)
noncomputable def dr:Drawn:=(Drawn.mk 0 0 0 0)
noncomputable def o0(p:Params):Obj:=(Obj.mk (.type "dict") none (Data.dict #[en p "__name__" 1 (vs "builtins" 160),en p "__doc__" 2 (.builtin "builtins.__doc__:str#opaque"),en p "__package__" 3 (.builtin "builtins.__package__:str#opaque"),en p "__loader__" 4 (.builtin "builtins.__loader__:shared#opaque"),en p "__spec__" 5 (.builtin "builtins.__spec__#opaque"),en p "__build_class__" 6 (.builtin "__build_class__"),en p "__import__" 7 (.builtin "__import__"),en p "abs" 8 (.builtin "abs"),en p "all" 9 (.builtin "all"),en p "any" 10 (.builtin "any"),en p "ascii" 11 (.builtin "ascii"),en p "bin" 12 (.builtin "bin"),en p "breakpoint" 13 (.builtin "breakpoint"),en p "callable" 14 (.builtin "callable"),en p "chr" 15 (.builtin "chr"),en p "compile" 16 (.builtin "compile"),en p "delattr" 17 (.builtin "delattr"),en p "dir" 18 (.builtin "dir"),en p "divmod" 19 (.builtin "divmod"),en p "eval" 20 (.builtin "eval"),en p "exec" 21 (.builtin "exec"),en p "format" 22 (.builtin "format"),en p "getattr" 23 (.builtin "getattr"),en p "globals" 24 (.builtin "globals"),en p "hasattr" 25 (.builtin "hasattr"),en p "hash" 26 (.builtin "hash"),en p "hex" 27 (.builtin "hex"),en p "id" 28 (.builtin "id"),en p "input" 29 (.builtin "input"),en p "isinstance" 30 (.builtin "isinstance"),en p "issubclass" 31 (.builtin "issubclass"),en p "iter" 32 (.builtin "iter"),en p "aiter" 33 (.builtin "aiter"),en p "len" 34 (.builtin "len"),en p "locals" 35 (.builtin "locals"),en p "max" 36 (.builtin "max"),en p "min" 37 (.builtin "min"),en p "next" 38 (.builtin "next"),en p "anext" 39 (.builtin "anext"),en p "oct" 40 (.builtin "oct"),en p "ord" 41 (.builtin "ord"),en p "pow" 42 (.builtin "pow"),en p "print" 43 (.builtin "print"),en p "repr" 44 (.builtin "repr"),en p "round" 45 (.builtin "round"),en p "setattr" 46 (.builtin "setattr"),en p "sorted" 47 (.builtin "sorted"),en p "sum" 48 (.builtin "sum"),en p "vars" 49 (.builtin "vars"),en p "None" 50 .none,en p "Ellipsis" 51 Value.ellipsis,en p "NotImplemented" 52 Value.notImplemented,en p "False" 53 (.bool false),en p "True" 54 (.bool true),en p "bool" 55 (.type "bool"),en p "memoryview" 56 (.type "memoryview"),en p "bytearray" 57 (.type "bytearray"),en p "bytes" 58 (.type "bytes"),en p "classmethod" 59 (.type "classmethod"),en p "complex" 60 (.type "complex"),en p "dict" 61 (.type "dict"),en p "enumerate" 62 (.type "enumerate"),en p "filter" 63 (.type "filter"),en p "float" 64 (.type "float"),en p "frozenset" 65 (.type "frozenset"),en p "property" 66 (.type "property"),en p "int" 67 (.type "int"),en p "list" 68 (.type "list"),en p "map" 69 (.type "map"),en p "object" 70 (.type "object"),en p "range" 71 (.type "range"),en p "reversed" 72 (.type "reversed"),en p "set" 73 (.type "set"),en p "slice" 74 (.type "slice"),en p "staticmethod" 75 (.type "staticmethod"),en p "str" 76 (.type "str"),en p "super" 77 (.type "super"),en p "tuple" 78 (.type "tuple"),en p "type" 79 (.type "type"),en p "zip" 80 (.type "zip"),en p "__debug__" 81 (.bool true),en p "BaseException" 82 (.type "BaseException"),en p "BaseExceptionGroup" 83 (.type "BaseExceptionGroup"),en p "Exception" 84 (.type "Exception"),en p "GeneratorExit" 85 (.type "GeneratorExit"),en p "KeyboardInterrupt" 86 (.type "KeyboardInterrupt"),en p "SystemExit" 87 (.type "SystemExit"),en p "ArithmeticError" 88 (.type "ArithmeticError"),en p "AssertionError" 89 (.type "AssertionError"),en p "AttributeError" 90 (.type "AttributeError"),en p "BufferError" 91 (.type "BufferError"),en p "EOFError" 92 (.type "EOFError"),en p "ImportError" 93 (.type "ImportError"),en p "LookupError" 94 (.type "LookupError"),en p "MemoryError" 95 (.type "MemoryError"),en p "NameError" 96 (.type "NameError"),en p "OSError" 97 (.type "OSError"),en p "ReferenceError" 98 (.type "ReferenceError"),en p "RuntimeError" 99 (.type "RuntimeError"),en p "StopAsyncIteration" 100 (.type "StopAsyncIteration"),en p "StopIteration" 101 (.type "StopIteration"),en p "SyntaxError" 102 (.type "SyntaxError"),en p "SystemError" 103 (.type "SystemError"),en p "TypeError" 104 (.type "TypeError"),en p "ValueError" 105 (.type "ValueError"),en p "Warning" 106 (.type "Warning"),en p "FloatingPointError" 107 (.type "FloatingPointError"),en p "OverflowError" 108 (.type "OverflowError"),en p "ZeroDivisionError" 109 (.type "ZeroDivisionError"),en p "BytesWarning" 110 (.type "BytesWarning"),en p "DeprecationWarning" 111 (.type "DeprecationWarning"),en p "EncodingWarning" 112 (.type "EncodingWarning"),en p "FutureWarning" 113 (.type "FutureWarning"),en p "ImportWarning" 114 (.type "ImportWarning"),en p "PendingDeprecationWarning" 115 (.type "PendingDeprecationWarning"),en p "ResourceWarning" 116 (.type "ResourceWarning"),en p "RuntimeWarning" 117 (.type "RuntimeWarning"),en p "SyntaxWarning" 118 (.type "SyntaxWarning"),en p "UnicodeWarning" 119 (.type "UnicodeWarning"),en p "UserWarning" 120 (.type "UserWarning"),en p "BlockingIOError" 121 (.type "BlockingIOError"),en p "ChildProcessError" 122 (.type "ChildProcessError"),en p "ConnectionError" 123 (.type "ConnectionError"),en p "FileExistsError" 124 (.type "FileExistsError"),en p "FileNotFoundError" 125 (.type "FileNotFoundError"),en p "InterruptedError" 126 (.type "InterruptedError"),en p "IsADirectoryError" 127 (.type "IsADirectoryError"),en p "NotADirectoryError" 128 (.type "NotADirectoryError"),en p "PermissionError" 129 (.type "PermissionError"),en p "ProcessLookupError" 130 (.type "ProcessLookupError"),en p "TimeoutError" 131 (.type "TimeoutError"),en p "IndentationError" 132 (.type "IndentationError"),en p "_IncompleteInputError" 133 (.type "_IncompleteInputError"),en p "IndexError" 134 (.type "IndexError"),en p "KeyError" 135 (.type "KeyError"),en p "ModuleNotFoundError" 136 (.type "ModuleNotFoundError"),en p "NotImplementedError" 137 (.type "NotImplementedError"),en p "PythonFinalizationError" 138 (.type "PythonFinalizationError"),en p "RecursionError" 139 (.type "RecursionError"),en p "UnboundLocalError" 140 (.type "UnboundLocalError"),en p "UnicodeError" 141 (.type "UnicodeError"),en p "BrokenPipeError" 142 (.type "BrokenPipeError"),en p "ConnectionAbortedError" 143 (.type "ConnectionAbortedError"),en p "ConnectionRefusedError" 144 (.type "ConnectionRefusedError"),en p "ConnectionResetError" 145 (.type "ConnectionResetError"),en p "TabError" 146 (.type "TabError"),en p "UnicodeDecodeError" 147 (.type "UnicodeDecodeError"),en p "UnicodeEncodeError" 148 (.type "UnicodeEncodeError"),en p "UnicodeTranslateError" 149 (.type "UnicodeTranslateError"),en p "ExceptionGroup" 150 (.type "ExceptionGroup"),en p "EnvironmentError" 151 (.type "OSError"),en p "IOError" 152 (.type "OSError"),en p "open" 153 (.builtin "open"),en p "quit" 154 (.builtin "builtins.quit#opaque"),en p "exit" 155 (.builtin "builtins.exit#opaque"),en p "copyright" 156 (.builtin "builtins.copyright#opaque"),en p "credits" 157 (.builtin "builtins.credits#opaque"),en p "license" 158 (.builtin "builtins.license#opaque"),en p "help" 159 (.builtin "builtins.help#opaque")] 159) #[])
noncomputable def o1(p:Params):Obj:=(Obj.mk (.type "dict") none (Data.dict #[en p "builtins" 162 (vr 4),en p "__main__" 163 (vr 5),en p "_sre" 244 (vr 12)] 3) #[])
noncomputable def o2(p:Params):Obj:=(Obj.mk .none none (Data.dict #[en p "\x69mport.loaded._sre" 183 (.bool true),en p "class._frozen_importlib.BuiltinImporter" 185 (vr 14),en p "watched.\x69mport" 206 (vr 18),en p "class._frozen_importlib.ModuleSpec" 216 (vr 22),en p "sys.modules.booked-epoch" 245 (vi 3 0),en p "\x69mport.later-laid._sre" 270 (.bool true),en p "watched.library" 272 (vr 27),en p "watched.library-objects" 0 (vs "\x0c" 0),en p "watched.library-deep._sre" 273 (vs "\x04\x00\x00\x0b\x04\x00\x00\x0b\x04\x00\x00\x03\x04\x00\x00\x0b\x08\x04dict\x02" 0)] 9) #[])
noncomputable def o3(p:Params):Obj:=(Obj.mk (.type "dict") none (Data.dict #[en p "__name__" 165 (vs "__main__" 164),en p "__doc__" 166 .none,en p "__package__" 167 .none,en p "__loader__" 168 (.builtin "__main__.__loader__#opaque"),en p "__spec__" 169 .none,en p "__annotations__" 170 (vr 6),en p "__builtins__" 171 (vr 4),en p "__file__" 173 (vs "/claim/cut.py" 172),en p "__cached__" 174 .none,en p "_sre" 275 (vr 12)] 10) #[])
noncomputable def o4(p:Params):Obj:=(Obj.mk (.type "module") (some 0) Data.plain #[])
noncomputable def o5(p:Params):Obj:=(Obj.mk (.type "module") (some 3) Data.plain #[])
noncomputable def o6(p:Params):Obj:=(Obj.mk (.type "dict") none (Data.dict #[] 0) #[])
noncomputable def o7(p:Params):Obj:=(Obj.mk (.type "tuple") none (Data.seq #[] 0) #[])
noncomputable def o8(p:Params):Obj:=(Obj.mk .none none (Data.fields #[]) #[])
noncomputable def o9(p:Params):Obj:=(Obj.mk (.type "code") none (Data.fields #[(vs "<module>" 176),(vs "<module>" 177),(vs "/claim/cut.py" 178),(vi 1 0),(vi 0 0),(vi 0 0),(vi 0 0),(vi 0 0),(vr 7),(.bool false),(vi 175 0),(vr 8),.none,.none,.none,.none,(vi 179 0),(vi 1 0),(vs "/claim/cut.py" 180)]) #[])
noncomputable def o10(p:Params):Obj:=(Obj.mk (.type "frame") none Data.plain #[(some (vr 9)),(some (vr 3)),(some (vr 3)),none,(some (vs "__main__" 164)),none,(some (vr 0))])
noncomputable def o11(p:Params):Obj:=(Obj.mk (.type "dict") none (Data.dict #[en p "__name__" 247 (vs "_sre" 246),en p "__doc__" 248 .none,en p "__package__" 250 (vs "" 249),en p "__loader__" 251 (vr 14),en p "__spec__" 252 (vr 26),en p "compile" 253 (.builtin "_sre.compile"),en p "template" 254 (.builtin "_sre.template"),en p "getcodesize" 255 (.builtin "_sre.getcodesize"),en p "ascii_iscased" 256 (.builtin "_sre.ascii_iscased"),en p "unicode_iscased" 257 (.builtin "_sre.unicode_iscased"),en p "ascii_tolower" 258 (.builtin "_sre.ascii_tolower"),en p "unicode_tolower" 259 (.builtin "_sre.unicode_tolower"),en p "MAGIC" 261 (vi 20230612 260),en p "CODESIZE" 263 (vi 4 262),en p "MAXREPEAT" 265 (vi 4294967295 264),en p "MAXGROUPS" 267 (vi 1073741823 266),en p "copyright" 269 (vs " SRE 2.2.2 Copyright (c) 1997-2002 by Secret Labs AB " 268)] 17) #[])
noncomputable def o12(p:Params):Obj:=(Obj.mk (.type "module") (some 11) Data.plain #[])
noncomputable def o13(p:Params):Obj:=(Obj.mk (.type "dict") none (Data.dict #[en p "__module__" 189 (vs "_frozen_importlib" 186),en p "__firstlineno__" 190 (vi 971 187),en p "__doc__" 191 (.builtin "_frozen_importlib.BuiltinImporter.__doc__:str#opaque"),en p "_ORIGIN" 192 (vs "built-in" 188),en p "find_spec" 193 (.builtin "_frozen_importlib.BuiltinImporter.find_spec#opaque"),en p "create_module" 194 (.builtin "_frozen_importlib.BuiltinImporter.create_module#opaque"),en p "exec_module" 195 (.builtin "_frozen_importlib.BuiltinImporter.exec_module#opaque"),en p "get_code" 196 (.builtin "_frozen_importlib.BuiltinImporter.get_code#opaque"),en p "get_source" 197 (.builtin "_frozen_importlib.BuiltinImporter.get_source#opaque"),en p "is_package" 198 (.builtin "_frozen_importlib.BuiltinImporter.is_package#opaque"),en p "load_module" 199 (.builtin "_frozen_importlib.BuiltinImporter.load_module#opaque"),en p "__static_attributes__" 200 (vr 15),en p "__dict__" 202 (vr 16),en p "__weakref__" 204 (vr 17)] 14) #[])
noncomputable def o14(p:Params):Obj:=(Obj.mk (.type "type") none (Data.cls (ClassData.mk (S "BuiltinImporter") [(.type "object")] [(vr 14),(.type "object")] 13 (S "BuiltinImporter") true [] [] false none false)) #[])
noncomputable def o15(p:Params):Obj:=(Obj.mk (.type "tuple") none (Data.seq #[] 0) #[])
noncomputable def o16(p:Params):Obj:=(Obj.mk (.type "getset_descriptor") none (Data.fields #[(vs "__dict__" 201),(vr 14),(.builtin "function.__dict__"),(.builtin "function.__dict__#set")]) #[])
noncomputable def o17(p:Params):Obj:=(Obj.mk (.type "getset_descriptor") none (Data.fields #[(vs "__weakref__" 203),(vr 14),(.builtin "ExceptionGroup.__weakref__"),.none]) #[])
noncomputable def o18(p:Params):Obj:=(Obj.mk .none none (Data.seq #[(vi 13 0),(vs "\x06½\n__module__\x06º\x11_frozen_importlib\x06¾\x0f__firstlineno__\x04»\x00ϋ\x06¿\x07__doc__\t4_frozen_importlib.BuiltinImporter.__doc__:str#opaque\x06À\x07_ORIGIN\x06¼\x08built-in\x06Á\tfind_spec\t2_frozen_importlib.BuiltinImporter.find_spec#opaque\x06Â\x0dcreate_module\t6_frozen_importlib.BuiltinImporter.create_module#opaque\x06Ã\x0bexec_module\t4_frozen_importlib.BuiltinImporter.exec_module#opaque\x06Ä\x08get_code\t1_frozen_importlib.BuiltinImporter.get_code#opaque\x06Å\nget_source\t3_frozen_importlib.BuiltinImporter.get_source#opaque\x06Æ\nis_package\t3_frozen_importlib.BuiltinImporter.is_package#opaque\x06Ç\x0bload_module\t4_frozen_importlib.BuiltinImporter.load_module#opaque\x06È\x15__static_attributes__\x04\x00\x00\x0f\x06Ê\x08__dict__\x04\x00\x00\x10\x06Ì\x0b__weakref__\x04\x00\x00\x11" 0),(.bool true),(.bool true),(vs "" 205),(vi 21 0),(vs "\x06ã\n__module__\x06Ù\x11_frozen_importlib\x06ä\x0f__firstlineno__\x04Ú\x00Ȳ\x06å\x07__doc__\t/_frozen_importlib.ModuleSpec.__doc__:str#opaque\x06æ\x08__init__\t,_frozen_importlib.ModuleSpec.__init__#opaque\x06ç\x08__repr__\t,_frozen_importlib.ModuleSpec.__repr__#opaque\x06è\x06__eq__\t*_frozen_importlib.ModuleSpec.__eq__#opaque\x06é\x06cached\t*_frozen_importlib.ModuleSpec.cached#opaque\x06ê\x06parent\t*_frozen_importlib.ModuleSpec.parent#opaque\x06ë\x0chas_location\t0_frozen_importlib.ModuleSpec.has_location#opaque\x06ì\x15__static_attributes__\x04\x00\x00\x17\x06î\x08__dict__\x04\x00\x00\x18\x06ð\x0b__weakref__\x04\x00\x00\x19\x06ñ\x08__hash__\x00" 0),(.bool true),(.bool true),(vs "" 242)] 1) #[])
noncomputable def o19(p:Params):Obj:=(Obj.mk (.type "list") none (Data.seq #[] 0) #[])
noncomputable def o20(p:Params):Obj:=(Obj.mk (.type "dict") none (Data.dict #[en p "name" 208 (vs "_sre" 207),en p "loader" 209 (vr 14),en p "origin" 210 (vs "built-in" 184),en p "loader_state" 211 .none,en p "submodule_search_locations" 212 .none,en p "_uninitialized_submodules" 213 (vr 19),en p "_set_fileattr" 214 (.bool false),en p "_cached" 215 .none,en p "_initializing" 243 (.bool false)] 9) #[])
noncomputable def o21(p:Params):Obj:=(Obj.mk (.type "dict") none (Data.dict #[en p "__module__" 227 (vs "_frozen_importlib" 217),en p "__firstlineno__" 228 (vi 562 218),en p "__doc__" 229 (.builtin "_frozen_importlib.ModuleSpec.__doc__:str#opaque"),en p "__init__" 230 (.builtin "_frozen_importlib.ModuleSpec.__init__#opaque"),en p "__repr__" 231 (.builtin "_frozen_importlib.ModuleSpec.__repr__#opaque"),en p "__eq__" 232 (.builtin "_frozen_importlib.ModuleSpec.__eq__#opaque"),en p "cached" 233 (.builtin "_frozen_importlib.ModuleSpec.cached#opaque"),en p "parent" 234 (.builtin "_frozen_importlib.ModuleSpec.parent#opaque"),en p "has_location" 235 (.builtin "_frozen_importlib.ModuleSpec.has_location#opaque"),en p "__static_attributes__" 236 (vr 23),en p "__dict__" 238 (vr 24),en p "__weakref__" 240 (vr 25),en p "__hash__" 241 .none] 13) #[])
noncomputable def o22(p:Params):Obj:=(Obj.mk (.type "type") none (Data.cls (ClassData.mk (S "ModuleSpec") [(.type "object")] [(vr 22),(.type "object")] 21 (S "ModuleSpec") true [] [] false none false)) #[])
noncomputable def o23(p:Params):Obj:=(Obj.mk (.type "tuple") none (Data.seq #[(vs "_cached" 219),(vs "_set_fileattr" 220),(vs "_uninitialized_submodules" 221),(vs "loader" 222),(vs "loader_state" 223),(vs "name" 224),(vs "origin" 225),(vs "submodule_search_locations" 226)] 0) #[])
noncomputable def o24(p:Params):Obj:=(Obj.mk (.type "getset_descriptor") none (Data.fields #[(vs "__dict__" 237),(vr 22),(.builtin "function.__dict__"),(.builtin "function.__dict__#set")]) #[])
noncomputable def o25(p:Params):Obj:=(Obj.mk (.type "getset_descriptor") none (Data.fields #[(vs "__weakref__" 239),(vr 22),(.builtin "ExceptionGroup.__weakref__"),.none]) #[])
noncomputable def o26(p:Params):Obj:=(Obj.mk (vr 22) (some 20) Data.plain #[])
noncomputable def o27(p:Params):Obj:=(Obj.mk .none none (Data.seq #[(vi 11 0),(Value.str (Str.mk #[6,247,8,95,95,110,97,109,101,95,95,6,246,4,95,115,114,101,6,248,7,95,95,100,111,99,95,95,0,6,250,11,95,95,112,97,99,107,97,103,101,95,95,6,249,0,6,251,10,95,95,108,111,97,100,101,114,95,95,4,0,0,14,6,252,8,95,95,115,112,101,99,95,95,4,0,0,26,6,253,7,99,111,109,112,105,108,101,9,12,95,115,114,101,46,99,111,109,112,105,108,101,6,254,8,116,101,109,112,108,97,116,101,9,13,95,115,114,101,46,116,101,109,112,108,97,116,101,6,255,11,103,101,116,99,111,100,101,115,105,122,101,9,16,95,115,114,101,46,103,101,116,99,111,100,101,115,105,122,101,6,256,13,97,115,99,105,105,95,105,115,99,97,115,101,100,9,18,95,115,114,101,46,97,115,99,105,105,95,105,115,99,97,115,101,100,6,257,15,117,110,105,99,111,100,101,95,105,115,99,97,115,101,100,9,20,95,115,114,101,46,117,110,105,99,111,100,101,95,105,115,99,97,115,101,100,6,258,13,97,115,99,105,105,95,116,111,108,111,119,101,114,9,18,95,115,114,101,46,97,115,99,105,105,95,116,111,108,111,119,101,114,6,259,15,117,110,105,99,111,100,101,95,116,111,108,111,119,101,114,9,20,95,115,114,101,46,117,110,105,99,111,100,101,95,116,111,108,111,119,101,114,6,261,5,77,65,71,73,67,4,260,0,20230612,6,263,8,67,79,68,69,83,73,90,69,4,262,0,4,6,265,9,77,65,88,82,69,80,69,65,84,4,264,0,4294967295,6,267,9,77,65,88,71,82,79,85,80,83,4,266,0,1073741823,6,269,9,99,111,112,121,114,105,103,104,116,6,268,53,32,83,82,69,32,50,46,50,46,50,32,67,111,112,121,114,105,103,104,116,32,40,99,41,32,49,57,57,55,45,50,48,48,50,32,98,121,32,83,101,99,114,101,116,32,76,97,98,115,32,65,66,32]) 0),(.bool true),(.bool false),(vs "_sre" 271)] 0) #[])
noncomputable def Te(p : Params) : BT := (N (o0 p) (N (o1 p) (N (o3 p) (N (o7 p) (N (o15 p) Z Z) (N (o23 p) Z Z)) (N (o11 p) (N (o19 p) Z Z) (N (o27 p) Z Z))) (N (o5 p) (N (o9 p) (N (o17 p) Z Z) (N (o25 p) Z Z)) (N (o13 p) (N (o21 p) Z Z) Z))) (N (o2 p) (N (o4 p) (N (o8 p) (N (o16 p) Z Z) (N (o24 p) Z Z)) (N (o12 p) (N (o20 p) Z Z) Z)) (N (o6 p) (N (o10 p) (N (o18 p) Z Z) (N (o26 p) Z Z)) (N (o14 p) (N (o22 p) Z Z) Z))))
noncomputable def Ste(w:World)(os:OsState):SharedT:=⟨Te w.params,28,lf,#[],dr,276,os⟩
noncomputable def xQ:Nat:=798
noncomputable def uS(p:Params):Obj:=(Obj.mk (.type "dict") none (Data.dict #[en p "__name__" 247 (vs "_sre" 246),en p "__doc__" 248 .none,en p "__package__" 250 (vs "" 249),en p "__loader__" 251 (.builtin "off-the-table:_sre.__loader__:shared#opaque"),en p "__spec__" 252 (.builtin "off-the-table:_sre.__spec__:shared#opaque"),en p "compile" 253 (.builtin "_sre.compile"),en p "template" 254 (.builtin "off-the-table:_sre.template:shared#opaque"),en p "getcodesize" 255 (.builtin "off-the-table:_sre.getcodesize:shared#opaque"),en p "ascii_iscased" 256 (.builtin "off-the-table:_sre.ascii_iscased:shared#opaque"),en p "unicode_iscased" 257 (.builtin "off-the-table:_sre.unicode_iscased:shared#opaque"),en p "ascii_tolower" 258 (.builtin "off-the-table:_sre.ascii_tolower:shared#opaque"),en p "unicode_tolower" 259 (.builtin "off-the-table:_sre.unicode_tolower:shared#opaque"),en p "MAGIC" 261 (vi 20230612 260),en p "CODESIZE" 263 (vi 4 262),en p "MAXREPEAT" 265 (vi 4294967295 264),en p "MAXGROUPS" 267 (vi 1073741823 266),en p "copyright" 269 (vs " SRE 2.2.2 Copyright (c) 1997-2002 by Secret Labs AB " 268)] 17) #[])
noncomputable def kJ(p:Params):Heap:=⟨#[(o0 p),(o1 p),(o2 p),(o3 p),(o4 p),(o5 p),(o6 p),(o7 p),(o8 p),(o9 p),(o10 p),(uS p),(o12 p),(o13 p),(o14 p),(o15 p),(o16 p),(o17 p),(o18 p),(o19 p),(o20 p),(o21 p),(o22 p),(o23 p),(o24 p),(o25 p),(o26 p),(o27 p)],lf⟩
noncomputable def m0:Nat:=28
noncomputable def ann:Option Value:=(some (vr 6))
noncomputable def env:Env:={scope:=pg.main.scope,locals:=mainNs,globals:=mainNs,cells:=[],code:=(vr 30),frame:=some 31}
noncomputable abbrev cE:Code:=.body zKh env
noncomputable def qpos:Pos:=⟨0,0,0,0⟩
noncomputable abbrev Bf:List Frame:=[topFrame qpos]
noncomputable def o28(p:Params):Obj:=(Obj.mk (.type "tuple") none (Data.seq #[] 0) #[])
noncomputable def o29(p:Params):Obj:=(Obj.mk .none none (Data.fields #[]) #[])
noncomputable def o30(p:Params):Obj:=(Obj.mk (.type "code") none (Data.fields #[(vs "<module>" 277),(vs "<module>" 278),(vs "/claim/cut.py" 279),(vi 1 0),(vi 0 0),(vi 0 0),(vi 0 0),(vi 0 0),(vr 28),(.bool false),(vi 276 0),(vr 29),.none,.none,.none,.none,(vi 280 0),(vi 1 0),(vs "/claim/cut.py" 281)]) #[])
noncomputable def o31(p:Params):Obj:=(Obj.mk (.type "frame") none Data.plain #[(some (vr 30)),(some (vr 3)),(some (vr 3)),none,(some (vs "__main__" 164)),none,(some (vr 0))])
noncomputable def heapA(p:Params):Heap:=⟨#[(o0 p),(o1 p),(o2 p),(o3 p),(o4 p),(o5 p),(o6 p),(o7 p),(o8 p),(o9 p),(o10 p),(uS p),(o12 p),(o13 p),(o14 p),(o15 p),(o16 p),(o17 p),(o18 p),(o19 p),(o20 p),(o21 p),(o22 p),(o23 p),(o24 p),(o25 p),(o26 p),(o27 p),(o28 p),(o29 p),(o30 p),(o31 p)],lf⟩
noncomputable def toksA:Nat:=282
noncomputable def zH6:Nat:=12
noncomputable def posA:Pos:=⟨0,0,0,0⟩
noncomputable def bt0(p : Params) : BT := (N (o7 p) (N (o15 p) (N (o31 p) Z Z) Z) (N (o23 p) Z Z))
noncomputable def bt1(p : Params) : BT := (N (uS p) (N (o19 p) Z Z) (N (o27 p) Z Z))
noncomputable def bt2(p : Params) : BT := (N (o5 p) (N (o9 p) (N (o17 p) Z Z) (N (o25 p) Z Z)) (N (o13 p) (N (o21 p) Z Z) (N (o29 p) Z Z)))
noncomputable def bt3(p : Params) : BT := (N (o2 p) (N (o4 p) (N (o8 p) (N (o16 p) Z Z) (N (o24 p) Z Z)) (N (o12 p) (N (o20 p) Z Z) (N (o28 p) Z Z))) (N (o6 p) (N (o10 p) (N (o18 p) Z Z) (N (o26 p) Z Z)) (N (o14 p) (N (o22 p) Z Z) (N (o30 p) Z Z))))
noncomputable def T1(p : Params) : BT := (N (o0 p) (N (o1 p) (N (o3 p) (bt0 p) (bt1 p)) (bt2 p)) (bt3 p))
noncomputable def St1(w:World)(os:OsState):SharedT:=⟨T1 w.params,32,lf,#[],dr,282,os⟩
noncomputable def zCo:Nat:=0
noncomputable def pos1:Pos:=⟨0,0,0,0⟩
noncomputable def o3_33(p:Params):Obj:=(Obj.mk (.type "dict") none (Data.dict #[en p "__name__" 165 (vs "cpy313.token" 282),en p "__doc__" 166 .none,en p "__package__" 167 .none,en p "__loader__" 168 (.builtin "__main__.__loader__#opaque"),en p "__spec__" 169 .none,en p "__annotations__" 170 (vr 6),en p "__builtins__" 171 (vr 4),en p "__file__" 173 (vs "/claim/cut.py" 172),en p "__cached__" 174 .none,en p "_sre" 275 (vr 12),en p "ENDMARKER" 285 (vi 0 284),en p "LPAR" 287 (vi 7 286),en p "RPAR" 289 (vi 8 288),en p "LSQB" 291 (vi 9 290),en p "RSQB" 293 (vi 10 292),en p "COLON" 295 (vi 11 294),en p "COMMA" 297 (vi 12 296),en p "SEMI" 299 (vi 13 298),en p "PLUS" 301 (vi 14 300),en p "MINUS" 303 (vi 15 302),en p "STAR" 305 (vi 16 304),en p "SLASH" 307 (vi 17 306),en p "VBAR" 309 (vi 18 308),en p "AMPER" 311 (vi 19 310),en p "LESS" 313 (vi 20 312),en p "GREATER" 315 (vi 21 314),en p "EQUAL" 317 (vi 22 316),en p "DOT" 319 (vi 23 318),en p "PERCENT" 321 (vi 24 320),en p "LBRACE" 323 (vi 25 322),en p "RBRACE" 325 (vi 26 324),en p "EQEQUAL" 327 (vi 27 326),en p "NOTEQUAL" 329 (vi 28 328),en p "LESSEQUAL" 331 (vi 29 330),en p "GREATEREQUAL" 333 (vi 30 332),en p "TILDE" 335 (vi 31 334),en p "CIRCUMFLEX" 337 (vi 32 336),en p "LEFTSHIFT" 339 (vi 33 338),en p "RIGHTSHIFT" 341 (vi 34 340),en p "DOUBLESTAR" 343 (vi 35 342),en p "PLUSEQUAL" 345 (vi 36 344),en p "MINEQUAL" 347 (vi 37 346),en p "STAREQUAL" 349 (vi 38 348),en p "SLASHEQUAL" 351 (vi 39 350),en p "PERCENTEQUAL" 353 (vi 40 352),en p "AMPEREQUAL" 355 (vi 41 354),en p "VBAREQUAL" 357 (vi 42 356),en p "CIRCUMFLEXEQUAL" 359 (vi 43 358),en p "LEFTSHIFTEQUAL" 361 (vi 44 360),en p "RIGHTSHIFTEQUAL" 363 (vi 45 362),en p "DOUBLESTAREQUAL" 365 (vi 46 364),en p "DOUBLESLASH" 367 (vi 47 366),en p "DOUBLESLASHEQUAL" 369 (vi 48 368),en p "AT" 371 (vi 49 370),en p "ATEQUAL" 373 (vi 50 372)] 55) #[])
noncomputable def T2(p : Params) : BT := (N (o0 p) (N (o1 p) (N (o3_33 p) (bt0 p) (bt1 p)) (bt2 p)) (bt3 p))
noncomputable def St2(w:World)(os:OsState):SharedT:=⟨T2 w.params,32,lf,#[],dr,374,os⟩
noncomputable def pos2:Pos:=⟨47,0,47,7⟩
noncomputable def sts1:List Stmt:=[stm 0,stm 1,stm 2,stm 3,stm 4,stm 5,stm 6,stm 7,stm 8,stm 9,stm 10,stm 11,stm 12,stm 13,stm 14,stm 15,stm 16,stm 17,stm 18,stm 19,stm 20,stm 21,stm 22,stm 23,stm 24,stm 25,stm 26,stm 27,stm 28,stm 29,stm 30,stm 31,stm 32,stm 33,stm 34,stm 35,stm 36,stm 37,stm 38,stm 39,stm 40,stm 41,stm 42,stm 43,stm 44,stm 45]
private theorem pc1(w:World)(os:OsState):segRunT treeTable pg w m0 ann 1 415 (St1 w os) (piecesOf sts1 env cE pos1 Bf)=some (.next,St2 w os,cE,pos2):=by
 rw[PySem.W.Fast.te10110043849684766642,PySem.W.Fast.te14364793385576792824];kernel_rfl
noncomputable def o3_34(p:Params):Obj:=(Obj.mk (.type "dict") none (Data.dict #[en p "__name__" 165 (vs "cpy313.token" 282),en p "__doc__" 166 .none,en p "__package__" 167 .none,en p "__loader__" 168 (.builtin "__main__.__loader__#opaque"),en p "__spec__" 169 .none,en p "__annotations__" 170 (vr 6),en p "__builtins__" 171 (vr 4),en p "__file__" 173 (vs "/claim/cut.py" 172),en p "__cached__" 174 .none,en p "_sre" 275 (vr 12),en p "ENDMARKER" 285 (vi 0 284),en p "LPAR" 287 (vi 7 286),en p "RPAR" 289 (vi 8 288),en p "LSQB" 291 (vi 9 290),en p "RSQB" 293 (vi 10 292),en p "COLON" 295 (vi 11 294),en p "COMMA" 297 (vi 12 296),en p "SEMI" 299 (vi 13 298),en p "PLUS" 301 (vi 14 300),en p "MINUS" 303 (vi 15 302),en p "STAR" 305 (vi 16 304),en p "SLASH" 307 (vi 17 306),en p "VBAR" 309 (vi 18 308),en p "AMPER" 311 (vi 19 310),en p "LESS" 313 (vi 20 312),en p "GREATER" 315 (vi 21 314),en p "EQUAL" 317 (vi 22 316),en p "DOT" 319 (vi 23 318),en p "PERCENT" 321 (vi 24 320),en p "LBRACE" 323 (vi 25 322),en p "RBRACE" 325 (vi 26 324),en p "EQEQUAL" 327 (vi 27 326),en p "NOTEQUAL" 329 (vi 28 328),en p "LESSEQUAL" 331 (vi 29 330),en p "GREATEREQUAL" 333 (vi 30 332),en p "TILDE" 335 (vi 31 334),en p "CIRCUMFLEX" 337 (vi 32 336),en p "LEFTSHIFT" 339 (vi 33 338),en p "RIGHTSHIFT" 341 (vi 34 340),en p "DOUBLESTAR" 343 (vi 35 342),en p "PLUSEQUAL" 345 (vi 36 344),en p "MINEQUAL" 347 (vi 37 346),en p "STAREQUAL" 349 (vi 38 348),en p "SLASHEQUAL" 351 (vi 39 350),en p "PERCENTEQUAL" 353 (vi 40 352),en p "AMPEREQUAL" 355 (vi 41 354),en p "VBAREQUAL" 357 (vi 42 356),en p "CIRCUMFLEXEQUAL" 359 (vi 43 358),en p "LEFTSHIFTEQUAL" 361 (vi 44 360),en p "RIGHTSHIFTEQUAL" 363 (vi 45 362),en p "DOUBLESTAREQUAL" 365 (vi 46 364),en p "DOUBLESLASH" 367 (vi 47 366),en p "DOUBLESLASHEQUAL" 369 (vi 48 368),en p "AT" 371 (vi 49 370),en p "ATEQUAL" 373 (vi 50 372),en p "RARROW" 375 (vi 51 374),en p "ELLIPSIS" 377 (vi 52 376),en p "COLONEQUAL" 379 (vi 53 378),en p "EXCLAMATION" 381 (vi 54 380),en p "NT_OFFSET" 383 (vi 256 382)] 60) #[])
noncomputable def T3(p : Params) : BT := (N (o0 p) (N (o1 p) (N (o3_34 p) (bt0 p) (bt1 p)) (bt2 p)) (bt3 p))
noncomputable def St3(w:World)(os:OsState):SharedT:=⟨T3 w.params,32,lf,#[],dr,384,os⟩
noncomputable def pos3:Pos:=⟨52,0,52,9⟩
noncomputable def sts2:List Stmt:=[stm 46,stm 47,stm 48,stm 49,stm 50]
private theorem pc2(w:World)(os:OsState):segRunT treeTable pg w m0 ann 1 46 (St2 w os) (piecesOf sts2 env cE pos2 Bf)=some (.next,St3 w os,cE,pos3):=by
 rw[PySem.W.Fast.te10110043849684766642,PySem.W.Fast.te14364793385576792824];kernel_rfl
noncomputable def o3_35(p:Params):Obj:=(Obj.mk (.type "dict") none (Data.dict #[en p "__name__" 165 (vs "cpy313.token" 282),en p "__doc__" 166 .none,en p "__package__" 167 .none,en p "__loader__" 168 (.builtin "__main__.__loader__#opaque"),en p "__spec__" 169 .none,en p "__annotations__" 170 (vr 6),en p "__builtins__" 171 (vr 4),en p "__file__" 173 (vs "/claim/cut.py" 172),en p "__cached__" 174 .none,en p "_sre" 275 (vr 12),en p "ENDMARKER" 285 (vi 0 284),en p "LPAR" 287 (vi 7 286),en p "RPAR" 289 (vi 8 288),en p "LSQB" 291 (vi 9 290),en p "RSQB" 293 (vi 10 292),en p "COLON" 295 (vi 11 294),en p "COMMA" 297 (vi 12 296),en p "SEMI" 299 (vi 13 298),en p "PLUS" 301 (vi 14 300),en p "MINUS" 303 (vi 15 302),en p "STAR" 305 (vi 16 304),en p "SLASH" 307 (vi 17 306),en p "VBAR" 309 (vi 18 308),en p "AMPER" 311 (vi 19 310),en p "LESS" 313 (vi 20 312),en p "GREATER" 315 (vi 21 314),en p "EQUAL" 317 (vi 22 316),en p "DOT" 319 (vi 23 318),en p "PERCENT" 321 (vi 24 320),en p "LBRACE" 323 (vi 25 322),en p "RBRACE" 325 (vi 26 324),en p "EQEQUAL" 327 (vi 27 326),en p "NOTEQUAL" 329 (vi 28 328),en p "LESSEQUAL" 331 (vi 29 330),en p "GREATEREQUAL" 333 (vi 30 332),en p "TILDE" 335 (vi 31 334),en p "CIRCUMFLEX" 337 (vi 32 336),en p "LEFTSHIFT" 339 (vi 33 338),en p "RIGHTSHIFT" 341 (vi 34 340),en p "DOUBLESTAR" 343 (vi 35 342),en p "PLUSEQUAL" 345 (vi 36 344),en p "MINEQUAL" 347 (vi 37 346),en p "STAREQUAL" 349 (vi 38 348),en p "SLASHEQUAL" 351 (vi 39 350),en p "PERCENTEQUAL" 353 (vi 40 352),en p "AMPEREQUAL" 355 (vi 41 354),en p "VBAREQUAL" 357 (vi 42 356),en p "CIRCUMFLEXEQUAL" 359 (vi 43 358),en p "LEFTSHIFTEQUAL" 361 (vi 44 360),en p "RIGHTSHIFTEQUAL" 363 (vi 45 362),en p "DOUBLESTAREQUAL" 365 (vi 46 364),en p "DOUBLESLASH" 367 (vi 47 366),en p "DOUBLESLASHEQUAL" 369 (vi 48 368),en p "AT" 371 (vi 49 370),en p "ATEQUAL" 373 (vi 50 372),en p "RARROW" 375 (vi 51 374),en p "ELLIPSIS" 377 (vi 52 376),en p "COLONEQUAL" 379 (vi 53 378),en p "EXCLAMATION" 381 (vi 54 380),en p "NT_OFFSET" 383 (vi 256 382),en p "EXACT_TOKEN_TYPES" 480 (vr 32)] 61) #[])
noncomputable def o32(p:Params):Obj:=(Obj.mk (.type "dict") none (Data.dict #[en p "!" 384 (vi 54 380),en p "!=" 386 (vi 28 328),en p "%" 388 (vi 24 320),en p "%=" 390 (vi 40 352),en p "&" 392 (vi 19 310),en p "&=" 394 (vi 41 354),en p "(" 396 (vi 7 286),en p ")" 398 (vi 8 288),en p "*" 400 (vi 16 304),en p "**" 402 (vi 35 342),en p "**=" 404 (vi 46 364),en p "*=" 406 (vi 38 348),en p "+" 408 (vi 14 300),en p "+=" 410 (vi 36 344),en p "," 412 (vi 12 296),en p "-" 414 (vi 15 302),en p "-=" 416 (vi 37 346),en p "->" 418 (vi 51 374),en p "." 420 (vi 23 318),en p "..." 422 (vi 52 376),en p "/" 424 (vi 17 306),en p "//" 426 (vi 47 366),en p "//=" 428 (vi 48 368),en p "/=" 430 (vi 39 350),en p ":" 432 (vi 11 294),en p ":=" 434 (vi 53 378),en p ";" 436 (vi 13 298),en p "<" 438 (vi 20 312),en p "<<" 440 (vi 33 338),en p "<<=" 442 (vi 44 360),en p "<=" 444 (vi 29 330),en p "=" 446 (vi 22 316),en p "==" 448 (vi 27 326),en p ">" 450 (vi 21 314),en p ">=" 452 (vi 30 332),en p ">>" 453 (vi 34 340),en p ">>=" 454 (vi 45 362),en p "@" 455 (vi 49 370),en p "@=" 456 (vi 50 372),en p "[" 457 (vi 9 290),en p "]" 458 (vi 10 292),en p "^" 459 (vi 32 336),en p "^=" 460 (vi 43 358),en p "{" 461 (vi 25 322),en p "|" 462 (vi 18 308),en p "|=" 463 (vi 42 356),en p "}" 464 (vi 26 324),en p "~" 465 (vi 31 334)] 48) #[])
noncomputable def o33(p:Params):Obj:=(Obj.mk (.type "dict") none (Data.dict #[en p "->" 418 (vi 51 374),en p "." 420 (vi 23 318),en p "..." 422 (vi 52 376),en p "/" 424 (vi 17 306),en p "//" 426 (vi 47 366),en p "//=" 428 (vi 48 368),en p "/=" 430 (vi 39 350),en p ":" 432 (vi 11 294),en p ":=" 434 (vi 53 378),en p ";" 436 (vi 13 298),en p "<" 438 (vi 20 312),en p "<<" 440 (vi 33 338),en p "<<=" 442 (vi 44 360),en p "<=" 444 (vi 29 330),en p "=" 446 (vi 22 316),en p "==" 448 (vi 27 326),en p ">" 450 (vi 21 314)] 17) #[])
noncomputable def o34(p:Params):Obj:=(Obj.mk (.type "dict") none (Data.dict #[en p ">=" 452 (vi 30 332),en p ">>" 453 (vi 34 340),en p ">>=" 454 (vi 45 362),en p "@" 455 (vi 49 370),en p "@=" 456 (vi 50 372),en p "[" 457 (vi 9 290),en p "]" 458 (vi 10 292),en p "^" 459 (vi 32 336),en p "^=" 460 (vi 43 358),en p "{" 461 (vi 25 322),en p "|" 462 (vi 18 308),en p "|=" 463 (vi 42 356),en p "}" 464 (vi 26 324),en p "~" 465 (vi 31 334)] 14) #[])
noncomputable def T4(p : Params) : BT := (N (o0 p) (N (o1 p) (N (o3_35 p) (bt0 p) (bt1 p)) (N (o5 p) (N (o9 p) (N (o17 p) (N (o33 p) Z Z) Z) (N (o25 p) Z Z)) (N (o13 p) (N (o21 p) Z Z) (N (o29 p) Z Z)))) (N (o2 p) (N (o4 p) (N (o8 p) (N (o16 p) (N (o32 p) Z Z) Z) (N (o24 p) Z Z)) (N (o12 p) (N (o20 p) Z Z) (N (o28 p) Z Z))) (N (o6 p) (N (o10 p) (N (o18 p) (N (o34 p) Z Z) Z) (N (o26 p) Z Z)) (N (o14 p) (N (o22 p) Z Z) (N (o30 p) Z Z)))))
noncomputable def St4(w:World)(os:OsState):SharedT:=⟨T4 w.params,35,lf,#[],dr,481,os⟩
noncomputable def pos4:Pos:=⟨53,0,53,17⟩
noncomputable def sts3:List Stmt:=[stm 51]
private theorem pc3(w:World)(os:OsState):segRunT treeTable pg w m0 ann 1 979 (St3 w os) (piecesOf sts3 env cE pos3 Bf)=some (.next,St4 w os,cE,pos4) :=
 byRow2 "special-get-raises" (P:=fun w=>∀os,segRunT treeTable pg w m0 ann 1 979 (St3 w os) (piecesOf sts3 env cE pos3 Bf)=some (.next,St4 w os,cE,pos4)) (fun w os=>by
  rw[PySem.W.Fast.te10110043849684766642,PySem.W.Fast.te14364793385576792824];kernel_rfl) (fun w os=>by
  rw[PySem.W.Fast.te10110043849684766642,PySem.W.Fast.te14364793385576792824];kernel_rfl) w os
noncomputable def o3_39(p:Params):Obj:=(Obj.mk (.type "dict") none (Data.dict #[en p "__name__" 165 (vs "cpy313.smtplib" 584),en p "__doc__" 166 .none,en p "__package__" 167 .none,en p "__loader__" 168 (.builtin "__main__.__loader__#opaque"),en p "__spec__" 169 .none,en p "__annotations__" 170 (vr 6),en p "__builtins__" 171 (vr 4),en p "__file__" 173 (vs "/claim/cut.py" 172),en p "__cached__" 174 .none,en p "_sre" 275 (vr 12),en p "ENDMARKER" 285 (vi 0 284),en p "LPAR" 287 (vi 7 286),en p "RPAR" 289 (vi 8 288),en p "LSQB" 291 (vi 9 290),en p "RSQB" 293 (vi 10 292),en p "COLON" 295 (vi 11 294),en p "COMMA" 297 (vi 12 296),en p "SEMI" 299 (vi 13 298),en p "PLUS" 301 (vi 14 300),en p "MINUS" 303 (vi 15 302),en p "STAR" 305 (vi 16 304),en p "SLASH" 307 (vi 17 306),en p "VBAR" 309 (vi 18 308),en p "AMPER" 311 (vi 19 310),en p "LESS" 313 (vi 20 312),en p "GREATER" 315 (vi 21 314),en p "EQUAL" 317 (vi 22 316),en p "DOT" 319 (vi 23 318),en p "PERCENT" 321 (vi 24 320),en p "LBRACE" 323 (vi 25 322),en p "RBRACE" 325 (vi 26 324),en p "EQEQUAL" 327 (vi 27 326),en p "NOTEQUAL" 329 (vi 28 328),en p "LESSEQUAL" 331 (vi 29 330),en p "GREATEREQUAL" 333 (vi 30 332),en p "TILDE" 335 (vi 31 334),en p "CIRCUMFLEX" 337 (vi 32 336),en p "LEFTSHIFT" 339 (vi 33 338),en p "RIGHTSHIFT" 341 (vi 34 340),en p "DOUBLESTAR" 343 (vi 35 342),en p "PLUSEQUAL" 345 (vi 36 344),en p "MINEQUAL" 347 (vi 37 346),en p "STAREQUAL" 349 (vi 38 348),en p "SLASHEQUAL" 351 (vi 39 350),en p "PERCENTEQUAL" 353 (vi 40 352),en p "AMPEREQUAL" 355 (vi 41 354),en p "VBAREQUAL" 357 (vi 42 356),en p "CIRCUMFLEXEQUAL" 359 (vi 43 358),en p "LEFTSHIFTEQUAL" 361 (vi 44 360),en p "RIGHTSHIFTEQUAL" 363 (vi 45 362),en p "DOUBLESTAREQUAL" 365 (vi 46 364),en p "DOUBLESLASH" 367 (vi 47 366),en p "DOUBLESLASHEQUAL" 369 (vi 48 368),en p "AT" 371 (vi 49 370),en p "ATEQUAL" 373 (vi 50 372),en p "RARROW" 375 (vi 51 374),en p "ELLIPSIS" 377 (vi 52 376),en p "COLONEQUAL" 379 (vi 53 378),en p "EXCLAMATION" 381 (vi 54 380),en p "NT_OFFSET" 383 (vi 256 382),en p "EXACT_TOKEN_TYPES" 480 (vr 32),en p "ISTERMINAL" 487 (vr 41),en p "ISNONTERMINAL" 494 (vr 48),en p "ISEOF" 501 (vr 55),en p "_DIV_LIMIT" 505 (vi 4000 504),en p "_div2n1n" 522 (vr 62),en p "_div3n2n" 536 (vr 69),en p "_int2digits" 547 (vr 76),en p "_digits2int" 558 (vr 83),en p "_divmod_pos" 573 (vr 90),en p "int_divmod" 583 (vr 97),en p "_twin_re_1" 601 (vr 102)] 72) #[])
noncomputable def o29_40(p:Params):Obj:=(Obj.mk .none none (Data.fields #[(vi 54 0),(vi 0 0),(vr 40),(vi 56 0),(vi 0 0),(vr 47),(vi 58 0),(vi 0 0),(vr 54),(vi 62 0),(vi 0 0),(vr 61),(vi 78 0),(vi 0 0),(vr 68),(vi 88 0),(vi 0 0),(vr 75),(vi 104 0),(vi 0 0),(vr 82),(vi 113 0),(vi 0 0),(vr 89),(vi 124 0),(vi 0 0),(vr 96)]) #[])
noncomputable def o35(p:Params):Obj:=(Obj.mk (.type "tuple") none (Data.seq #[] 0) #[])
noncomputable def o36(p:Params):Obj:=(Obj.mk .none none (Data.fields #[]) #[])
noncomputable def o37(p:Params):Obj:=(Obj.mk (.type "tuple") none (Data.seq #[(vs "x" 484)] 0) #[])
noncomputable def o38(p:Params):Obj:=(Obj.mk (.type "tuple") none (Data.seq #[] 0) #[])
noncomputable def o39(p:Params):Obj:=fnO (stm 52) .none 0 .none .none
noncomputable def o40(p:Params):Obj:=(Obj.mk (.type "code") none (Data.fields #[(vs "ISTERMINAL" 481),(vs "ISTERMINAL" 482),(vs "/claim/cut.py" 483),(vi 54 0),(vi 1 0),(vi 0 0),(vi 0 0),(vi 3 0),(vr 35),(.bool true),(vi 276 0),(vr 36),.none,(vr 37),(vr 38),(vr 39),(vi 485 0),(vi 54 0),(vs "/claim/cut.py" 486)]) #[])
noncomputable def o41(p:Params):Obj:=fnO (stm 52) (.type "function") 3 (vs "cpy313.token" 282) (vr 40)
noncomputable def o42(p:Params):Obj:=(Obj.mk (.type "tuple") none (Data.seq #[] 0) #[])
noncomputable def o43(p:Params):Obj:=(Obj.mk .none none (Data.fields #[]) #[])
noncomputable def o44(p:Params):Obj:=(Obj.mk (.type "tuple") none (Data.seq #[(vs "x" 491)] 0) #[])
noncomputable def o45(p:Params):Obj:=(Obj.mk (.type "tuple") none (Data.seq #[] 0) #[])
noncomputable def o46(p:Params):Obj:=fnO (stm 53) .none 0 .none .none
noncomputable def o47(p:Params):Obj:=(Obj.mk (.type "code") none (Data.fields #[(vs "ISNONTERMINAL" 488),(vs "ISNONTERMINAL" 489),(vs "/claim/cut.py" 490),(vi 56 0),(vi 1 0),(vi 0 0),(vi 0 0),(vi 3 0),(vr 42),(.bool true),(vi 276 0),(vr 43),.none,(vr 44),(vr 45),(vr 46),(vi 492 0),(vi 56 0),(vs "/claim/cut.py" 493)]) #[])
noncomputable def o48(p:Params):Obj:=fnO (stm 53) (.type "function") 3 (vs "cpy313.token" 282) (vr 47)
noncomputable def o49(p:Params):Obj:=(Obj.mk (.type "tuple") none (Data.seq #[] 0) #[])
noncomputable def o50(p:Params):Obj:=(Obj.mk .none none (Data.fields #[]) #[])
noncomputable def o51(p:Params):Obj:=(Obj.mk (.type "tuple") none (Data.seq #[(vs "x" 498)] 0) #[])
noncomputable def o52(p:Params):Obj:=(Obj.mk (.type "tuple") none (Data.seq #[] 0) #[])
noncomputable def o53(p:Params):Obj:=fnO (stm 54) .none 0 .none .none
noncomputable def o54(p:Params):Obj:=(Obj.mk (.type "code") none (Data.fields #[(vs "ISEOF" 495),(vs "ISEOF" 496),(vs "/claim/cut.py" 497),(vi 58 0),(vi 1 0),(vi 0 0),(vi 0 0),(vi 3 0),(vr 49),(.bool true),(vi 276 0),(vr 50),.none,(vr 51),(vr 52),(vr 53),(vi 499 0),(vi 58 0),(vs "/claim/cut.py" 500)]) #[])
noncomputable def o55(p:Params):Obj:=fnO (stm 54) (.type "function") 3 (vs "cpy313.token" 282) (vr 54)
noncomputable def o56(p:Params):Obj:=(Obj.mk (.type "tuple") none (Data.seq #[] 0) #[])
noncomputable def o57(p:Params):Obj:=(Obj.mk .none none (Data.fields #[]) #[])
noncomputable def o58(p:Params):Obj:=(Obj.mk (.type "tuple") none (Data.seq #[(vs "a" 509),(vs "b" 510),(vs "n" 511),(vs "pad" 512),(vs "half_n" 513),(vs "mask" 514),(vs "b1" 515),(vs "b2" 516),(vs "q1" 517),(vs "r" 518),(vs "q2" 519)] 0) #[])
noncomputable def o59(p:Params):Obj:=(Obj.mk (.type "tuple") none (Data.seq #[] 0) #[])
noncomputable def o60(p:Params):Obj:=fnO (stm 57) .none 0 .none .none
noncomputable def o61(p:Params):Obj:=(Obj.mk (.type "code") none (Data.fields #[(vs "_div2n1n" 506),(vs "_div2n1n" 507),(vs "/claim/cut.py" 508),(vi 62 0),(vi 3 0),(vi 0 0),(vi 0 0),(vi 3 0),(vr 56),(.bool true),(vi 276 0),(vr 57),.none,(vr 58),(vr 59),(vr 60),(vi 520 0),(vi 62 0),(vs "/claim/cut.py" 521)]) #[])
noncomputable def o62(p:Params):Obj:=fnO (stm 57) (.type "function") 3 (vs "cpy313._pylong" 502) (vr 61)
noncomputable def o63(p:Params):Obj:=(Obj.mk (.type "tuple") none (Data.seq #[] 0) #[])
noncomputable def o64(p:Params):Obj:=(Obj.mk .none none (Data.fields #[]) #[])
noncomputable def o65(p:Params):Obj:=(Obj.mk (.type "tuple") none (Data.seq #[(vs "a12" 526),(vs "a3" 527),(vs "b" 528),(vs "b1" 529),(vs "b2" 530),(vs "n" 531),(vs "q" 532),(vs "r" 533)] 0) #[])
noncomputable def o66(p:Params):Obj:=(Obj.mk (.type "tuple") none (Data.seq #[] 0) #[])
noncomputable def o67(p:Params):Obj:=fnO (stm 58) .none 0 .none .none
noncomputable def o68(p:Params):Obj:=(Obj.mk (.type "code") none (Data.fields #[(vs "_div3n2n" 523),(vs "_div3n2n" 524),(vs "/claim/cut.py" 525),(vi 78 0),(vi 6 0),(vi 0 0),(vi 0 0),(vi 3 0),(vr 63),(.bool true),(vi 276 0),(vr 64),.none,(vr 65),(vr 66),(vr 67),(vi 534 0),(vi 78 0),(vs "/claim/cut.py" 535)]) #[])
noncomputable def o69(p:Params):Obj:=fnO (stm 58) (.type "function") 3 (vs "cpy313._pylong" 502) (vr 68)
noncomputable def o70(p:Params):Obj:=(Obj.mk (.type "tuple") none (Data.seq #[] 0) #[])
noncomputable def o71(p:Params):Obj:=(Obj.mk .none none (Data.fields #[]) #[])
noncomputable def o72(p:Params):Obj:=(Obj.mk (.type "tuple") none (Data.seq #[(vs "a" 540),(vs "n" 541)] 0) #[])
noncomputable def o73(p:Params):Obj:=(Obj.mk (.type "tuple") none (Data.seq #[(vs "n" 542),(vs "a_digits" 543),(vs "inner" 544)] 0) #[])
noncomputable def o74(p:Params):Obj:=fnO (stm 59) .none 0 .none .none
noncomputable def o75(p:Params):Obj:=(Obj.mk (.type "code") none (Data.fields #[(vs "_int2digits" 537),(vs "_int2digits" 538),(vs "/claim/cut.py" 539),(vi 88 0),(vi 2 0),(vi 0 0),(vi 0 0),(vi 3 0),(vr 70),(.bool true),(vi 276 0),(vr 71),.none,(vr 72),(vr 73),(vr 74),(vi 545 0),(vi 88 0),(vs "/claim/cut.py" 546)]) #[])
noncomputable def o76(p:Params):Obj:=fnO (stm 59) (.type "function") 3 (vs "cpy313._pylong" 502) (vr 75)
noncomputable def o77(p:Params):Obj:=(Obj.mk (.type "tuple") none (Data.seq #[] 0) #[])
noncomputable def o78(p:Params):Obj:=(Obj.mk .none none (Data.fields #[]) #[])
noncomputable def o79(p:Params):Obj:=(Obj.mk (.type "tuple") none (Data.seq #[(vs "digits" 551),(vs "n" 552)] 0) #[])
noncomputable def o80(p:Params):Obj:=(Obj.mk (.type "tuple") none (Data.seq #[(vs "digits" 553),(vs "n" 554),(vs "inner" 555)] 0) #[])
noncomputable def o81(p:Params):Obj:=fnO (stm 60) .none 0 .none .none
noncomputable def o82(p:Params):Obj:=(Obj.mk (.type "code") none (Data.fields #[(vs "_digits2int" 548),(vs "_digits2int" 549),(vs "/claim/cut.py" 550),(vi 104 0),(vi 2 0),(vi 0 0),(vi 0 0),(vi 3 0),(vr 77),(.bool true),(vi 276 0),(vr 78),.none,(vr 79),(vr 80),(vr 81),(vi 556 0),(vi 104 0),(vs "/claim/cut.py" 557)]) #[])
noncomputable def o83(p:Params):Obj:=fnO (stm 60) (.type "function") 3 (vs "cpy313._pylong" 502) (vr 82)
noncomputable def o84(p:Params):Obj:=(Obj.mk (.type "tuple") none (Data.seq #[] 0) #[])
noncomputable def o85(p:Params):Obj:=(Obj.mk .none none (Data.fields #[]) #[])
noncomputable def o86(p:Params):Obj:=(Obj.mk (.type "tuple") none (Data.seq #[(vs "a" 562),(vs "b" 563),(vs "n" 564),(vs "a_digits" 565),(vs "r" 566),(vs "q_digits" 567),(vs "a_digit" 568),(vs "q_digit" 569),(vs "q" 570)] 0) #[])
noncomputable def o87(p:Params):Obj:=(Obj.mk (.type "tuple") none (Data.seq #[] 0) #[])
noncomputable def o88(p:Params):Obj:=fnO (stm 61) .none 0 .none .none
noncomputable def o89(p:Params):Obj:=(Obj.mk (.type "code") none (Data.fields #[(vs "_divmod_pos" 559),(vs "_divmod_pos" 560),(vs "/claim/cut.py" 561),(vi 113 0),(vi 2 0),(vi 0 0),(vi 0 0),(vi 3 0),(vr 84),(.bool true),(vi 276 0),(vr 85),.none,(vr 86),(vr 87),(vr 88),(vi 571 0),(vi 113 0),(vs "/claim/cut.py" 572)]) #[])
noncomputable def o90(p:Params):Obj:=fnO (stm 61) (.type "function") 3 (vs "cpy313._pylong" 502) (vr 89)
noncomputable def o91(p:Params):Obj:=(Obj.mk (.type "tuple") none (Data.seq #[] 0) #[])
noncomputable def o92(p:Params):Obj:=(Obj.mk .none none (Data.fields #[]) #[])
noncomputable def o93(p:Params):Obj:=(Obj.mk (.type "tuple") none (Data.seq #[(vs "a" 577),(vs "b" 578),(vs "q" 579),(vs "r" 580)] 0) #[])
noncomputable def o94(p:Params):Obj:=(Obj.mk (.type "tuple") none (Data.seq #[] 0) #[])
noncomputable def o95(p:Params):Obj:=fnO (stm 62) .none 0 .none .none
noncomputable def o96(p:Params):Obj:=(Obj.mk (.type "code") none (Data.fields #[(vs "int_divmod" 574),(vs "int_divmod" 575),(vs "/claim/cut.py" 576),(vi 124 0),(vi 2 0),(vi 0 0),(vi 0 0),(vi 3 0),(vr 91),(.bool true),(vi 276 0),(vr 92),.none,(vr 93),(vr 94),(vr 95),(vi 581 0),(vi 124 0),(vs "/claim/cut.py" 582)]) #[])
noncomputable def o97(p:Params):Obj:=fnO (stm 62) (.type "function") 3 (vs "cpy313._pylong" 502) (vr 96)
noncomputable def o98(p:Params):Obj:=(Obj.mk (.type "list") none (Data.seq #[(vi 14 589),(vi 4 590),(vi 0 591),(vi 1 592),(vi 1 593),(vi 6 594),(vi 1 595),(vi 16 596),(vi 46 597),(vi 1 598)] 0) #[])
noncomputable def o99(p:Params):Obj:=(Obj.mk (.type "dict") none (Data.dict #[] 0) #[])
noncomputable def o100(p:Params):Obj:=(Obj.mk (.type "tuple") none (Data.seq #[.none] 0) #[])
noncomputable def o101(p:Params):Obj:=(Obj.mk (.type "tuple") none (Data.seq #[(vi 14 0),(vi 4 0),(vi 0 0),(vi 1 0),(vi 1 0),(vi 6 0),(vi 1 0),(vi 16 0),(vi 46 0),(vi 1 0)] 0) #[])
noncomputable def o102(p:Params):Obj:=(Obj.mk (.type "re.Pattern") none (Data.fields #[(vs "(?m)^\\." 587),(vi 40 600),(vi 0 0),.none,.none,(vr 101),(vi 0 0)]) #[])
noncomputable def bt4(p : Params) : BT := (N (o19 p) (N (o35 p) (N (o67 p) Z Z) (N (o99 p) Z Z)) (N (o51 p) (N (o83 p) Z Z) Z))
noncomputable def bt5(p : Params) : BT := (N (o21 p) (N (o37 p) (N (o69 p) Z Z) (N (o101 p) Z Z)) (N (o53 p) (N (o85 p) Z Z) Z))
noncomputable def bt6(p : Params) : BT := (N (o20 p) (N (o36 p) (N (o68 p) Z Z) (N (o100 p) Z Z)) (N (o52 p) (N (o84 p) Z Z) Z))
noncomputable def bt7(p : Params) : BT := (N (o22 p) (N (o38 p) (N (o70 p) Z Z) (N (o102 p) Z Z)) (N (o54 p) (N (o86 p) Z Z) Z))
noncomputable def T5(p : Params) : BT := (N (o0 p) (N (o1 p) (N (o3_39 p) (N (o7 p) (N (o15 p) (N (o31 p) (N (o63 p) Z Z) (N (o95 p) Z Z)) (N (o47 p) (N (o79 p) Z Z) Z)) (N (o23 p) (N (o39 p) (N (o71 p) Z Z) Z) (N (o55 p) (N (o87 p) Z Z) Z))) (N (uS p) (bt4 p) (N (o27 p) (N (o43 p) (N (o75 p) Z Z) Z) (N (o59 p) (N (o91 p) Z Z) Z)))) (N (o5 p) (N (o9 p) (N (o17 p) (N (o33 p) (N (o65 p) Z Z) (N (o97 p) Z Z)) (N (o49 p) (N (o81 p) Z Z) Z)) (N (o25 p) (N (o41 p) (N (o73 p) Z Z) Z) (N (o57 p) (N (o89 p) Z Z) Z))) (N (o13 p) (bt5 p) (N (o29_40 p) (N (o45 p) (N (o77 p) Z Z) Z) (N (o61 p) (N (o93 p) Z Z) Z))))) (N (o2 p) (N (o4 p) (N (o8 p) (N (o16 p) (N (o32 p) (N (o64 p) Z Z) (N (o96 p) Z Z)) (N (o48 p) (N (o80 p) Z Z) Z)) (N (o24 p) (N (o40 p) (N (o72 p) Z Z) Z) (N (o56 p) (N (o88 p) Z Z) Z))) (N (o12 p) (bt6 p) (N (o28 p) (N (o44 p) (N (o76 p) Z Z) Z) (N (o60 p) (N (o92 p) Z Z) Z)))) (N (o6 p) (N (o10 p) (N (o18 p) (N (o34 p) (N (o66 p) Z Z) (N (o98 p) Z Z)) (N (o50 p) (N (o82 p) Z Z) Z)) (N (o26 p) (N (o42 p) (N (o74 p) Z Z) Z) (N (o58 p) (N (o90 p) Z Z) Z))) (N (o14 p) (bt7 p) (N (o30 p) (N (o46 p) (N (o78 p) Z Z) Z) (N (o62 p) (N (o94 p) Z Z) Z))))))
noncomputable def St5(w:World)(os:OsState):SharedT:=⟨T5 w.params,103,lf,#[],dr,602,os⟩
noncomputable def pos5:Pos:=⟨136,0,136,10⟩
noncomputable def sts4:List Stmt:=[stm 52,stm 53,stm 54,stm 55,stm 56,stm 57,stm 58,stm 59,stm 60,stm 61,stm 62,stm 63,stm 64]
private theorem pc4(w:World)(os:OsState):segRunT treeTable pg w m0 ann 1 384 (St4 w os) (piecesOf sts4 env cE pos4 Bf)=some (.next,St5 w os,cE,pos5):=by
 rw[PySem.W.Fast.te10110043849684766642,PySem.W.Fast.te14364793385576792824];kernel_rfl
noncomputable def o3_109(p:Params):Obj:=(Obj.mk (.type "dict") none (Data.dict #[en p "__name__" 165 (vs "cpy313.stringprep" 653),en p "__doc__" 166 .none,en p "__package__" 167 .none,en p "__loader__" 168 (.builtin "__main__.__loader__#opaque"),en p "__spec__" 169 .none,en p "__annotations__" 170 (vr 6),en p "__builtins__" 171 (vr 4),en p "__file__" 173 (vs "/claim/cut.py" 172),en p "__cached__" 174 .none,en p "_sre" 275 (vr 12),en p "ENDMARKER" 285 (vi 0 284),en p "LPAR" 287 (vi 7 286),en p "RPAR" 289 (vi 8 288),en p "LSQB" 291 (vi 9 290),en p "RSQB" 293 (vi 10 292),en p "COLON" 295 (vi 11 294),en p "COMMA" 297 (vi 12 296),en p "SEMI" 299 (vi 13 298),en p "PLUS" 301 (vi 14 300),en p "MINUS" 303 (vi 15 302),en p "STAR" 305 (vi 16 304),en p "SLASH" 307 (vi 17 306),en p "VBAR" 309 (vi 18 308),en p "AMPER" 311 (vi 19 310),en p "LESS" 313 (vi 20 312),en p "GREATER" 315 (vi 21 314),en p "EQUAL" 317 (vi 22 316),en p "DOT" 319 (vi 23 318),en p "PERCENT" 321 (vi 24 320),en p "LBRACE" 323 (vi 25 322),en p "RBRACE" 325 (vi 26 324),en p "EQEQUAL" 327 (vi 27 326),en p "NOTEQUAL" 329 (vi 28 328),en p "LESSEQUAL" 331 (vi 29 330),en p "GREATEREQUAL" 333 (vi 30 332),en p "TILDE" 335 (vi 31 334),en p "CIRCUMFLEX" 337 (vi 32 336),en p "LEFTSHIFT" 339 (vi 33 338),en p "RIGHTSHIFT" 341 (vi 34 340),en p "DOUBLESTAR" 343 (vi 35 342),en p "PLUSEQUAL" 345 (vi 36 344),en p "MINEQUAL" 347 (vi 37 346),en p "STAREQUAL" 349 (vi 38 348),en p "SLASHEQUAL" 351 (vi 39 350),en p "PERCENTEQUAL" 353 (vi 40 352),en p "AMPEREQUAL" 355 (vi 41 354),en p "VBAREQUAL" 357 (vi 42 356),en p "CIRCUMFLEXEQUAL" 359 (vi 43 358),en p "LEFTSHIFTEQUAL" 361 (vi 44 360),en p "RIGHTSHIFTEQUAL" 363 (vi 45 362),en p "DOUBLESTAREQUAL" 365 (vi 46 364),en p "DOUBLESLASH" 367 (vi 47 366),en p "DOUBLESLASHEQUAL" 369 (vi 48 368),en p "AT" 371 (vi 49 370),en p "ATEQUAL" 373 (vi 50 372),en p "RARROW" 375 (vi 51 374),en p "ELLIPSIS" 377 (vi 52 376),en p "COLONEQUAL" 379 (vi 53 378),en p "EXCLAMATION" 381 (vi 54 380),en p "NT_OFFSET" 383 (vi 256 382),en p "EXACT_TOKEN_TYPES" 480 (vr 32),en p "ISTERMINAL" 487 (vr 41),en p "ISNONTERMINAL" 494 (vr 48),en p "ISEOF" 501 (vr 55),en p "_DIV_LIMIT" 505 (vi 4000 504),en p "_div2n1n" 522 (vr 62),en p "_div3n2n" 536 (vr 69),en p "_int2digits" 547 (vr 76),en p "_digits2int" 558 (vr 83),en p "_divmod_pos" 573 (vr 90),en p "int_divmod" 583 (vr 97),en p "_twin_re_1" 601 (vr 102),en p "_twin_re_2" 643 (vr 107),en p "CRLF" 645 (vs "\x0d\n" 644),en p "quotedata" 652 (vr 114)] 75) #[])
noncomputable def zLr(p:Params):Obj:=(Obj.mk .none none (Data.fields #[(vi 54 0),(vi 0 0),(vr 40),(vi 56 0),(vi 0 0),(vr 47),(vi 58 0),(vi 0 0),(vr 54),(vi 62 0),(vi 0 0),(vr 61),(vi 78 0),(vi 0 0),(vr 68),(vi 88 0),(vi 0 0),(vr 75),(vi 104 0),(vi 0 0),(vr 82),(vi 113 0),(vi 0 0),(vr 89),(vi 124 0),(vi 0 0),(vr 96),(vi 139 0),(vi 0 0),(vr 113)]) #[])
noncomputable def o103(p:Params):Obj:=(Obj.mk (.type "list") none (Data.seq #[(vi 14 605),(vi 9 606),(vi 4 607),(vi 1 608),(vi 2 609),(vi 16 610),(vi 10 611),(vi 16 612),(vi 13 613),(vi 0 614),(vi 7 615),(vi 7 616),(vi 16 617),(vi 13 618),(vi 16 619),(vi 10 620),(vi 15 621),(vi 18 622),(vi 5 623),(vi 16 624),(vi 10 625),(vi 15 626),(vi 13 627),(vi 11 628),(vi 16 629),(vi 13 630),(vi 5 631),(vi 5 632),(vi 0 633),(vi 16 634),(vi 10 635),(vi 1 636),(vi 15 637),(vi 2 638),(vi 0 639),(vi 1 640)] 0) #[])
noncomputable def o104(p:Params):Obj:=(Obj.mk (.type "dict") none (Data.dict #[] 0) #[])
noncomputable def o105(p:Params):Obj:=(Obj.mk (.type "tuple") none (Data.seq #[.none] 0) #[])
noncomputable def o106(p:Params):Obj:=(Obj.mk (.type "tuple") none (Data.seq #[(vi 14 0),(vi 9 0),(vi 4 0),(vi 1 0),(vi 2 0),(vi 16 0),(vi 10 0),(vi 16 0),(vi 13 0),(vi 0 0),(vi 7 0),(vi 7 0),(vi 16 0),(vi 13 0),(vi 16 0),(vi 10 0),(vi 15 0),(vi 18 0),(vi 5 0),(vi 16 0),(vi 10 0),(vi 15 0),(vi 13 0),(vi 11 0),(vi 16 0),(vi 13 0),(vi 5 0),(vi 5 0),(vi 0 0),(vi 16 0),(vi 10 0),(vi 1 0),(vi 15 0),(vi 2 0),(vi 0 0),(vi 1 0)] 0) #[])
noncomputable def o107(p:Params):Obj:=(Obj.mk (.type "re.Pattern") none (Data.fields #[(vs "(?:\\r\\n|\\n|\\r(?!\\n))" 603),(vi 32 642),(vi 0 0),.none,.none,(vr 106),(vi 0 0)]) #[])
noncomputable def o108(p:Params):Obj:=(Obj.mk (.type "tuple") none (Data.seq #[] 0) #[])
noncomputable def o109(p:Params):Obj:=(Obj.mk .none none (Data.fields #[]) #[])
noncomputable def o110(p:Params):Obj:=(Obj.mk (.type "tuple") none (Data.seq #[(vs "data" 649)] 0) #[])
noncomputable def o111(p:Params):Obj:=(Obj.mk (.type "tuple") none (Data.seq #[] 0) #[])
noncomputable def o112(p:Params):Obj:=fnO (stm 67) .none 0 .none .none
noncomputable def o113(p:Params):Obj:=(Obj.mk (.type "code") none (Data.fields #[(vs "quotedata" 646),(vs "quotedata" 647),(vs "/claim/cut.py" 648),(vi 139 0),(vi 1 0),(vi 0 0),(vi 0 0),(vi 3 0),(vr 108),(.bool true),(vi 276 0),(vr 109),.none,(vr 110),(vr 111),(vr 112),(vi 650 0),(vi 139 0),(vs "/claim/cut.py" 651)]) #[])
noncomputable def o114(p:Params):Obj:=fnO (stm 67) (.type "function") 3 (vs "cpy313.smtplib" 584) (vr 113)
noncomputable def bt8(p : Params) : BT := (N (o15 p) (N (o31 p) (N (o63 p) Z Z) (N (o95 p) Z Z)) (N (o47 p) (N (o79 p) Z Z) (N (o111 p) Z Z)))
noncomputable def bt9(p : Params) : BT := (N (o17 p) (N (o33 p) (N (o65 p) Z Z) (N (o97 p) Z Z)) (N (o49 p) (N (o81 p) Z Z) (N (o113 p) Z Z)))
noncomputable def bt10(p : Params) : BT := (N (o16 p) (N (o32 p) (N (o64 p) Z Z) (N (o96 p) Z Z)) (N (o48 p) (N (o80 p) Z Z) (N (o112 p) Z Z)))
noncomputable def bt11(p : Params) : BT := (N (o18 p) (N (o34 p) (N (o66 p) Z Z) (N (o98 p) Z Z)) (N (o50 p) (N (o82 p) Z Z) (N (o114 p) Z Z)))
noncomputable def bt12(p : Params) : BT := (N (o30 p) (N (o46 p) (N (o78 p) Z Z) (N (o110 p) Z Z)) (N (o62 p) (N (o94 p) Z Z) Z))
noncomputable def T6(p : Params) : BT := (N (o0 p) (N (o1 p) (N (o3_109 p) (N (o7 p) (bt8 p) (N (o23 p) (N (o39 p) (N (o71 p) Z Z) (N (o103 p) Z Z)) (N (o55 p) (N (o87 p) Z Z) Z))) (N (uS p) (bt4 p) (N (o27 p) (N (o43 p) (N (o75 p) Z Z) (N (o107 p) Z Z)) (N (o59 p) (N (o91 p) Z Z) Z)))) (N (o5 p) (N (o9 p) (bt9 p) (N (o25 p) (N (o41 p) (N (o73 p) Z Z) (N (o105 p) Z Z)) (N (o57 p) (N (o89 p) Z Z) Z))) (N (o13 p) (bt5 p) (N (zLr p) (N (o45 p) (N (o77 p) Z Z) (N (o109 p) Z Z)) (N (o61 p) (N (o93 p) Z Z) Z))))) (N (o2 p) (N (o4 p) (N (o8 p) (bt10 p) (N (o24 p) (N (o40 p) (N (o72 p) Z Z) (N (o104 p) Z Z)) (N (o56 p) (N (o88 p) Z Z) Z))) (N (o12 p) (bt6 p) (N (o28 p) (N (o44 p) (N (o76 p) Z Z) (N (o108 p) Z Z)) (N (o60 p) (N (o92 p) Z Z) Z)))) (N (o6 p) (N (o10 p) (bt11 p) (N (o26 p) (N (o42 p) (N (o74 p) Z Z) (N (o106 p) Z Z)) (N (o58 p) (N (o90 p) Z Z) Z))) (N (o14 p) (bt7 p) (bt12 p)))))
noncomputable def St6(w:World)(os:OsState):SharedT:=⟨T6 w.params,115,lf,#[],dr,655,os⟩
noncomputable def pos6:Pos:=⟨141,0,141,8⟩
noncomputable def sts5:List Stmt:=[stm 65,stm 66,stm 67,stm 68]
private theorem pc5(w:World)(os:OsState):segRunT treeTable pg w m0 ann 1 133 (St5 w os) (piecesOf sts5 env cE pos5 Bf)=some (.next,St6 w os,cE,pos6):=by
 rw[PySem.W.Fast.te10110043849684766642,PySem.W.Fast.te14364793385576792824];kernel_rfl
noncomputable def o3_123(p:Params):Obj:=(Obj.mk (.type "dict") none (Data.dict #[en p "__name__" 165 (vs "cpy313.stringprep" 653),en p "__doc__" 166 .none,en p "__package__" 167 .none,en p "__loader__" 168 (.builtin "__main__.__loader__#opaque"),en p "__spec__" 169 .none,en p "__annotations__" 170 (vr 6),en p "__builtins__" 171 (vr 4),en p "__file__" 173 (vs "/claim/cut.py" 172),en p "__cached__" 174 .none,en p "_sre" 275 (vr 12),en p "ENDMARKER" 285 (vi 0 284),en p "LPAR" 287 (vi 7 286),en p "RPAR" 289 (vi 8 288),en p "LSQB" 291 (vi 9 290),en p "RSQB" 293 (vi 10 292),en p "COLON" 295 (vi 11 294),en p "COMMA" 297 (vi 12 296),en p "SEMI" 299 (vi 13 298),en p "PLUS" 301 (vi 14 300),en p "MINUS" 303 (vi 15 302),en p "STAR" 305 (vi 16 304),en p "SLASH" 307 (vi 17 306),en p "VBAR" 309 (vi 18 308),en p "AMPER" 311 (vi 19 310),en p "LESS" 313 (vi 20 312),en p "GREATER" 315 (vi 21 314),en p "EQUAL" 317 (vi 22 316),en p "DOT" 319 (vi 23 318),en p "PERCENT" 321 (vi 24 320),en p "LBRACE" 323 (vi 25 322),en p "RBRACE" 325 (vi 26 324),en p "EQEQUAL" 327 (vi 27 326),en p "NOTEQUAL" 329 (vi 28 328),en p "LESSEQUAL" 331 (vi 29 330),en p "GREATEREQUAL" 333 (vi 30 332),en p "TILDE" 335 (vi 31 334),en p "CIRCUMFLEX" 337 (vi 32 336),en p "LEFTSHIFT" 339 (vi 33 338),en p "RIGHTSHIFT" 341 (vi 34 340),en p "DOUBLESTAR" 343 (vi 35 342),en p "PLUSEQUAL" 345 (vi 36 344),en p "MINEQUAL" 347 (vi 37 346),en p "STAREQUAL" 349 (vi 38 348),en p "SLASHEQUAL" 351 (vi 39 350),en p "PERCENTEQUAL" 353 (vi 40 352),en p "AMPEREQUAL" 355 (vi 41 354),en p "VBAREQUAL" 357 (vi 42 356),en p "CIRCUMFLEXEQUAL" 359 (vi 43 358),en p "LEFTSHIFTEQUAL" 361 (vi 44 360),en p "RIGHTSHIFTEQUAL" 363 (vi 45 362),en p "DOUBLESTAREQUAL" 365 (vi 46 364),en p "DOUBLESLASH" 367 (vi 47 366),en p "DOUBLESLASHEQUAL" 369 (vi 48 368),en p "AT" 371 (vi 49 370),en p "ATEQUAL" 373 (vi 50 372),en p "RARROW" 375 (vi 51 374),en p "ELLIPSIS" 377 (vi 52 376),en p "COLONEQUAL" 379 (vi 53 378),en p "EXCLAMATION" 381 (vi 54 380),en p "NT_OFFSET" 383 (vi 256 382),en p "EXACT_TOKEN_TYPES" 480 (vr 32),en p "ISTERMINAL" 487 (vr 41),en p "ISNONTERMINAL" 494 (vr 48),en p "ISEOF" 501 (vr 55),en p "_DIV_LIMIT" 505 (vi 4000 504),en p "_div2n1n" 522 (vr 62),en p "_div3n2n" 536 (vr 69),en p "_int2digits" 547 (vr 76),en p "_digits2int" 558 (vr 83),en p "_divmod_pos" 573 (vr 90),en p "int_divmod" 583 (vr 97),en p "_twin_re_1" 601 (vr 102),en p "_twin_re_2" 643 (vr 107),en p "CRLF" 645 (vs "\x0d\n" 644),en p "quotedata" 652 (vr 114),en p "b1_set" 714 (vr 122)] 76) #[])
noncomputable def o115(p:Params):Obj:=(Obj.mk (.type "list") none (Data.seq #[(vi 173 655),(vi 847 656),(vi 6150 657),(vi 6155 658),(vi 6156 659),(vi 6157 660),(vi 8203 661),(vi 8204 662),(vi 8205 663),(vi 8288 664),(vi 65279 665)] 0) #[])
noncomputable def o116(p:Params):Obj:=(Obj.mk (.type "range") none (Data.fields #[(vi 65024 666),(vi 65040 667),(vi 1 668)]) #[])
noncomputable def o117(p:Params):Obj:=(Obj.mk (.type "list") none (Data.seq #[(vi 65024 671),(vi 65025 672),(vi 65026 673),(vi 65027 674),(vi 65028 675),(vi 65029 676),(vi 65030 677),(vi 65031 678),(vi 65032 679),(vi 65033 680),(vi 65034 681),(vi 65035 682),(vi 65036 683),(vi 65037 684),(vi 65038 685),(vi 65039 686)] 18) #[])
noncomputable def o118(p:Params):Obj:=(Obj.mk (.type "range_iterator") none (Data.fields #[(vi 65040 0),(vi 0 0),(vi 1 0)]) #[])
noncomputable def o119(p:Params):Obj:=(Obj.mk (.type "tuple") none (Data.seq #[] 0) #[])
noncomputable def o120(p:Params):Obj:=(Obj.mk (.type "StopIteration") none (Data.fields #[(vr 119),.none,.none,.none,(.bool false),.none]) #[])
noncomputable def o121(p:Params):Obj:=(Obj.mk (.type "list") none (Data.seq #[(vi 173 655),(vi 847 656),(vi 6150 657),(vi 6155 658),(vi 6156 659),(vi 6157 660),(vi 8203 661),(vi 8204 662),(vi 8205 663),(vi 8288 664),(vi 65279 665),(vi 65024 671),(vi 65025 672),(vi 65026 673),(vi 65027 674),(vi 65028 675),(vi 65029 676),(vi 65030 677),(vi 65031 678),(vi 65032 679),(vi 65033 680),(vi 65034 681),(vi 65035 682),(vi 65036 683),(vi 65037 684),(vi 65038 685),(vi 65039 686)] 0) #[])
noncomputable def o122(p:Params):Obj:=(Obj.mk (.type "set") none (Data.set #[(65024,(vi 65024 671)),(65025,(vi 65025 672)),(65026,(vi 65026 673)),(65027,(vi 65027 674)),(65028,(vi 65028 675)),(65029,(vi 65029 676)),(6150,(vi 6150 657)),(65030,(vi 65030 677)),(65031,(vi 65031 678)),(65032,(vi 65032 679)),(65033,(vi 65033 680)),(6155,(vi 6155 658)),(6156,(vi 6156 659)),(6157,(vi 6157 660)),(8203,(vi 8203 661)),(8204,(vi 8204 662)),(8205,(vi 8205 663)),(65034,(vi 65034 681)),(65035,(vi 65035 682)),(65036,(vi 65036 683)),(65037,(vi 65037 684)),(65038,(vi 65038 685)),(65039,(vi 65039 686)),(173,(vi 173 655)),(847,(vi 847 656)),(8288,(vi 8288 664)),(65279,(vi 65279 665))] 29 (SetTable.mk 127 #[0,1,2,3,4,5,6,7,8,9,10,11,12,13,14,15,16,17,18,19,20,21,22,45,79,96,127] #[] 0 (Bool.not (Params.followText p "set-order")) 2 true)) #[])
noncomputable def o123(p:Params):Obj:=(Obj.mk (.type "list_iterator") none (Data.fields #[.none,(vi 27 0)]) #[])
noncomputable def o124(p:Params):Obj:=(Obj.mk (.type "tuple") none (Data.seq #[] 0) #[])
noncomputable def o125(p:Params):Obj:=(Obj.mk (.type "StopIteration") none (Data.fields #[(vr 124),.none,.none,.none,(.bool false),.none]) #[])
noncomputable def bt13(p : Params) : BT := (N (o23 p) (N (o39 p) (N (o71 p) Z Z) (N (o103 p) Z Z)) (N (o55 p) (N (o87 p) Z Z) (N (o119 p) Z Z)))
noncomputable def bt14(p : Params) : BT := (N (o27 p) (N (o43 p) (N (o75 p) Z Z) (N (o107 p) Z Z)) (N (o59 p) (N (o91 p) Z Z) (N (o123 p) Z Z)))
noncomputable def bt15(p : Params) : BT := (N (o25 p) (N (o41 p) (N (o73 p) Z Z) (N (o105 p) Z Z)) (N (o57 p) (N (o89 p) Z Z) (N (o121 p) Z Z)))
noncomputable def bt16(p : Params) : BT := (N (o21 p) (N (o37 p) (N (o69 p) Z Z) (N (o101 p) Z Z)) (N (o53 p) (N (o85 p) Z Z) (N (o117 p) Z Z)))
noncomputable def bt17(p : Params) : BT := (N (o24 p) (N (o40 p) (N (o72 p) Z Z) (N (o104 p) Z Z)) (N (o56 p) (N (o88 p) Z Z) (N (o120 p) Z Z)))
noncomputable def bt18(p : Params) : BT := (N (o28 p) (N (o44 p) (N (o76 p) Z Z) (N (o108 p) Z Z)) (N (o60 p) (N (o92 p) Z Z) (N (o124 p) Z Z)))
noncomputable def bt19(p : Params) : BT := (N (o26 p) (N (o42 p) (N (o74 p) Z Z) (N (o106 p) Z Z)) (N (o58 p) (N (o90 p) Z Z) (N (o122 p) Z Z)))
noncomputable def bt20(p : Params) : BT := (N (o22 p) (N (o38 p) (N (o70 p) Z Z) (N (o102 p) Z Z)) (N (o54 p) (N (o86 p) Z Z) (N (o118 p) Z Z)))
noncomputable def T7(p : Params) : BT := (N (o0 p) (N (o1 p) (N (o3_123 p) (N (o7 p) (bt8 p) (bt13 p)) (N (uS p) (N (o19 p) (N (o35 p) (N (o67 p) Z Z) (N (o99 p) Z Z)) (N (o51 p) (N (o83 p) Z Z) (N (o115 p) Z Z))) (bt14 p))) (N (o5 p) (N (o9 p) (bt9 p) (bt15 p)) (N (o13 p) (bt16 p) (N (zLr p) (N (o45 p) (N (o77 p) Z Z) (N (o109 p) Z Z)) (N (o61 p) (N (o93 p) Z Z) (N (o125 p) Z Z)))))) (N (o2 p) (N (o4 p) (N (o8 p) (bt10 p) (bt17 p)) (N (o12 p) (N (o20 p) (N (o36 p) (N (o68 p) Z Z) (N (o100 p) Z Z)) (N (o52 p) (N (o84 p) Z Z) (N (o116 p) Z Z))) (bt18 p))) (N (o6 p) (N (o10 p) (bt11 p) (bt19 p)) (N (o14 p) (bt20 p) (bt12 p)))))
noncomputable def St7(w:World)(os:OsState):SharedT:=⟨T7 w.params,126,lf,#[],dr,715,os⟩
noncomputable def pos7:Pos:=⟨142,0,142,6⟩
noncomputable def sts6:List Stmt:=[stm 69]
private theorem pc6(w:World)(os:OsState):segRunT treeTable pg w m0 ann 1 999 (St6 w os) (piecesOf sts6 env cE pos6 Bf)=some (.next,St7 w os,cE,pos7) :=
 byRow2 "special-get-raises" (P:=fun w=>∀os,segRunT treeTable pg w m0 ann 1 999 (St6 w os) (piecesOf sts6 env cE pos6 Bf)=some (.next,St7 w os,cE,pos7)) (fun w os=>by
  rw[PySem.W.Fast.te10110043849684766642,PySem.W.Fast.te14364793385576792824];kernel_rfl) (fun w os=>by
  rw[PySem.W.Fast.te10110043849684766642,PySem.W.Fast.te14364793385576792824];kernel_rfl) w os
noncomputable def zOv(p:Params):Obj:=(Obj.mk (.type "dict") none (Data.dict #[en p "__name__" 165 (vs "cpy313.stringprep" 653),en p "__doc__" 166 .none,en p "__package__" 167 .none,en p "__loader__" 168 (.builtin "__main__.__loader__#opaque"),en p "__spec__" 169 .none,en p "__annotations__" 170 (vr 6),en p "__builtins__" 171 (vr 4),en p "__file__" 173 (vs "/claim/cut.py" 172),en p "__cached__" 174 .none,en p "_sre" 275 (vr 12),en p "ENDMARKER" 285 (vi 0 284),en p "LPAR" 287 (vi 7 286),en p "RPAR" 289 (vi 8 288),en p "LSQB" 291 (vi 9 290),en p "RSQB" 293 (vi 10 292),en p "COLON" 295 (vi 11 294),en p "COMMA" 297 (vi 12 296),en p "SEMI" 299 (vi 13 298),en p "PLUS" 301 (vi 14 300),en p "MINUS" 303 (vi 15 302),en p "STAR" 305 (vi 16 304),en p "SLASH" 307 (vi 17 306),en p "VBAR" 309 (vi 18 308),en p "AMPER" 311 (vi 19 310),en p "LESS" 313 (vi 20 312),en p "GREATER" 315 (vi 21 314),en p "EQUAL" 317 (vi 22 316),en p "DOT" 319 (vi 23 318),en p "PERCENT" 321 (vi 24 320),en p "LBRACE" 323 (vi 25 322),en p "RBRACE" 325 (vi 26 324),en p "EQEQUAL" 327 (vi 27 326),en p "NOTEQUAL" 329 (vi 28 328),en p "LESSEQUAL" 331 (vi 29 330),en p "GREATEREQUAL" 333 (vi 30 332),en p "TILDE" 335 (vi 31 334),en p "CIRCUMFLEX" 337 (vi 32 336),en p "LEFTSHIFT" 339 (vi 33 338),en p "RIGHTSHIFT" 341 (vi 34 340),en p "DOUBLESTAR" 343 (vi 35 342),en p "PLUSEQUAL" 345 (vi 36 344),en p "MINEQUAL" 347 (vi 37 346),en p "STAREQUAL" 349 (vi 38 348),en p "SLASHEQUAL" 351 (vi 39 350),en p "PERCENTEQUAL" 353 (vi 40 352),en p "AMPEREQUAL" 355 (vi 41 354),en p "VBAREQUAL" 357 (vi 42 356),en p "CIRCUMFLEXEQUAL" 359 (vi 43 358),en p "LEFTSHIFTEQUAL" 361 (vi 44 360),en p "RIGHTSHIFTEQUAL" 363 (vi 45 362),en p "DOUBLESTAREQUAL" 365 (vi 46 364),en p "DOUBLESLASH" 367 (vi 47 366),en p "DOUBLESLASHEQUAL" 369 (vi 48 368),en p "AT" 371 (vi 49 370),en p "ATEQUAL" 373 (vi 50 372),en p "RARROW" 375 (vi 51 374),en p "ELLIPSIS" 377 (vi 52 376),en p "COLONEQUAL" 379 (vi 53 378),en p "EXCLAMATION" 381 (vi 54 380),en p "NT_OFFSET" 383 (vi 256 382),en p "EXACT_TOKEN_TYPES" 480 (vr 32),en p "ISTERMINAL" 487 (vr 41),en p "ISNONTERMINAL" 494 (vr 48),en p "ISEOF" 501 (vr 55),en p "_DIV_LIMIT" 505 (vi 4000 504),en p "_div2n1n" 522 (vr 62),en p "_div3n2n" 536 (vr 69),en p "_int2digits" 547 (vr 76),en p "_digits2int" 558 (vr 83),en p "_divmod_pos" 573 (vr 90),en p "int_divmod" 583 (vr 97),en p "_twin_re_1" 601 (vr 102),en p "_twin_re_2" 643 (vr 107),en p "CRLF" 645 (vs "\x0d\n" 644),en p "quotedata" 652 (vr 114),en p "b1_set" 714 (vr 122),en p "in_table_b1" 721 (vr 132)] 77) #[])
noncomputable def zLe(p:Params):Obj:=(Obj.mk .none none (Data.fields #[(vi 54 0),(vi 0 0),(vr 40),(vi 56 0),(vi 0 0),(vr 47),(vi 58 0),(vi 0 0),(vr 54),(vi 62 0),(vi 0 0),(vr 61),(vi 78 0),(vi 0 0),(vr 68),(vi 88 0),(vi 0 0),(vr 75),(vi 104 0),(vi 0 0),(vr 82),(vi 113 0),(vi 0 0),(vr 89),(vi 124 0),(vi 0 0),(vr 96),(vi 139 0),(vi 0 0),(vr 113),(vi 143 0),(vi 0 0),(vr 131)]) #[])
noncomputable def o126(p:Params):Obj:=(Obj.mk (.type "tuple") none (Data.seq #[] 0) #[])
noncomputable def o127(p:Params):Obj:=(Obj.mk .none none (Data.fields #[]) #[])
noncomputable def o128(p:Params):Obj:=(Obj.mk (.type "tuple") none (Data.seq #[(vs "code" 718)] 0) #[])
noncomputable def o129(p:Params):Obj:=(Obj.mk (.type "tuple") none (Data.seq #[] 0) #[])
noncomputable def o130(p:Params):Obj:=fnO (stm 70) .none 0 .none .none
noncomputable def o131(p:Params):Obj:=(Obj.mk (.type "code") none (Data.fields #[(vs "in_table_b1" 715),(vs "in_table_b1" 716),(vs "/claim/cut.py" 717),(vi 143 0),(vi 1 0),(vi 0 0),(vi 0 0),(vi 3 0),(vr 126),(.bool true),(vi 276 0),(vr 127),.none,(vr 128),(vr 129),(vr 130),(vi 719 0),(vi 143 0),(vs "/claim/cut.py" 720)]) #[])
noncomputable def o132(p:Params):Obj:=fnO (stm 70) (.type "function") 3 (vs "cpy313.stringprep" 653) (vr 131)
noncomputable def T8(p : Params) : BT := (N (o0 p) (N (o1 p) (N (zOv p) (N (o7 p) (N (o15 p) (N (o31 p) (N (o63 p) (N (o127 p) Z Z) Z) (N (o95 p) Z Z)) (N (o47 p) (N (o79 p) Z Z) (N (o111 p) Z Z))) (bt13 p)) (N (uS p) (N (o19 p) (N (o35 p) (N (o67 p) (N (o131 p) Z Z) Z) (N (o99 p) Z Z)) (N (o51 p) (N (o83 p) Z Z) (N (o115 p) Z Z))) (bt14 p))) (N (o5 p) (N (o9 p) (N (o17 p) (N (o33 p) (N (o65 p) (N (o129 p) Z Z) Z) (N (o97 p) Z Z)) (N (o49 p) (N (o81 p) Z Z) (N (o113 p) Z Z))) (bt15 p)) (N (o13 p) (bt16 p) (N (zLe p) (N (o45 p) (N (o77 p) Z Z) (N (o109 p) Z Z)) (N (o61 p) (N (o93 p) Z Z) (N (o125 p) Z Z)))))) (N (o2 p) (N (o4 p) (N (o8 p) (N (o16 p) (N (o32 p) (N (o64 p) (N (o128 p) Z Z) Z) (N (o96 p) Z Z)) (N (o48 p) (N (o80 p) Z Z) (N (o112 p) Z Z))) (bt17 p)) (N (o12 p) (N (o20 p) (N (o36 p) (N (o68 p) (N (o132 p) Z Z) Z) (N (o100 p) Z Z)) (N (o52 p) (N (o84 p) Z Z) (N (o116 p) Z Z))) (bt18 p))) (N (o6 p) (N (o10 p) (N (o18 p) (N (o34 p) (N (o66 p) (N (o130 p) Z Z) Z) (N (o98 p) Z Z)) (N (o50 p) (N (o82 p) Z Z) (N (o114 p) Z Z))) (bt19 p)) (N (o14 p) (bt20 p) (N (o30 p) (N (o46 p) (N (o78 p) Z Z) (N (o110 p) Z Z)) (N (o62 p) (N (o94 p) Z Z) (N (o126 p) Z Z)))))))
noncomputable def St8(w:World)(os:OsState):SharedT:=⟨T8 w.params,133,lf,#[],dr,722,os⟩
noncomputable def pos8:Pos:=⟨143,0,144,30⟩
noncomputable def sts7:List Stmt:=[stm 70]
private theorem pc7(w:World)(os:OsState):segRunT treeTable pg w m0 ann 1 30 (St7 w os) (piecesOf sts7 env cE pos7 Bf)=some (.next,St8 w os,cE,pos8):=by
 rw[PySem.W.Fast.te10110043849684766642,PySem.W.Fast.te14364793385576792824];kernel_rfl
noncomputable def b3L:List (Int×Str):=zDw (stm 71)
noncomputable def o133(p:Params):Obj:=zE (bigE 722 (zC 39 b3L)).toArray 650
noncomputable def o134(p:Params):Obj:=zE (ents 773 ((zC 39 b3L).getD 1 [])).toArray 17
noncomputable def o135(p:Params):Obj:=zE (ents 824 ((zC 39 b3L).getD 2 [])).toArray 17
noncomputable def o136(p:Params):Obj:=zE (ents 875 ((zC 39 b3L).getD 3 [])).toArray 17
noncomputable def o137(p:Params):Obj:=zE (ents 926 ((zC 39 b3L).getD 4 [])).toArray 17
noncomputable def o138(p:Params):Obj:=zE (ents 977 ((zC 39 b3L).getD 5 [])).toArray 17
noncomputable def o139(p:Params):Obj:=zE (ents 1028 ((zC 39 b3L).getD 6 [])).toArray 17
noncomputable def o140(p:Params):Obj:=zE (ents 1079 ((zC 39 b3L).getD 7 [])).toArray 17
noncomputable def o141(p:Params):Obj:=zE (ents 1130 ((zC 39 b3L).getD 8 [])).toArray 17
noncomputable def o142(p:Params):Obj:=zE (ents 1181 ((zC 39 b3L).getD 9 [])).toArray 17
noncomputable def o143(p:Params):Obj:=zE (ents 1232 ((zC 39 b3L).getD 10 [])).toArray 17
noncomputable def o144(p:Params):Obj:=zE (ents 1283 ((zC 39 b3L).getD 11 [])).toArray 17
noncomputable def o145(p:Params):Obj:=zE (ents 1334 ((zC 39 b3L).getD 12 [])).toArray 17
noncomputable def o146(p:Params):Obj:=zE (ents 1385 ((zC 39 b3L).getD 13 [])).toArray 17
noncomputable def o147(p:Params):Obj:=zE (ents 1436 ((zC 39 b3L).getD 14 [])).toArray 17
noncomputable def o148(p:Params):Obj:=zE (ents 1487 ((zC 39 b3L).getD 15 [])).toArray 17
noncomputable def o149(p:Params):Obj:=zE (ents 1538 ((zC 39 b3L).getD 16 [])).toArray 17
noncomputable def o150(p:Params):Obj:=zE (ents 1589 ((zC 39 b3L).getD 17 [])).toArray 17
noncomputable def o151(p:Params):Obj:=zE (ents 1640 ((zC 39 b3L).getD 18 [])).toArray 17
noncomputable def o152(p:Params):Obj:=zE (ents 1691 ((zC 39 b3L).getD 19 [])).toArray 17
noncomputable def o153(p:Params):Obj:=zE (ents 1742 ((zC 39 b3L).getD 20 [])).toArray 17
noncomputable def o154(p:Params):Obj:=zE (ents 1793 ((zC 39 b3L).getD 21 [])).toArray 17
noncomputable def o155(p:Params):Obj:=zE (ents 1844 ((zC 39 b3L).getD 22 [])).toArray 17
noncomputable def o156(p:Params):Obj:=zE (ents 1895 ((zC 39 b3L).getD 23 [])).toArray 17
noncomputable def o157(p:Params):Obj:=zE (ents 1946 ((zC 39 b3L).getD 24 [])).toArray 17
noncomputable def o158(p:Params):Obj:=zE (ents 1997 ((zC 39 b3L).getD 25 [])).toArray 17
noncomputable def o159(p:Params):Obj:=zE (ents 2048 ((zC 39 b3L).getD 26 [])).toArray 17
noncomputable def o160(p:Params):Obj:=zE (ents 2099 ((zC 39 b3L).getD 27 [])).toArray 17
noncomputable def o161(p:Params):Obj:=zE (ents 2150 ((zC 39 b3L).getD 28 [])).toArray 17
noncomputable def o162(p:Params):Obj:=zE (ents 2201 ((zC 39 b3L).getD 29 [])).toArray 17
noncomputable def o163(p:Params):Obj:=zE (ents 2252 ((zC 39 b3L).getD 30 [])).toArray 17
noncomputable def o164(p:Params):Obj:=zE (ents 2303 ((zC 39 b3L).getD 31 [])).toArray 17
noncomputable def o165(p:Params):Obj:=zE (ents 2354 ((zC 39 b3L).getD 32 [])).toArray 17
noncomputable def o166(p:Params):Obj:=zE (ents 2405 ((zC 39 b3L).getD 33 [])).toArray 17
noncomputable def o167(p:Params):Obj:=zE (ents 2456 ((zC 39 b3L).getD 34 [])).toArray 17
noncomputable def o168(p:Params):Obj:=zE (ents 2507 ((zC 39 b3L).getD 35 [])).toArray 17
noncomputable def o169(p:Params):Obj:=zE (ents 2558 ((zC 39 b3L).getD 36 [])).toArray 17
noncomputable def o170(p:Params):Obj:=zE (ents 2609 ((zC 39 b3L).getD 37 [])).toArray 17
noncomputable def o171(p:Params):Obj:=zE (ents 2660 ((zC 39 b3L).getD 38 [])).toArray 4
noncomputable def bt21(p : Params) : BT := (N (o7 p) (N (o15 p) (N (o31 p) (N (o63 p) (N (o127 p) Z Z) Z) (N (o95 p) (N (o159 p) Z Z) Z)) (N (o47 p) (N (o79 p) (N (o143 p) Z Z) Z) (N (o111 p) Z Z))) (N (o23 p) (N (o39 p) (N (o71 p) (N (o135 p) Z Z) Z) (N (o103 p) (N (o167 p) Z Z) Z)) (N (o55 p) (N (o87 p) (N (o151 p) Z Z) Z) (N (o119 p) Z Z))))
noncomputable def bt22(p : Params) : BT := (N (uS p) (N (o19 p) (N (o35 p) (N (o67 p) (N (o131 p) Z Z) Z) (N (o99 p) (N (o163 p) Z Z) Z)) (N (o51 p) (N (o83 p) (N (o147 p) Z Z) Z) (N (o115 p) Z Z))) (N (o27 p) (N (o43 p) (N (o75 p) (N (o139 p) Z Z) Z) (N (o107 p) (N (o171 p) Z Z) Z)) (N (o59 p) (N (o91 p) (N (o155 p) Z Z) Z) (N (o123 p) Z Z))))
noncomputable def bt23(p : Params) : BT := (N (o5 p) (N (o9 p) (N (o17 p) (N (o33 p) (N (o65 p) (N (o129 p) Z Z) Z) (N (o97 p) (N (o161 p) Z Z) Z)) (N (o49 p) (N (o81 p) (N (o145 p) Z Z) Z) (N (o113 p) Z Z))) (N (o25 p) (N (o41 p) (N (o73 p) (N (o137 p) Z Z) Z) (N (o105 p) (N (o169 p) Z Z) Z)) (N (o57 p) (N (o89 p) (N (o153 p) Z Z) Z) (N (o121 p) Z Z)))) (N (o13 p) (N (o21 p) (N (o37 p) (N (o69 p) (N (o133 p) Z Z) Z) (N (o101 p) (N (o165 p) Z Z) Z)) (N (o53 p) (N (o85 p) (N (o149 p) Z Z) Z) (N (o117 p) Z Z))) (N (zLe p) (N (o45 p) (N (o77 p) (N (o141 p) Z Z) Z) (N (o109 p) Z Z)) (N (o61 p) (N (o93 p) (N (o157 p) Z Z) Z) (N (o125 p) Z Z)))))
noncomputable def bt24(p : Params) : BT := (N (o2 p) (N (o4 p) (N (o8 p) (N (o16 p) (N (o32 p) (N (o64 p) (N (o128 p) Z Z) Z) (N (o96 p) (N (o160 p) Z Z) Z)) (N (o48 p) (N (o80 p) (N (o144 p) Z Z) Z) (N (o112 p) Z Z))) (N (o24 p) (N (o40 p) (N (o72 p) (N (o136 p) Z Z) Z) (N (o104 p) (N (o168 p) Z Z) Z)) (N (o56 p) (N (o88 p) (N (o152 p) Z Z) Z) (N (o120 p) Z Z)))) (N (o12 p) (N (o20 p) (N (o36 p) (N (o68 p) (N (o132 p) Z Z) Z) (N (o100 p) (N (o164 p) Z Z) Z)) (N (o52 p) (N (o84 p) (N (o148 p) Z Z) Z) (N (o116 p) Z Z))) (N (o28 p) (N (o44 p) (N (o76 p) (N (o140 p) Z Z) Z) (N (o108 p) Z Z)) (N (o60 p) (N (o92 p) (N (o156 p) Z Z) Z) (N (o124 p) Z Z))))) (N (o6 p) (N (o10 p) (N (o18 p) (N (o34 p) (N (o66 p) (N (o130 p) Z Z) Z) (N (o98 p) (N (o162 p) Z Z) Z)) (N (o50 p) (N (o82 p) (N (o146 p) Z Z) Z) (N (o114 p) Z Z))) (N (o26 p) (N (o42 p) (N (o74 p) (N (o138 p) Z Z) Z) (N (o106 p) (N (o170 p) Z Z) Z)) (N (o58 p) (N (o90 p) (N (o154 p) Z Z) Z) (N (o122 p) Z Z)))) (N (o14 p) (N (o22 p) (N (o38 p) (N (o70 p) (N (o134 p) Z Z) Z) (N (o102 p) (N (o166 p) Z Z) Z)) (N (o54 p) (N (o86 p) (N (o150 p) Z Z) Z) (N (o118 p) Z Z))) (N (o30 p) (N (o46 p) (N (o78 p) (N (o142 p) Z Z) Z) (N (o110 p) Z Z)) (N (o62 p) (N (o94 p) (N (o158 p) Z Z) Z) (N (o126 p) Z Z))))))
noncomputable def T8m(p : Params) : BT := (N (o0 p) (N (o1 p) (N (zOv p) (bt21 p) (bt22 p)) (bt23 p)) (bt24 p))
noncomputable def St8m(w:World)(os:OsState):SharedT:=⟨T8m w.params,172,lf,#[],dr,2672,os⟩
noncomputable def o3_183(p:Params):Obj:=(Obj.mk (.type "dict") none (Data.dict #[en p "__name__" 165 (vs "cpy313.stringprep" 653),en p "__doc__" 166 .none,en p "__package__" 167 .none,en p "__loader__" 168 (.builtin "__main__.__loader__#opaque"),en p "__spec__" 169 .none,en p "__annotations__" 170 (vr 6),en p "__builtins__" 171 (vr 4),en p "__file__" 173 (vs "/claim/cut.py" 172),en p "__cached__" 174 .none,en p "_sre" 275 (vr 12),en p "ENDMARKER" 285 (vi 0 284),en p "LPAR" 287 (vi 7 286),en p "RPAR" 289 (vi 8 288),en p "LSQB" 291 (vi 9 290),en p "RSQB" 293 (vi 10 292),en p "COLON" 295 (vi 11 294),en p "COMMA" 297 (vi 12 296),en p "SEMI" 299 (vi 13 298),en p "PLUS" 301 (vi 14 300),en p "MINUS" 303 (vi 15 302),en p "STAR" 305 (vi 16 304),en p "SLASH" 307 (vi 17 306),en p "VBAR" 309 (vi 18 308),en p "AMPER" 311 (vi 19 310),en p "LESS" 313 (vi 20 312),en p "GREATER" 315 (vi 21 314),en p "EQUAL" 317 (vi 22 316),en p "DOT" 319 (vi 23 318),en p "PERCENT" 321 (vi 24 320),en p "LBRACE" 323 (vi 25 322),en p "RBRACE" 325 (vi 26 324),en p "EQEQUAL" 327 (vi 27 326),en p "NOTEQUAL" 329 (vi 28 328),en p "LESSEQUAL" 331 (vi 29 330),en p "GREATEREQUAL" 333 (vi 30 332),en p "TILDE" 335 (vi 31 334),en p "CIRCUMFLEX" 337 (vi 32 336),en p "LEFTSHIFT" 339 (vi 33 338),en p "RIGHTSHIFT" 341 (vi 34 340),en p "DOUBLESTAR" 343 (vi 35 342),en p "PLUSEQUAL" 345 (vi 36 344),en p "MINEQUAL" 347 (vi 37 346),en p "STAREQUAL" 349 (vi 38 348),en p "SLASHEQUAL" 351 (vi 39 350),en p "PERCENTEQUAL" 353 (vi 40 352),en p "AMPEREQUAL" 355 (vi 41 354),en p "VBAREQUAL" 357 (vi 42 356),en p "CIRCUMFLEXEQUAL" 359 (vi 43 358),en p "LEFTSHIFTEQUAL" 361 (vi 44 360),en p "RIGHTSHIFTEQUAL" 363 (vi 45 362),en p "DOUBLESTAREQUAL" 365 (vi 46 364),en p "DOUBLESLASH" 367 (vi 47 366),en p "DOUBLESLASHEQUAL" 369 (vi 48 368),en p "AT" 371 (vi 49 370),en p "ATEQUAL" 373 (vi 50 372),en p "RARROW" 375 (vi 51 374),en p "ELLIPSIS" 377 (vi 52 376),en p "COLONEQUAL" 379 (vi 53 378),en p "EXCLAMATION" 381 (vi 54 380),en p "NT_OFFSET" 383 (vi 256 382),en p "EXACT_TOKEN_TYPES" 480 (vr 32),en p "ISTERMINAL" 487 (vr 41),en p "ISNONTERMINAL" 494 (vr 48),en p "ISEOF" 501 (vr 55),en p "_DIV_LIMIT" 505 (vi 4000 504),en p "_div2n1n" 522 (vr 62),en p "_div3n2n" 536 (vr 69),en p "_int2digits" 547 (vr 76),en p "_digits2int" 558 (vr 83),en p "_divmod_pos" 573 (vr 90),en p "int_divmod" 583 (vr 97),en p "_twin_re_1" 601 (vr 102),en p "_twin_re_2" 643 (vr 107),en p "CRLF" 645 (vs "\x0d\n" 644),en p "quotedata" 652 (vr 114),en p "b1_set" 714 (vr 122),en p "in_table_b1" 721 (vr 132),en p "b3_exceptions" 2672 (vr 133)] 78) #[])
noncomputable def T9(p : Params) : BT := (N (o0 p) (N (o1 p) (N (o3_183 p) (bt21 p) (bt22 p)) (bt23 p)) (bt24 p))
noncomputable def St9(w:World)(os:OsState):SharedT:=⟨T9 w.params,172,lf,#[],dr,2673,os⟩
noncomputable def pos9:Pos:=⟨145,0,145,13⟩
noncomputable def sts8:List Stmt:=[stm 71]
noncomputable def o3_184(p:Params):Obj:=(Obj.mk (.type "dict") none (Data.dict #[en p "__name__" 165 (vs "law_we0034_01" 2681),en p "__doc__" 166 .none,en p "__package__" 167 .none,en p "__loader__" 168 (.builtin "__main__.__loader__#opaque"),en p "__spec__" 169 .none,en p "__annotations__" 170 (vr 6),en p "__builtins__" 171 (vr 4),en p "__file__" 173 (vs "/claim/cut.py" 172),en p "__cached__" 174 .none,en p "_sre" 275 (vr 12),en p "ENDMARKER" 285 (vi 0 284),en p "LPAR" 287 (vi 7 286),en p "RPAR" 289 (vi 8 288),en p "LSQB" 291 (vi 9 290),en p "RSQB" 293 (vi 10 292),en p "COLON" 295 (vi 11 294),en p "COMMA" 297 (vi 12 296),en p "SEMI" 299 (vi 13 298),en p "PLUS" 301 (vi 14 300),en p "MINUS" 303 (vi 15 302),en p "STAR" 305 (vi 16 304),en p "SLASH" 307 (vi 17 306),en p "VBAR" 309 (vi 18 308),en p "AMPER" 311 (vi 19 310),en p "LESS" 313 (vi 20 312),en p "GREATER" 315 (vi 21 314),en p "EQUAL" 317 (vi 22 316),en p "DOT" 319 (vi 23 318),en p "PERCENT" 321 (vi 24 320),en p "LBRACE" 323 (vi 25 322),en p "RBRACE" 325 (vi 26 324),en p "EQEQUAL" 327 (vi 27 326),en p "NOTEQUAL" 329 (vi 28 328),en p "LESSEQUAL" 331 (vi 29 330),en p "GREATEREQUAL" 333 (vi 30 332),en p "TILDE" 335 (vi 31 334),en p "CIRCUMFLEX" 337 (vi 32 336),en p "LEFTSHIFT" 339 (vi 33 338),en p "RIGHTSHIFT" 341 (vi 34 340),en p "DOUBLESTAR" 343 (vi 35 342),en p "PLUSEQUAL" 345 (vi 36 344),en p "MINEQUAL" 347 (vi 37 346),en p "STAREQUAL" 349 (vi 38 348),en p "SLASHEQUAL" 351 (vi 39 350),en p "PERCENTEQUAL" 353 (vi 40 352),en p "AMPEREQUAL" 355 (vi 41 354),en p "VBAREQUAL" 357 (vi 42 356),en p "CIRCUMFLEXEQUAL" 359 (vi 43 358),en p "LEFTSHIFTEQUAL" 361 (vi 44 360),en p "RIGHTSHIFTEQUAL" 363 (vi 45 362),en p "DOUBLESTAREQUAL" 365 (vi 46 364),en p "DOUBLESLASH" 367 (vi 47 366),en p "DOUBLESLASHEQUAL" 369 (vi 48 368),en p "AT" 371 (vi 49 370),en p "ATEQUAL" 373 (vi 50 372),en p "RARROW" 375 (vi 51 374),en p "ELLIPSIS" 377 (vi 52 376),en p "COLONEQUAL" 379 (vi 53 378),en p "EXCLAMATION" 381 (vi 54 380),en p "NT_OFFSET" 383 (vi 256 382),en p "EXACT_TOKEN_TYPES" 480 (vr 32),en p "ISTERMINAL" 487 (vr 41),en p "ISNONTERMINAL" 494 (vr 48),en p "ISEOF" 501 (vr 55),en p "_DIV_LIMIT" 505 (vi 4000 504),en p "_div2n1n" 522 (vr 62),en p "_div3n2n" 536 (vr 69),en p "_int2digits" 547 (vr 76),en p "_digits2int" 558 (vr 83),en p "_divmod_pos" 573 (vr 90),en p "int_divmod" 583 (vr 97),en p "_twin_re_1" 601 (vr 102),en p "_twin_re_2" 643 (vr 107),en p "CRLF" 645 (vs "\x0d\n" 644),en p "quotedata" 652 (vr 114),en p "b1_set" 714 (vr 122),en p "in_table_b1" 721 (vr 132),en p "b3_exceptions" 2672 (vr 133),en p "map_table_b3" 2680 (vr 178),en p "_law_cells" 2691 (vr 185),en p "_law_unseen" 2699 (vr 192),en p "_law_typed" 2707 (vr 199),en p "_law_strange" 2715 (vr 206),en p "_law_ends" 2725 (vr 213),en p "_law_sides" 2735 (vr 220),en p "_law_prepared" 2741 (vr 225),en p "_law_read" 2751 (vr 232),en p "_law_row" 2757 (vr 237),en p "_law_first" 2771 (vr 244),en p "_law_joined" 2784 (vr 251),en p "_law_back" 2790 (vr 256)] 91) #[])
noncomputable def o29_185(p:Params):Obj:=(Obj.mk .none none (Data.fields #[(vi 54 0),(vi 0 0),(vr 40),(vi 56 0),(vi 0 0),(vr 47),(vi 58 0),(vi 0 0),(vr 54),(vi 62 0),(vi 0 0),(vr 61),(vi 78 0),(vi 0 0),(vr 68),(vi 88 0),(vi 0 0),(vr 75),(vi 104 0),(vi 0 0),(vr 82),(vi 113 0),(vi 0 0),(vr 89),(vi 124 0),(vi 0 0),(vr 96),(vi 139 0),(vi 0 0),(vr 113),(vi 143 0),(vi 0 0),(vr 131),(vi 146 0),(vi 0 0),(vr 177),(vi 152 0),(vi 0 0),(vr 184),(vi 157 0),(vi 0 0),(vr 191),(vi 160 0),(vi 0 0),(vr 198),(vi 164 0),(vi 0 0),(vr 205),(vi 167 0),(vi 0 0),(vr 212),(vi 172 0),(vi 0 0),(vr 219),(vi 176 0),(vi 0 0),(vr 224),(vi 178 0),(vi 0 0),(vr 231),(vi 188 0),(vi 0 0),(vr 236),(vi 192 0),(vi 0 0),(vr 243),(vi 201 0),(vi 0 0),(vr 250),(vi 217 0),(vi 0 0),(vr 255)]) #[])
noncomputable def o172(p:Params):Obj:=(Obj.mk (.type "tuple") none (Data.seq #[] 0) #[])
noncomputable def o173(p:Params):Obj:=(Obj.mk .none none (Data.fields #[]) #[])
noncomputable def o174(p:Params):Obj:=(Obj.mk (.type "tuple") none (Data.seq #[(vs "code" 2676),(vs "r" 2677)] 0) #[])
noncomputable def o175(p:Params):Obj:=(Obj.mk (.type "tuple") none (Data.seq #[] 0) #[])
noncomputable def o176(p:Params):Obj:=fnO (stm 72) .none 0 .none .none
noncomputable def o177(p:Params):Obj:=(Obj.mk (.type "code") none (Data.fields #[(vs "map_table_b3" 2673),(vs "map_table_b3" 2674),(vs "/claim/cut.py" 2675),(vi 146 0),(vi 1 0),(vi 0 0),(vi 0 0),(vi 3 0),(vr 172),(.bool true),(vi 276 0),(vr 173),.none,(vr 174),(vr 175),(vr 176),(vi 2678 0),(vi 146 0),(vs "/claim/cut.py" 2679)]) #[])
noncomputable def o178(p:Params):Obj:=fnO (stm 72) (.type "function") 3 (vs "cpy313.stringprep" 653) (vr 177)
noncomputable def o179(p:Params):Obj:=(Obj.mk (.type "tuple") none (Data.seq #[] 0) #[])
noncomputable def o180(p:Params):Obj:=(Obj.mk .none none (Data.fields #[]) #[])
noncomputable def o181(p:Params):Obj:=(Obj.mk (.type "tuple") none (Data.seq #[(vs "script" 2686),(vs "cells" 2687),(vs "k" 2688)] 0) #[])
noncomputable def o182(p:Params):Obj:=(Obj.mk (.type "tuple") none (Data.seq #[] 0) #[])
noncomputable def o183(p:Params):Obj:=fnO (stm 74) .none 0 .none .none
noncomputable def o184(p:Params):Obj:=(Obj.mk (.type "code") none (Data.fields #[(vs "_law_cells" 2683),(vs "_law_cells" 2684),(vs "/claim/cut.py" 2685),(vi 152 0),(vi 1 0),(vi 0 0),(vi 0 0),(vi 3 0),(vr 179),(.bool true),(vi 276 0),(vr 180),.none,(vr 181),(vr 182),(vr 183),(vi 2689 0),(vi 152 0),(vs "/claim/cut.py" 2690)]) #[])
noncomputable def o185(p:Params):Obj:=fnO (stm 74) (.type "function") 3 (vs "law_we0034_01" 2681) (vr 184)
noncomputable def o186(p:Params):Obj:=(Obj.mk (.type "tuple") none (Data.seq #[] 0) #[])
noncomputable def o187(p:Params):Obj:=(Obj.mk .none none (Data.fields #[]) #[])
noncomputable def o188(p:Params):Obj:=(Obj.mk (.type "tuple") none (Data.seq #[(vs "k" 2695),(vs "sign" 2696)] 0) #[])
noncomputable def o189(p:Params):Obj:=(Obj.mk (.type "tuple") none (Data.seq #[] 0) #[])
noncomputable def o190(p:Params):Obj:=fnO (stm 75) .none 0 .none .none
noncomputable def o191(p:Params):Obj:=(Obj.mk (.type "code") none (Data.fields #[(vs "_law_unseen" 2692),(vs "_law_unseen" 2693),(vs "/claim/cut.py" 2694),(vi 157 0),(vi 1 0),(vi 0 0),(vi 0 0),(vi 3 0),(vr 186),(.bool true),(vi 276 0),(vr 187),.none,(vr 188),(vr 189),(vr 190),(vi 2697 0),(vi 157 0),(vs "/claim/cut.py" 2698)]) #[])
noncomputable def o192(p:Params):Obj:=fnO (stm 75) (.type "function") 3 (vs "law_we0034_01" 2681) (vr 191)
noncomputable def o193(p:Params):Obj:=(Obj.mk (.type "tuple") none (Data.seq #[] 0) #[])
noncomputable def o194(p:Params):Obj:=(Obj.mk .none none (Data.fields #[]) #[])
noncomputable def o195(p:Params):Obj:=(Obj.mk (.type "tuple") none (Data.seq #[(vs "letter" 2703),(vs "k" 2704)] 0) #[])
noncomputable def o196(p:Params):Obj:=(Obj.mk (.type "tuple") none (Data.seq #[] 0) #[])
noncomputable def o197(p:Params):Obj:=fnO (stm 76) .none 0 .none .none
noncomputable def o198(p:Params):Obj:=(Obj.mk (.type "code") none (Data.fields #[(vs "_law_typed" 2700),(vs "_law_typed" 2701),(vs "/claim/cut.py" 2702),(vi 160 0),(vi 2 0),(vi 0 0),(vi 0 0),(vi 3 0),(vr 193),(.bool true),(vi 276 0),(vr 194),.none,(vr 195),(vr 196),(vr 197),(vi 2705 0),(vi 160 0),(vs "/claim/cut.py" 2706)]) #[])
noncomputable def o199(p:Params):Obj:=fnO (stm 76) (.type "function") 3 (vs "law_we0034_01" 2681) (vr 198)
noncomputable def o200(p:Params):Obj:=(Obj.mk (.type "tuple") none (Data.seq #[] 0) #[])
noncomputable def o201(p:Params):Obj:=(Obj.mk .none none (Data.fields #[]) #[])
noncomputable def o202(p:Params):Obj:=(Obj.mk (.type "tuple") none (Data.seq #[(vs "k" 2711),(vs "codes" 2712)] 0) #[])
noncomputable def o203(p:Params):Obj:=(Obj.mk (.type "tuple") none (Data.seq #[] 0) #[])
noncomputable def o204(p:Params):Obj:=fnO (stm 77) .none 0 .none .none
noncomputable def o205(p:Params):Obj:=(Obj.mk (.type "code") none (Data.fields #[(vs "_law_strange" 2708),(vs "_law_strange" 2709),(vs "/claim/cut.py" 2710),(vi 164 0),(vi 1 0),(vi 0 0),(vi 0 0),(vi 3 0),(vr 200),(.bool true),(vi 276 0),(vr 201),.none,(vr 202),(vr 203),(vr 204),(vi 2713 0),(vi 164 0),(vs "/claim/cut.py" 2714)]) #[])
noncomputable def o206(p:Params):Obj:=fnO (stm 77) (.type "function") 3 (vs "law_we0034_01" 2681) (vr 205)
noncomputable def o207(p:Params):Obj:=(Obj.mk (.type "tuple") none (Data.seq #[] 0) #[])
noncomputable def o208(p:Params):Obj:=(Obj.mk .none none (Data.fields #[]) #[])
noncomputable def o209(p:Params):Obj:=(Obj.mk (.type "tuple") none (Data.seq #[(vs "k" 2719),(vs "ends" 2720),(vs "typed" 2721),(vs "told" 2722)] 0) #[])
noncomputable def o210(p:Params):Obj:=(Obj.mk (.type "tuple") none (Data.seq #[] 0) #[])
noncomputable def o211(p:Params):Obj:=fnO (stm 78) .none 0 .none .none
noncomputable def o212(p:Params):Obj:=(Obj.mk (.type "code") none (Data.fields #[(vs "_law_ends" 2716),(vs "_law_ends" 2717),(vs "/claim/cut.py" 2718),(vi 167 0),(vi 1 0),(vi 0 0),(vi 0 0),(vi 3 0),(vr 207),(.bool true),(vi 276 0),(vr 208),.none,(vr 209),(vr 210),(vr 211),(vi 2723 0),(vi 167 0),(vs "/claim/cut.py" 2724)]) #[])
noncomputable def o213(p:Params):Obj:=fnO (stm 78) (.type "function") 3 (vs "law_we0034_01" 2681) (vr 212)
noncomputable def o214(p:Params):Obj:=(Obj.mk (.type "tuple") none (Data.seq #[] 0) #[])
noncomputable def o215(p:Params):Obj:=(Obj.mk .none none (Data.fields #[]) #[])
noncomputable def o216(p:Params):Obj:=(Obj.mk (.type "tuple") none (Data.seq #[(vs "cell" 2729),(vs "low" 2730),(vs "high" 2731),(vs "sides" 2732)] 0) #[])
noncomputable def o217(p:Params):Obj:=(Obj.mk (.type "tuple") none (Data.seq #[] 0) #[])
noncomputable def o218(p:Params):Obj:=fnO (stm 79) .none 0 .none .none
noncomputable def o219(p:Params):Obj:=(Obj.mk (.type "code") none (Data.fields #[(vs "_law_sides" 2726),(vs "_law_sides" 2727),(vs "/claim/cut.py" 2728),(vi 172 0),(vi 1 0),(vi 0 0),(vi 0 0),(vi 3 0),(vr 214),(.bool true),(vi 276 0),(vr 215),.none,(vr 216),(vr 217),(vr 218),(vi 2733 0),(vi 172 0),(vs "/claim/cut.py" 2734)]) #[])
noncomputable def o220(p:Params):Obj:=fnO (stm 79) (.type "function") 3 (vs "law_we0034_01" 2681) (vr 219)
noncomputable def o221(p:Params):Obj:=(Obj.mk (.type "tuple") none (Data.seq #[] 0) #[])
noncomputable def o222(p:Params):Obj:=(Obj.mk .none none (Data.fields #[]) #[])
noncomputable def o223(p:Params):Obj:=fnO (stm 80) .none 0 .none .none
noncomputable def o224(p:Params):Obj:=(Obj.mk (.type "code") none (Data.fields #[(vs "_law_prepared" 2736),(vs "_law_prepared" 2737),(vs "/claim/cut.py" 2738),(vi 176 0),(vi 1 0),(vi 0 0),(vi 0 0),(vi 3 0),(vr 221),(.bool true),(vi 276 0),(vr 222),.none,.none,.none,(vr 223),(vi 2739 0),(vi 176 0),(vs "/claim/cut.py" 2740)]) #[])
noncomputable def o225(p:Params):Obj:=fnO (stm 80) (.type "function") 3 (vs "law_we0034_01" 2681) (vr 224)
noncomputable def o226(p:Params):Obj:=(Obj.mk (.type "tuple") none (Data.seq #[] 0) #[])
noncomputable def o227(p:Params):Obj:=(Obj.mk .none none (Data.fields #[]) #[])
noncomputable def o228(p:Params):Obj:=(Obj.mk (.type "tuple") none (Data.seq #[(vs "text" 2745),(vs "row" 2746),(vs "place" 2747),(vs "size" 2748)] 0) #[])
noncomputable def o229(p:Params):Obj:=(Obj.mk (.type "tuple") none (Data.seq #[] 0) #[])
noncomputable def o230(p:Params):Obj:=fnO (stm 81) .none 0 .none .none
noncomputable def o231(p:Params):Obj:=(Obj.mk (.type "code") none (Data.fields #[(vs "_law_read" 2742),(vs "_law_read" 2743),(vs "/claim/cut.py" 2744),(vi 178 0),(vi 1 0),(vi 0 0),(vi 0 0),(vi 3 0),(vr 226),(.bool true),(vi 276 0),(vr 227),.none,(vr 228),(vr 229),(vr 230),(vi 2749 0),(vi 178 0),(vs "/claim/cut.py" 2750)]) #[])
noncomputable def o232(p:Params):Obj:=fnO (stm 81) (.type "function") 3 (vs "law_we0034_01" 2681) (vr 231)
noncomputable def o233(p:Params):Obj:=(Obj.mk (.type "tuple") none (Data.seq #[] 0) #[])
noncomputable def o234(p:Params):Obj:=(Obj.mk .none none (Data.fields #[]) #[])
noncomputable def o235(p:Params):Obj:=fnO (stm 82) .none 0 .none .none
noncomputable def o236(p:Params):Obj:=(Obj.mk (.type "code") none (Data.fields #[(vs "_law_row" 2752),(vs "_law_row" 2753),(vs "/claim/cut.py" 2754),(vi 188 0),(vi 1 0),(vi 0 0),(vi 0 0),(vi 3 0),(vr 233),(.bool true),(vi 276 0),(vr 234),.none,.none,.none,(vr 235),(vi 2755 0),(vi 188 0),(vs "/claim/cut.py" 2756)]) #[])
noncomputable def o237(p:Params):Obj:=fnO (stm 82) (.type "function") 3 (vs "law_we0034_01" 2681) (vr 236)
noncomputable def o238(p:Params):Obj:=(Obj.mk (.type "tuple") none (Data.seq #[] 0) #[])
noncomputable def o239(p:Params):Obj:=(Obj.mk .none none (Data.fields #[]) #[])
noncomputable def o240(p:Params):Obj:=(Obj.mk (.type "tuple") none (Data.seq #[(vs "cells" 2761),(vs "chosen" 2762),(vs "typed" 2763),(vs "told" 2764),(vs "k" 2765),(vs "j" 2766),(vs "size" 2767),(vs "x" 2768)] 0) #[])
noncomputable def o241(p:Params):Obj:=(Obj.mk (.type "tuple") none (Data.seq #[] 0) #[])
noncomputable def o242(p:Params):Obj:=fnO (stm 83) .none 0 .none .none
noncomputable def o243(p:Params):Obj:=(Obj.mk (.type "code") none (Data.fields #[(vs "_law_first" 2758),(vs "_law_first" 2759),(vs "/claim/cut.py" 2760),(vi 192 0),(vi 2 0),(vi 0 0),(vi 0 0),(vi 3 0),(vr 238),(.bool true),(vi 276 0),(vr 239),.none,(vr 240),(vr 241),(vr 242),(vi 2769 0),(vi 192 0),(vs "/claim/cut.py" 2770)]) #[])
noncomputable def o244(p:Params):Obj:=fnO (stm 83) (.type "function") 3 (vs "law_we0034_01" 2681) (vr 243)
noncomputable def o245(p:Params):Obj:=(Obj.mk (.type "tuple") none (Data.seq #[] 0) #[])
noncomputable def o246(p:Params):Obj:=(Obj.mk .none none (Data.fields #[]) #[])
noncomputable def o247(p:Params):Obj:=(Obj.mk (.type "tuple") none (Data.seq #[(vs "rows" 2775),(vs "cells" 2776),(vs "entries" 2777),(vs "k" 2778),(vs "gap" 2779),(vs "near" 2780),(vs "sign" 2781)] 0) #[])
noncomputable def o248(p:Params):Obj:=(Obj.mk (.type "tuple") none (Data.seq #[] 0) #[])
noncomputable def o249(p:Params):Obj:=fnO (stm 84) .none 0 .none .none
noncomputable def o250(p:Params):Obj:=(Obj.mk (.type "code") none (Data.fields #[(vs "_law_joined" 2772),(vs "_law_joined" 2773),(vs "/claim/cut.py" 2774),(vi 201 0),(vi 2 0),(vi 0 0),(vi 0 0),(vi 3 0),(vr 245),(.bool true),(vi 276 0),(vr 246),.none,(vr 247),(vr 248),(vr 249),(vi 2782 0),(vi 201 0),(vs "/claim/cut.py" 2783)]) #[])
noncomputable def o251(p:Params):Obj:=fnO (stm 84) (.type "function") 3 (vs "law_we0034_01" 2681) (vr 250)
noncomputable def o252(p:Params):Obj:=(Obj.mk (.type "tuple") none (Data.seq #[] 0) #[])
noncomputable def o253(p:Params):Obj:=(Obj.mk .none none (Data.fields #[]) #[])
noncomputable def o254(p:Params):Obj:=fnO (stm 85) .none 0 .none .none
noncomputable def o255(p:Params):Obj:=(Obj.mk (.type "code") none (Data.fields #[(vs "_law_back" 2785),(vs "_law_back" 2786),(vs "/claim/cut.py" 2787),(vi 217 0),(vi 2 0),(vi 0 0),(vi 0 0),(vi 3 0),(vr 252),(.bool true),(vi 276 0),(vr 253),.none,.none,.none,(vr 254),(vi 2788 0),(vi 217 0),(vs "/claim/cut.py" 2789)]) #[])
noncomputable def o256(p:Params):Obj:=fnO (stm 85) (.type "function") 3 (vs "law_we0034_01" 2681) (vr 255)
noncomputable def bt25(p : Params) : BT := (N (o31 p) (N (o63 p) (N (o127 p) (N (o255 p) Z Z) Z) (N (o191 p) Z Z)) (N (o95 p) (N (o159 p) Z Z) (N (o223 p) Z Z)))
noncomputable def bt26(p : Params) : BT := (N (o55 p) (N (o87 p) (N (o151 p) Z Z) (N (o215 p) Z Z)) (N (o119 p) (N (o183 p) Z Z) (N (o247 p) Z Z)))
noncomputable def bt27(p : Params) : BT := (N (o59 p) (N (o91 p) (N (o155 p) Z Z) (N (o219 p) Z Z)) (N (o123 p) (N (o187 p) Z Z) (N (o251 p) Z Z)))
noncomputable def bt28(p : Params) : BT := (N (o57 p) (N (o89 p) (N (o153 p) Z Z) (N (o217 p) Z Z)) (N (o121 p) (N (o185 p) Z Z) (N (o249 p) Z Z)))
noncomputable def bt29(p : Params) : BT := (N (o53 p) (N (o85 p) (N (o149 p) Z Z) (N (o213 p) Z Z)) (N (o117 p) (N (o181 p) Z Z) (N (o245 p) Z Z)))
noncomputable def bt30(p : Params) : BT := (N (o61 p) (N (o93 p) (N (o157 p) Z Z) (N (o221 p) Z Z)) (N (o125 p) (N (o189 p) Z Z) (N (o253 p) Z Z)))
noncomputable def bt31(p : Params) : BT := (N (o32 p) (N (o64 p) (N (o128 p) (N (o256 p) Z Z) Z) (N (o192 p) Z Z)) (N (o96 p) (N (o160 p) Z Z) (N (o224 p) Z Z)))
noncomputable def bt32(p : Params) : BT := (N (o56 p) (N (o88 p) (N (o152 p) Z Z) (N (o216 p) Z Z)) (N (o120 p) (N (o184 p) Z Z) (N (o248 p) Z Z)))
noncomputable def bt33(p : Params) : BT := (N (o52 p) (N (o84 p) (N (o148 p) Z Z) (N (o212 p) Z Z)) (N (o116 p) (N (o180 p) Z Z) (N (o244 p) Z Z)))
noncomputable def bt34(p : Params) : BT := (N (o60 p) (N (o92 p) (N (o156 p) Z Z) (N (o220 p) Z Z)) (N (o124 p) (N (o188 p) Z Z) (N (o252 p) Z Z)))
noncomputable def bt35(p : Params) : BT := (N (o58 p) (N (o90 p) (N (o154 p) Z Z) (N (o218 p) Z Z)) (N (o122 p) (N (o186 p) Z Z) (N (o250 p) Z Z)))
noncomputable def bt36(p : Params) : BT := (N (o54 p) (N (o86 p) (N (o150 p) Z Z) (N (o214 p) Z Z)) (N (o118 p) (N (o182 p) Z Z) (N (o246 p) Z Z)))
noncomputable def bt37(p : Params) : BT := (N (o62 p) (N (o94 p) (N (o158 p) Z Z) (N (o222 p) Z Z)) (N (o126 p) (N (o190 p) Z Z) (N (o254 p) Z Z)))
noncomputable def T10(p : Params) : BT := (N (o0 p) (N (o1 p) (N (o3_184 p) (N (o7 p) (N (o15 p) (bt25 p) (N (o47 p) (N (o79 p) (N (o143 p) Z Z) (N (o207 p) Z Z)) (N (o111 p) (N (o175 p) Z Z) (N (o239 p) Z Z)))) (N (o23 p) (N (o39 p) (N (o71 p) (N (o135 p) Z Z) (N (o199 p) Z Z)) (N (o103 p) (N (o167 p) Z Z) (N (o231 p) Z Z))) (bt26 p))) (N (uS p) (N (o19 p) (N (o35 p) (N (o67 p) (N (o131 p) Z Z) (N (o195 p) Z Z)) (N (o99 p) (N (o163 p) Z Z) (N (o227 p) Z Z))) (N (o51 p) (N (o83 p) (N (o147 p) Z Z) (N (o211 p) Z Z)) (N (o115 p) (N (o179 p) Z Z) (N (o243 p) Z Z)))) (N (o27 p) (N (o43 p) (N (o75 p) (N (o139 p) Z Z) (N (o203 p) Z Z)) (N (o107 p) (N (o171 p) Z Z) (N (o235 p) Z Z))) (bt27 p)))) (N (o5 p) (N (o9 p) (N (o17 p) (N (o33 p) (N (o65 p) (N (o129 p) Z Z) (N (o193 p) Z Z)) (N (o97 p) (N (o161 p) Z Z) (N (o225 p) Z Z))) (N (o49 p) (N (o81 p) (N (o145 p) Z Z) (N (o209 p) Z Z)) (N (o113 p) (N (o177 p) Z Z) (N (o241 p) Z Z)))) (N (o25 p) (N (o41 p) (N (o73 p) (N (o137 p) Z Z) (N (o201 p) Z Z)) (N (o105 p) (N (o169 p) Z Z) (N (o233 p) Z Z))) (bt28 p))) (N (o13 p) (N (o21 p) (N (o37 p) (N (o69 p) (N (o133 p) Z Z) (N (o197 p) Z Z)) (N (o101 p) (N (o165 p) Z Z) (N (o229 p) Z Z))) (bt29 p)) (N (o29_185 p) (N (o45 p) (N (o77 p) (N (o141 p) Z Z) (N (o205 p) Z Z)) (N (o109 p) (N (o173 p) Z Z) (N (o237 p) Z Z))) (bt30 p))))) (N (o2 p) (N (o4 p) (N (o8 p) (N (o16 p) (bt31 p) (N (o48 p) (N (o80 p) (N (o144 p) Z Z) (N (o208 p) Z Z)) (N (o112 p) (N (o176 p) Z Z) (N (o240 p) Z Z)))) (N (o24 p) (N (o40 p) (N (o72 p) (N (o136 p) Z Z) (N (o200 p) Z Z)) (N (o104 p) (N (o168 p) Z Z) (N (o232 p) Z Z))) (bt32 p))) (N (o12 p) (N (o20 p) (N (o36 p) (N (o68 p) (N (o132 p) Z Z) (N (o196 p) Z Z)) (N (o100 p) (N (o164 p) Z Z) (N (o228 p) Z Z))) (bt33 p)) (N (o28 p) (N (o44 p) (N (o76 p) (N (o140 p) Z Z) (N (o204 p) Z Z)) (N (o108 p) (N (o172 p) Z Z) (N (o236 p) Z Z))) (bt34 p)))) (N (o6 p) (N (o10 p) (N (o18 p) (N (o34 p) (N (o66 p) (N (o130 p) Z Z) (N (o194 p) Z Z)) (N (o98 p) (N (o162 p) Z Z) (N (o226 p) Z Z))) (N (o50 p) (N (o82 p) (N (o146 p) Z Z) (N (o210 p) Z Z)) (N (o114 p) (N (o178 p) Z Z) (N (o242 p) Z Z)))) (N (o26 p) (N (o42 p) (N (o74 p) (N (o138 p) Z Z) (N (o202 p) Z Z)) (N (o106 p) (N (o170 p) Z Z) (N (o234 p) Z Z))) (bt35 p))) (N (o14 p) (N (o22 p) (N (o38 p) (N (o70 p) (N (o134 p) Z Z) (N (o198 p) Z Z)) (N (o102 p) (N (o166 p) Z Z) (N (o230 p) Z Z))) (bt36 p)) (N (o30 p) (N (o46 p) (N (o78 p) (N (o142 p) Z Z) (N (o206 p) Z Z)) (N (o110 p) (N (o174 p) Z Z) (N (o238 p) Z Z))) (bt37 p))))))
noncomputable def St10(w:World)(os:OsState):SharedT:=⟨T10 w.params,257,lf,#[],dr,2791,os⟩
noncomputable def zNk:Pos:=⟨217,0,234,15⟩
noncomputable def sts9:List Stmt:=[stm 72,stm 73,stm 74,stm 75,stm 76,stm 77,stm 78,stm 79,stm 80,stm 81,stm 82,stm 83,stm 84,stm 85]
private theorem pc9(w:World)(os:OsState):segRunT treeTable pg w m0 ann 1 406 (St9 w os) (piecesOf sts9 env cE pos9 Bf)=some (.next,St10 w os,cE,zNk):=by
 rw[PySem.W.Fast.te10110043849684766642,PySem.W.Fast.te14364793385576792824];kernel_rfl
noncomputable def zIa(p:Params):Obj:=(Obj.mk (.type "dict") none (Data.dict #[en p "__name__" 165 (vs "law_we0034_01" 2681),en p "__doc__" 166 .none,en p "__package__" 167 .none,en p "__loader__" 168 (.builtin "__main__.__loader__#opaque"),en p "__spec__" 169 .none,en p "__annotations__" 170 (vr 6),en p "__builtins__" 171 (vr 4),en p "__file__" 173 (vs "/claim/cut.py" 172),en p "__cached__" 174 .none,en p "_sre" 275 (vr 12),en p "ENDMARKER" 285 (vi 0 284),en p "LPAR" 287 (vi 7 286),en p "RPAR" 289 (vi 8 288),en p "LSQB" 291 (vi 9 290),en p "RSQB" 293 (vi 10 292),en p "COLON" 295 (vi 11 294),en p "COMMA" 297 (vi 12 296),en p "SEMI" 299 (vi 13 298),en p "PLUS" 301 (vi 14 300),en p "MINUS" 303 (vi 15 302),en p "STAR" 305 (vi 16 304),en p "SLASH" 307 (vi 17 306),en p "VBAR" 309 (vi 18 308),en p "AMPER" 311 (vi 19 310),en p "LESS" 313 (vi 20 312),en p "GREATER" 315 (vi 21 314),en p "EQUAL" 317 (vi 22 316),en p "DOT" 319 (vi 23 318),en p "PERCENT" 321 (vi 24 320),en p "LBRACE" 323 (vi 25 322),en p "RBRACE" 325 (vi 26 324),en p "EQEQUAL" 327 (vi 27 326),en p "NOTEQUAL" 329 (vi 28 328),en p "LESSEQUAL" 331 (vi 29 330),en p "GREATEREQUAL" 333 (vi 30 332),en p "TILDE" 335 (vi 31 334),en p "CIRCUMFLEX" 337 (vi 32 336),en p "LEFTSHIFT" 339 (vi 33 338),en p "RIGHTSHIFT" 341 (vi 34 340),en p "DOUBLESTAR" 343 (vi 35 342),en p "PLUSEQUAL" 345 (vi 36 344),en p "MINEQUAL" 347 (vi 37 346),en p "STAREQUAL" 349 (vi 38 348),en p "SLASHEQUAL" 351 (vi 39 350),en p "PERCENTEQUAL" 353 (vi 40 352),en p "AMPEREQUAL" 355 (vi 41 354),en p "VBAREQUAL" 357 (vi 42 356),en p "CIRCUMFLEXEQUAL" 359 (vi 43 358),en p "LEFTSHIFTEQUAL" 361 (vi 44 360),en p "RIGHTSHIFTEQUAL" 363 (vi 45 362),en p "DOUBLESTAREQUAL" 365 (vi 46 364),en p "DOUBLESLASH" 367 (vi 47 366),en p "DOUBLESLASHEQUAL" 369 (vi 48 368),en p "AT" 371 (vi 49 370),en p "ATEQUAL" 373 (vi 50 372),en p "RARROW" 375 (vi 51 374),en p "ELLIPSIS" 377 (vi 52 376),en p "COLONEQUAL" 379 (vi 53 378),en p "EXCLAMATION" 381 (vi 54 380),en p "NT_OFFSET" 383 (vi 256 382),en p "EXACT_TOKEN_TYPES" 480 (vr 32),en p "ISTERMINAL" 487 (vr 41),en p "ISNONTERMINAL" 494 (vr 48),en p "ISEOF" 501 (vr 55),en p "_DIV_LIMIT" 505 (vi 4000 504),en p "_div2n1n" 522 (vr 62),en p "_div3n2n" 536 (vr 69),en p "_int2digits" 547 (vr 76),en p "_digits2int" 558 (vr 83),en p "_divmod_pos" 573 (vr 90),en p "int_divmod" 583 (vr 97),en p "_twin_re_1" 601 (vr 102),en p "_twin_re_2" 643 (vr 107),en p "CRLF" 645 (vs "\x0d\n" 644),en p "quotedata" 652 (vr 114),en p "b1_set" 714 (vr 122),en p "in_table_b1" 721 (vr 132),en p "b3_exceptions" 2672 (vr 133),en p "map_table_b3" 2680 (vr 178),en p "_law_cells" 2691 (vr 185),en p "_law_unseen" 2699 (vr 192),en p "_law_typed" 2707 (vr 199),en p "_law_strange" 2715 (vr 206),en p "_law_ends" 2725 (vr 213),en p "_law_sides" 2735 (vr 220),en p "_law_prepared" 2741 (vr 225),en p "_law_read" 2751 (vr 232),en p "_law_row" 2757 (vr 237),en p "_law_first" 2771 (vr 244),en p "_law_joined" 2784 (vr 251),en p "_law_back" 2790 (vr 256),en p "_law_tally" 2802 (vr 263),en p "_law_figures" 2818 (vr 270),en p "law" 2824 (vr 275)] 94) #[])
noncomputable def zMi(p:Params):Obj:=(Obj.mk .none none (Data.fields #[(vi 54 0),(vi 0 0),(vr 40),(vi 56 0),(vi 0 0),(vr 47),(vi 58 0),(vi 0 0),(vr 54),(vi 62 0),(vi 0 0),(vr 61),(vi 78 0),(vi 0 0),(vr 68),(vi 88 0),(vi 0 0),(vr 75),(vi 104 0),(vi 0 0),(vr 82),(vi 113 0),(vi 0 0),(vr 89),(vi 124 0),(vi 0 0),(vr 96),(vi 139 0),(vi 0 0),(vr 113),(vi 143 0),(vi 0 0),(vr 131),(vi 146 0),(vi 0 0),(vr 177),(vi 152 0),(vi 0 0),(vr 184),(vi 157 0),(vi 0 0),(vr 191),(vi 160 0),(vi 0 0),(vr 198),(vi 164 0),(vi 0 0),(vr 205),(vi 167 0),(vi 0 0),(vr 212),(vi 172 0),(vi 0 0),(vr 219),(vi 176 0),(vi 0 0),(vr 224),(vi 178 0),(vi 0 0),(vr 231),(vi 188 0),(vi 0 0),(vr 236),(vi 192 0),(vi 0 0),(vr 243),(vi 201 0),(vi 0 0),(vr 250),(vi 217 0),(vi 0 0),(vr 255),(vi 235 0),(vi 0 0),(vr 262),(vi 245 0),(vi 0 0),(vr 269),(vi 262 0),(vi 0 0),(vr 274)]) #[])
noncomputable def o257(p:Params):Obj:=(Obj.mk (.type "tuple") none (Data.seq #[] 0) #[])
noncomputable def o258(p:Params):Obj:=(Obj.mk .none none (Data.fields #[]) #[])
noncomputable def o259(p:Params):Obj:=(Obj.mk (.type "tuple") none (Data.seq #[(vs "tally" 2794),(vs "grown" 2795),(vs "total" 2796),(vs "least" 2797),(vs "barred" 2798),(vs "part" 2799)] 0) #[])
noncomputable def o260(p:Params):Obj:=(Obj.mk (.type "tuple") none (Data.seq #[] 0) #[])
noncomputable def o261(p:Params):Obj:=fnO (stm 86) .none 0 .none .none
noncomputable def o262(p:Params):Obj:=(Obj.mk (.type "code") none (Data.fields #[(vs "_law_tally" 2791),(vs "_law_tally" 2792),(vs "/claim/cut.py" 2793),(vi 235 0),(vi 0 0),(vi 0 0),(vi 0 0),(vi 3 0),(vr 257),(.bool true),(vi 276 0),(vr 258),.none,(vr 259),(vr 260),(vr 261),(vi 2800 0),(vi 235 0),(vs "/claim/cut.py" 2801)]) #[])
noncomputable def o263(p:Params):Obj:=fnO (stm 86) (.type "function") 3 (vs "law_we0034_01" 2681) (vr 262)
noncomputable def o264(p:Params):Obj:=(Obj.mk (.type "tuple") none (Data.seq #[] 0) #[])
noncomputable def o265(p:Params):Obj:=(Obj.mk .none none (Data.fields #[]) #[])
noncomputable def o266(p:Params):Obj:=(Obj.mk (.type "tuple") none (Data.seq #[(vs "cells" 2806),(vs "width" 2807),(vs "size" 2808),(vs "unit" 2809),(vs "far" 2810),(vs "lower" 2811),(vs "rest" 2812),(vs "upper" 2813),(vs "whole" 2814),(vs "left" 2815)] 0) #[])
noncomputable def o267(p:Params):Obj:=(Obj.mk (.type "tuple") none (Data.seq #[] 0) #[])
noncomputable def o268(p:Params):Obj:=fnO (stm 87) .none 0 .none .none
noncomputable def o269(p:Params):Obj:=(Obj.mk (.type "code") none (Data.fields #[(vs "_law_figures" 2803),(vs "_law_figures" 2804),(vs "/claim/cut.py" 2805),(vi 245 0),(vi 1 0),(vi 0 0),(vi 0 0),(vi 3 0),(vr 264),(.bool true),(vi 276 0),(vr 265),.none,(vr 266),(vr 267),(vr 268),(vi 2816 0),(vi 245 0),(vs "/claim/cut.py" 2817)]) #[])
noncomputable def o270(p:Params):Obj:=fnO (stm 87) (.type "function") 3 (vs "law_we0034_01" 2681) (vr 269)
noncomputable def o271(p:Params):Obj:=(Obj.mk (.type "tuple") none (Data.seq #[] 0) #[])
noncomputable def o272(p:Params):Obj:=(Obj.mk .none none (Data.fields #[]) #[])
noncomputable def o273(p:Params):Obj:=fnO (stm 88) .none 0 .none .none
noncomputable def o274(p:Params):Obj:=(Obj.mk (.type "code") none (Data.fields #[(vs "law" 2819),(vs "law" 2820),(vs "/claim/cut.py" 2821),(vi 262 0),(vi 1 0),(vi 0 0),(vi 0 0),(vi 3 0),(vr 271),(.bool true),(vi 276 0),(vr 272),.none,.none,.none,(vr 273),(vi 2822 0),(vi 262 0),(vs "/claim/cut.py" 2823)]) #[])
noncomputable def o275(p:Params):Obj:=fnO (stm 88) (.type "function") 3 (vs "law_we0034_01" 2681) (vr 274)
noncomputable def T11(p : Params) : BT := (N (o0 p) (N (o1 p) (N (zIa p) (N (o7 p) (N (o15 p) (bt25 p) (N (o47 p) (N (o79 p) (N (o143 p) (N (o271 p) Z Z) Z) (N (o207 p) Z Z)) (N (o111 p) (N (o175 p) Z Z) (N (o239 p) Z Z)))) (N (o23 p) (N (o39 p) (N (o71 p) (N (o135 p) (N (o263 p) Z Z) Z) (N (o199 p) Z Z)) (N (o103 p) (N (o167 p) Z Z) (N (o231 p) Z Z))) (bt26 p))) (N (uS p) (N (o19 p) (N (o35 p) (N (o67 p) (N (o131 p) (N (o259 p) Z Z) Z) (N (o195 p) Z Z)) (N (o99 p) (N (o163 p) Z Z) (N (o227 p) Z Z))) (N (o51 p) (N (o83 p) (N (o147 p) (N (o275 p) Z Z) Z) (N (o211 p) Z Z)) (N (o115 p) (N (o179 p) Z Z) (N (o243 p) Z Z)))) (N (o27 p) (N (o43 p) (N (o75 p) (N (o139 p) (N (o267 p) Z Z) Z) (N (o203 p) Z Z)) (N (o107 p) (N (o171 p) Z Z) (N (o235 p) Z Z))) (bt27 p)))) (N (o5 p) (N (o9 p) (N (o17 p) (N (o33 p) (N (o65 p) (N (o129 p) (N (o257 p) Z Z) Z) (N (o193 p) Z Z)) (N (o97 p) (N (o161 p) Z Z) (N (o225 p) Z Z))) (N (o49 p) (N (o81 p) (N (o145 p) (N (o273 p) Z Z) Z) (N (o209 p) Z Z)) (N (o113 p) (N (o177 p) Z Z) (N (o241 p) Z Z)))) (N (o25 p) (N (o41 p) (N (o73 p) (N (o137 p) (N (o265 p) Z Z) Z) (N (o201 p) Z Z)) (N (o105 p) (N (o169 p) Z Z) (N (o233 p) Z Z))) (bt28 p))) (N (o13 p) (N (o21 p) (N (o37 p) (N (o69 p) (N (o133 p) (N (o261 p) Z Z) Z) (N (o197 p) Z Z)) (N (o101 p) (N (o165 p) Z Z) (N (o229 p) Z Z))) (bt29 p)) (N (zMi p) (N (o45 p) (N (o77 p) (N (o141 p) (N (o269 p) Z Z) Z) (N (o205 p) Z Z)) (N (o109 p) (N (o173 p) Z Z) (N (o237 p) Z Z))) (bt30 p))))) (N (o2 p) (N (o4 p) (N (o8 p) (N (o16 p) (bt31 p) (N (o48 p) (N (o80 p) (N (o144 p) (N (o272 p) Z Z) Z) (N (o208 p) Z Z)) (N (o112 p) (N (o176 p) Z Z) (N (o240 p) Z Z)))) (N (o24 p) (N (o40 p) (N (o72 p) (N (o136 p) (N (o264 p) Z Z) Z) (N (o200 p) Z Z)) (N (o104 p) (N (o168 p) Z Z) (N (o232 p) Z Z))) (bt32 p))) (N (o12 p) (N (o20 p) (N (o36 p) (N (o68 p) (N (o132 p) (N (o260 p) Z Z) Z) (N (o196 p) Z Z)) (N (o100 p) (N (o164 p) Z Z) (N (o228 p) Z Z))) (bt33 p)) (N (o28 p) (N (o44 p) (N (o76 p) (N (o140 p) (N (o268 p) Z Z) Z) (N (o204 p) Z Z)) (N (o108 p) (N (o172 p) Z Z) (N (o236 p) Z Z))) (bt34 p)))) (N (o6 p) (N (o10 p) (N (o18 p) (N (o34 p) (N (o66 p) (N (o130 p) (N (o258 p) Z Z) Z) (N (o194 p) Z Z)) (N (o98 p) (N (o162 p) Z Z) (N (o226 p) Z Z))) (N (o50 p) (N (o82 p) (N (o146 p) (N (o274 p) Z Z) Z) (N (o210 p) Z Z)) (N (o114 p) (N (o178 p) Z Z) (N (o242 p) Z Z)))) (N (o26 p) (N (o42 p) (N (o74 p) (N (o138 p) (N (o266 p) Z Z) Z) (N (o202 p) Z Z)) (N (o106 p) (N (o170 p) Z Z) (N (o234 p) Z Z))) (bt35 p))) (N (o14 p) (N (o22 p) (N (o38 p) (N (o70 p) (N (o134 p) (N (o262 p) Z Z) Z) (N (o198 p) Z Z)) (N (o102 p) (N (o166 p) Z Z) (N (o230 p) Z Z))) (bt36 p)) (N (o30 p) (N (o46 p) (N (o78 p) (N (o142 p) (N (o270 p) Z Z) Z) (N (o206 p) Z Z)) (N (o110 p) (N (o174 p) Z Z) (N (o238 p) Z Z))) (bt37 p))))))
noncomputable def St11(w:World)(os:OsState):SharedT:=⟨T11 w.params,276,lf,#[],dr,2825,os⟩
noncomputable def zPv:Pos:=⟨262,0,300,46⟩
noncomputable def zO3:List Stmt:=[stm 86,stm 87,stm 88]
private theorem pc10(w:World)(os:OsState):segRunT treeTable pg w m0 ann 1 99 (St10 w os) (piecesOf zO3 env cE zNk Bf)=some (.next,St11 w os,cE,zPv):=by
 rw[PySem.W.Fast.te10110043849684766642,PySem.W.Fast.te14364793385576792824];kernel_rfl
noncomputable def zHi:Nat:=1
private theorem imp1(w:World):(impGoT treeTable (opening pg) w xQ ⟨.nil,0,{},#[],{},1,(start (opening pg)).1.os⟩ (start (opening pg)).2).map (fun r=>(r.1,r.2.atExitBegin.map List.isEmpty))=some (Ste w (start (opening pg)).1.os,some true):=by
 rw[PySem.W.Fast.te14789777615569096658,PySem.W.Fast.te14364793385576792824];kernel_rfl
private theorem imp2(w:World):importEnds treeTable (opening pg) w (xQ+1) (start (opening pg)).1 (start (opening pg)).2=some ⟨(fun p=>absHeap (Te p) 28 lf) w.params,#[],dr,276,(start (opening pg)).1.os⟩:=zPq (s:=⟨.nil,0,{},#[],{},1,(start (opening pg)).1.os⟩) (imp1 w)
private theorem fen1(w:World)(os:OsState):(fenceModules? pg ⟨absHeap (Te w.params) 28 lf,#[],dr,276,os⟩).map (fun s=>(s.heap,s.gens,s.drawn,s.toks))=some (kJ w.params,#[],dr,276):=by
 rw[PySem.W.Fast.te14289696077712309145];kernel_rfl
private theorem size1(w:World):((kJ w.params).isNs mainGlobals&&(#[]:Array GenState).size==0,(kJ w.params).objs.size,(kJ w.params).nsMap mainGlobals "__annotations__")=(true,m0,ann):=by kernel_rfl
private theorem pre1(w:World)(os:OsState):topGo treeTable pg w m0 ann zH6 ⟨kJ w.params,#[],dr,276,os⟩ (topStub pg)=some (⟨heapA w.params,#[],dr,toksA,os⟩,⟨denote treeTable cE,cE,posA,Bf⟩):=by
 rw[PySem.W.Fast.te15667345088766844465,PySem.W.Fast.te14364793385576792824,PySem.W.Fast.te11892475500146522536];kernel_rfl
private theorem block1(w:World)(os:OsState):segRun treeTable pg w m0 ann 1 (zCo+1) ⟨heapA w.params,#[],dr,toksA,os⟩ (blockOf zKh env cE posA Bf)=some (.next,(St1 w os).abs,cE,pos1):=by
 rw[PySem.W.Fast.te14374325043358763698,PySem.W.Fast.te14364793385576792824];kernel_rfl
private theorem fin1(w:World)(os:OsState):topRun treeTable pg w m0 ann (zHi+1) (St11 w os).abs ⟨doneF .next,cE,zPv,Bf⟩=some (St11 w os).abs:=by kernel_rfl
private theorem zQg:zKh=sts1++(sts2++(sts3++(sts4++(sts5++(sts6++(sts7++(sts8++(sts9++(zO3++([])))))))))):=by kernel_rfl
private theorem pcA1(w:World)(os:OsState):segRun treeTable pg w m0 ann 1 415 (St1 w os).abs (piecesOf sts1 env cE pos1 Bf)=some (.next,(St2 w os).abs,cE,pos2):=segRun_of (pc1 w os)
private theorem pcA2(w:World)(os:OsState):segRun treeTable pg w m0 ann 1 46 (St2 w os).abs (piecesOf sts2 env cE pos2 Bf)=some (.next,(St3 w os).abs,cE,pos3):=segRun_of (pc2 w os)
private theorem pcA3(w:World)(os:OsState):segRun treeTable pg w m0 ann 1 979 (St3 w os).abs (piecesOf sts3 env cE pos3 Bf)=some (.next,(St4 w os).abs,cE,pos4):=segRun_of (pc3 w os)
private theorem pcA4(w:World)(os:OsState):segRun treeTable pg w m0 ann 1 384 (St4 w os).abs (piecesOf sts4 env cE pos4 Bf)=some (.next,(St5 w os).abs,cE,pos5):=segRun_of (pc4 w os)
private theorem pcA5(w:World)(os:OsState):segRun treeTable pg w m0 ann 1 133 (St5 w os).abs (piecesOf sts5 env cE pos5 Bf)=some (.next,(St6 w os).abs,cE,pos6):=segRun_of (pc5 w os)
private theorem pcA6(w:World)(os:OsState):segRun treeTable pg w m0 ann 1 999 (St6 w os).abs (piecesOf sts6 env cE pos6 Bf)=some (.next,(St7 w os).abs,cE,pos7):=segRun_of (pc6 w os)
private theorem pcA7(w:World)(os:OsState):segRun treeTable pg w m0 ann 1 30 (St7 w os).abs (piecesOf sts7 env cE pos7 Bf)=some (.next,(St8 w os).abs,cE,pos8):=segRun_of (pc7 w os)
noncomputable def bKs:List (Option PySem.Expr):=(Wk.eparts (Wk.stTest (stm 71))).2.1
noncomputable def bVs:List PySem.Expr:=(Wk.eparts (Wk.stTest (stm 71))).2.2
private theorem b_is:stm 71=.Assign [.Name (S "b3_exceptions") ⟨145,0,145,13⟩] (.Dict bKs bVs ⟨145,16,145,8704⟩) ⟨145,0,145,8704⟩:=by kernel_rfl
private theorem zPi:qZ bKs bVs=true:=by kernel_rfl
private theorem b_len:b3L.length=650:=by kernel_rfl
private theorem zPb:(b3L.map fun q=>hashInt q.1).Nodup:=zH2 _ (by kernel_rfl)
private theorem b_disp(w:World)(os:OsState):dispS (St8 w os).abs.heap (St8 w os).abs.toks b3L=((St8m w os).abs.heap,(St8m w os).abs.toks,some (133,bigE 722 (zC 39 b3L))):=by kernel_rfl
private theorem b_run(w:World)(os:OsState):R pg w m0 (20*b3L.length+7+19*b3L.length) (dictDisplay (b3L.map (iT ⟨145,16,145,8704⟩))) (St8 w os).abs (.ref 133) (St8m w os).abs :=
 zLp (s:=(St8 w os).abs) b3L (by decide) (by show m0≤(absHeap _ _ _).objs.size;rw[absHeap_size];exact(by decide:(28:Nat)≤133)) zPb (by rw[b_len];decide) (b_disp w os)
private theorem b_tail(w:World)(os:OsState)(p':Pos):segRunT treeTable pg w m0 ann 1 20 (St8m w os) ⟨(zIm env (S "b3_exceptions") ⟨145,0,145,13⟩ (.ref 133)).wrap doneF deadEnd id id,cE,p',Bf⟩=some (.next,St9 w os,cE,pos9):=by
 rw[PySem.W.Fast.te10110043849684766642,PySem.W.Fast.te14364793385576792824];kernel_rfl
private theorem zPr:zDw (.Assign [] (.Dict bKs bVs ⟨145,16,145,8704⟩) ⟨145,0,145,8704⟩)=b3L:=by kernel_rfl
private theorem pcA8(w:World)(os:OsState):segRun treeTable pg w m0 ann 1 (20*b3L.length+7+19*b3L.length+2+20) (St8 w os).abs (piecesOf sts8 env cE pos8 Bf)=some (.next,(St9 w os).abs,cE,pos9):=by
 show segRun treeTable pg w m0 ann 1 _ _ (piecesOf [stm 71] env cE pos8 Bf)=_
 rw[b_is]
 exact zPh (t:=[]) zPi (by rw[zPr];exact b_run w os) (by decide) (fun p'=>segRun_of (b_tail w os p'))
private theorem pcA9(w:World)(os:OsState):segRun treeTable pg w m0 ann 1 406 (St9 w os).abs (piecesOf sts9 env cE pos9 Bf)=some (.next,(St10 w os).abs,cE,zNk):=segRun_of (pc9 w os)
private theorem pcA10(w:World)(os:OsState):segRun treeTable pg w m0 ann 1 99 (St10 w os).abs (piecesOf zO3 env cE zNk Bf)=some (.next,(St11 w os).abs,cE,zPv):=segRun_of (pc10 w os)
private theorem run1:∃M,∀(w:World) (os:OsState),topRun treeTable pg w m0 ann M ⟨kJ w.params,#[],dr,276,os⟩ (topStub pg)=some ⟨(fun p=>absHeap (T11 p) 276 lf) w.params,#[],dr,2825,os⟩:=by
 refine⟨zH6+(zCo+1+(415+(46+(979+(384+(133+(999+(30+((20*b3L.length+7+19*b3L.length+2+20)+(406+(99+(zHi+1)))))))))))),fun w os=>go_top (pre1 w os) (piece_block (q:=qpos) (block1 w os) ?_)⟩
 have e:restOf zKh env cE pos1 Bf=restOf (sts1++(sts2++(sts3++(sts4++(sts5++(sts6++(sts7++(sts8++(sts9++(zO3++([]))))))))))) env cE pos1 Bf:=congrArg (fun b=>restOf b env cE pos1 Bf) zQg
 rw[e]
 exact piece_app (q:=qpos) (pcA1 w os) (piece_app (q:=qpos) (pcA2 w os) (piece_app (q:=qpos) (pcA3 w os) (piece_app (q:=qpos) (pcA4 w os) (piece_app (q:=qpos) (pcA5 w os) (piece_app (q:=qpos) (pcA6 w os) (piece_app (q:=qpos) (pcA7 w os) (piece_app (q:=qpos) (pcA8 w os) (piece_app (q:=qpos) (pcA9 w os) (piece_app (q:=qpos) (pcA10 w os) (fin1 w os))))))))))
noncomputable def Kf(p:Params):Frag:=[(2,o2 p),(3,zIa p),(28,o28 p),(29,zMi p),(30,o30 p),(31,o31 p),(32,o32 p),(35,o35 p),(36,o36 p),(37,o37 p),(38,o38 p),(40,o40 p),(41,o41 p),(42,o42 p),(43,o43 p),(44,o44 p),(45,o45 p),(47,o47 p),(48,o48 p),(49,o49 p),(50,o50 p),(51,o51 p),(52,o52 p),(54,o54 p),(55,o55 p),(56,o56 p),(57,o57 p),(58,o58 p),(59,o59 p),(61,o61 p),(62,o62 p),(63,o63 p),(64,o64 p),(65,o65 p),(66,o66 p),(68,o68 p),(69,o69 p),(70,o70 p),(71,o71 p),(72,o72 p),(73,o73 p),(75,o75 p),(76,o76 p),(77,o77 p),(78,o78 p),(79,o79 p),(80,o80 p),(82,o82 p),(83,o83 p),(84,o84 p),(85,o85 p),(86,o86 p),(87,o87 p),(89,o89 p),(90,o90 p),(91,o91 p),(92,o92 p),(93,o93 p),(94,o94 p),(96,o96 p),(97,o97 p),(98,o98 p),(99,o99 p),(100,o100 p),(101,o101 p),(102,o102 p),(103,o103 p),(104,o104 p),(105,o105 p),(106,o106 p),(107,o107 p),(108,o108 p),(109,o109 p),(110,o110 p),(111,o111 p),(113,o113 p),(114,o114 p),(115,o115 p),(116,o116 p),(117,o117 p),(118,o118 p),(119,o119 p),(120,o120 p),(121,o121 p),(122,o122 p),(123,o123 p),(124,o124 p),(125,o125 p),(126,o126 p),(127,o127 p),(128,o128 p),(129,o129 p),(131,o131 p),(132,o132 p),(133,o133 p),(172,o172 p),(173,o173 p),(174,o174 p),(175,o175 p),(177,o177 p),(178,o178 p),(179,o179 p),(180,o180 p),(181,o181 p),(182,o182 p),(184,o184 p),(185,o185 p),(186,o186 p),(187,o187 p),(188,o188 p),(189,o189 p),(191,o191 p),(192,o192 p),(193,o193 p),(194,o194 p),(195,o195 p),(196,o196 p),(198,o198 p),(199,o199 p),(200,o200 p),(201,o201 p),(202,o202 p),(203,o203 p),(205,o205 p),(206,o206 p),(207,o207 p),(208,o208 p),(209,o209 p),(210,o210 p),(212,o212 p),(213,o213 p),(214,o214 p),(215,o215 p),(216,o216 p),(217,o217 p),(219,o219 p),(220,o220 p),(221,o221 p),(222,o222 p),(224,o224 p),(225,o225 p),(226,o226 p),(227,o227 p),(228,o228 p),(229,o229 p),(231,o231 p),(232,o232 p),(233,o233 p),(234,o234 p),(236,o236 p),(237,o237 p),(238,o238 p),(239,o239 p),(240,o240 p),(241,o241 p),(243,o243 p),(244,o244 p),(245,o245 p),(246,o246 p),(247,o247 p),(248,o248 p),(250,o250 p),(251,o251 p),(252,o252 p),(253,o253 p),(255,o255 p),(256,o256 p),(257,o257 p),(258,o258 p),(259,o259 p),(260,o260 p),(262,o262 p),(263,o263 p),(264,o264 p),(265,o265 p),(266,o266 p),(267,o267 p),(269,o269 p),(270,o270 p),(271,o271 p),(272,o272 p),(274,o274 p),(275,o275 p)]
noncomputable def Ka:List Addr:=[2,3,28,29,30,31,32,35,36,37,38,40,41,42,43,44,45,47,48,49,50,51,52,54,55,56,57,58,59,61,62,63,64,65,66,68,69,70,71,72,73,75,76,77,78,79,80,82,83,84,85,86,87,89,90,91,92,93,94,96,97,98,99,100,101,102,103,104,105,106,107,108,109,110,111,113,114,115,116,117,118,119,120,121,122,123,124,125,126,127,128,129,131,132,133,172,173,174,175,177,178,179,180,181,182,184,185,186,187,188,189,191,192,193,194,195,196,198,199,200,201,202,203,205,206,207,208,209,210,212,213,214,215,216,217,219,220,221,222,224,225,226,227,228,229,231,232,233,234,236,237,238,239,240,241,243,244,245,246,247,248,250,251,252,253,255,256,257,258,259,260,262,263,264,265,266,267,269,270,271,272,274,275]
private theorem Ka_is(P:Params):Ka=(Kf P).map (·.1):=by kernel_rfl
end Mine
end
section
open PySem PySem.W Mine
set_option maxRecDepth 1000000
set_option maxHeartbeats 0
namespace Mine
noncomputable def q2:Program:={pg with main:={pg.main with body:=[stm 88]}}
noncomputable def loose:List Str:=pg.boundNames.filter fun n=>n != ("law":Str)
noncomputable abbrev H1(p:Params):Heap:=absHeap (T11 p) 276 lf
private theorem lk1(w:World)(os:OsState):(staticsOk (importedModules pg.main.body) (kJ w.params) (H1 w.params)&&namesBound pg (H1 w.params)&&gensDone ⟨H1 w.params,#[],dr,2825,os⟩&&laidKept (kJ w.params) (H1 w.params))=true:=by kernel_rfl
private theorem lk2(w:World)(os:OsState):openSeen q2 loose (importedModules pg.main.body) (fun _=>true) true ⟨H1 w.params,#[],dr,2825,os⟩=openGood q2 loose:=by
 rw[PySem.W.Fast.te4187177175401517315];kernel_rfl
private theorem zHn{α β:Type}{f g:α→β}:∀{l:List α},l.map f=l.map g→∀x∈l,f x=g x
  | _ :: _, h, x, hx => by
    rw[List.map_cons,List.map_cons] at h
    rcases List.mem_cons.mp hx with rfl|hx
    · exact(List.cons.inj h).1
    · exact zHn (List.cons.inj h).2 x hx
private theorem lk4(p:Params):(Kf p).map (fun q=>(T11 p).get q.1)=(Kf p).map fun q=>some q.2:=by kernel_rfl
private theorem lk5(p:Params):((Kf p).all fun q=>Nat.blt q.1 276&&(match q.2.data with | .freed=>false | _=>true))=true:=by kernel_rfl
private theorem lk3(w:World)(os:OsState):Ka.map (Shared.heap ⟨H1 w.params,#[],dr,2825,os⟩).get?=(Kf w.params).map fun p=>some p.2:=by
 rw[Ka_is w.params,List.map_map]
 refine List.map_congr_left fun q hq=>?_
 have h5:=List.all_eq_true.mp (lk5 w.params) q hq
 obtain⟨h6,h7⟩:=Bool.and_eq_true_iff.mp h5
 show(absHeap (T11 w.params) 276 lf).get? q.1=some q.2
 rw[abs_get (Nat.le_of_ble_eq_true h6) (zHn (lk4 w.params) q hq)]
 obtain⟨a,⟨c,d,dt,sl⟩⟩:=q
 cases dt <;> first | rfl | cases h7
private theorem fen2(w:World):(fun os=>(fenceModules? pg ⟨(fun p=>absHeap (Te p) 28 lf) w.params,#[],dr,276,os⟩).map (fun s=>(s.heap,s.gens,s.drawn,s.toks)))=fun _=>some (kJ w.params,#[],dr,276):=funext fun os=>fen1 w os
private theorem looks1 (w : World) : (fun os => ((staticsOk (importedModules pg.main.body) (kJ w.params) (H1 w.params) && namesBound pg (H1 w.params) && gensDone ⟨H1 w.params, #[], dr, 2825, os⟩ && laidKept (kJ w.params) (H1 w.params)),
        openSeen q2 loose (importedModules pg.main.body) (fun _=>true) true ⟨H1 w.params,#[],dr,2825,os⟩,Ka.map (Shared.heap ⟨H1 w.params,#[],dr,2825,os⟩).get?))=fun _=>(true,openGood q2 loose,(Kf w.params).map fun p=>some p.2) :=
  funext fun os=>congr (congrArg Prod.mk (lk1 w os)) (congr (congrArg Prod.mk (lk2 w os)) (lk3 w os))
private theorem left1:∃N,LeftO pg q2 loose (fun _=>true) (fun s=>Ka.map s.heap.get?) (fun w=>(Kf w.params).map fun p=>some p.2) N:=by
 obtain⟨M,run⟩:=run1
 have h1:Nat.ble (xQ+1) (M+(xQ+1))=true:=Nat.ble_eq_true_of_le (by omega)
 have h2:Nat.ble M (M+(xQ+1))=true:=Nat.ble_eq_true_of_le (by omega)
 have o:=open_cut (p:=pg) (N:=M+(xQ+1)) (M:=xQ+1) (He:=fun p=>absHeap (Te p) 28 lf) (H₀:=kJ) (ge:=#[]) (g₀:=#[]) (de:=dr) (d₀:=dr) (ke:=276) (k₀:=276) imp2 h1 fen2
 exact⟨M+(xQ+1),LeftO.of_pieces (p:=pg) (q:=q2) (loose:=loose) (Xt:=fun _=>true) (Yf:=fun s=>Ka.map s.heap.get?) (Ya:=fun w=>(Kf w.params).map fun p=>some p.2) (N:=M+(xQ+1)) (g0:=true) (H₀:=kJ) (H₁:=H1) (gs₀:=#[]) (gs₁:=#[]) (d₀:=dr) (d₁:=dr) (k₀:=276) (k₁:=2825) (m₀:=m0) (ann:=ann) (M:=M) o size1 run h2 looks1⟩
end Mine
namespace Mine
private theorem said:PySem.Challenge.rw_we0034_01.wellSaid=true:=by kernel_rfl
abbrev lawR:OpenRow:=PySem.Challenge.rw_we0034_01.row
private theorem head3{d:DefRec}{kwd:List (Str×PySem.Expr)}(hdef:defOf q2 "law"=some (d,kwd))(hp:pg.theDef "law"=some (d.params,d.body,d.scope))
   (hk:kwWritten? d.params.kwonlyargs d.params.kw_defaults=some kwd) (walk:WalkO q2 loose (fun _ _=>True) (InK Kf) lawR.toRowW d kwd fun f vs=>PySem.call f vs):PySem.Challenge.rw_we0034_01.Holds:=by
  w_on
  refine holds_law said fun said=>?_
  obtain⟨N,left⟩:=left1
  exact W.holds_open (r:=lawR) (q:=q2) (loose:=loose) (Xt:=fun _=>true) (XP:=fun _ _=>True) (Yf:=fun s=>Ka.map s.heap.get?) (Ya:=fun w=>(Kf w.params).map fun (p:Addr×Obj)=>some p.2) (YP:=InK Kf) (N:=N)
    left (fun w s=>InK.of (K:=Kf) (as:=Ka) Ka_is w s) (fun w h h'=>InK.keeps w h h') (fun _ _=>trivial) (fun _ _ _ _ _=>trivial) hdef hp hk (fun s _=>recFacts_nil rfl) rfl (by assumption) (by decide +kernel) ⟨rfl,rfl,rfl,rfl,rfl,by decide +kernel⟩ (by w_witness2) walk
end Mine
end
section
open PySem
set_option maxHeartbeats 400000
set_option autoImplicit false
set_option linter.unusedVariables false
namespace Wk
noncomputable def zNg(h:Heap)(a:Addr)(vs:Array Value):Prop:=∃n,IsT h a vs n
mutual
inductive Rd(X:Addr→Prop)(h:Heap):Value→PyData→Prop
 | none:Rd X h .none .none
 | bool (b:Bool):Rd X h (.bool b) (.bool b)
 | int (i:Int) (t:Tok):Rd X h (.int i t) (.int i)
 | str (x:Str) (t:Tok):Rd X h (.str x t) (.str x)
 | list {a:Addr} {vs:Array Value} {ds:List PyData}:¬ X a→h.PlainList a vs→RdAll X h vs.toList ds→Rd X h (.ref a) (.list ds)
 | tuple {a:Addr} {vs:Array Value} {ds:List PyData}:¬ X a→zNg h a vs→RdAll X h vs.toList ds→Rd X h (.ref a) (.tuple ds)
inductive RdAll(X:Addr→Prop)(h:Heap):List Value→List PyData→Prop
 | nil:RdAll X h [] []
 | cons {v:Value} {vs:List Value} {d:PyData} {ds:List PyData}:Rd X h v d→RdAll X h vs ds→RdAll X h (v::vs) (d::ds)
end
noncomputable def Rd.Inv(v:Value):PyData→Prop
 | .none=>∃_:Unit,v=.none
 | .bool b=>∃_:Unit,v=.bool b
 | .int a=>∃t,v=.int a t
 | .str a=>∃t,v=.str a t
 | _=>True
private theorem Rd.v{X:Addr→Prop}{h:Heap}{v:Value}{d:PyData}(r:Rd X h v d):Rd.Inv v d:=by
 cases r with
 | none=>exact⟨(),rfl⟩
 | bool=>exact⟨(),rfl⟩
 | int _ t=>exact⟨t,rfl⟩
 | str _ t=>exact⟨t,rfl⟩
 | list=>trivial
 | tuple=>trivial
private theorem Rd.i{X:Addr→Prop}{h:Heap}{v:Value}{a:Int}(r:Rd X h v (.int a)):∃t,v=.int a t:=by cases r with | int _ t=>exact⟨t,rfl⟩
private theorem Rd.s{X:Addr→Prop}{h:Heap}{v:Value}{a:Str}(r:Rd X h v (.str a)):∃t,v=.str a t:=by cases r with | str _ t=>exact⟨t,rfl⟩
private theorem Rd.l{X:Addr→Prop}{h:Heap}{v:Value}{ds:List PyData}(r:Rd X h v (.list ds)):∃a vs,v=.ref a∧¬ X a∧h.PlainList a vs∧RdAll X h vs.toList ds:=by cases r with | list a b c=>exact⟨_,_,rfl,a,b,c⟩
private theorem Rd.tp{X:Addr→Prop}{h:Heap}{v:Value}{ds:List PyData}(r:Rd X h v (.tuple ds)):∃a vs,v=.ref a∧¬ X a∧zNg h a vs∧RdAll X h vs.toList ds:=by cases r with | tuple a b c=>exact⟨_,_,rfl,a,b,c⟩
private theorem RdAll.n{X:Addr→Prop}{h:Heap}{vs:List Value}(r:RdAll X h vs []):vs=[]:=by cases r;rfl
private theorem RdAll.c{X:Addr→Prop}{h:Heap}{vs:List Value}{d:PyData}{ds:List PyData}(r:RdAll X h vs (d::ds)):∃v ws,vs=v::ws∧Rd X h v d∧RdAll X h ws ds:=by cases r with | cons a b=>exact⟨_,_,rfl,a,b⟩
private theorem RdAll.i2{X:Addr→Prop}{h:Heap}{vs:List Value}{a b:Int}(r:RdAll X h vs [.int a,.int b]):∃t u,vs=[.int a t,.int b u]:=by
 obtain⟨_,_,rfl,p,r1⟩:=r.c;obtain⟨_,_,rfl,q,r2⟩:=r1.c;cases r2.n;obtain⟨t,rfl⟩:=p.i;obtain⟨u,rfl⟩:=q.i;exact⟨t,u,rfl⟩
private theorem RdAll.i3{X:Addr→Prop}{h:Heap}{vs:List Value}{a b c:Int}(r:RdAll X h vs [.int a,.int b,.int c]):∃t u v,vs=[.int a t,.int b u,.int c v]:=by
 obtain⟨_,_,rfl,p,r1⟩:=r.c;obtain⟨t,rfl⟩:=p.i;obtain⟨u,v,rfl⟩:=r1.i2;exact⟨t,u,v,rfl⟩
noncomputable def Fram(X X':Addr→Prop)(h h':Heap):Prop:=∀b o,¬ X b→h.get? b=some o→o.cls=.type "list" ∨ o.cls=.type "tuple"→h'.get? b=some o∧¬ X' b
private theorem Rd.fl{X X':Addr→Prop}{h h':Heap}(k:Fram X X' h h'){a:Addr}{vs:Array Value}{ds:List PyData}(hx:¬ X a)(hl:h.PlainList a vs)(r:RdAll X' h' vs.toList ds):Rd X' h' (.ref a) (.list ds):=by
 obtain⟨n,ho⟩:=hl
 exact .list (k a _ hx ho (.inl rfl)).2 ⟨n,(k a _ hx ho (.inl rfl)).1⟩ r
private theorem Rd.ft{X X':Addr→Prop}{h h':Heap}(k:Fram X X' h h'){a:Addr}{vs:Array Value}{ds:List PyData}(hx:¬ X a)(hl:zNg h a vs)(r:RdAll X' h' vs.toList ds):Rd X' h' (.ref a) (.tuple ds):=by
 obtain⟨n,ho⟩:=hl
 exact .tuple (k a _ hx ho (.inr rfl)).2 ⟨n,(k a _ hx ho (.inr rfl)).1⟩ r
private theorem Rd.frame{X X':Addr→Prop}{h h':Heap}(k:Fram X X' h h'){v:Value}{d:PyData}(r:Rd X h v d):Rd X' h' v d :=
 Rd.rec (motive_1:=fun v d _=>Rd X' h' v d) (motive_2:=fun vs ds _=>RdAll X' h' vs ds) .none .bool .int .str (fun hx hl _ ih=>Rd.fl k hx hl ih) (fun hx hl _ ih=>Rd.ft k hx hl ih) .nil (fun _ _ a b=>.cons a b) r
private theorem RdAll.frame{X X':Addr→Prop}{h h':Heap}(k:Fram X X' h h'){vs:List Value}{ds:List PyData}(r:RdAll X h vs ds):RdAll X' h' vs ds :=
 RdAll.rec (motive_1:=fun v d _=>Rd X' h' v d) (motive_2:=fun vs ds _=>RdAll X' h' vs ds) .none .bool .int .str (fun hx hl _ ih=>Rd.fl k hx hl ih) (fun hx hl _ ih=>Rd.ft k hx hl ih) .nil (fun _ _ a b=>.cons a b) r
private theorem Fram.of_get{X:Addr→Prop}{h h':Heap}(k:∀b o,h.get? b=some o→h'.get? b=some o):Fram X X h h':=fun b o hb e _=>⟨k b o e,hb⟩
private theorem Fram.mono{X X':Addr→Prop}{h:Heap}(k:∀b,X' b→X b):Fram X X' h h:=fun b o hb e _=>⟨e,fun h'=>hb (k b h')⟩
private theorem RdAll.length{X:Addr→Prop}{h:Heap}{vs:List Value}{ds:List PyData}(a:RdAll X h vs ds):vs.length=ds.length:=by
 induction ds generalizing vs with
 | nil=>obtain rfl:=a.n;rfl
 | cons d ds ih=>obtain⟨v,r,rfl,p,q⟩:=a.c;rw[List.length_cons,List.length_cons,ih q]
private theorem RdAll.append{X:Addr→Prop}{h:Heap}{vs ws:List Value}{ds es:List PyData}(a:RdAll X h vs ds)(b:RdAll X h ws es):RdAll X h (vs++ws) (ds++es):=by
 induction ds generalizing vs with
 | nil=>obtain rfl:=a.n;exact b
 | cons d ds ih=>obtain⟨v,r,rfl,p,q⟩:=a.c;exact .cons p (ih q)
private theorem RdAll.get{X:Addr→Prop}{h:Heap}{vs:List Value}{ds:List PyData}(a:RdAll X h vs ds){i:Nat}{d:PyData}(e:ds[i]?=some d):∃v,vs[i]?=some v∧Rd X h v d:=by
  induction ds generalizing vs i with
  | nil=>cases e
  | cons d0 ds ih =>
    obtain⟨v,r,rfl,p,q⟩:=a.c
    cases i with
    | zero=>rw[List.getElem?_cons_zero] at e;cases e;exact⟨v,rfl,p⟩
    | succ i=>exact ih q e
private theorem RdAll.got{X:Addr→Prop}{h:Heap}{vs:List Value}{ds:List PyData}(r:RdAll X h vs ds){i:Nat}{v:Value}(e:vs[i]?=some v):∃d,ds[i]?=some d∧Rd X h v d:=by
 have hl:=r.length
 have hi:i<ds.length:=by rw[←hl];exact(List.getElem?_eq_some_iff.mp e).1
 obtain⟨v',h1,h2⟩:=r.get (List.getElem?_eq_getElem hi)
 rw[e] at h1;cases h1
 exact⟨_,List.getElem?_eq_getElem hi,h2⟩
private theorem RdAll.take{X:Addr→Prop}{h:Heap}{vs:List Value}{ds:List PyData}(a:RdAll X h vs ds)(n:Nat):RdAll X h (vs.take n) (ds.take n):=by
  induction ds generalizing vs n with
  | nil=>obtain rfl:=a.n;rw[List.take_nil,List.take_nil];exact .nil
  | cons d ds ih =>
    obtain⟨v,r,rfl,p,q⟩:=a.c
    cases n with
    | zero=>exact .nil
    | succ n=>exact .cons p (ih q n)
private theorem RdAll.drop{X:Addr→Prop}{h:Heap}{vs:List Value}{ds:List PyData}(a:RdAll X h vs ds)(n:Nat):RdAll X h (vs.drop n) (ds.drop n):=by
  induction ds generalizing vs n with
  | nil=>obtain rfl:=a.n;rw[List.drop_nil,List.drop_nil];exact .nil
  | cons d ds ih =>
    obtain⟨v,r,rfl,p,q⟩:=a.c
    cases n with
    | zero=>exact .cons p q
    | succ n=>exact ih q n
private theorem wT{X:Addr→Prop}{h:Heap}(xs:∀b,X b→∃o,h.get? b=some o):¬ X h.objs.size:=fun hx=>by
 obtain⟨o,e⟩:=xs _ hx;exact Nat.lt_irrefl _ (Heap.lt_size e)
private theorem kQ{X:Addr→Prop}{h:Heap}(xs:∀b,X b→∃o,h.get? b=some o){D:Addr}(hD:h.get? D=none):¬ X D:=fun hx=>by
 obtain⟨o,e⟩:=xs _ hx;rw[hD] at e;cases e
private theorem Rd.new_list{X:Addr→Prop}{h:Heap}{vs:Array Value}{ds:List PyData}(xs:∀b,X b→∃o,h.get? b=some o)(r:RdAll X h vs.toList ds) :
  Rd X (h.push {cls:=.type "list",data:=.seq vs}) (.ref h.objs.size) (.list ds) :=
 .list (wT xs) ⟨_,Heap.get?_push_size _ rfl⟩ (r.frame (Fram.of_get fun b o e=>Heap.get?_push_of_some _ e))
private theorem Rd.new_tuple{X:Addr→Prop}{h:Heap}{vs:Array Value}{ds:List PyData}(xs:∀b,X b→∃o,h.get? b=some o)(r:RdAll X h vs.toList ds) :
  Rd X (h.push {cls:=.type "tuple",data:=.seq vs}) (.ref h.objs.size) (.tuple ds) :=
 .tuple (wT xs) ⟨_,Heap.get?_push_size _ rfl⟩ (r.frame (Fram.of_get fun b o e=>Heap.get?_push_of_some _ e))
structure Wd where
 B:Addr→Prop
 Ts:Addr→Prop
 mg:Str→Option Value
 mb:Str→Option Value
 Inv:Heap→Prop
 low:∀b,Ts b→B b
 inv_B:∀h b,Inv h→B b→∃o,h.get? b=some o
 inv_Ts:∀h b,Inv h→Ts b→∃o,h.get? b=some o∧o.cls=.none
 inv_ns:∀h,Inv h→h.Ns mainGlobals mg
 inv_nb:∀h,Inv h→h.Ns builtinsNs mb
 inv_lim:∀h,Inv h→h.NoLimit
 stable:∀h h',Inv h→(∀b o,h.get? b=some o→(B b∨((o.cls=.none∨o.cls=.type "code")∧∃vs,o.data=.fields vs))→h'.get? b=some o)→Inv h'
noncomputable def Wd.Ext(W:Wd)(s s':Shared):Prop:=∃h' tk,s'={s with heap:=h',toks:=tk}∧(∀b o,¬ W.Ts b→s.heap.get? b=some o→h'.get? b=some o)∧W.Inv h'
variable{W:Wd}
private theorem Wd.Ext.refl{s:Shared}(i:W.Inv s.heap):W.Ext s s:=⟨s.heap,s.toks,rfl,fun _ _ _ e=>e,i⟩
private theorem Wd.Ext.trans{s₁ s₂ s₃:Shared}(x:W.Ext s₁ s₂)(y:W.Ext s₂ s₃):W.Ext s₁ s₃:=by
 obtain⟨h,t,rfl,k,i⟩:=x
 obtain⟨h',t',rfl,k',i'⟩:=y
 exact⟨h',t',rfl,fun b o hb e=>k' b o hb (k b o hb e),i'⟩
private theorem Wd.Ext.inv{s s':Shared}(x:W.Ext s s'):W.Inv s'.heap:=by obtain⟨h,t,rfl,k,i⟩:=x;exact i
private theorem Wd.Ext.get{s s':Shared}(x:W.Ext s s'){b:Addr}{o:Obj}(hb:¬ W.Ts b)(e:s.heap.get? b=some o):s'.heap.get? b=some o:=by
 obtain⟨h,t,rfl,k,i⟩:=x;exact k b o hb e
private theorem Wd.Ext.of_keeps{s s':Shared}(i:W.Inv s.heap)(x:Keeps s s'):W.Ext s s':=by
 obtain⟨h',tk,rfl,k⟩:=x
 exact⟨h',tk,rfl,fun b o _ e=>k b o e,W.stable _ _ i fun b o e _=>k b o e⟩
private theorem Wd.Ext.of_heap{s:Shared}{h':Heap}{tk:Tok}(i:W.Inv s.heap)(k:∀b o,s.heap.get? b=some o→h'.get? b=some o):W.Ext s {s with heap:=h',toks:=tk} :=
 .of_keeps i ⟨h',tk,rfl,k⟩
private theorem Wd.Ext.of_toks{s:Shared}{tk:Tok}(i:W.Inv s.heap):W.Ext s {s with toks:=tk}:=.of_keeps i ⟨s.heap,tk,rfl,fun _ _ e=>e⟩
private theorem Wd.Ext.fram{s s':Shared}{X:Addr→Prop}(x:W.Ext s s')(t:∀b,W.Ts b→X b):Fram X X s.heap s'.heap:=fun b o hb e _=>⟨x.get (fun h=>hb (t b h)) e,hb⟩
inductive Slot where
 | v (d:PyData)
 | own (ds:List PyData)
 | opq
noncomputable abbrev Rho:=List (Str×Slot)
noncomputable def Holds(env:Env)(m:Str→Option Value)(h:Heap)(x:Str)(v:Value):Prop :=
 (env.kindOf x=some .local∧m x=some v)∨(env.kindOf x=some .cell∧∃c,env.cells.lookup x=some c∧h.IsCell c (some v))
noncomputable def uD(s₀:Heap)(X₀ X:Addr→Prop)(h:Heap):Slot→Value→Prop
 | .v d,v=>Rd X h v d
 | .own ds,v=>∃a vs,v=.ref a∧s₀.get? a=none∧X a∧¬ X₀ a∧h.PlainList a vs∧RdAll X h vs.toList ds
 | .opq,v=>True
structure St(W:Wd)(s₀:Shared)(X₀:Addr→Prop)(env:Env)(ρ:Rho)(X:Addr→Prop)(s:Shared):Prop where
 inv0:W.Inv s₀.heap
 ext:W.Ext s₀ s
 fk:env.scope.kind=.function
 gl:env.globals=mainGlobals
 bu:env.builtins=builtinsNs
 lo:s₀.heap.get? env.locals=none
 xl:X env.locals
 x0:∀b,X₀ b→X b
 xts:∀b,W.Ts b→X₀ b
 xs:∀b,X b→∃o,s.heap.get? b=some o
 ce:∀x,env.kindOf x=some .cell→∃c v,env.cells.lookup x=some c∧s.heap.IsCell c v∧s₀.heap.get? c=none∧X c
 ap:∀x y c,env.cells.lookup x=some c→env.cells.lookup y=some c→x=y
 vals:∃m,s.heap.Ns env.locals m∧(∀x sl,ρ.lookup x=some sl→∃v,Holds env m s.heap x v∧uD s₀.heap X₀ X s.heap sl v) ∧
  ∀x y ds es a,ρ.lookup x=some (.own ds)→ρ.lookup y=some (.own es)→Holds env m s.heap x (.ref a)→Holds env m s.heap y (.ref a)→x=y
private theorem Holds.at{env:Env}{m:Str→Option Value}{h h':Heap}{y:Str}{v:Value}(x:Holds env m h y v)(k:∀c w,env.kindOf y=some .cell→env.cells.lookup y=some c→h.IsCell c w→h'.IsCell c w):Holds env m h' y v:=by
 rcases x with x|⟨x,c,hc,hd⟩
 ·exact .inl x
 ·exact .inr ⟨x,c,hc,k c _ x hc hd⟩
private theorem uD.fram{s₀:Heap}{X₀ X:Addr→Prop}{h h':Heap}(k:Fram X X h h')(k':∀a vs,X a→s₀.get? a=none→h.PlainList a vs→h'.PlainList a vs):∀{sl:Slot} {v:Value},uD s₀ X₀ X h sl v→uD s₀ X₀ X h' sl v
 | .v d,v,x=>Rd.frame k x
 | .own ds,v,⟨a,vs,e,h1,h2,h3,h4,h5⟩=>⟨a,vs,e,h1,h2,h3,k' a vs h2 h1 h4,RdAll.frame k h5⟩
 | .opq,v,x=>trivial
namespace St
variable{s₀ s s':Shared}{X₀ X:Addr→Prop}{env:Env}{ρ:Rho}
private theorem inv(x:St W s₀ X₀ env ρ X s):W.Inv s.heap:=x.ext.inv
private theorem ts(x:St W s₀ X₀ env ρ X s)(b:Addr)(h:W.Ts b):X b:=x.x0 b (x.xts b h)
private theorem nts{a:Addr}(x:St W s₀ X₀ env ρ X s)(e:s₀.heap.get? a=none):¬ W.Ts a:=fun h=>by
 obtain⟨o',e'⟩:=W.inv_B _ _ x.inv0 (W.low _ h)
 rw[e] at e';cases e'
private theorem nB{a:Addr}(x:St W s₀ X₀ env ρ X s)(e:s₀.heap.get? a=none):¬ W.B a:=fun h=>by
 obtain⟨o',e'⟩:=W.inv_B _ _ x.inv0 h
 rw[e] at e';cases e'
private theorem step(x:St W s₀ X₀ env ρ X s)(e:W.Ext s s'):St W s₀ X₀ env ρ X s':=by
 obtain⟨m,hn,hv,hd⟩:=x.vals
 have cellk:∀y c w,env.kindOf y=some .cell→env.cells.lookup y=some c→s.heap.IsCell c w→s'.heap.IsCell c w:=fun y c w hk hc ⟨o,ho,r⟩=>by
  obtain⟨c',v',h1,h2,h3,h4⟩:=x.ce y hk
  rw[hc] at h1;cases h1
  exact⟨o,e.get (x.nts h3) ho,r⟩
 have cellb:∀y c w,env.kindOf y=some .cell→env.cells.lookup y=some c→s'.heap.IsCell c w→s.heap.IsCell c w:=fun y c w hk hc ⟨o,ho,r⟩=>by
  obtain⟨c',v',h1,⟨o',h2,h2'⟩,h3,h4⟩:=x.ce y hk
  rw[hc] at h1;cases h1
  have:=e.get (x.nts h3) h2
  rw[ho] at this;cases this
  exact⟨o,h2,r⟩
 refine⟨x.inv0,x.ext.trans e,x.fk,x.gl,x.bu,x.lo,x.xl,x.x0,x.xts,fun b hb=>?_,fun y hy=>?_,x.ap,m,?_,fun y sl hy=>?_,fun y z ds es a hy hz h1 h2=>?_⟩
 ·obtain⟨o,ho⟩:=x.xs b hb
  by_cases ht:W.Ts b
  ·obtain⟨o',ho',_⟩:=W.inv_Ts _ _ e.inv ht;exact⟨o',ho'⟩
  ·exact⟨o,e.get ht ho⟩
 ·obtain⟨c,v,h1,h2,h3,h4⟩:=x.ce y hy
  exact⟨c,v,h1,cellk y c v hy h1 h2,h3,h4⟩
 ·exact hn.at' fun o ho=>e.get (x.nts x.lo) ho
 ·obtain⟨v,h1,h2⟩:=hv y sl hy
  exact⟨v,h1.at fun c w=>cellk y c w,h2.fram (e.fram x.ts) fun a vs ha hf ⟨n,hp⟩=>⟨n,e.get (x.nts hf) hp⟩⟩
 ·exact hd y z ds es a hy hz (h1.at fun c w=>cellb y c w) (h2.at fun c w=>cellb z c w)
end St
noncomputable def Room(k:Nat)(A:Around):Prop:=A.handled=none∧A.depth+k≤990∧A.units+10*k≤9000
private theorem Room.mono{k k':Nat}{A:Around}(r:Room k A)(h:k'≤k):Room k' A:=⟨r.1,by have:=r.2.1;lia,by have:=r.2.2;lia⟩
private theorem Room.in1{k:Nat}{A:Around}(r:Room (k+1) A):Room k A.in1:=⟨r.1,by have:=r.2.1;show A.depth+k≤990;lia,by have:=r.2.2;show A.units+1+10*k≤9000;lia⟩
section
variable(prog:Program)(w:World)(W:Wd)
structure Ev(k:Nat)(K:List (Str×NameKind))(ρ:Rho)(e:PySem.Expr)(d:PyData):Prop where
 run:∀A s₀ X₀ env X s E,Room k A→env.scope.names=K→St W s₀ X₀ env ρ X s→wpAny (model prog w) A (eval e env) (fun v s'=>Rd X s'.heap v d∧W.Ext s s') E s
structure Tr(k:Nat)(K:List (Str×NameKind))(ρ:Rho)(e:PySem.Expr)(b:Bool):Prop where
 run:∀A s₀ X₀ env X s E,Room k A→env.scope.names=K→St W s₀ X₀ env ρ X s→wpAny (model prog w) A (isTrue e env (eval e env)) (fun v s'=>v=b∧W.Ext s s') E s
end
section
variable{prog:Program}{w:World}{W:Wd}{k:Nat}{K:List (Str×NameKind)}{ρ:Rho}{pos:Pos}
private theorem Ev.cint{i:Int}{n:Nat}:Ev prog w W k K ρ (.Constant (.int i) n pos) (.int i):=.mk fun A s₀ X₀ env X s E r hK x =>
 wpAny_Constant_int ⟨.int i _,.of_toks x.inv⟩
private theorem Ev.cnone{n:Nat}:Ev prog w W k K ρ (.Constant .none n pos) .none:=.mk fun A s₀ X₀ env X s E r hK x=>wpAny_pure ⟨.none,.refl x.inv⟩
private theorem Ev.cbool{b:Bool}{n:Nat}:Ev prog w W k K ρ (.Constant (.bool b) n pos) (.bool b):=.mk fun A s₀ X₀ env X s E r hK x=>wpAny_pure ⟨.bool b,.refl x.inv⟩
private theorem Ev.name{y:Str}{d:PyData}(h:ρ.lookup y=some (.v d))(hd:(y==("__debug__":Str))=false:=by rfl):Ev prog w W k K ρ (.Name y pos) d:=.mk fun A s₀ X₀ env X s E r hK x=>by
 obtain⟨m,hn,hv,_⟩:=x.vals
 obtain⟨v,h1,h2⟩:=hv y _ h
 refine wpAny_Name ?_ hd
 rcases h1 with⟨h1,h3⟩|⟨h1,c,h3,h4⟩
 ·exact wpAny_loadName_local x.fk h1 hn h3 ⟨h2,.refl x.inv⟩
 ·exact wpAny_loadName_cell x.fk h1 h3 h4 ⟨h2,.refl x.inv⟩
end
end Wk
end
section
open PySem PyProof.Rows
set_option maxHeartbeats 400000
set_option autoImplicit false
set_option linter.unusedVariables false
namespace Wk
variable{prog:Program}{w:World}{W:Wd}{k:Nat}{K:List (Str×NameKind)}{ρ:Rho}{pos:Pos}
noncomputable def Op2(prog:Program)(w:World)(W:Wd)(op:Operator)(x y d:PyData):Prop :=
 ∀A k X s v u E,Room k A→W.Inv s.heap→(∀b,W.Ts b→X b)→(∀b,X b→∃o,s.heap.get? b=some o)→Rd X s.heap v x→Rd X s.heap u y→wpAny (model prog w) A (binaryOp op v u) (fun r s'=>Rd X s'.heap r d∧W.Ext s s') E s
noncomputable def Op2i(prog:Program)(w:World)(W:Wd)(op:Operator)(x y d:PyData):Prop :=
 ∀A k X s v u E,Room k A→W.Inv s.heap→(∀b,W.Ts b→X b)→(∀b,X b→∃o,s.heap.get? b=some o)→Rd X s.heap v x→Rd X s.heap u y→wpAny (model prog w) A (inplaceOp op v u) (fun r s'=>Rd X s'.heap r d∧W.Ext s s') E s
private theorem Ev.bin{l r:PySem.Expr}{op:Operator}{x y d:PyData}(h1:Ev prog w W k K ρ l x)(h2:Ev prog w W k K ρ r y)(h3:Op2 prog w W op x y d):Ev prog w W k K ρ (.BinOp l op r pos) d :=
 .mk fun A s₀ X₀ env X s E R hK x₀=>by
  refine wpAny_BinOp (wpAny_mono (h1.run A s₀ X₀ env X s _ R hK x₀) (fun a s₁ ⟨ha,e1⟩=>?_) fun _ _ h=>h)
  refine wpAny_mono (h2.run A s₀ X₀ env X s₁ _ R hK (x₀.step e1)) (fun b s₂ ⟨hb,e2⟩=>?_) fun _ _ h=>h
  refine wpAny_mono (h3 A k X s₂ a b _ R e2.inv x₀.ts ((x₀.step e1).step e2).xs (ha.frame (e2.fram x₀.ts)) hb) (fun c s₃ ⟨hc,e3⟩=>⟨hc,(e1.trans e2).trans e3⟩) fun _ _ h=>h
section
variable{a b:Int}{x y:Str}
private theorem zH:Op2 prog w W .Add (.int a) (.int b) (.int (a+b)):=fun A k X s v u E r i tx xs h1 h2=>by
 obtain⟨_,rfl⟩:=Rd.v h1;obtain⟨_,rfl⟩:=Rd.v h2;exact P.add_int ⟨.int _ _,.of_toks i⟩
private theorem zR:Op2 prog w W .Sub (.int a) (.int b) (.int (a-b)):=fun A k X s v u E r i tx xs h1 h2=>by
 obtain⟨_,rfl⟩:=Rd.v h1;obtain⟨_,rfl⟩:=Rd.v h2;exact P.sub_int ⟨.int _ _,.of_toks i⟩
private theorem yO(hm:IntMulOk a b):Op2 prog w W .Mult (.int a) (.int b) (.int (a*b)):=fun A k X s v u E r i tx xs h1 h2=>by
 obtain⟨_,rfl⟩:=Rd.v h1;obtain⟨_,rfl⟩:=Rd.v h2;exact P.mul_int ⟨.int _ _,.of_toks i⟩ hm
private theorem yM(hb:b≠0):Op2 prog w W .Mod (.int a) (.int b) (.int (a.fmod b)):=fun A k X s v u E r i tx xs h1 h2=>by
 obtain⟨_,rfl⟩:=Rd.v h1;obtain⟨_,rfl⟩:=Rd.v h2;exact mod_int' hb ⟨.int _ _,.of_toks i⟩
private theorem vH(hb:b≠0)(hp:Builtin.divisionGoesByPylong a b=false):Op2 prog w W .FloorDiv (.int a) (.int b) (.int (a.fdiv b)):=fun A k X s v u E r i tx xs h1 h2=>by
 obtain⟨_,rfl⟩:=Rd.v h1;obtain⟨_,rfl⟩:=Rd.v h2;exact floordiv_int hb ⟨.int _ _,.of_toks i⟩ (.inl hp)
private theorem jD(hb:0≤b):Op2 prog w W .RShift (.int a) (.int b) (.int (a.fdiv (2^b.toNat))):=fun A k X s v u E r i tx xs h1 h2=>by
 obtain⟨_,rfl⟩:=Rd.v h1;obtain⟨_,rfl⟩:=Rd.v h2;exact rshift_int hb ⟨.int _ _,.of_toks i⟩
private theorem wD(hb:0≤b)(hs:(Builtin.Int.intBits a:Int)+b≤2^27):Op2 prog w W .LShift (.int a) (.int b) (.int (a*2^b.toNat)):=fun A k X s v u E r i tx xs h1 h2=>by
 obtain⟨_,rfl⟩:=Rd.v h1;obtain⟨_,rfl⟩:=Rd.v h2;exact lshift_int hb hs ⟨.int _ _,.of_toks i⟩
private theorem zLw:Op2 prog w W .BitAnd (.int a) (.int b) (.int (Builtin.bitAnd a b)):=fun A k X s v u E r i tx xs h1 h2=>by
 obtain⟨_,rfl⟩:=Rd.v h1;obtain⟨_,rfl⟩:=Rd.v h2;exact and_int ⟨.int _ _,.of_toks i⟩
private theorem op_or:Op2 prog w W .BitOr (.int a) (.int b) (.int (Builtin.bitOr a b)):=fun A k X s v u E r i tx xs h1 h2=>by
 obtain⟨_,rfl⟩:=Rd.v h1;obtain⟨_,rfl⟩:=Rd.v h2;exact or_int ⟨.int _ _,.of_toks i⟩
private theorem op_pow(hb:0<b)(ha:1<a)(hs:Builtin.Int.intTooBig (((Builtin.Int.intBits a:Nat):Int)*b)=false):Op2 prog w W .Pow (.int a) (.int b) (.int (a^b.toNat)):=fun A k X s v u E r i tx xs h1 h2=>by
 obtain⟨_,rfl⟩:=Rd.v h1;obtain⟨_,rfl⟩:=Rd.v h2
 refine AutoIntOps.pow_4 (by lia) (by simp;lia) (by simp;lia) (by simp;lia) (by simp[hs]) ?_
 exact⟨.int _ _,.of_toks i⟩
private theorem uI(hs:x.length+y.length≤sizeLine):Op2 prog w W .Add (.str x) (.str y) (.str (x++y)):=fun A k X s v u E r i tx xs h1 h2=>by
 obtain⟨_,rfl⟩:=Rd.v h1;obtain⟨_,rfl⟩:=Rd.v h2;exact add_str (fun t' tk=>⟨.str _ _,.of_toks i⟩) hs
private theorem zQ2(hs:MulOk x b):Op2 prog w W .Mult (.str x) (.int b) (.str (Txt.mul x b)):=fun A k X s v u E r i tx xs h1 h2=>by
 obtain⟨_,rfl⟩:=Rd.v h1;obtain⟨_,rfl⟩:=Rd.v h2;exact SB.mul hs (fun t' tk=>⟨.str _ _,.of_toks i⟩)
private theorem zL2{xs ys:List PyData}(hs:xs.length+ys.length≤sizeLine):Op2 prog w W .Add (.list xs) (.list ys) (.list (xs++ys)):=fun A k X s v u E r i tx xsm h1 h2=>by
 obtain⟨_,_,rfl,n1,p1,r1⟩:=Rd.l h1
 obtain⟨_,_,rfl,n2,p2,r2⟩:=Rd.l h2
 obtain⟨n1',p1⟩:=p1
 obtain⟨n2',p2⟩:=p2
 refine P.add_list p1 p2 ?_ (by have:=r1.length;have:=r2.length;simp at *;lia)
 exact⟨Rd.new_list xsm (by simpa using r1.append r2),.of_heap (tk:=s.toks) i fun b o e=>Heap.get?_push_of_some _ e⟩
end
end Wk
namespace Wk
variable{prog:Program}{w:World}{W:Wd}{k:Nat}{K:List (Str×NameKind)}{ρ:Rho}{pos:Pos}
private theorem Rd.reads{X:Addr→Prop}{h:Heap}{v:Value}{d:PyData}(r:Rd X h v d):∃as,Reads h v d as :=
 Rd.rec (motive_1:=fun v d _=>∃as,Reads h v d as) (motive_2:=fun vs ds _=>∃as,ReadsAll h vs ds as) ⟨_,.none⟩ (fun b=>⟨_,.bool b⟩) (fun i t=>⟨_,.int i t⟩) (fun i t=>⟨_,.str i t⟩)
  (fun _ hl _ ⟨_,r⟩=>by obtain⟨n,ho⟩:=hl;exact⟨_,.list ho rfl rfl r⟩) (fun _ hl _ ⟨_,r⟩=>by obtain⟨n,ho⟩:=hl;exact⟨_,.tuple ho rfl rfl r⟩) ⟨_,.nil⟩ (fun _ _ ⟨_,a⟩ ⟨_,b⟩=>⟨_,.cons a b⟩) r
noncomputable def Cmp(prog:Program)(w:World)(W:Wd)(op:CmpOp)(x y:PyData)(b:Bool):Prop :=
 ∀A k X s v u E,Room (k+10) A→W.Inv s.heap→(∀b,W.Ts b→X b)→(∀b,X b→∃o,s.heap.get? b=some o)→Rd X s.heap v x→Rd X s.heap u y→wpAny (model prog w) A (compareOp op v u) (fun r s'=>r=.bool b∧W.Ext s s') E s
private theorem Room.u64{k:Nat}{A:Around}(r:Room (k+10) A):A.units+64<cLine:=by have:=r.2.2;show A.units+64<9900;lia
section
variable{a b:Int}{x y:Str}{d e:PyData}
private theorem zK2(hd:SeqAt.shaped d=true)(he:SeqAt.shaped e=true):Cmp prog w W .Eq d e (PyData.eqv d e):=fun A k X s v u E r i tx xs h1 h2=>by
 obtain⟨as,r1⟩:=h1.reads
 obtain⟨bs,r2⟩:=h2.reads
 exact SeqAt.compareEq_shaped r1 r2 hd he r.u64 ⟨rfl,.refl i⟩
private theorem jK(hd:SeqAt.shaped d=true)(he:SeqAt.shaped e=true):Cmp prog w W .NotEq d e (!PyData.eqv d e):=fun A k X s v u E r i tx xs h1 h2=>by
 obtain⟨as,r1⟩:=h1.reads
 obtain⟨bs,r2⟩:=h2.reads
 exact SeqAt.compareNe_shaped r1 r2 hd he r.u64 ⟨rfl,.refl i⟩
private theorem kE:Cmp prog w W .Eq (.int a) (.int b) (a==b):=fun A k X s v u E r i tx xs h1 h2=>by obtain⟨_,rfl⟩:=Rd.v h1;obtain⟨_,rfl⟩:=Rd.v h2;exact P.eq_int ⟨rfl,.refl i⟩
private theorem zFt:Cmp prog w W .NotEq (.int a) (.int b) (a != b):=fun A k X s v u E r i tx xs h1 h2=>by obtain⟨_,rfl⟩:=Rd.v h1;obtain⟨_,rfl⟩:=Rd.v h2;exact P.ne_int ⟨rfl,.refl i⟩
private theorem wC:Cmp prog w W .Lt (.int a) (.int b) (decide (a<b)):=fun A k X s v u E r i tx xs h1 h2=>by obtain⟨_,rfl⟩:=Rd.v h1;obtain⟨_,rfl⟩:=Rd.v h2;exact P.lt_int ⟨rfl,.refl i⟩
private theorem cmp_le:Cmp prog w W .LtE (.int a) (.int b) (decide (a≤b)):=fun A k X s v u E r i tx xs h1 h2=>by obtain⟨_,rfl⟩:=Rd.v h1;obtain⟨_,rfl⟩:=Rd.v h2;exact P.le_int ⟨rfl,.refl i⟩
private theorem zKm:Cmp prog w W .Gt (.int a) (.int b) (decide (a>b)):=fun A k X s v u E r i tx xs h1 h2=>by obtain⟨_,rfl⟩:=Rd.v h1;obtain⟨_,rfl⟩:=Rd.v h2;exact P.gt_int ⟨rfl,.refl i⟩
private theorem zOp:Cmp prog w W .GtE (.int a) (.int b) (decide (a≥b)):=fun A k X s v u E r i tx xs h1 h2=>by obtain⟨_,rfl⟩:=Rd.v h1;obtain⟨_,rfl⟩:=Rd.v h2;exact P.ge_int ⟨rfl,.refl i⟩
private theorem zQa:Cmp prog w W .Eq (.str x) (.str y) (x==y):=fun A k X s v u E r i tx xs h1 h2=>by obtain⟨_,rfl⟩:=Rd.v h1;obtain⟨_,rfl⟩:=Rd.v h2;exact eq_str ⟨rfl,.refl i⟩
private theorem zK7:Cmp prog w W .NotEq (.str x) (.str y) (x != y):=fun A k X s v u E r i tx xs h1 h2=>by obtain⟨_,rfl⟩:=Rd.v h1;obtain⟨_,rfl⟩:=Rd.v h2;exact ne_str ⟨rfl,.refl i⟩
private theorem zGm{p q:Bool}:Cmp prog w W .Is (.bool p) (.bool q) (p==q):=fun A k X s v u E r i tx xs h1 h2=>by
 obtain⟨_,rfl⟩:=Rd.v h1;obtain⟨_,rfl⟩:=Rd.v h2;refine wpAny_is_plain rfl ⟨?_,.refl i⟩;cases p <;> cases q <;> rfl
private theorem zA4{p q:Bool}:Cmp prog w W .IsNot (.bool p) (.bool q) (p != q):=fun A k X s v u E r i tx xs h1 h2=>by
 obtain⟨_,rfl⟩:=Rd.v h1;obtain⟨_,rfl⟩:=Rd.v h2;refine wpAny_isNot_plain rfl ⟨?_,.refl i⟩;cases p <;> cases q <;> rfl
end
noncomputable def Tru(prog:Program)(w:World)(W:Wd)(x:PyData)(b:Bool):Prop :=
 ∀A k X s v E,Room k A→W.Inv s.heap→Rd X s.heap v x→wpAny (model prog w) A (truthy v) (fun r s'=>r=b∧W.Ext s s') E s
private theorem wL{b:Bool}:Tru prog w W (.bool b) b:=fun A k X s v E r i h=>by obtain⟨_,rfl⟩:=Rd.v h;exact wpAny_pure ⟨rfl,.refl i⟩
private theorem qG{a:Int}:Tru prog w W (.int a) (a != 0):=fun A k X s v E r i h=>by obtain⟨_,rfl⟩:=Rd.v h;exact P.truthy_int ⟨rfl,.refl i⟩
private theorem Ev.cmpX(x y:PyData){l r:PySem.Expr}{op:CmpOp}{b:Bool}(h1:Ev prog w W (k+10) K ρ l x)(h2:Ev prog w W (k+10) K ρ r y)(h3:Cmp prog w W op x y b)(hm:behindInMarks op r=false:=by rfl) :
  Ev prog w W (k+10) K ρ (.Compare l [op] [r] pos) (.bool b):=.mk fun A s₀ X₀ env X s E R hK x₀=>by
 refine wpAny_Compare1 (wpAny_mono (h1.run A s₀ X₀ env X s _ R hK x₀) (fun a s₁ ⟨ha,e1⟩=>?_) fun _ _ h=>h) hm
 refine wpAny_mono (h2.run A s₀ X₀ env X s₁ _ R hK (x₀.step e1)) (fun b s₂ ⟨hb,e2⟩=>?_) fun _ _ h=>h
 refine wpAny_mono (h3 A k X s₂ a b _ R e2.inv x₀.ts ((x₀.step e1).step e2).xs (ha.frame (e2.fram x₀.ts)) hb) (fun c s₃ ⟨hc,e3⟩=>?_) fun _ _ h=>h
 subst hc
 exact⟨.bool _,(e1.trans e2).trans e3⟩
private theorem Tr.cmpX(x y:PyData){l r:PySem.Expr}{op:CmpOp}{b:Bool}(h1:Ev prog w W (k+10) K ρ l x)(h2:Ev prog w W (k+10) K ρ r y)(h3:Cmp prog w W op x y b)(hm:behindInMarks op r=false:=by rfl) :
  Tr prog w W (k+10) K ρ (.Compare l [op] [r] pos) b:=.mk fun A s₀ X₀ env X s E R hK x₀=>by
 refine wpAny_isTrue_Compare1 (wpAny_mono (h1.run A s₀ X₀ env X s _ R hK x₀) (fun a s₁ ⟨ha,e1⟩=>?_) fun _ _ h=>h) hm
 refine wpAny_mono (h2.run A s₀ X₀ env X s₁ _ R hK (x₀.step e1)) (fun b s₂ ⟨hb,e2⟩=>?_) fun _ _ h=>h
 refine wpAny_mono (h3 A k X s₂ a b _ R e2.inv x₀.ts ((x₀.step e1).step e2).xs (ha.frame (e2.fram x₀.ts)) hb) (fun c s₃ ⟨hc,e3⟩=>?_) fun _ _ h=>h
 subst hc
 exact wpAny_pure ⟨rfl,(e1.trans e2).trans e3⟩
private theorem Tr.not{x:PySem.Expr}{b:Bool}(h:Tr prog w W k K ρ x b):Tr prog w W k K ρ (.UnaryOp .Not x pos) (!b):=.mk fun A s₀ X₀ env X s E R hK x₀ =>
 isTrue_not (wpAny_mono (h.run A s₀ X₀ env X s _ R hK x₀) (fun c s' ⟨hc,e⟩=>⟨by rw[hc],e⟩) fun _ _ h=>h)
private theorem Tr.and_nil:Tr prog w W k K ρ (.BoolOp .And [] pos) true:=.mk fun A s₀ X₀ env X s E R hK x₀=>isTrue_and_nil ⟨rfl,.refl x₀.inv⟩
private theorem Tr.or_nil:Tr prog w W k K ρ (.BoolOp .Or [] pos) false:=.mk fun A s₀ X₀ env X s E R hK x₀=>isTrue_or_nil ⟨rfl,.refl x₀.inv⟩
private theorem Tr.and_f{x:PySem.Expr}{rest:List PySem.Expr}(h:Tr prog w W k K ρ x false):Tr prog w W k K ρ (.BoolOp .And (x::rest) pos) false:=.mk fun A s₀ X₀ env X s E R hK x₀ =>
 isTrue_and (wpAny_mono (h.run A s₀ X₀ env X s _ R hK x₀) (fun c s' ⟨hc,e⟩=>by subst hc;exact⟨rfl,e⟩) fun _ _ h=>h)
private theorem Tr.and_t{x:PySem.Expr}{rest:List PySem.Expr}{b:Bool}(h:Tr prog w W k K ρ x true)(h2:Tr prog w W k K ρ (.BoolOp .And rest pos) b):Tr prog w W k K ρ (.BoolOp .And (x::rest) pos) b:=.mk fun A s₀ X₀ env X s E R hK x₀ =>
 isTrue_and (wpAny_mono (h.run A s₀ X₀ env X s _ R hK x₀) (fun c s' ⟨hc,e⟩=>by
  subst hc;exact wpAny_mono (h2.run A s₀ X₀ env X s' _ R hK (x₀.step e)) (fun c s'' ⟨hc,e'⟩=>⟨hc,e.trans e'⟩) fun _ _ h=>h) fun _ _ h=>h)
private theorem Tr.or_t{x:PySem.Expr}{rest:List PySem.Expr}(h:Tr prog w W k K ρ x true):Tr prog w W k K ρ (.BoolOp .Or (x::rest) pos) true:=.mk fun A s₀ X₀ env X s E R hK x₀ =>
 isTrue_or (wpAny_mono (h.run A s₀ X₀ env X s _ R hK x₀) (fun c s' ⟨hc,e⟩=>by subst hc;exact⟨rfl,e⟩) fun _ _ h=>h)
private theorem Tr.or_f{x:PySem.Expr}{rest:List PySem.Expr}{b:Bool}(h:Tr prog w W k K ρ x false)(h2:Tr prog w W k K ρ (.BoolOp .Or rest pos) b):Tr prog w W k K ρ (.BoolOp .Or (x::rest) pos) b:=.mk fun A s₀ X₀ env X s E R hK x₀ =>
 isTrue_or (wpAny_mono (h.run A s₀ X₀ env X s _ R hK x₀) (fun c s' ⟨hc,e⟩=>by
  subst hc;exact wpAny_mono (h2.run A s₀ X₀ env X s' _ R hK (x₀.step e)) (fun c s'' ⟨hc,e'⟩=>⟨hc,e.trans e'⟩) fun _ _ h=>h) fun _ _ h=>h)
private theorem Tr.and{x:PySem.Expr}{rest:List PySem.Expr}{b c:Bool}(h:Tr prog w W k K ρ x b)(h2:b=true→Tr prog w W k K ρ (.BoolOp .And rest pos) c):Tr prog w W k K ρ (.BoolOp .And (x::rest) pos) (b&&c):=by
 cases b
 ·exact .and_f h
 ·exact .and_t h (h2 rfl)
private theorem Tr.or{x:PySem.Expr}{rest:List PySem.Expr}{b c:Bool}(h:Tr prog w W k K ρ x b)(h2:b=false→Tr prog w W k K ρ (.BoolOp .Or rest pos) c):Tr prog w W k K ρ (.BoolOp .Or (x::rest) pos) (b||c):=by
 cases b
 ·exact .or_f h (h2 rfl)
 ·exact .or_t h
private theorem Tr.val{x:PySem.Expr}{d:PyData}{b:Bool}(h:Ev prog w W k K ρ x d)(ht:Tru prog w W d b)(he:∀env whole,isTrue x env whole=(do let v ← whole;standAt x.pos;holding [v] (truthy v)):=by intros;rfl):Tr prog w W k K ρ x b :=
 .mk fun A s₀ X₀ env X s E R hK x₀=>by
 refine isTrue_plain (wpAny_mono (h.run A s₀ X₀ env X s _ R hK x₀) (fun c s' ⟨hc,e⟩=>?_) fun _ _ h=>h) (he env _)
 exact wpAny_mono (ht A k X s' c _ R e.inv hc) (fun c s'' ⟨hc,e'⟩=>⟨hc,e.trans e'⟩) fun _ _ h=>h
private theorem Ev.ite_t{t a b:PySem.Expr}{d:PyData}(h:Tr prog w W k K ρ t true)(ha:Ev prog w W k K ρ a d):Ev prog w W k K ρ (.IfExp t a b pos) d:=.mk fun A s₀ X₀ env X s E R hK x₀ =>
 IfExp_ (wpAny_mono (h.run A s₀ X₀ env X s _ R hK x₀) (fun c s' ⟨hc,e⟩=>by
  subst hc;exact wpAny_mono (ha.run A s₀ X₀ env X s' _ R hK (x₀.step e)) (fun c s'' ⟨hc,e'⟩=>⟨hc,e.trans e'⟩) fun _ _ h=>h) fun _ _ h=>h)
private theorem Ev.ite_f{t a b:PySem.Expr}{d:PyData}(h:Tr prog w W k K ρ t false)(hb:Ev prog w W k K ρ b d):Ev prog w W k K ρ (.IfExp t a b pos) d:=.mk fun A s₀ X₀ env X s E R hK x₀ =>
 IfExp_ (wpAny_mono (h.run A s₀ X₀ env X s _ R hK x₀) (fun c s' ⟨hc,e⟩=>by
  subst hc;exact wpAny_mono (hb.run A s₀ X₀ env X s' _ R hK (x₀.step e)) (fun c s'' ⟨hc,e'⟩=>⟨hc,e.trans e'⟩) fun _ _ h=>h) fun _ _ h=>h)
private theorem Ev.iteX(c:Bool)(d e:PyData){t a b:PySem.Expr}(h:Tr prog w W k K ρ t c)(ha:c=true→Ev prog w W k K ρ a d)(hb:c=false→Ev prog w W k K ρ b e):Ev prog w W k K ρ (.IfExp t a b pos) (bif c then d else e):=by
 cases c
 ·exact .ite_f h (hb rfl)
 ·exact .ite_t h (ha rfl)
end Wk
namespace Wk
variable{prog:Program}{w:World}{W:Wd}{k:Nat}{K:List (Str×NameKind)}{ρ:Rho}{pos:Pos}
private theorem Ev.cstr{x:Str}{n:Nat}:Ev prog w W k K ρ (.Constant (.str x) n pos) (.str x):=.mk fun A s₀ X₀ env X s E r hK x₀ =>
 wpAny_Constant_str ⟨.str x _,.of_toks x₀.inv⟩
structure Evs(prog:Program)(w:World)(W:Wd)(k:Nat)(K:List (Str×NameKind))(ρ:Rho)(pos:Pos)(es:List PySem.Expr)(ds:List PyData):Prop where
 run:∀A s₀ X₀ env X s E,Room k A→env.scope.names=K→St W s₀ X₀ env ρ X s→wpAny (model prog w) A (spliced (backTo pos (starEach es env))) (fun vs s'=>RdAll X s'.heap vs ds∧W.Ext s s') E s
private theorem Evs.nil:Evs prog w W k K ρ pos [] []:=.mk fun A s₀ X₀ env X s E r hK x₀=>args_nil ⟨.nil,.refl x₀.inv⟩
private theorem Evs.cons{e:PySem.Expr}{es:List PySem.Expr}{d:PyData}{ds:List PyData}(h:Ev prog w W k K ρ e d)(hs:Evs prog w W k K ρ pos es ds)
  (he:∀env,starEach (e::es) env=(false,eval e env)::starEach es env:=by intro _;rfl):Evs prog w W k K ρ pos (e::es) (d::ds):=.mk fun A s₀ X₀ env X s E r hK x₀ =>
 args_cons (wpAny_mono (h.run A s₀ X₀ env X s _ r hK x₀) (fun v s₁ ⟨hv,e1⟩=>wpAny_mono (hs.run A s₀ X₀ env X s₁ _ r hK (x₀.step e1)) (fun vs s₂ ⟨hvs,e2⟩=>⟨.cons (hv.frame (e2.fram x₀.ts)) hvs,e1.trans e2⟩) fun _ _ h=>h) fun _ _ h=>h) (he env)
private theorem Ev.list{es:List PySem.Expr}{ds:List PyData}(h:Evs prog w W k K ρ pos es ds)(hs:ds.length≤sizeLine:=by decide):Ev prog w W k K ρ (.List es pos) (.list ds):=.mk fun A s₀ X₀ env X s E r hK x₀=>by
 refine wpAny_List_spliced (wpAny_mono (h.run A s₀ X₀ env X s _ r hK x₀) (fun vs s₁ ⟨hv,e1⟩=>⟨by rw[hv.length];exact hs,?_⟩) fun _ _ h=>h)
 exact⟨Rd.new_list (x₀.step e1).xs (by simpa using hv),e1.trans (.of_heap (tk:=s₁.toks) e1.inv fun b o e=>Heap.get?_push_of_some _ e)⟩
private theorem Ev.tuple{es:List PySem.Expr}{ds:List PyData}{n:Nat}(h:Evs prog w W k K ρ pos es ds)(hs:ds.length≤sizeLine:=by decide):Ev prog w W k K ρ (.Tuple es n pos) (.tuple ds):=.mk fun A s₀ X₀ env X s E r hK x₀=>by
 refine wpAny_Tuple_spliced (wpAny_mono (h.run A s₀ X₀ env X s _ r hK x₀) (fun vs s₁ ⟨hv,e1⟩=>⟨by rw[hv.length];exact hs,?_⟩) fun _ _ h=>h)
 exact⟨Rd.new_tuple (x₀.step e1).xs (by simpa using hv),e1.trans (.of_heap (tk:=s₁.toks) e1.inv fun b o e=>Heap.get?_push_of_some _ e)⟩
private theorem Ev.neg{e:PySem.Expr}{a:Int}(h:Ev prog w W k K ρ e (.int a)):Ev prog w W k K ρ (.UnaryOp .USub e pos) (.int (-a)):=.mk fun A s₀ X₀ env X s E r hK x₀ =>
 wpAny_UnaryOp (wpAny_mono (h.run A s₀ X₀ env X s _ r hK x₀) (fun v s₁ ⟨hv,e1⟩=>by cases hv;exact P.neg_int ⟨.int _ _,e1.trans (.of_toks e1.inv)⟩) fun _ _ h=>h)
private theorem Ev.inv{e:PySem.Expr}{a:Int}(h:Ev prog w W k K ρ e (.int a)):Ev prog w W k K ρ (.UnaryOp .Invert e pos) (.int (-a-1)):=.mk fun A s₀ X₀ env X s E r hK x₀ =>
 wpAny_UnaryOp (wpAny_mono (h.run A s₀ X₀ env X s _ r hK x₀) (fun v s₁ ⟨hv,e1⟩=>by
  cases hv
  refine invert_int ?_
  exact⟨by first | exact .int _ _ | (have:=Rd.int (X:=X) (h:=s₁.heap) (-a-1) s₁.toks;simpa using this),e1.trans (.of_toks e1.inv)⟩) fun _ _ h=>h)
noncomputable def Itm(prog:Program)(w:World)(W:Wd)(o i d:PyData):Prop :=
  ∀ A k X s v u E, Room k A → W.Inv s.heap → (∀ b, W.Ts b → X b) → (∀ b, X b → ∃ o, s.heap.get? b = some o) → Rd X s.heap v o → Rd X s.heap u i →
    (∃T id,typeLookup (.type T) "__getitem__"=pure (some (.builtin id))∧s.TypeIs v T)∧wpAny (model prog w) A (getItem v u) (fun r s'=>Rd X s'.heap r d∧W.Ext s s') E s
private theorem Ev.itemX(o i:PyData){value slice:PySem.Expr}{d:PyData}(h1:Ev prog w W k K ρ value o)(h2:Ev prog w W k K ρ slice i)(h3:Itm prog w W o i d)
  (hs:∀o i,subscripted slice false o i=operate [o,i] (getItem o i):=by intro _ _;rfl):Ev prog w W k K ρ (.Subscript value slice pos) d:=.mk fun A s₀ X₀ env X s E R hK x₀=>by
 rw[eval_Subscript]
 refine wpAny_bind (wpAny_mono (h1.run A s₀ X₀ env X s _ R hK x₀) (fun o s₁ ⟨ho,e1⟩=>wpAny_bind (wpAny_holding (wpAny_mono (h2.run A s₀ X₀ env X s₁ _ R hK (x₀.step e1)) (fun i s₂ ⟨hi,e2⟩=>wpAny_bind (wpAny_standAt ?_)) fun _ _ x=>x))) fun _ _ x=>x)
 obtain⟨⟨T,id,hl,hT⟩,hg⟩:=h3 A k X s₂ o i E R e2.inv x₀.ts ((x₀.step e1).step e2).xs (ho.frame (e2.fram x₀.ts)) hi
 refine wpAny_bind ?_
 rw[getitemInPython_of_ne hT.not_modules]
 refine wpAny_bind (wpAny_specialOf hT hl ?_)
 have fin:wpAny (model prog w) A (operate [o,i] (getItem o i)) (fun r s₃=>wpAny (model prog w) A (letTemporaryGo value o r>>=fun _=>pure r) (fun v s'=>Rd X s'.heap v d∧W.Ext s s') E s₃) E s₂ :=
  wpAny_operating (wpAny_mono hg (fun r s₃ ⟨h3,e3⟩=>wpAny_bind (wpAny_letTemporaryGo (wpAny_pure ⟨h3,(e1.trans e2).trans e3⟩))) fun _ _ x=>x)
 rw[←hs] at fin
 first
  | exact wpAny_pure (wpAny_bind fin)
  | exact wpAny_bind (wpAny_pure (wpAny_bind fin))
  | exact wpAny_bind fin
private theorem zFg{i:Int}{n j:Nat}(h:seqIndex? i n=some j):(0≤i∧i<n)∨(i<0∧-(n:Int)≤i):=by
 by_cases h0:0≤i
 ·by_cases hn:i<n
  ·exact .inl ⟨h0,hn⟩
  ·unfold seqIndex? at h
   simp[Int.not_lt.mpr h0,hn] at h
 ·by_cases hn:-(n:Int)≤i
  ·exact .inr ⟨Int.not_le.mp h0,hn⟩
  ·unfold seqIndex? at h
   have h2:¬ 0≤i+n:=fun h=>hn (by lia)
   simp[Int.not_le.mp h0,h2] at h
private theorem uN{ds:List PyData}{i:Int}{j:Nat}{d:PyData}(hlo:-2^63≤i)(hhi:i<2^63)(hj:seqIndex? i ds.length=some j)(hd:ds[j]?=some d):Itm prog w W (.list ds) (.int i) d :=
 fun A k X s v u E r inv tx xs h1 h2=>by
 obtain⟨_,rfl⟩:=Rd.v h2
 obtain⟨a,vs,rfl,hx,hl,ha⟩:=Rd.l h1
 refine⟨⟨"list",_,list_getitem_lookup,hl.isList.typeIs⟩,?_⟩
 obtain⟨x,hx1,hx2⟩:=ha.get hd
 have hlen:vs.size=ds.length:=by have:=ha.length;simpa using this
 have hx1':vs[j]?=some x:=by simpa using hx1
 rcases zFg hj with⟨h0,hn⟩|⟨h0,h1⟩
 ·rw[seqIndex_of h0 hn] at hj;cases hj
  exact wpAny_getItem_list hl.isList h0 hhi hx1' ⟨hx2,.refl inv⟩
 ·rw[seqIndex_neg h0 h1] at hj
  cases hj
  exact wpAny_getItem_list_neg hl.isList h0 (by rw[hlen];exact h1) hlo (by rw[hlen];exact hx1') ⟨hx2,.refl inv⟩
private theorem zB8{ds:List PyData}{i:Int}{j:Nat}{d:PyData}(hlo:-2^63≤i)(hhi:i<2^63)(hj:seqIndex? i ds.length=some j)(hd:ds[j]?=some d):Itm prog w W (.tuple ds) (.int i) d :=
 fun A k X s v u E r inv tx xs h1 h2=>by
 obtain⟨_,rfl⟩:=Rd.v h2
 obtain⟨a,vs,rfl,hx,hl,ha⟩:=Rd.tp h1
 obtain⟨n,ht⟩:=hl
 refine⟨⟨"tuple",_,F.slot_tuple_getitem.lookup,⟨_,ht,rfl⟩⟩,?_⟩
 obtain⟨x,hx1,hx2⟩:=ha.get hd
 have hlen:vs.size=ds.length:=by have:=ha.length;simpa using this
 exact P.getItem_tuple ht hlo hhi (by rw[hlen];exact hj) (by simpa using hx1) ⟨hx2,.refl inv⟩
private theorem itm_str{x:Str}{i:Int}{c:Nat}(hlo:-2^63≤i)(hhi:i<2^63)(hc:(seqIndex? i x.length).bind (x.cps[·]?)=some c):Itm prog w W (.str x) (.int i) (.str ⟨#[c]⟩) :=
 fun A k X s v u E r inv tx xs h1 h2=>by
 obtain⟨_,rfl⟩:=Rd.v h2
 obtain⟨_,rfl⟩:=Rd.v h1
 exact⟨⟨"str",_,F.slot_str_getitem.lookup,typeIs_str ..⟩,P.getItem_str (by simp;omega) hc ⟨.str _ _,.of_toks inv⟩⟩
end Wk
namespace Wk
variable{prog:Program}{w:World}{W:Wd}{k:Nat}{K:List (Str×NameKind)}{ρ:Rho}{pos p apos:Pos}
noncomputable def Fun(prog:Program)(w:World)(W:Wd)(k:Nat)(f:Value)(ds:List PyData)(d:PyData):Prop :=
 ∀A X s vs E,Room k A→W.Inv s.heap→(∀b,W.Ts b→X b)→(∀b,X b→∃o,s.heap.get? b=some o)→RdAll X s.heap vs ds→wpAny (model prog w) A (call f vs) (fun r s'=>Rd X s'.heap r d∧W.Ext s s') E s
private theorem Ev.builtin{f:Str}{id:String}{e:PySem.Expr}{es:List PySem.Expr}{ds:List PyData}{d:PyData}(hK:K.lookup f=some .globalImplicit)(hg:W.mg f=none)(hb:W.mb f=some (.builtin id))
  (ha:Evs prog w W k K ρ pos (e::es) ds) (hf:Fun prog w W k (.builtin id) ds d) (he:∀env,starEach (e::es) env=(false,eval e env)::starEach es env:=by intro _;rfl)
  (hpl:∀env,(backTo pos (starEach (e::es) env)).any (·.1)=false:=by intro _;rfl) (hd:(f==("__debug__":Str))=false:=by rfl) :
  Ev prog w W k K ρ (.Call (.Name f p) (e::es) [] pos) d:=.mk fun A s₀ X₀ env X s E R hk x₀=>by
 show wpAny _ A (do callWith pos (← eval (.Name f p) env) [] (backTo pos (starEach (e::es) env)) (backToKw pos (keywordEach [] env))) _ E s
 refine wpAny_bind (Calls.Name_function_global x₀.fk (by rw[←hk] at hK;exact hK) (Calls.loadGlobal_builtin (by rw[x₀.gl];exact W.inv_ns _ x₀.inv) hg (by rw[x₀.bu];exact W.inv_nb _ x₀.inv) hb ?_) hd)
 refine Calls.callWith_builtin (hpl env) ?_
 have hh:=ha.run A s₀ X₀ env X s E R hk x₀
 have e1:backTo pos (starEach (e::es) env)=(false,eval e env)::(backTo pos (starEach (e::es) env)).tail:=by
  rw[he];rfl
 rw[e1] at hh ⊢
 exact Calls.evalArgs_plain (wpAny_mono hh (fun vs s₁ ⟨hv,e2⟩=>wpAny_mono (hf A X s₁ vs _ R e2.inv x₀.ts (x₀.step e2).xs hv) (fun r s₂ ⟨hr,e3⟩=>⟨hr,e2.trans e3⟩) fun _ _ h=>h) fun _ _ h=>h)
private theorem Ev.fn{f:Str}{a:Addr}{e:PySem.Expr}{es:List PySem.Expr}{ds:List PyData}{d:PyData}(hK:K.lookup f=some .globalImplicit)(hg:W.mg f=some (.ref a))(hfd:∃o fd,o.data=.func fd∧∀h,W.Inv h→h.get? a=some o)
  (ha:Evs prog w W k K ρ pos (e::es) ds) (hf:Fun prog w W k (.ref a) ds d) (he:∀env,starEach (e::es) env=(false,eval e env)::starEach es env:=by intro _;rfl)
  (hd:(f==("__debug__":Str))=false:=by rfl) :
  Ev prog w W k K ρ (.Call (.Name f p) (e::es) [] pos) d:=.mk fun A s₀ X₀ env X s E R hk x₀=>by
 obtain⟨o,fd,ho,hfd⟩:=hfd
 show wpAny _ A (do callWith pos (← eval (.Name f p) env) [] (backTo pos (starEach (e::es) env)) (backToKw pos (keywordEach [] env))) _ E s
 refine wpAny_bind (Calls.Name_function_global x₀.fk (by rw[←hk] at hK;exact hK) (Calls.loadGlobal_global (by rw[x₀.gl];exact W.inv_ns _ x₀.inv) hg ?_) hd)
 refine Calls.callWith_function (o:=o) (fd:=fd) ?_
 have hh:=ha.run A s₀ X₀ env X s E R hk x₀
 have e1:backTo pos (starEach (e::es) env)=(false,eval e env)::(backTo pos (starEach (e::es) env)).tail:=by
  rw[he];rfl
 rw[e1] at hh ⊢
 exact Calls.evalArgs_plain (wpAny_mono hh (fun vs s₁ ⟨hv,e2⟩=>⟨⟨hfd _ e2.inv,ho⟩,wpAny_mono (hf A X s₁ vs _ R e2.inv x₀.ts (x₀.step e2).xs hv) (fun r s₂ ⟨hr,e3⟩=>⟨hr,e2.trans e3⟩) fun _ _ h=>h⟩) fun _ _ h=>h)
private theorem Ev.fn0{f:Str}{a:Addr}{d:PyData}(hK:K.lookup f=some .globalImplicit)(hg:W.mg f=some (.ref a))(hfd:∃o fd,o.data=.func fd∧∀h,W.Inv h→h.get? a=some o)
  (hf:Fun prog w W k (.ref a) [] d) (hd:(f==("__debug__":Str))=false:=by rfl) :
  Ev prog w W k K ρ (.Call (.Name f p) [] [] pos) d:=.mk fun A s₀ X₀ env X s E R hk x₀=>by
 obtain⟨o,fd,ho,hfd⟩:=hfd
 show wpAny _ A (do callWith pos (← eval (.Name f p) env) [] (backTo pos (starEach [] env)) (backToKw pos (keywordEach [] env))) _ E s
 refine wpAny_bind (Calls.Name_function_global x₀.fk (by rw[←hk] at hK;exact hK) (Calls.loadGlobal_global (by rw[x₀.gl];exact W.inv_ns _ x₀.inv) hg ?_) hd)
 refine Calls.callWith_function (o:=o) (fd:=fd) ?_
 exact PySem.evalArgs_none ⟨⟨hfd _ x₀.inv,ho⟩,hf A X s [] _ R x₀.inv x₀.ts x₀.xs .nil⟩
private theorem Ev.con{f:Str}{d:PyData}{v:Value}(hK:K.lookup f=some .globalImplicit)(hg:W.mg f=some v)(hv:∀X h,Rd X h v d)(hd:(f==("__debug__":Str))=false:=by rfl) :
  Ev prog w W k K ρ (.Name f pos) d:=.mk fun A s₀ X₀ env X s E R hk x₀ =>
 Calls.Name_function_global x₀.fk (by rw[←hk] at hK;exact hK) (Calls.loadGlobal_global (by rw[x₀.gl];exact W.inv_ns _ x₀.inv) hg ⟨hv _ _,.refl x₀.inv⟩) hd
section
variable{x y:Str}{i:Int}{ds:List PyData}
private theorem fun_chr(h0:0≤i)(h1:i≤1114111):Fun prog w W k (.builtin "chr") [.int i] (.str ⟨#[i.toNat]⟩):=fun A X s vs E R inv tx xs h=>by
 have qh:=RdAll.c h;clear h;obtain⟨_,_,rfl,h,r⟩:=qh;obtain rfl:=RdAll.n r;obtain⟨_,rfl⟩:=Rd.v h;exact chr_of_range h0 h1 ⟨.str _ _,.of_toks inv⟩
private theorem zOz(h1:x.length=1):Fun prog w W k (.builtin "ord") [.str x] (.int (x.cps.getD 0 0:Nat)):=fun A X s vs E R inv tx xs h=>by
 have qh:=RdAll.c h;clear h;obtain⟨_,_,rfl,h,r⟩:=qh;obtain rfl:=RdAll.n r;obtain⟨_,rfl⟩:=Rd.v h;exact ord_of_one h1 ⟨.int _ _,.of_toks inv⟩
private theorem zI6(h1:(x.length:Int)<2^63):Fun prog w W k (.builtin "len") [.str x] (.int x.length):=fun A X s vs E R inv tx xs h=>by
 have qh:=RdAll.c h;clear h;obtain⟨_,_,rfl,h,r⟩:=qh;obtain rfl:=RdAll.n r;obtain⟨_,rfl⟩:=Rd.v h;exact P.len_str (by lia) ⟨.int _ _,.of_toks inv⟩
private theorem yX(h1:(ds.length:Int)<2^63):Fun prog w W k (.builtin "len") [.list ds] (.int ds.length):=fun A X s vs E R inv tx xs h=>by
 have qh:=RdAll.c h;clear h;obtain⟨_,_,rfl,h,r⟩:=qh
 obtain rfl:=RdAll.n r
 obtain⟨a,vs,rfl,hx,hl,ha⟩:=Rd.l h
 have hlen:vs.size=ds.length:=by have:=ha.length;simpa using this
 exact Calls.call_len_list hl.isList (by rw[hlen];exact h1) (by rw[hlen];exact⟨.int _ _,.of_toks inv⟩)
end
noncomputable def Mth0(prog:Program)(w:World)(W:Wd)(name:Str)(o d:PyData):Prop :=
  ∀ A k X s v pos E, Room k A → W.Inv s.heap → (∀ b, W.Ts b → X b) → (∀ b, X b → ∃ o, s.heap.get? b = some o) → Rd X s.heap v o →
    MethodOnS prog w A E name v pos [] (fun r s'=>Rd X s'.heap r d∧W.Ext s s') s
noncomputable def Mth1(prog:Program)(w:World)(W:Wd)(name:Str)(o y d:PyData):Prop :=
  ∀ A k X s v pos a E, Room k A → W.Inv s.heap → (∀ b, W.Ts b → X b) → (∀ b, X b → ∃ o, s.heap.get? b = some o) → Rd X s.heap v o →
    wpAny (model prog w) A a (fun u s'=>Rd X s'.heap u y∧W.Ext s s') E s→MethodOnS prog w A E name v pos [(false,a)] (fun r s'=>Rd X s'.heap r d∧W.Ext s s') s
private theorem Ev.meth0X(x:PyData){o:PySem.Expr}{name:Str}{d:PyData}(h:Ev prog w W k K ρ o x)(hm:Mth0 prog w W name x d)(hbase:∀env,attributeBase o name env (eval o env)=eval o env:=by intro _;rfl)
  (hline:(apos.endLine==pos.line)=true:=by rfl):Ev prog w W k K ρ (.Call (.Attribute o name apos) [] [] pos) d:=.mk fun A s₀ X₀ env X s E R hk x₀ =>
 Call_method0 (hbase env) hline (wpAny_mono (h.run A s₀ X₀ env X s _ R hk x₀) (fun v s₁ ⟨hv,e1⟩=>by
  obtain⟨T,id,h1,h2,h3,h4,h5,h6⟩:=hm A k X s₁ v pos E R e1.inv x₀.ts (x₀.step e1).xs hv
  exact⟨T,id,h1,h2,h3,h4,h5,wpAny_mono h6 (fun r s₂ ⟨hr,e2⟩=>⟨hr,e1.trans e2⟩) fun _ _ h=>h⟩) fun _ _ h=>h)
private theorem Ev.meth1X(x y:PyData){o e:PySem.Expr}{name:Str}{d:PyData}(h:Ev prog w W k K ρ o x)(h2:Ev prog w W k K ρ e y)(hm:Mth1 prog w W name x y d)(hbase:∀env,attributeBase o name env (eval o env)=eval o env:=by intro _;rfl)
  (hs:∀env,starEach [e] env=[(false,eval e env)]:=by intro _;rfl) (hline:(apos.endLine==pos.line)=true:=by rfl):Ev prog w W k K ρ (.Call (.Attribute o name apos) [e] [] pos) d:=.mk fun A s₀ X₀ env X s E R hk x₀ =>
 Call_method1 (hbase env) (hs env) hline (wpAny_mono (h.run A s₀ X₀ env X s _ R hk x₀) (fun v s₁ ⟨hv,e1⟩=>by
  obtain⟨T,id,h1,h2,h3,h4,h5,h6⟩:=hm A k X s₁ v pos (eval e env) E R e1.inv x₀.ts (x₀.step e1).xs hv (h2.run A s₀ X₀ env X s₁ _ R hk (x₀.step e1))
  exact⟨T,id,h1,h2,h3,h4,h5,wpAny_mono h6 (fun r s₂ ⟨hr,e2⟩=>⟨hr,e1.trans e2⟩) fun _ _ h=>h⟩) fun _ _ h=>h)
section
variable{x y:Str}{i:Int}{ds:List PyData}
private theorem zM0(hs:Builtin.Str.tooLong (Txt.lower x).length=false):Mth0 prog w W "lower" (.str x) (.str (Txt.lower x)):=fun A k X s v pos E R inv tx xs h=>by
 obtain⟨_,rfl⟩:=Rd.v h;exact SB.lower hs ⟨.str _ _,.of_toks inv⟩
end
end Wk
namespace Wk
variable{prog:Program}{w:World}{W:Wd}{k:Nat}{K:List (Str×NameKind)}{ρ:Rho}{pos p apos:Pos}
noncomputable def upd:Rho→Str→Slot→Rho
 | [],y,sl=>[(y,sl)]
 | (z,t)::r,y,sl=>bif y==z then (z,sl)::r else (z,t)::upd r y sl
private theorem yE:∀(ρ:Rho) (x y:Str) (sl:Slot),(upd ρ y sl).lookup x=if x=y then some sl else ρ.lookup x
  | [], x, y, sl => by
    simp only[upd,List.lookup_cons,List.lookup_nil]
    by_cases h:x=y
    · subst h;simp
    · have:(x==y)=false:=by simpa using h
      simp[h,this]
  | (z, t) :: r, x, y, sl => by
    unfold upd
    by_cases hz:y=z
    · subst hz
      simp only[beq_self_eq_true,cond_true,List.lookup_cons]
      by_cases h:x=y
      · subst h;simp
      · have:(x==y)=false:=by simpa using h
        simp[h,this]
    · have:(y==z)=false:=by simpa using hz
      simp only[this,cond_false,List.lookup_cons]
      rw[yE r x y sl]
      by_cases hxz:x=z
      · subst hxz
        simp[Ne.symm hz]
      · have:(x==z)=false:=by simpa using hxz
        simp[this]
private theorem St.slotx{s₀ s:Shared}{X₀ X:Addr→Prop}{env:Env}(x:St W s₀ X₀ env ρ X s){y:Str}{sl:Slot}(h:ρ.lookup y=some sl):∃m v,s.heap.Ns env.locals m∧Holds env m s.heap y v∧uD s₀.heap X₀ X s.heap sl v:=by
 obtain⟨m,hn,hv,_⟩:=x.vals
 obtain⟨v,h1,h2⟩:=hv y sl h
 exact⟨m,v,hn,h1,h2⟩
private theorem St.storedE{s₀ s:Shared}{X₀ X:Addr→Prop}{env:Env}{y:Str}{v:Value}{sl:Slot}{h':Heap}{tk:Tok}(x:St W s₀ X₀ env ρ X s)(hl:env.kindOf y=some .local){m:Str→Option Value}
  (hm:s.heap.Ns env.locals m) (hn:h'.Ns env.locals (fun x=>if x=y then some v else m x)) (hL:∀b o,b≠env.locals→¬ W.Ts b→s.heap.get? b=some o→h'.get? b=some o) (inv':W.Inv h') (hsl:uD s₀.heap X₀ X h' sl v)
  (hown:∀ds,sl=.own ds→∀z es,ρ.lookup z=some (.own es)→z≠y→∀m',s.heap.Ns env.locals m'→¬ Holds env m' s.heap z v) :
  St W s₀ X₀ env (upd ρ y sl) X {s with heap:=h',toks:=tk}:=by
 obtain⟨m₂,hn₂,hv,hd⟩:=x.vals
 have hfr:Fram X X s.heap h':=fun b o hb e _=>⟨hL b o (fun e'=>hb (e'▸x.xl)) (fun h=>hb (x.ts b h)) e,hb⟩
 have notL:∀{a:Addr} {o:Obj},s.heap.get? a=some o→(∀es n,o.data ≠ .dict es n)→a≠env.locals:=fun {a o} e hne he=>by
  obtain⟨o',es,ep,ho',hd',_⟩:=hm
  rw[he] at e;rw[e] at ho';cases ho';exact hne es ep hd'
 have hpl:∀a vs,X a→s₀.heap.get? a=none→s.heap.PlainList a vs→h'.PlainList a vs:=fun a vs _ h0 ⟨n,e⟩=>⟨n,hL a _ (notL e fun es n h=>by cases h) (x.nts h0) e⟩
 have cellk:∀z c u,env.kindOf z=some .cell→env.cells.lookup z=some c→s.heap.IsCell c u→h'.IsCell c u:=fun z c u hz hc ⟨o,ho,hdc⟩=>by
  obtain⟨c',u',h1,_,h3,_⟩:=x.ce z hz
  rw[hc] at h1;cases h1
  exact⟨o,hL c o (notL ho fun es n h=>by rw[hdc] at h;cases h) (x.nts h3) ho,hdc⟩
 have cellb:∀z c u,env.kindOf z=some .cell→env.cells.lookup z=some c→h'.IsCell c u→s.heap.IsCell c u:=fun z c u hk hc ⟨o,ho,hdc⟩=>by
  obtain⟨c',u',h1,⟨o',ho',hd'⟩,h3,_⟩:=x.ce z hk
  rw[hc] at h1;cases h1
  have:=hL c o' (notL ho' fun es n h=>by rw[hd'] at h;cases h) (x.nts h3) ho'
  rw[ho] at this;cases this
  exact⟨o,ho',hdc⟩
 have holds':∀z u,z≠y→(Holds env (fun x=>if x=y then some v else m x) h' z u ↔ Holds env m s.heap z u):=fun z u hz=>by
  constructor
  ·rintro(⟨h1,h2⟩|⟨h1,c,h2,h3⟩)
   ·left;refine⟨h1,?_⟩;simpa [hz] using h2
   ·exact .inr ⟨h1,c,h2,cellb z c _ h1 h2 h3⟩
  ·rintro(⟨h1,h2⟩|⟨h1,c,h2,h3⟩)
   ·left;refine⟨h1,?_⟩;simpa [hz] using h2
   ·exact .inr ⟨h1,c,h2,cellk z c _ h1 h2 h3⟩
 have nsu:∀{m₁ m₂:Str→Option Value},s.heap.Ns env.locals m₁→s.heap.Ns env.locals m₂→m₁=m₂:=fun {m₁ m₂} ⟨o,es,ep,h1,h2,_,h3⟩ ⟨o',es',ep',h1',h2',_,h3'⟩=>by
  rw[h1] at h1';cases h1';rw[h2] at h2';cases h2';funext n;rw[←h3,←h3']
 have em:m₂=m:=nsu hn₂ hm
 subst em
 refine⟨x.inv0,?_,x.fk,x.gl,x.bu,x.lo,x.xl,x.x0,x.xts,fun b hb=>?_,fun z hz=>?_,x.ap,_,hn,fun z t hz=>?_,fun z u ds es a hz hu h1 h2=>?_⟩
 ·obtain⟨h₁,tk₁,e₁,k₁,i₁⟩:=x.ext
  refine⟨h',tk,by rw[e₁],fun b o hb e=>?_,inv'⟩
  have hh:s.heap.get? b=some o:=by rw[e₁];exact k₁ b o hb e
  exact hL b o (fun e'=>by rw[e',x.lo] at e;cases e) hb hh
 ·by_cases hbl:b=env.locals
  ·obtain⟨o,_,_,ho,_⟩:=hn;exact⟨o,hbl▸ho⟩
  ·by_cases ht:W.Ts b
   ·obtain⟨o,ho,_⟩:=W.inv_Ts _ _ inv' ht;exact⟨o,ho⟩
   ·obtain⟨o,ho⟩:=x.xs b hb;exact⟨o,hL b o hbl ht ho⟩
 ·obtain⟨c,u,h1,h2,h3,h4⟩:=x.ce z hz
  exact⟨c,u,h1,cellk z c u hz h1 h2,h3,h4⟩
 ·rw[yE] at hz
  by_cases e:z=y
  ·subst e
   simp only[if_true] at hz;cases hz
   exact⟨v,.inl ⟨hl,by simp⟩,hsl⟩
  ·rw[if_neg e] at hz
   obtain⟨u,h1,h2⟩:=hv z t hz
   exact⟨u,(holds' z u e).mpr h1,h2.fram hfr hpl⟩
 ·have hyv:∀{u},Holds env (fun x=>if x=y then some v else m₂ x) h' y u→u=v:=fun {u} h=>by
   rcases h with⟨_,h⟩|⟨h,_⟩
   ·simpa using h.symm
   ·rw[hl] at h;cases h
  rw[yE] at hz hu
  by_cases ez:z=y
  ·by_cases eu:u=y
   ·rw[ez,eu]
   ·subst ez
    rw[if_pos rfl] at hz;cases hz
    rw[if_neg eu] at hu
    have:=hyv h1;subst this
    exact absurd ((holds' u _ eu).mp h2) (hown _ rfl u es hu eu _ hm)
  ·by_cases eu:u=y
   ·subst eu
    rw[if_pos rfl] at hu;cases hu
    rw[if_neg ez] at hz
    have:=hyv h2;subst this
    exact absurd ((holds' z _ ez).mp h1) (hown _ rfl z ds hz ez _ hm)
   ·rw[if_neg ez] at hz;rw[if_neg eu] at hu
    exact hd z u ds es a hz hu ((holds' z _ ez).mp h1) ((holds' u _ eu).mp h2)
private theorem St.stored{s₀ s:Shared}{X₀ X:Addr→Prop}{env:Env}{y:Str}{v:Value}{sl:Slot}{h':Heap}{tk:Tok}(x:St W s₀ X₀ env ρ X s)(hl:env.kindOf y=some .local){m:Str→Option Value}
  (hm:s.heap.Ns env.locals m) (hn:h'.Ns env.locals (fun x=>if x=y then some v else m x)) (hs:Heap.SameBut env.locals s.heap h') (hsl:uD s₀.heap X₀ X s.heap sl v)
  (hown:∀ds,sl=.own ds→∀z es,ρ.lookup z=some (.own es)→z≠y→∀m',s.heap.Ns env.locals m'→¬ Holds env m' s.heap z v) :
  St W s₀ X₀ env (upd ρ y sl) X {s with heap:=h',toks:=tk}:=by
 have hL:∀b o,b≠env.locals→s.heap.get? b=some o→h'.get? b=some o:=fun b o hb e=>(hs.2 b hb).trans e
 have hpl:∀a vs,X a→s₀.heap.get? a=none→s.heap.PlainList a vs→h'.PlainList a vs:=fun a vs _ _ ⟨n,e⟩=>⟨n,hL a _ (fun he=>by
  obtain⟨o',es,ep,ho',hd',_⟩:=hm
  rw[he] at e;rw[e] at ho';cases ho';cases hd') e⟩
 refine x.storedE hl hm hn (fun b o h1 _ e=>hL b o h1 e) (W.stable _ _ x.inv fun b o e hc=>hL b o ?_ e) (hsl.fram (fun b o hb e _=>⟨hL b o (fun e'=>hb (e'▸x.xl)) e,hb⟩) hpl) hown
 rintro rfl
 rcases hc with hc|⟨_,vs,hc⟩
 ·exact x.nB x.lo hc
 ·obtain⟨o',es,ep,ho',hd',_⟩:=hm
  rw[ho'] at e;cases e;rw[hd'] at hc;cases hc
end Wk
namespace Wk
variable{prog:Program}{w:World}{W:Wd}{k:Nat}{K:List (Str×NameKind)}{ρ ρ':Rho}{pos p apos:Pos}
noncomputable def Grow(X:Addr→Prop)(s:Shared)(X':Addr→Prop)(s':Shared):Prop:=∀b o,¬ X b→s.heap.get? b=some o→s'.heap.get? b=some o∧¬ X' b
private theorem Grow.trans{X₁ X₂ X₃:Addr→Prop}{s₁ s₂ s₃:Shared}(a:Grow X₁ s₁ X₂ s₂)(b:Grow X₂ s₂ X₃ s₃):Grow X₁ s₁ X₃ s₃:=fun c o h e=>let ⟨h1,h2⟩:=a c o h e;b c o h2 h1
private theorem Grow.ext{X:Addr→Prop}{s s':Shared}(e:W.Ext s s')(t:∀b,W.Ts b→X b):Grow X s X s':=fun b o hb ho=>⟨e.get (fun h=>hb (t b h)) ho,hb⟩
private theorem Grow.refl{X:Addr→Prop}{s:Shared}:Grow X s X s:=fun b o hb ho=>⟨ho,hb⟩
inductive Out where
 | next (ρ:Rho)
 | ret (d:PyData)
 | brk (ρ:Rho)
 | cont (ρ:Rho)
noncomputable def Post(W:Wd)(s₀:Shared)(X₀:Addr→Prop)(env:Env)(X:Addr→Prop)(s:Shared):Out→Flow→Shared→Prop
 | .next ρ,f,s'=>f=.next∧∃X',St W s₀ X₀ env ρ X' s'∧Grow X s X' s'
 | .brk ρ,f,s'=>f=.brk∧∃X',St W s₀ X₀ env ρ X' s'∧Grow X s X' s'
 | .cont ρ,f,s'=>f=.cont∧∃X',St W s₀ X₀ env ρ X' s'∧Grow X s X' s'
 | .ret d,f,s'=>∃v,f=.ret v∧Rd X₀ s'.heap v d∧W.Ext s₀ s'
private theorem Post.grow{s₀ s s₁ s':Shared}{X₀ X X₁:Addr→Prop}{env:Env}{f:Flow}(g:Grow X s X₁ s₁):∀{o:Out},Post W s₀ X₀ env X₁ s₁ o f s'→Post W s₀ X₀ env X s o f s'
 | .next ρ,⟨h,X',a,b⟩=>⟨h,X',a,g.trans b⟩
 | .brk ρ,⟨h,X',a,b⟩=>⟨h,X',a,g.trans b⟩
 | .cont ρ,⟨h,X',a,b⟩=>⟨h,X',a,g.trans b⟩
 | .ret d,h=>h
structure Ex(prog:Program)(w:World)(W:Wd)(k:Nat)(K:List (Str×NameKind))(ρ:Rho)(st:Stmt)(o:Out):Prop where
 run:∀A s₀ X₀ env X s E,Room k A→env.scope.names=K→St W s₀ X₀ env ρ X s→wpAny (model prog w) A (exec st env) (Post W s₀ X₀ env X s o) E s
structure Sx(prog:Program)(w:World)(W:Wd)(k:Nat)(K:List (Str×NameKind))(ρ:Rho)(sts:List Stmt)(o:Out):Prop where
 run:∀A s₀ X₀ env X s E,Room k A→env.scope.names=K→St W s₀ X₀ env ρ X s→wpAny (model prog w) A (execs sts env) (Post W s₀ X₀ env X s o) E s
private theorem Sx.nil:Sx prog w W k K ρ [] (.next ρ):=.mk fun A s₀ X₀ env X s E R hk x=>wpAny_execs_nil ⟨rfl,X,x,.refl⟩
private theorem Sx.cons{st:Stmt}{rest:List Stmt}{o:Out}(h:Ex prog w W k K ρ st (.next ρ'))(h2:Sx prog w W k K ρ' rest o):Sx prog w W k K ρ (st::rest) o:=.mk fun A s₀ X₀ env X s E R hk x=>by
 refine wpAny_execs_cons (wpAny_mono (h.run A s₀ X₀ env X s E R hk x) (fun f s₁ hf=>?_) fun _ _ h=>h)
 obtain⟨rfl,X',x',g⟩:=hf
 exact wpAny_mono (h2.run A s₀ X₀ env X' s₁ E R hk x') (fun f s₂ hf=>hf.grow g) fun _ _ h=>h
private theorem Sx.ret{st:Stmt}{rest:List Stmt}{d:PyData}(h:Ex prog w W k K ρ st (.ret d)):Sx prog w W k K ρ (st::rest) (.ret d):=.mk fun A s₀ X₀ env X s E R hk x=>by
 refine wpAny_execs_cons (wpAny_mono (h.run A s₀ X₀ env X s E R hk x) (fun f s₁ hf=>?_) fun _ _ h=>h)
 obtain⟨v,rfl,hv⟩:=hf
 exact⟨v,rfl,hv⟩
private theorem Sx.one{st:Stmt}{o:Out}(h:Ex prog w W k K ρ st o):Sx prog w W k K ρ [st] o:=.mk fun A s₀ X₀ env X s E R hk x=>by
 refine wpAny_execs_cons (wpAny_mono (h.run A s₀ X₀ env X s E R hk x) (fun f s₁ hf=>?_) fun _ _ h=>h)
 cases o with
 | next ρ=>obtain⟨rfl,hf⟩:=hf;exact wpAny_execs_nil ⟨rfl,hf⟩
 | brk ρ=>obtain⟨rfl,hf⟩:=hf;exact⟨rfl,hf⟩
 | cont ρ=>obtain⟨rfl,hf⟩:=hf;exact⟨rfl,hf⟩
 | ret d=>obtain⟨v,rfl,hf⟩:=hf;exact⟨v,rfl,hf⟩
private theorem Sx.append{a b:List Stmt}{o:Out}:∀{ρ ρ':Rho},Sx prog w W k K ρ a (.next ρ')→Sx prog w W k K ρ' b o→Sx prog w W k K ρ (a++b) o:=by
  intro ρ ρ' ha hb;refine .mk fun A s₀ X₀ env X s E R hk x=>?_
  have key:∀(Γ:Ctx) (Q:Flow→Pos→Shared→Prop) (E':Value→Pos→Shared→Prop) (a:List Stmt) (p:Pos) (s:Shared),Sem.wp (model prog w) Γ (execs a env) (fun f p' s'=>match f with | .next=>Sem.wp (model prog w) Γ (execs b env) Q E' p' s' | f=>Q f p' s') E' p s →
      Sem.wp (model prog w) Γ (execs (a++b) env) Q E' p s:=by
    intro Γ Q E' a
    induction a with
    | nil=>intro p s h;exact h
    | cons st rest ih =>
      intro p s h
      rw[List.cons_append,execs_cons,Sem.wp_bind']
      rw[execs_cons,Sem.wp_bind'] at h
      refine Sem.wp_mono _ Γ _ (fun f p' s' hf=>?_) (fun _ _ _ h=>h) _ _ h
      cases f <;> first | exact ih _ _ hf | exact hf
  refine fun Γ p hΓ=>key Γ _ _ a p s (Sem.wp_mono _ Γ _ (fun f p' s' hf=>?_) (fun _ _ _ h=>h) _ _ (ha.run A s₀ X₀ env X s E R hk x Γ p hΓ))
  obtain⟨rfl,X',x',g⟩:=hf
  exact Sem.wp_mono _ Γ _ (fun f p' s₂ hf=>hf.grow g) (fun _ _ _ h=>h) _ _ (hb.run A s₀ X₀ env X' s' E R hk x' Γ p' hΓ)
private theorem St.store{A:Around}{E:Value→Shared→Prop}{s₀ s:Shared}{X₀ X:Addr→Prop}{env:Env}{y:Str}{v:Value}{d:PyData}{Q:Unit→Shared→Prop}(x:St W s₀ X₀ env ρ X s)(hl:env.kindOf y=some .local)
  (hv:Rd X s.heap v d) (h:∀s',St W s₀ X₀ env (upd ρ y (.v d)) X s'→Grow X s X s'→Q () s'):wpAny (model prog w) A (storeName env y v) Q E s:=by
 obtain⟨m,hn,_⟩:=x.vals
 have hp:(env.scope.kind == .class||(env.scope.kind == .module&&env.locals != env.globals))=false:=by rw[x.fk];rfl
 refine wpAny_storeName_local hl hn (fun h' hn' hs=>h _ (x.stored hl hn hn' hs (sl:=.v d) hv fun ds e=>by cases e) fun b o hb e=>⟨(hs.2 b fun e'=>hb (e'▸x.xl)).trans e,hb⟩) hp
private theorem Ex.ret{e:PySem.Expr}{d:PyData}(h:Ev prog w W k K ρ e d):Ex prog w W k K ρ (.Return (some e) pos) (.ret d):=.mk fun A s₀ X₀ env X s E R hk x =>
 wpAny_Return_some (wpAny_mono (h.run A s₀ X₀ env X s E R hk x) (fun v s₁ ⟨hv,e1⟩=>⟨v,rfl,hv.frame (Fram.mono x.x0),(x.step e1).ext⟩) fun _ _ h=>h)
private theorem Ex.ite_t{t:PySem.Expr}{a b:List Stmt}{o:Out}(h:Tr prog w W k K ρ t true)(ha:Sx prog w W k K ρ a o):Ex prog w W k K ρ (.If t a b pos) o:=.mk fun A s₀ X₀ env X s E R hk x =>
 wpAny_If (wpAny_mono (h.run A s₀ X₀ env X s E R hk x) (fun c s₁ ⟨hc,e1⟩=>by
  subst hc;exact wpAny_mono (ha.run A s₀ X₀ env X s₁ E R hk (x.step e1)) (fun f s₂ hf=>hf.grow (Grow.ext e1 x.ts)) fun _ _ h=>h) fun _ _ h=>h)
private theorem Ex.ite_f{t:PySem.Expr}{a b:List Stmt}{o:Out}(h:Tr prog w W k K ρ t false)(hb:Sx prog w W k K ρ b o):Ex prog w W k K ρ (.If t a b pos) o:=.mk fun A s₀ X₀ env X s E R hk x =>
 wpAny_If (wpAny_mono (h.run A s₀ X₀ env X s E R hk x) (fun c s₁ ⟨hc,e1⟩=>by
  subst hc;exact wpAny_mono (hb.run A s₀ X₀ env X s₁ E R hk (x.step e1)) (fun f s₂ hf=>hf.grow (Grow.ext e1 x.ts)) fun _ _ h=>h) fun _ _ h=>h)
end Wk
namespace Wk
variable{prog:Program}{w:World}{W:Wd}{k:Nat}{K:List (Str×NameKind)}{ρ ρ':Rho}{pos p apos:Pos}
private theorem St.fresh0{s₀ s:Shared}{X₀ X:Addr→Prop}{env:Env}(x:St W s₀ X₀ env ρ X s){I:Addr}(h:s.heap.get? I=none):s₀.heap.get? I=none:=by
  cases e:s₀.heap.get? I with
  | none=>rfl
  | some o =>
    exfalso
    by_cases ht:W.Ts I
    · obtain⟨o',e',_⟩:=W.inv_Ts _ _ x.inv ht;rw[h] at e';cases e'
    · have:=x.ext.get ht e;rw[h] at this;cases this
private theorem St.nX{s₀ s:Shared}{X₀ X:Addr→Prop}{env:Env}(x:St W s₀ X₀ env ρ X s){I:Addr}(h:s.heap.get? I=none):¬ X I:=kQ x.xs h
private theorem St.nBs{s₀ s:Shared}{X₀ X:Addr→Prop}{env:Env}(x:St W s₀ X₀ env ρ X s){I:Addr}(h:s.heap.get? I=none):¬ W.B I:=fun hb=>by
 obtain⟨o,e⟩:=W.inv_B _ _ x.inv hb;rw[h] at e;cases e
private theorem St.other{s₀ s:Shared}{X₀ X:Addr→Prop}{env:Env}(x:St W s₀ X₀ env ρ X s){I:Addr}{h':Heap}{tk:Tok}(hX:¬ X I)(h0:s₀.heap.get? I=none)
  (ho:∃o,s.heap.get? I=some o∧o.cls ≠ .none∧o.cls ≠ .type "code"∧o.cls ≠ .type "list"∧o.cls ≠ .type "tuple")
  (hk:∀b o,b≠I→s.heap.get? b=some o→h'.get? b=some o):St W s₀ X₀ env ρ X {s with heap:=h',toks:=tk}:=by
 obtain⟨o,ho,c1,c2,c3,c4⟩:=ho
 obtain⟨m,hn,hv,hd⟩:=x.vals
 have hL:∀b o,X b→s.heap.get? b=some o→h'.get? b=some o:=fun b o hb e=>hk b o (fun e'=>hX (e'▸hb)) e
 have hfr:Fram X X s.heap h':=fun b o' hb e hc=>⟨hk b o' (fun e'=>by subst e';rw[ho] at e;cases e;rcases hc with hc|hc;exact c3 hc;exact c4 hc) e,hb⟩
 have cellk:∀z c u,env.kindOf z=some .cell→env.cells.lookup z=some c→s.heap.IsCell c u→h'.IsCell c u:=fun z c u hz hc ⟨o,ho,hdc⟩=>by
  obtain⟨c',u',h1,_,_,h4⟩:=x.ce z hz
  rw[hc] at h1;cases h1
  exact⟨o,hL c o h4 ho,hdc⟩
 have cellb:∀z c u,env.kindOf z=some .cell→env.cells.lookup z=some c→h'.IsCell c u→s.heap.IsCell c u:=fun z c u hz hc ⟨o,ho,hdc⟩=>by
  obtain⟨c',u',h1,⟨o',ho',hd'⟩,_,h4⟩:=x.ce z hz
  rw[hc] at h1;cases h1
  have:=hL c o' h4 ho'
  rw[ho] at this;cases this
  exact⟨o,ho',hdc⟩
 refine⟨x.inv0,?_,x.fk,x.gl,x.bu,x.lo,x.xl,x.x0,x.xts,fun b hb=>?_,fun z hz=>?_,x.ap,m,?_,fun z t hz=>?_,fun z u ds es a hz hu h1 h2=>?_⟩
 ·obtain⟨h₁,tk₁,e₁,k₁,i₁⟩:=x.ext
  refine⟨h',tk,by rw[e₁],fun b o' hb e=>?_,W.stable _ _ x.inv fun b o' e hc=>hk b o' ?_ e⟩
  ·have hh:s.heap.get? b=some o':=by rw[e₁];exact k₁ b o' hb e
   exact hk b o' (fun e'=>by rw[e',h0] at e;cases e) hh
  ·rintro rfl
   rw[ho] at e;cases e
   rcases hc with hc|⟨hc|hc,_⟩
   ·exact x.nB h0 hc
   ·exact c1 hc
   ·exact c2 hc
 ·obtain⟨o,ho⟩:=x.xs b hb;exact⟨o,hL b o hb ho⟩
 ·obtain⟨c,u,h1,h2,h3,h4⟩:=x.ce z hz
  exact⟨c,u,h1,cellk z c u hz h1 h2,h3,h4⟩
 ·exact hn.at' fun o e=>hL _ o x.xl e
 ·obtain⟨u,h1,h2⟩:=hv z t hz
  exact⟨u,h1.at fun c w=>cellk z c w,h2.fram hfr fun a vs ha hf ⟨n,e⟩=>⟨n,hL a _ ha e⟩⟩
 ·exact hd z u ds es a hz hu (h1.at fun c w=>cellb z c w) (h2.at fun c w=>cellb u c w)
noncomputable def zMa:List String:=["list_iterator","range_iterator","str_iterator","str_ascii_iterator","tuple_iterator","list_reverseiterator","longrange_iterator"]
noncomputable def uQ(I:Addr)(h:Heap):Prop:=∃o n,h.get? I=some o∧o.cls=.type n∧zMa.contains n=true
private theorem uQ.live{I:Addr}{h:Heap}(x:uQ I h):∃o,h.get? I=some o∧o.cls ≠ .none∧o.cls ≠ .type "code"∧o.cls ≠ .type "list"∧o.cls ≠ .type "tuple":=by
 obtain⟨o,n,ho,hc,hn⟩:=x
 exact⟨o,ho,by rw[hc];exact(fun e=>nomatch e),by rw[hc];intro e;cases e;revert hn;decide,by rw[hc];intro e;cases e;revert hn;decide,by rw[hc];intro e;cases e;revert hn;decide⟩
private theorem uQ.go{A:Around}{E:Value→Shared→Prop}{I:Addr}{s:Shared}{target:PySem.Expr}{v:Value}{Q:Unit→Shared→Prop}(x:uQ I s.heap)(h:Q () s):wpAny (model prog w) A (letOwnedTupleGo target (.ref I) v) Q E s:=by
  obtain⟨o,n,ho,hc,hn⟩:=x
  unfold letOwnedTupleGo
  have key:wpAny (model prog w) A (do
      let (.ref r,.ref a):=((Value.ref I,v):Value×Value) | return
      let o ← load r
      match o.cls,o.data with
      | .type n, .fields vs =>
        if ["enumerate","zip","dict_itemiterator","dict_reverseitemiterator","odict_iterator","itertools.zip_longest","itertools.pairwise"].contains n&&vs[0]? == some (rawInt a) then
          rule "for.unpacks-the-owned-tuple"
          updateField r 0 .none
      | _,_=>pure ()) Q E s:=by
    cases v <;> first | exact wpAny_pure h | skip
    refine wpAny_bind (wpAny_load ho ?_)
    rw[hc]
    have hz:∀m∈zMa,(["enumerate","zip","dict_itemiterator","dict_reverseitemiterator","odict_iterator","itertools.zip_longest","itertools.pairwise"]:List String).contains m=false:=by decide
    have hz':=hz n (List.contains_iff_mem.mp hn)
    cases o.data with
    | fields vs =>
      show wpAny _ _ (if (_&&_)=true then _ else _) _ _ _
      rw[hz',Bool.false_and,if_neg (by decide)];exact wpAny_pure h
    | _=>exact wpAny_pure h
  cases target <;> first | exact wpAny_pure h | exact key
structure Iter(prog:Program)(w:World)(A:Around)(I:Addr)(Z:Addr→Prop)(ds:List PyData)(S:Nat→Heap→Prop):Prop where
 zI:Z I
 frame:∀i h h',S i h→(∀b o,Z b→h.get? b=some o→h'.get? b=some o)→S i h'
 item:∀i (s:Shared) E d,ds[i]?=some d→S i s.heap→wpAny (model prog w) A (pyNext (.ref I)) (fun r s'=>∃v h' tk,r=some v∧s'={s with heap:=h',toks:=tk}∧Rd (fun b=>¬ Z b) h' v d∧S (i+1) h'∧∀b o,b≠I→s.heap.get? b=some o→h'.get? b=some o) E s
 done:∀(s:Shared) E,S ds.length s.heap→wpAny (model prog w) A (pyNext (.ref I)) (fun r s'=>∃h' tk,r=none∧s'={s with heap:=h',toks:=tk}∧∀b o,b≠I→s.heap.get? b=some o→h'.get? b=some o) E s
 live:∀i h,S i h→uQ I h
 self:∀i (s:Shared) (Q:Value→Shared→Prop) E,S i s.heap→Q (.ref I) s→wpAny (model prog w) A (pyIter (.ref I)) Q E s
structure Itr(prog:Program)(w:World)(W:Wd)(k:Nat)(K:List (Str×NameKind))(ρ:Rho)(e:PySem.Expr)(ds:List PyData):Prop where
 run:∀A s₀ X₀ env X s E,Room k A→env.scope.names=K→St W s₀ X₀ env ρ X s→wpAny (model prog w) A (eval e env) (fun v s₁=>wpAny (model prog w) A (pyIter v) (fun it s₂ =>
  ∃I Z S,it=.ref I∧(∀A',A'.handled=none→Iter prog w A' I Z ds S)∧S 0 s₂.heap∧W.Ext s s₂∧s.heap.get? I=none∧∀b,Z b→¬ X b∧∃o,s₂.heap.get? b=some o) E s₁) E s
private theorem wJ{s s':Shared}(e:W.Ext s s'){I:Addr}(h:s'.heap.get? I=none):s.heap.get? I=none:=by
  cases e':s.heap.get? I with
  | none=>rfl
  | some o =>
    exfalso
    by_cases ht:W.Ts I
    · obtain⟨o',e',_⟩:=W.inv_Ts _ _ e.inv ht;rw[h] at e';cases e'
    · have:=e.get ht e';rw[h] at this;cases this
private theorem xH{h:Heap}:h.get? h.objs.size=none:=by
 cases e:h.get? h.objs.size with
 | none=>rfl
 | some o=>exact absurd (Heap.lt_size e) (Nat.lt_irrefl _)
private theorem Itr.list{e:PySem.Expr}{ds:List PyData}(h:Ev prog w W k K ρ e (.list ds)):Itr prog w W k K ρ e ds:=.mk fun A s₀ X₀ env X s E R hk x=>by
 refine wpAny_mono (h.run A s₀ X₀ env X s E R hk x) (fun v s₁ ⟨hv,e1⟩=>?_) fun _ _ h=>h
 have x1:=x.step e1
 obtain⟨a,vs,rfl,hx,hl,ha⟩:=Rd.l hv
 have hne:a≠s₁.heap.objs.size:=fun e=>by obtain⟨n,e'⟩:=hl;exact Nat.lt_irrefl _ (e▸Heap.lt_size e')
 have hI0:¬ X s₁.heap.objs.size:=wT x1.xs
 let h2:Heap:=s₁.heap.push {cls:=.type "list_iterator",data:=.fields #[.ref a,.int 0 0]}
 have k2:∀b o,s₁.heap.get? b=some o→h2.get? b=some o:=fun b o e=>Heap.get?_push_of_some _ e
 let Z:Addr→Prop:=fun b=>¬ X b∧∃o,h2.get? b=some o
 have hI:h2.get? s₁.heap.objs.size=some {cls:=.type "list_iterator",data:=.fields #[.ref a,.int 0 0]}:=Heap.get?_push_size _ rfl
 have zI:Z s₁.heap.objs.size:=⟨hI0,_,hI⟩
 have za:Z a:=by obtain⟨n,e'⟩:=hl;exact⟨hx,_,k2 _ _ e'⟩
 refine wpAny_pyIter_list hl.isList ⟨_,Z,fun i h=>h.IsListIter s₁.heap.objs.size a i∧h.PlainList a vs∧RdAll (fun b=>¬ Z b) h vs.toList ds,rfl,fun A' hA'=>?_,⟨⟨_,hI,rfl,rfl⟩,?_,?_⟩,?_,wJ e1 xH,fun b hb=>hb⟩
 ·refine⟨zI,?_,?_,?_,?_,?_⟩
  ·rintro i h h' ⟨h1,h2,h3⟩ hk
   exact⟨h1.at fun o e=>hk _ o zI e,h2.at fun o e=>hk _ o za e,h3.frame fun b o hb e _=>⟨hk b o (Classical.not_not.mp hb) e,hb⟩⟩
  ·rintro i s E d hd ⟨h1,h2,h3⟩
   obtain⟨v,hv,hr⟩:=h3.get hd
   refine wpAny_pyNext_list_item h1 h2.isList (x:=v) (by simpa using hv) fun h' hit' hs'=>?_
   have hk:∀b o,b≠s₁.heap.objs.size→s.heap.get? b=some o→h'.get? b=some o:=fun b o hb e=>(hs'.2 b hb).trans e
   have hl':∀b o,o.cls=.type "list" ∨ o.cls=.type "tuple"→s.heap.get? b=some o→b≠s₁.heap.objs.size:=fun b o hc e e'=>by
    obtain⟨o',ho',hc',_⟩:=h1
    rw[e'] at e;rw[e] at ho';cases ho'
    rw[hc'] at hc;rcases hc with hc|hc <;> exact absurd (Value.type.inj hc) (by decide)
   exact⟨v,h',s.toks,rfl,rfl,hr.frame fun b o hb e hc=>⟨hk b o (hl' b o hc e) e,hb⟩,⟨hit',h2.at fun o e=>hk _ o hne e,h3.frame fun b o hb e hc=>⟨hk b o (hl' b o hc e) e,hb⟩⟩,hk⟩
  ·rintro s E ⟨h1,h2,h3⟩
   have hlen:vs.size=ds.length:=by have:=h3.length;simpa using this
   refine wpAny_pyNext_list_end hA' h1 h2.isList (by simp[hlen]) fun h' he'=>⟨h',s.toks,rfl,rfl,fun b o hb e=>he' b o hb e⟩
  ·rintro i h ⟨⟨o,ho,hc,_⟩,_⟩
   exact⟨o,_,ho,hc,by decide⟩
  ·rintro i s Q E ⟨h1,_⟩ hQ
   exact wpAny_pyIter_listiter h1 hQ
 ·exact hl.at fun o e=>k2 _ o e
 ·exact ha.frame fun b o hb e hc=>⟨k2 b o e,fun h=>h ⟨hb,o,k2 b o e⟩⟩
 ·exact e1.trans (.of_heap (tk:=s₁.toks) e1.inv k2)
end Wk
namespace Wk
variable{prog:Program}{w:World}{W:Wd}{k:Nat}{K:List (Str×NameKind)}{ρ ρ':Rho}{pos p apos:Pos}
private theorem zE3{kindOf:Str→Option NameKind}:∀(binds:List (Str×Value)) (m:Str→Option Value) (x:Str),x∉binds.map (·.1)→bindL kindOf binds m x=m x
  | [],m,x,h=>rfl
  | (n, v) :: r, m, x, h => by
    simp only[List.map_cons,List.mem_cons,not_or] at h
    unfold bindL
    rw[zE3 r _ x h.2]
    split
    · simp[h.1]
    · rfl
private theorem zN2{kindOf:Str→Option NameKind}:∀(binds:List (Str×Value)) (m:Str→Option Value) (x:Str) (v:Value),(binds.map (·.1)).Nodup→kindOf x=some .local→binds.lookup x=some v→bindL kindOf binds m x=some v:=by
  intro binds
  induction binds with
  | nil=>intro m x v hd hl h;cases h
  | cons b r ih =>
    intro m x v hd hl h
    obtain⟨n,u⟩:=b
    rw[List.map_cons,List.nodup_cons] at hd
    unfold bindL
    rw[List.lookup_cons] at h
    by_cases e:x=n
    · subst e
      simp at h;subst h
      rw[zE3 r _ x hd.1,if_pos hl];simp
    · have:(x==n)=false:=by simpa using e
      rw[this] at h
      exact ih _ x v hd.2 hl h
private theorem zF7{kindOf:Str→Option NameKind}:∀(binds:List (Str×Value)) (m:Str→Option Value) (x:Str),x∉binds.map (·.1)→bindC kindOf binds m x=m x
  | [],m,x,h=>rfl
  | (n, v) :: r, m, x, h => by
    simp only[List.map_cons,List.mem_cons,not_or] at h
    unfold bindC
    rw[zF7 r _ x h.2]
    split
    · rfl
    · simp[h.1]
private theorem zMo{kindOf:Str→Option NameKind}:∀(binds:List (Str×Value)) (m:Str→Option Value) (x:Str) (v:Value),(binds.map (·.1)).Nodup→kindOf x=some .cell→binds.lookup x=some v→bindC kindOf binds m x=some v:=by
  intro binds
  induction binds with
  | nil=>intro m x v hd hl h;cases h
  | cons b r ih =>
    intro m x v hd hl h
    obtain⟨n,u⟩:=b
    rw[List.map_cons,List.nodup_cons] at hd
    unfold bindC
    rw[List.lookup_cons] at h
    by_cases e:x=n
    · subst e
      simp at h;subst h
      rw[zF7 r _ x hd.1,if_neg (by rw[hl];decide)];simp
    · have:(x==n)=false:=by simpa using e
      rw[this] at h
      exact ih _ x v hd.2 hl h
private theorem xR{x:Str}:∀(names:List (Str×NameKind)) (n:Nat) (acc:List (Str×Addr)),(∃c,acc.lookup x=some c)→∃c,(cellsFrom n names acc).lookup x=some c
  | [],n,acc,h=>h
  | (y, kd) :: r, n, acc, h => by
    unfold cellsFrom
    split
    · refine xR r _ _ ?_
      rw[List.lookup_cons]
      cases x==y
      · exact h
      · exact⟨_,rfl⟩
    · exact xR r n acc h
private theorem yW{x:Str}:∀(names:List (Str×NameKind)) (n:Nat) (acc:List (Str×Addr)),names.lookup x=some .cell→∃c,(cellsFrom n names acc).lookup x=some c
  | (y, kd) :: r, n, acc, h => by
    unfold cellsFrom
    rw[List.lookup_cons] at h
    by_cases e:x=y
    · subst e
      simp at h;subst h
      rw[if_pos (by decide)]
      exact xR r _ _ ⟨n,by simp⟩
    · have:(x==y)=false:=by simpa using e
      rw[this] at h
      split
      · exact yW r _ _ h
      · exact yW r _ _ h
noncomputable def yI(names:List Str)(ds:List PyData):Rho:=names.zip (ds.map Slot.v)
private theorem jX{X:Addr→Prop}{h:Heap}:∀(names:List Str) (vs:List Value) (ds:List PyData),RdAll X h vs ds→∀x sl,(yI names ds).lookup x=some sl→∃v d,sl=.v d∧(names.zip vs).lookup x=some v∧Rd X h v d
  | [],_,_,_,x,sl,e=>by simp[yI] at e
  | n::ns,_,_,.nil,x,sl,e=>by simp[yI] at e
  | n :: ns, _, _, .cons (v := v) (d := d) a r, x, sl, e => by
    simp only[yI,List.map_cons,List.zip_cons_cons,List.lookup_cons] at e ⊢
    cases hx:x==n with
    | true=>rw[hx] at e;cases e;exact⟨v,d,rfl,rfl,a⟩
    | false=>rw[hx] at e;exact jX ns _ _ r x sl e
structure Def(W:Wd)(a:Addr)(name:Str)(params:Arguments)(body:List Stmt)(scope:Scope):Prop where
 here:∃o pm cd doc,o.data=.func (Calls.docDef name params body scope pm cd doc)∧(∀h,W.Inv h→h.get? a=some o)∧∀h,W.Inv h→h.CodeRec cd name
 co:scope.isCoroutine=false
 gen:scope.isGenerator=false
 kind:scope.kind=.function
private theorem Def.fd{a:Addr}{name:Str}{params:Arguments}{body:List Stmt}{scope:Scope}(D:Def W a name params body scope):∃o fd,o.data=.func fd∧∀h,W.Inv h→h.get? a=some o:=by
 obtain⟨o,pm,cd,doc,h1,h2,_⟩:=D.here
 exact⟨o,_,h1,h2⟩
private theorem zA8{α β:Type}:∀(a:List α) (b:List β),((a.zip b).map (·.1)).Sublist a
 | [],_=>by simp
 | _::_,[]=>by simp
 | x::a,y::b=>by simpa using (zA8 a b)
private theorem Def.enterC{a:Addr}{cd:Value}{o:Obj}{pm doc:Value}{name:Str}{params:Arguments}{body:List Stmt}{scope:Scope}{names:List Str}{ds:List PyData}(ho:o.data=.func (Calls.docDef name params body scope pm cd doc))(hget:∀h,W.Inv h→h.get? a=some o)(hcd:∀h,W.Inv h→h.CodeRec cd name)(hco:scope.isCoroutine=false)(hgen:scope.isGenerator=false)(hkind:scope.kind=.function)
  (hb:∀pm cd doc (vs:List Value),vs.length=ds.length→bindArgs (Calls.docDef name params body scope pm cd doc) ⟨vs,[]⟩=pure (names.zip vs)) (hn:names.Nodup)
  (hkn:∀x∈names,scope.names.lookup x=some .local∨scope.names.lookup x=some .cell) {A:Around} {X:Addr→Prop} {s:Shared} {vs:List Value} {E:Value→Shared→Prop} {Q:Value→Shared→Prop}
  (R:Room (k+1) A) (inv:W.Inv s.heap) (tx:∀b,W.Ts b→X b) (xs:∀b,X b→∃o,s.heap.get? b=some o) (hvs:RdAll X s.heap vs ds)
  (h:∀env X' s₁,env.scope=scope→env.frame=some env.locals→env.code=cd→env.qual=name++(".<locals>.":Str)→(∀b o,s.heap.get? b=some o→s₁.heap.get? b=some o)→St W s X env (yI names ds) X' s₁→Room k (A.deeper env) →
   wpAny (model prog w) (A.deeper env) (execs body env) (fun f s'=>Q (match f with | .ret v=>v | _=>.none) s')
    (fun e s'=>wpAny (model prog w) (A.deeper env) (leaving env e) (fun _ s''=>E e s'') (fun e' s''=>E e' s'') s') s₁) :
  wpAny (model prog w) A (call (.ref a) vs) Q E s:=by
 have hL:∀c,s.heap.objs.size≤c→s.heap.get? c=none:=fun c hc=>by
  cases e:s.heap.get? c with
  | none=>rfl
  | some o=>exact absurd (Heap.lt_size e) (Nat.not_lt.mpr hc)
 have hnd:((names.zip vs).map (·.1)).Nodup:=hn.sublist (zA8 names vs)
 refine wpAny_call (codeAny_call_cells (fd:=Calls.docDef name params body scope pm cd doc) (by have:=R.2.1;show A.depth<1000;omega) (hget _ inv) ho (W.inv_lim _ inv) (hcd _ inv) rfl (hb pm cd doc vs hvs.length) rfl ?_ (fun s₁ x=>?_) hco hgen hkind)
 ·intro y hy
  have hm:y.1∈names:=(List.of_mem_zip hy).1
  rcases hkn _ hm with h1|h1
  ·exact .inl h1
  ·obtain⟨c,hc⟩:=yW scope.names (s.heap.objs.size+1) [] h1
   exact .inr ⟨h1,by show((cellsFrom (s.heap.objs.size+1) scope.names []).lookup y.1).isSome=true;rw[hc];rfl⟩
 ·generalize hE:callEnvC (Calls.docDef name params body scope pm cd doc) s.heap.objs.size a=env at x ⊢
  have e1:env.scope=scope:=by rw[←hE];rfl
  have e2:env.locals=s.heap.objs.size:=by rw[←hE];rfl
  have e3:env.cells=cellsFrom (s.heap.objs.size+1) scope.names []:=by rw[←hE];rfl
  have e4:env.frame=some env.locals:=by rw[←hE];rfl
  have R':Room k (A.deeper env):=⟨R.1,by have:=R.2.1;show A.depth+1+k≤990;omega,by have:=R.2.2;show A.units+3+10*k≤9000;omega⟩
  obtain⟨h',tk,hs1,hk1⟩:=x.done
  have keep:=x.toInCall.keep
  refine h env (fun b=>X b∨b=env.locals ∨ ∃n,env.cells.lookup n=some b) s₁ e1 e4 (by rw[←hE];rfl) (by rw[←hE];rfl) keep ?_ R'
  refine⟨inv,⟨h',tk,hs1,fun b o _ e=>hk1 b o e,W.stable _ _ inv fun b o e _=>hk1 b o e⟩,e1▸hkind,by rw[←hE];rfl,by rw[←hE];rfl,e2▸hL _ (Nat.le_refl _),.inr (.inl rfl),fun b hb=>.inl hb,tx,fun b hb=>?_,
   fun y hy=>?_,fun y z c h1 h2=>name_of_addr x.apart (mem_of_lookup h1) (mem_of_lookup h2),_,x.toInCall.ns,fun y sl hy=>?_,fun y z ds' es a' hy hz=>?_⟩
  ·rcases hb with hb|rfl|⟨n,hb⟩
   ·obtain⟨o,e⟩:=xs b hb;exact⟨o,keep b o e⟩
   ·obtain⟨o,_,_,e,_⟩:=x.toInCall.ns;exact⟨o,e⟩
   ·obtain⟨o,e,_⟩:=x.cell n b hb;exact⟨o,e⟩
  ·have hy':scope.names.lookup y=some .cell:=by rw[←e1];exact hy
   obtain⟨c,hc⟩:=yW scope.names (s.heap.objs.size+1) [] hy'
   rw[←e3] at hc
   exact⟨c,_,hc,x.cell y c hc,hL c (Nat.le_of_lt (e2▸x.above y c (mem_of_lookup hc))),.inr (.inr ⟨y,hc⟩)⟩
  ·obtain⟨v,d,rfl,h1,h2⟩:=jX names vs ds hvs y sl hy
   have hm:y∈names:=(List.of_mem_zip (mem_of_lookup h1)).1
   refine⟨v,?_,h2.frame fun b o hb e hc=>⟨keep b o e,?_⟩⟩
   ·rcases hkn y hm with h3|h3
    ·have h3':env.kindOf y=some .local:=by show env.scope.names.lookup y=_;rw[e1];exact h3
     exact .inl ⟨h3',zN2 _ _ y v hnd h3' h1⟩
    ·have h3':env.kindOf y=some .cell:=by show env.scope.names.lookup y=_;rw[e1];exact h3
     obtain⟨c,hc⟩:=yW scope.names (s.heap.objs.size+1) [] h3
     rw[←e3] at hc
     exact .inr ⟨h3',c,hc,by have:=x.cell y c hc;rw[zMo _ _ y v hnd h3' h1] at this;exact this⟩
   ·rintro(h|rfl|⟨n,h⟩)
    ·exact hb h
    ·rw[e2,hL _ (Nat.le_refl _)] at e;cases e
    ·rw[hL b (Nat.le_of_lt (e2▸x.above n b (mem_of_lookup h)))] at e;cases e
  ·obtain⟨v,d,e,_⟩:=jX names vs ds hvs y _ hy;cases e
private theorem Fun.of_def{a:Addr}{name:Str}{params:Arguments}{body:List Stmt}{scope:Scope}{names:List Str}{ds:List PyData}{d:PyData}(D:Def W a name params body scope)
  (hb:∀pm cd doc (vs:List Value),vs.length=ds.length→bindArgs (Calls.docDef name params body scope pm cd doc) ⟨vs,[]⟩=pure (names.zip vs)) (hn:names.Nodup)
  (hkn:∀x∈names,scope.names.lookup x=some .local∨scope.names.lookup x=some .cell)
  (h:Sx prog w W k scope.names (yI names ds) body (.ret d)):Fun prog w W (k+1) (.ref a) ds d:=fun A X s vs E R inv tx xs hvs=>by
 obtain⟨o,pm,cd,doc,ho,hget,hcd⟩:=D.here
 refine Def.enterC ho hget hcd D.co D.gen D.kind hb hn hkn R inv tx xs hvs fun env X' s₁ e1 _ _ _ keep x0 R'=>?_
 refine wpAny_mono (h.run _ s X env X' s₁ _ R' (by rw[e1]) x0) (fun f s₂ hf=>?_) fun _ _ h=>h
 obtain⟨v,rfl,hv,he⟩:=hf
 exact⟨hv,he⟩
end Wk
namespace Wk
variable{prog:Program}{w:World}{W:Wd}{k:Nat}{K:List (Str×NameKind)}{ρ ρ':Rho}{pos p apos:Pos}
private theorem Iter.of_walks{A:Around}{I:Addr}{n:Nat}{P:Nat→Value→Prop}{S:Nat→Heap→Prop}{ds:List PyData}{Z:Addr→Prop}(V:Walks prog w A I [I] [I] n P S)(hn:n=ds.length)(zI:Z I)
  (hP:∀i v d,P i v→ds[i]?=some d→∀Y h,Rd Y h v d) (hl:∀i h,S i h→uQ I h):Iter prog w A I Z ds S where
 zI:=zI
 frame:=fun i h h' hS hk=>V.frame i h h' hS fun b hb o e=>by
  rw[List.mem_singleton] at hb;subst hb;exact hk _ o zI e
 item:=fun i s E d hd hS=>V.item i s _ _ (by rw[hn];exact(List.getElem?_eq_some_iff.mp hd).1) hS fun v h' tk hv hS' hk=>⟨v,h',tk,rfl,rfl,hP i v d hv hd _ _,hS',fun b o hb e=>hk b o (by simpa using hb) e⟩
 done:=fun s E hS=>V.done s _ _ (by rw[hn];exact hS) fun h' tk hk=>⟨h',tk,rfl,rfl,fun b o hb e=>hk b o (by simpa using hb) e⟩
 live:=hl
 self:=V.self
noncomputable def zK(a:Int)(n:Nat):List PyData:=(List.range n).map fun (i:Nat)=>PyData.int (a+(i:Int))
private theorem zD(a:Int)(n:Nat):(zK a n).length=n:=by simp[zK]
private theorem zQ{a:Int}{n i:Nat}{d:PyData}(h:(zK a n)[i]?=some d):d=.int (a+(i:Int)):=by
  unfold zK at h
  rw[List.getElem?_map] at h
  cases e:(List.range n)[i]? with
  | none=>rw[e] at h;cases h
  | some j =>
    rw[e] at h
    obtain⟨h1,h2⟩:=List.getElem?_eq_some_iff.mp e
    rw[List.getElem_range] at h2
    subst h2
    simpa using h.symm
noncomputable def wB(x:Str):List PyData:=x.cps.toList.map fun c=>.str ⟨#[c]⟩
private theorem zBq{I:Addr}{h:Heap}{x l st:Int}(hi:IsRangeIter h I x l st):uQ I h :=
 ⟨_,_,hi,rfl,by decide⟩
private theorem zCk{A:Around}{s₁:Shared}{lo hi:Int}{t u v:Tok}{ra:Addr}{Q:Value→Shared→Prop}{E:Value→Shared→Prop}{X:Addr→Prop}(hh:A.handled=none)(hr:IsRange s₁.heap ra lo hi 1 t u v)(h1:-(2^62)≤lo)(h2:lo<2^62)(h3:-(2^62)≤hi)(h4:hi<2^62)
  (xs:∀b,X b→∃o,s₁.heap.get? b=some o)
  (hQ:∀(h':Heap) Z S,(∀A',A'.handled=none→Iter prog w A' s₁.heap.objs.size Z (zK lo (hi-lo).toNat) S)→S 0 h'→(∀b o,s₁.heap.get? b=some o→h'.get? b=some o) →
   (∀b,Z b→¬ X b∧∃o,h'.get? b=some o)→Q (.ref s₁.heap.objs.size) {s₁ with heap:=h'}):wpAny (model prog w) A (pyIter (.ref ra)) Q E s₁:=by
 refine wpAny_pyIter_range hr (small_one h1 h2 h3 h4) ?_
 have hsz:Builtin.Range.rangeSize lo hi 1=((hi-lo).toNat:Int):=by rw[rangeSize_one];split <;> lia
 refine hQ _ (fun b=>b=s₁.heap.objs.size) _ (fun A' hA'=>Iter.of_walks (Walks.range hA' _ lo 1 (hi-lo).toNat) (zD _ _).symm rfl (fun i v d ⟨t,e⟩ hd Y h=>by
  rw[zQ hd,e];simpa using Rd.int (X:=Y) (h:=h) (lo+(i:Int)) t) fun i h hi=>zBq hi) ?_ (fun b o e=>Heap.get?_push_of_some _ e) (fun b hb=>?_)
 ·show IsRangeIter _ _ (lo+((0:Nat):Int)*1) (((hi-lo).toNat:Int)-((0:Nat):Int)) 1
  have e1:(lo+((0:Nat):Int)*1)=lo:=by simp
  have e2:(((hi-lo).toNat:Int)-((0:Nat):Int))=Builtin.Range.rangeSize lo hi 1:=by rw[hsz];simp
  rw[e1,e2]
  exact Heap.get?_push_size _ rfl
 ·subst hb
  exact⟨wT xs,_,Heap.get?_push_size _ rfl⟩
private theorem vY{s s₁:Shared}(e:W.Ext s s₁){c:Addr}(h:s₁.heap.objs.size≤c):s.heap.get? c=none:=wJ e (by
 cases e':s₁.heap.get? c with
 | none=>rfl
 | some o=>exact absurd (Heap.lt_size e') (Nat.not_lt.mpr h))
private theorem Itr.range1{e:PySem.Expr}{n:Int}(hK:K.lookup ("range":Str)=some .globalImplicit)(hg:W.mg "range"=none)(hb:W.mb "range"=some (.type "range"))(h:Ev prog w W k K ρ e (.int n))
  (h1:-(2^62)≤n) (h2:n<2^62) (he:∀env,backTo pos (starEach [e] env)=[(false,eval e env)]:=by intro _;rfl):Itr prog w W k K ρ (.Call (.Name "range" p) [e] [] pos) (zK 0 n.toNat):=.mk fun A s₀ X₀ env X s E R hk x=>by
 refine wpAny_Call_NameR (Calls.Name_function_global x.fk (by rw[←hk] at hK;exact hK) (Calls.loadGlobal_builtin (by rw[x.gl];exact W.inv_ns _ x.inv) hg (by rw[x.bu];exact W.inv_nb _ x.inv) hb ?_))
 rw[he]
 refine PySem.callWith_type rfl (Calls.evalArgs_plain (Calls.spliced_cons (wpAny_mono (h.run A s₀ X₀ env X s E R hk x) (fun v₁ s₁ ⟨hv,e1⟩=>Calls.spliced_nil ?_) fun _ _ e=>e)))
 obtain⟨_,rfl⟩:=Rd.v hv
 refine call_range_1 (zCk (X:=X) R.1 (Heap.get?_push_size _ rfl) (by lia) (by lia) h1 h2 (fun b hb=>by obtain⟨o,ho⟩:=(x.step e1).xs b hb;exact⟨o,Heap.get?_push_of_some _ ho⟩) fun h' Z S hit hS hkk hZ=>?_)
 have e2:W.Ext s₁ {s₁ with heap:=h',toks:=s₁.toks+1+1}:=.of_heap e1.inv fun b o e=>hkk b o (Heap.get?_push_of_some _ e)
 refine⟨_,Z,S,rfl,?_,hS,e1.trans e2,?_,hZ⟩
 ·have:(n-0).toNat=n.toNat:=by simp
  rw[this] at hit;exact hit
 ·exact vY e1 (by show s₁.heap.objs.size≤(s₁.heap.push _).objs.size;rw[Heap.size_push];exact Nat.le_succ _)
private theorem Itr.range2{e₁ e₂:PySem.Expr}{lo hi:Int}(hK:K.lookup ("range":Str)=some .globalImplicit)(hg:W.mg "range"=none)(hb:W.mb "range"=some (.type "range"))(ha:Ev prog w W k K ρ e₁ (.int lo))(hc:Ev prog w W k K ρ e₂ (.int hi))
  (h1:-(2^62)≤lo) (h2:lo<2^62) (h3:-(2^62)≤hi) (h4:hi<2^62) (he:∀env,backTo pos (starEach [e₁,e₂] env)=[(false,eval e₁ env),(false,eval e₂ env)]:=by intro _;rfl) :
  Itr prog w W k K ρ (.Call (.Name "range" p) [e₁,e₂] [] pos) (zK lo (hi-lo).toNat):=.mk fun A s₀ X₀ env X s E R hk x=>by
 refine wpAny_Call_NameR (Calls.Name_function_global x.fk (by rw[←hk] at hK;exact hK) (Calls.loadGlobal_builtin (by rw[x.gl];exact W.inv_ns _ x.inv) hg (by rw[x.bu];exact W.inv_nb _ x.inv) hb ?_))
 rw[he]
 refine PySem.callWith_type rfl (Calls.evalArgs_plain (Calls.spliced_cons (wpAny_mono (ha.run A s₀ X₀ env X s E R hk x) (fun v₁ s₁ ⟨hv,e1⟩=>Calls.spliced_cons (wpAny_mono (hc.run A s₀ X₀ env X s₁ E R hk (x.step e1)) (fun v₂ s₂ ⟨hv2,e2⟩=>Calls.spliced_nil ?_) fun _ _ e=>e)) fun _ _ e=>e)))
 obtain⟨_,rfl⟩:=Rd.v hv
 cases hv2
 have e12:=e1.trans e2
 refine call_range_2 (zCk (X:=X) R.1 (Heap.get?_push_size _ rfl) h1 h2 h3 h4 (fun b hb=>by obtain⟨o,ho⟩:=(x.step e12).xs b hb;exact⟨o,Heap.get?_push_of_some _ ho⟩) fun h' Z S hit hS hkk hZ=>?_)
 have e3:W.Ext s₂ {s₂ with heap:=h',toks:=s₂.toks+1}:=.of_heap e2.inv fun b o e=>hkk b o (Heap.get?_push_of_some _ e)
 exact⟨_,Z,S,rfl,hit,hS,e12.trans e3,vY e12 (by show s₂.heap.objs.size≤(s₂.heap.push _).objs.size;rw[Heap.size_push];exact Nat.le_succ _),hZ⟩
private theorem Itr.str{e:PySem.Expr}{y:Str}(h:Ev prog w W k K ρ e (.str y)):Itr prog w W k K ρ e (wB y):=.mk fun A s₀ X₀ env X s E R hk x=>by
 refine wpAny_mono (h.run A s₀ X₀ env X s E R hk x) (fun v s₁ ⟨hv,e1⟩=>?_) fun _ _ h=>h
 have x1:=x.step e1
 obtain⟨t,rfl⟩:=Rd.s hv
 have hn:y.cps.size=(wB y).length:=by simp[wB]
 have hP:∀i v d,SignAt y i v→(wB y)[i]?=some d→∀Y h,Rd Y h v d:=fun i v d ⟨c,u,hc,hv⟩ hd Y h=>by
  subst hv
  unfold wB at hd
  rw[List.getElem?_map,Array.getElem?_toList,hc] at hd
  cases hd;exact .str _ _
 have fin:∀(o:Obj) (S:Nat→Heap→Prop),(∀A':Around,A'.handled=none→Walks prog w A' s₁.heap.objs.size [s₁.heap.objs.size] [s₁.heap.objs.size] y.cps.size (SignAt y) S)→S 0 (s₁.heap.push o)→o.isFreed=false →
   (∀i h,S i h→uQ s₁.heap.objs.size h) →
   ∃I Z S,(Value.ref s₁.heap.objs.size:Value)=.ref I∧(∀A',A'.handled=none→Iter prog w A' I Z (wB y) S)∧S 0 (s₁.heap.push o)∧W.Ext s {s₁ with heap:=s₁.heap.push o}∧s.heap.get? I=none∧∀b,Z b→¬ X b∧∃o',(s₁.heap.push o).get? b=some o' :=
  fun o S hW hS hf hl=>⟨_,fun b=>b=s₁.heap.objs.size,S,rfl,fun A' hA'=>Iter.of_walks (hW A' hA') hn rfl hP hl,hS,e1.trans (.of_heap (tk:=s₁.toks) e1.inv fun b o e=>Heap.get?_push_of_some _ e),vY e1 (Nat.le_refl _),
   fun b hb=>by subst hb;exact⟨wT x1.xs,_,Heap.get?_push_size _ hf⟩⟩
 cases ha:y.cps.all (· < 128)
 ·exact wpAny_pyIter_wide ha (fin _ _ (fun A' hA=>Walks.strWide hA _ y t) ⟨_,Heap.get?_push_size _ rfl,rfl,rfl⟩ rfl fun i h ⟨o,h1,h2,h3⟩=>⟨o,_,h1,h2,by decide⟩)
 ·exact wpAny_pyIter_ascii ha (fin _ _ (fun A' hA=>Walks.strAscii hA _ y t) ⟨_,Heap.get?_push_size _ rfl,rfl,rfl⟩ rfl fun i h ⟨o,h1,h2,h3⟩=>⟨o,_,h1,h2,by decide⟩)
end Wk
namespace Wk
variable{prog:Program}{w:World}{W:Wd}{k:Nat}{K:List (Str×NameKind)}{ρ ρ':Rho}{pos p apos:Pos}
private theorem Ex.while{test:PySem.Expr}{body:List Stmt}{n:Nat}(ρs:Nat→Rho)(h0:ρs 0=ρ)(ht:∀i,i<n→Tr prog w W k K (ρs i) test true)(hb:∀i,i<n→Sx prog w W k K (ρs i) body (.next (ρs (i+1))))
  (he:Tr prog w W k K (ρs n) test false):Ex prog w W k K ρ (.While test body [] pos) (.next (ρs n)):=.mk fun A s₀ X₀ env X s E R hk x=>by
 refine wpAny_While (codeAny_whileLoop (fun m s'=>∃i X',i≤n∧m=n+1-i∧St W s₀ X₀ env (ρs i) X' s'∧Grow X s X' s') ?_ (n+1) ⟨0,X,Nat.zero_le _,rfl,h0▸x,.refl⟩)
 rintro m s' ⟨i,X',hi,rfl,x',g'⟩
 by_cases hlt:i<n
 ·refine wpAny_mono ((ht i hlt).run A s₀ X₀ env X' s' _ R hk x') (fun b s₂ ⟨hb',e⟩=>?_) fun _ _ h=>h
  subst hb'
  refine wpAny_mono ((hb i hlt).run A s₀ X₀ env X' s₂ _ R hk (x'.step e)) (fun f s₃ hf=>?_) fun _ _ h=>h
  obtain⟨rfl,X3,x3,g3⟩:=hf
  exact⟨n+1-(i+1),by lia,i+1,X3,hlt,rfl,x3,(g'.trans (.ext e x'.ts)).trans g3⟩
 ·have:i=n:=by lia
  subst this
  refine wpAny_mono (he.run A s₀ X₀ env X' s' _ R hk x') (fun b s₂ ⟨hb',e⟩=>?_) fun _ _ h=>h
  subst hb'
  exact wpAny_execs_nil ⟨rfl,X',x'.step e,g'.trans (.ext e x'.ts)⟩
private theorem St.enlarge{s₀ s s':Shared}{X₀ X:Addr→Prop}{env:Env}{a:Addr}(x:St W s₀ X₀ env ρ X s)(e:W.Ext s s')(ha:s.heap.get? a=none)(ha':∃o,s'.heap.get? a=some o) :
    St W s₀ X₀ env ρ (fun b=>X b∨b=a) s':=by
  have y:=x.step e
  obtain⟨m,hn,hv,hd⟩:=x.vals
  obtain⟨m',hn',hv',hd'⟩:=y.vals
  have fr:Fram X (fun b=>X b∨b=a) s.heap s'.heap:=fun b o hb ho hc=>⟨e.get (fun h=>hb (x.ts b h)) ho,fun h=>h.elim hb fun h=>by rw[h,ha] at ho;cases ho⟩
  have cellk:∀y c w,env.kindOf y=some .cell→env.cells.lookup y=some c→s.heap.IsCell c w→s'.heap.IsCell c w:=fun y c w hk hc ⟨o,ho,r⟩=>by
    obtain⟨c',v',h1,h2,h3,h4⟩:=x.ce y hk
    rw[hc] at h1;cases h1
    exact⟨o,e.get (x.nts h3) ho,r⟩
  have cellb:∀y c w,env.kindOf y=some .cell→env.cells.lookup y=some c→s'.heap.IsCell c w→s.heap.IsCell c w:=fun y c w hk hc ⟨o,ho,r⟩=>by
    obtain⟨c',v',h1,⟨o',h2,h2'⟩,h3,h4⟩:=x.ce y hk
    rw[hc] at h1;cases h1
    have:=e.get (x.nts h3) h2
    rw[ho] at this;cases this
    exact⟨o,h2,r⟩
  refine⟨y.inv0,y.ext,y.fk,y.gl,y.bu,y.lo,.inl y.xl,fun b hb=>.inl (y.x0 b hb),y.xts,fun b hb=>hb.elim (y.xs b) fun h=>h▸ha',fun z hz=>?_,y.ap,m,hn.at' fun o ho=>e.get (x.nts x.lo) ho,fun z sl hz=>?_,fun z u ds es b hz hu h1 h2=>?_⟩
  · obtain⟨c,v,h1,h2,h3,h4⟩:=y.ce z hz;exact⟨c,v,h1,h2,h3,.inl h4⟩
  · obtain⟨v,h1,h2⟩:=hv z sl hz
    refine⟨v,h1.at fun c w=>cellk z c w,?_⟩
    cases sl with
    | v d=>exact Rd.frame fr h2
    | opq=>trivial
    | own ds =>
      obtain⟨b,vs,e1,e2,e3,e4,⟨n,e5⟩,e6⟩:=h2
      exact⟨b,vs,e1,e2,.inl e3,e4,⟨n,e.get (x.nts e2) e5⟩,RdAll.frame fr e6⟩
  · exact hd z u ds es b hz hu (h1.at fun c w=>cellb z c w) (h2.at fun c w=>cellb u c w)
structure EvN(prog:Program)(w:World)(W:Wd)(k:Nat)(K:List (Str×NameKind))(ρ:Rho)(e:PySem.Expr)(ds:List PyData):Prop where
 run:∀A s₀ X₀ env X s E,Room k A→env.scope.names=K→St W s₀ X₀ env ρ X s→wpAny (model prog w) A (eval e env) (fun v s'=>∃a vs,v=.ref a∧s.heap.get? a=none∧s'.heap.PlainList a vs∧RdAll (fun b=>X b∨b=a) s'.heap vs.toList ds∧W.Ext s s') E s
private theorem EvN.list{es:List PySem.Expr}{ds:List PyData}(h:Evs prog w W k K ρ pos es ds)(hs:ds.length≤sizeLine:=by decide):EvN prog w W k K ρ (.List es pos) ds:=.mk fun A s₀ X₀ env X s E r hK x₀=>by
 refine wpAny_List_spliced (wpAny_mono (h.run A s₀ X₀ env X s _ r hK x₀) (fun vs s₁ ⟨hv,e1⟩=>⟨by rw[hv.length];exact hs,?_⟩) fun _ _ h=>h)
 refine⟨_,vs.toArray,rfl,vY e1 (Nat.le_refl _),⟨_,Heap.get?_push_size _ rfl⟩,?_,e1.trans (.of_heap (tk:=s₁.toks) e1.inv fun b o e=>Heap.get?_push_of_some _ e)⟩
 have:RdAll X s₁.heap vs.toArray.toList ds:=by simpa using hv
 exact this.frame fun b o hb ho _=>⟨Heap.get?_push_of_some _ ho,fun h=>h.elim hb fun h=>by rw[h,xH] at ho;cases ho⟩
private theorem St.storeOwn{A:Around}{E:Value→Shared→Prop}{s₀ s s':Shared}{X₀ X:Addr→Prop}{env:Env}{y:Str}{a:Addr}{vs:Array Value}{ds:List PyData}{Q:Unit→Shared→Prop}(x:St W s₀ X₀ env ρ X s)(e:W.Ext s s')
  (hl:env.kindOf y=some .local) (ha:s.heap.get? a=none) (hp:s'.heap.PlainList a vs) (hr:RdAll (fun b=>X b∨b=a) s'.heap vs.toList ds)
  (h:∀s'',St W s₀ X₀ env (upd ρ y (.own ds)) (fun b=>X b∨b=a) s''→Grow X s (fun b=>X b∨b=a) s''→Q () s''):wpAny (model prog w) A (storeName env y (.ref a)) Q E s':=by
 have x':=x.enlarge e ha (let ⟨n,hn⟩:=hp;⟨_,hn⟩)
 obtain⟨m,hn,hv,_⟩:=x'.vals
 have hpp:(env.scope.kind == .class||(env.scope.kind == .module&&env.locals != env.globals))=false:=by rw[x.fk];rfl
 refine wpAny_storeName_local hl hn (fun h' hn' hs=>h _ (x'.stored hl hn hn' hs (sl:=.own ds) ⟨a,vs,rfl,x.fresh0 ha,.inr rfl,fun h0=>?_,hp,hr⟩ fun es _ z fs hz hzy m' hm' hh=>?_) fun b o hb ho=>?_) hpp
 ·exact x.nX ha (x.x0 a h0)
 ·-- no other name holds the new place: in s it was free
  obtain⟨m₀,hn₀,hv₀,_⟩:=x.vals
  obtain⟨u,h1,h2⟩:=hv₀ z _ hz
  obtain⟨b,us,rfl,hb0,hb1,hb2,⟨n,hb3⟩,_⟩:=h2
  have hh':Holds env m' s'.heap z (.ref b):=by
   rcases h1 with⟨h1,h3⟩|⟨h1,c,h3,h4⟩
   ·left
    refine⟨h1,?_⟩
    have hnn:s'.heap.Ns env.locals m₀:=hn₀.at' fun o ho=>e.get (x.nts x.lo) ho
    obtain⟨o,es',ep,q1,q2,_,q3⟩:=hnn
    obtain⟨o',es'',ep',q1',q2',_,q3'⟩:=hm'
    rw[q1] at q1';cases q1';rw[q2] at q2';cases q2'
    rw[←q3',q3];exact h3
   ·obtain⟨c',v',r1,⟨o,r2,r2'⟩,r3,_⟩:=x.ce z h1
    rw[h3] at r1;cases r1
    obtain⟨o',t1,t2⟩:=h4
    exact .inr ⟨h1,c,h3,o',e.get (x.nts r3) t1,t2⟩
  have hab:b=a:=by
   rcases hh' with⟨h1,h3⟩|⟨h1,c,h3,⟨o1,h4,h4'⟩⟩ <;> rcases hh with⟨g1,g3⟩|⟨g1,c',g3,⟨o2,g4,g4'⟩⟩
   ·rw[h3] at g3;cases g3;rfl
   ·rw[h1] at g1;cases g1
   ·rw[h1] at g1;cases g1
   ·rw[h3] at g3;cases g3;rw[h4] at g4;cases g4;rw[h4'] at g4';cases g4';rfl
  rw[hab,ha] at hb3;cases hb3
 ·refine⟨(hs.2 b fun e'=>hb (e'▸x.xl)).trans (e.get (fun h=>hb (x.ts b h)) ho),fun hh=>hh.elim hb fun hh=>by rw[hh,ha] at ho;cases ho⟩
private theorem Ex.ownX(ds:List PyData){y:Str}{value:PySem.Expr}(h:EvN prog w W k K ρ value ds)(hl:K.lookup y=some .local)(hs:∀env,swapsWith value (some (.Name y p)) pos.line env=pure false:=by intro _;rfl) :
  Ex prog w W k K ρ (.Assign [.Name y p] value pos) (.next (upd ρ y (.own ds))):=.mk fun A s₀ X₀ env X s E R hk x =>
 wpAny_Assign_Name (wpAny_mono (h.run A s₀ X₀ env X s E R hk x) (fun v s₁ hh=>by
  obtain⟨a,vs,rfl,ha,hp,hr,e1⟩:=hh
  exact x.storeOwn e1 (by rw[←hk] at hl;exact hl) ha hp hr fun s₂ x₂ g=>⟨rfl,_,x₂,g⟩) fun _ _ h=>h) (hs env)
end Wk
namespace Wk
variable{prog:Program}{w:World}{W:Wd}{k:Nat}{K:List (Str×NameKind)}{ρ ρ':Rho}{pos p apos:Pos}
private theorem wQ{h:Heap}{a L:Addr}{vs:Array Value}{m:Str→Option Value}(hp:h.PlainList a vs)(hn:h.Ns L m):a≠L:=fun e=>by
 obtain⟨n,hp⟩:=hp
 obtain⟨o,es,ep,ho,hd,_⟩:=hn
 rw[e,ho] at hp;cases hp;cases hd
private theorem xJ{h:Heap}{a c:Addr}{vs:Array Value}{v:Option Value}(hp:h.PlainList a vs)(hc:h.IsCell c v):c≠a:=fun e=>by
 obtain⟨n,hp⟩:=hp
 obtain⟨o,ho,hd⟩:=hc
 rw[←e,ho] at hp;cases hp;cases hd
private theorem St.freeze{s₀ s:Shared}{X₀ X:Addr→Prop}{env:Env}{y:Str}{ds:List PyData}(x:St W s₀ X₀ env ρ X s)(hy:ρ.lookup y=some (.own ds)) :
    ∃X',St W s₀ X₀ env (upd ρ y (.v (.list ds))) X' s∧∀b,X' b→X b:=by
  obtain⟨m,hn,hv,hd⟩:=x.vals
  obtain⟨v,h1,a,vs,rfl,h2,h3,h4,h5,h6⟩:=hv y _ hy
  have hL:env.locals≠a:=(wQ h5 hn).symm
  refine⟨fun b=>X b∧b≠a,⟨x.inv0,x.ext,x.fk,x.gl,x.bu,x.lo,⟨x.xl,hL⟩,fun b hb=>⟨x.x0 b hb,fun e=>h4 (e▸hb)⟩,x.xts,fun b hb=>x.xs b hb.1,fun z hz=>?_,x.ap,m,hn,fun z sl hz=>?_,fun z u es fs b hz hu g1 g2=>?_⟩,fun b hb=>hb.1⟩
  · obtain⟨c,v,g1,g2,g3,g4⟩:=x.ce z hz
    exact⟨c,v,g1,g2,g3,g4,xJ h5 g2⟩
  · rw[yE] at hz
    by_cases e:z=y
    · subst e
      rw[if_pos rfl] at hz;cases hz
      exact⟨_,h1,.list (fun h=>h.2 rfl) h5 (h6.frame (Fram.mono fun b hb=>hb.1))⟩
    · rw[if_neg e] at hz
      obtain⟨u,g1,g2⟩:=hv z sl hz
      refine⟨u,g1,?_⟩
      cases sl with
      | v d=>exact Rd.frame (Fram.mono fun b hb=>hb.1) g2
      | opq=>trivial
      | own es =>
        obtain⟨b,us,e1,e2,e3,e4,e5,e6⟩:=g2
        subst e1
        exact⟨b,us,rfl,e2,⟨e3,fun hba=>e (hd z y es ds a hz hy (hba▸g1) h1)⟩,e4,e5,RdAll.frame (Fram.mono fun b hb=>hb.1) e6⟩
  · rw[yE] at hz hu
    by_cases e:z=y
    · rw[if_pos e] at hz;cases hz
    · by_cases e':u=y
      · rw[if_pos e'] at hu;cases hu
      · rw[if_neg e] at hz;rw[if_neg e'] at hu
        exact hd z u es fs b hz hu g1 g2
private theorem Sx.freeze{y:Str}{ds:List PyData}{sts:List Stmt}{o:Out}(hy:ρ.lookup y=some (.own ds))(h:Sx prog w W k K (upd ρ y (.v (.list ds))) sts o):Sx prog w W k K ρ sts o:=.mk fun A s₀ X₀ env X s E R hk x=>by
 obtain⟨X',x',hx⟩:=x.freeze hy
 exact wpAny_mono (h.run A s₀ X₀ env X' s E R hk x') (fun f s' hf=>hf.grow fun b o hb ho=>⟨ho,fun h=>hb (hx b h)⟩) fun _ _ h=>h
noncomputable def flat:PyData→Bool
 | .none | .bool _ | .int _ | .str _=>true
 | _=>false
private theorem Rd.flat{X X':Addr→Prop}{h h':Heap}{v:Value}{d:PyData}(r:Rd X h v d)(hd:flat d=true):Rd X' h' v d:=by
 cases r with
 | none=>exact .none
 | bool b=>exact .bool b
 | int i t=>exact .int i t
 | str x t=>exact .str x t
 | list=>cases hd
 | tuple=>cases hd
private theorem Ev.thaw{y:Str}{ds:List PyData}{e:PySem.Expr}{d:PyData}(hy:ρ.lookup y=some (.own ds))(h:Ev prog w W k K (upd ρ y (.v (.list ds))) e d)(hd:flat d=true:=by rfl):Ev prog w W k K ρ e d:=.mk fun A s₀ X₀ env X s E R hk x=>by
 obtain⟨X',x',hx⟩:=x.freeze hy
 exact wpAny_mono (h.run A s₀ X₀ env X' s E R hk x') (fun v s' ⟨hv,e⟩=>⟨hv.flat hd,e⟩) fun _ _ h=>h
private theorem Tr.thaw{y:Str}{ds:List PyData}{e:PySem.Expr}{b:Bool}(hy:ρ.lookup y=some (.own ds))(h:Tr prog w W k K (upd ρ y (.v (.list ds))) e b):Tr prog w W k K ρ e b:=.mk fun A s₀ X₀ env X s E R hk x=>by
 obtain⟨X',x',hx⟩:=x.freeze hy
 exact wpAny_mono (h.run A s₀ X₀ env X' s E R hk x') (fun v s' ⟨hv,e⟩=>⟨hv,e⟩) fun _ _ h=>h
private theorem St.mutateE{s₀ s:Shared}{X₀ X:Addr→Prop}{env:Env}{y:Str}{ds ds':List PyData}{a:Addr}{vs vs':Array Value}{h':Heap}{tk:Tok}(x:St W s₀ X₀ env ρ X s)(hy:ρ.lookup y=some (.own ds))
    {m:Str→Option Value} (hm:s.heap.Ns env.locals m) (hh:Holds env m s.heap y (.ref a)) (h0:s₀.heap.get? a=none) (hX:X a) (hX₀:¬ X₀ a) (hp:s.heap.PlainList a vs) (hp':h'.PlainList a vs') (hL:∀b o,b≠a→s.heap.get? b=some o→h'.get? b=some o) (hr:RdAll X h' vs'.toList ds') :
    St W s₀ X₀ env (upd ρ y (.own ds')) X {s with heap:=h',toks:=tk}:=by
  obtain⟨m₂,hn,hv,hd⟩:=x.vals
  have em:m₂=m:=by
    obtain⟨o,es,ep,h1,h2,_,h3⟩:=hn
    obtain⟨o',es',ep',h1',h2',_,h3'⟩:=hm
    rw[h1] at h1';cases h1';rw[h2] at h2';cases h2';funext n;rw[←h3,←h3']
  subst em
  have fr:Fram X X s.heap h':=fun b o hb e _=>⟨hL b o (fun e'=>hb (e'▸hX)) e,hb⟩
  have cellk:∀z c u,env.kindOf z=some .cell→env.cells.lookup z=some c→s.heap.IsCell c u→h'.IsCell c u:=fun z c u _ _ hc=>by
    have:=xJ hp hc
    obtain⟨o,ho,hdc⟩:=hc
    exact⟨o,hL c o this ho,hdc⟩
  have cellb:∀z c u,env.kindOf z=some .cell→env.cells.lookup z=some c→h'.IsCell c u→s.heap.IsCell c u:=fun z c u hz hc hcl=>by
    obtain⟨c',u',h1,h2,_,_⟩:=x.ce z hz
    rw[hc] at h1;cases h1
    have h3:=cellk z c u' hz hc h2
    obtain⟨o,ho,hdc⟩:=hcl
    obtain⟨o',ho',hd'⟩:=h3
    rw[ho] at ho';cases ho';rw[hdc] at hd';cases hd'
    exact h2
  refine⟨x.inv0,?_,x.fk,x.gl,x.bu,x.lo,x.xl,x.x0,x.xts,fun b hb=>?_,fun z hz=>?_,x.ap,m₂,?_,fun z t hz=>?_,fun z u ds es b hz hu h1 h2=>?_⟩
  · obtain⟨h₁,tk₁,e₁,k₁,i₁⟩:=x.ext
    refine⟨h',tk,by rw[e₁],fun b o hb e=>?_,W.stable _ _ x.inv fun b o e hc=>hL b o ?_ e⟩
    · have hh:s.heap.get? b=some o:=by rw[e₁];exact k₁ b o hb e
      exact hL b o (fun e'=>by rw[e',h0] at e;cases e) hh
    · rintro rfl
      obtain⟨n,hp⟩:=hp
      rw[hp] at e;cases e
      rcases hc with hc|⟨hc|hc,_⟩
      · exact x.nB h0 hc
      · cases hc
      · exact absurd (Value.type.inj hc) (by decide)
  · by_cases e:b=a
    · obtain⟨n,hp'⟩:=hp';exact⟨_,e▸hp'⟩
    · obtain⟨o,ho⟩:=x.xs b hb;exact⟨o,hL b o e ho⟩
  · obtain⟨c,u,h1,h2,h3,h4⟩:=x.ce z hz
    exact⟨c,u,h1,cellk z c u hz h1 h2,h3,h4⟩
  · exact hn.at' fun o ho=>hL _ o (wQ hp hn).symm ho
  · rw[yE] at hz
    by_cases e:z=y
    · subst e
      rw[if_pos rfl] at hz;cases hz
      exact⟨_,hh.at fun c w=>cellk z c w,a,vs',rfl,h0,hX,hX₀,hp',hr⟩
    · rw[if_neg e] at hz
      obtain⟨u,h1,h2⟩:=hv z t hz
      refine⟨u,h1.at fun c w=>cellk z c w,?_⟩
      cases t with
      | v d=>exact Rd.frame fr h2
      | opq=>trivial
      | own es =>
        obtain⟨b,us,e1,e2,e3,e4,⟨n,e5⟩,e6⟩:=h2
        subst e1
        exact⟨b,us,rfl,e2,e3,e4,⟨n,hL b _ (fun hba=>e (hd z y es ds a hz hy (hba▸h1) hh)) e5⟩,RdAll.frame fr e6⟩
  · rw[yE] at hz hu
    have h1':=h1.at fun c w=>cellb z c w
    have h2':=h2.at fun c w=>cellb u c w
    have ez:∃fs,ρ.lookup z=some (.own fs):=by
      by_cases e:z=y
      · subst e;exact⟨_,hy⟩
      · rw[if_neg e] at hz;exact⟨_,hz⟩
    have eu:∃fs,ρ.lookup u=some (.own fs):=by
      by_cases e:u=y
      · subst e;exact⟨_,hy⟩
      · rw[if_neg e] at hu;exact⟨_,hu⟩
    obtain⟨f1,hz'⟩:=ez
    obtain⟨f2,hu'⟩:=eu
    exact hd z u f1 f2 b hz' hu' h1' h2'
private theorem St.mutate{s₀ s:Shared}{X₀ X:Addr→Prop}{env:Env}{y:Str}{ds ds':List PyData}{a:Addr}{vs vs':Array Value}{h':Heap}{tk:Tok}(x:St W s₀ X₀ env ρ X s)(hy:ρ.lookup y=some (.own ds))
  {m:Str→Option Value} (hm:s.heap.Ns env.locals m) (hh:Holds env m s.heap y (.ref a)) (h0:s₀.heap.get? a=none) (hX:X a) (hX₀:¬ X₀ a) (hp:s.heap.PlainList a vs) (hp':h'.PlainList a vs') (hs:Heap.SameBut a s.heap h') (hr:RdAll X s.heap vs'.toList ds') :
  St W s₀ X₀ env (upd ρ y (.own ds')) X {s with heap:=h',toks:=tk}:=by
 have hL:∀b o,b≠a→s.heap.get? b=some o→h'.get? b=some o:=fun b o hb e=>(hs.2 b hb).trans e
 exact x.mutateE hy hm hh h0 hX hX₀ hp hp' hL (hr.frame fun b o hb e _=>⟨hL b o (fun e'=>hb (e'▸hX)) e,hb⟩)
end Wk
namespace Wk
variable{prog:Program}{w:World}{W:Wd}{k:Nat}{K:List (Str×NameKind)}{ρ ρ':Rho}{pos p apos npos:Pos}
private theorem St.own{s₀ s:Shared}{X₀ X:Addr→Prop}{env:Env}{y:Str}{ds:List PyData}(x:St W s₀ X₀ env ρ X s)(hy:ρ.lookup y=some (.own ds)) :
  ∃m a vs,s.heap.Ns env.locals m∧Holds env m s.heap y (.ref a)∧s₀.heap.get? a=none∧X a∧¬ X₀ a∧s.heap.PlainList a vs∧RdAll X s.heap vs.toList ds:=by
 obtain⟨m,v,hn,h1,a,vs,rfl,h2,h3,h4,h5,h6⟩:=x.slotx hy
 exact⟨m,a,vs,hn,h1,h2,h3,h4,h5,h6⟩
private theorem St.ldOwn{A:Around}{E:Value→Shared→Prop}{s₀ s:Shared}{X₀ X:Addr→Prop}{env:Env}{y:Str}{m:Str→Option Value}{v:Value}{Q:Value→Shared→Prop}(x:St W s₀ X₀ env ρ X s)(hn:s.heap.Ns env.locals m)
  (h:Holds env m s.heap y v) (hQ:Q v s) (hd:(y==("__debug__":Str))=false:=by rfl):wpAny (model prog w) A (eval (.Name y npos) env) Q E s:=by
 refine wpAny_Name ?_ hd
 rcases h with⟨h1,h3⟩|⟨h1,c,h3,h4⟩
 ·exact wpAny_loadName_local x.fk h1 hn h3 hQ
 ·exact wpAny_loadName_cell x.fk h1 h3 h4 hQ
private theorem St.holds{s₀ s s':Shared}{X₀ X:Addr→Prop}{env:Env}{y:Str}{m:Str→Option Value}{v:Value}(x:St W s₀ X₀ env ρ X s)(e:W.Ext s s')(hn:s.heap.Ns env.locals m)(h:Holds env m s.heap y v) :
  s'.heap.Ns env.locals m∧Holds env m s'.heap y v :=
 ⟨hn.at' fun o ho=>e.get (x.nts x.lo) ho,h.at fun c w hk hc ⟨o,ho,r⟩=>by
  obtain⟨c',v',h1,h2,h3,h4⟩:=x.ce y hk
  rw[hc] at h1;cases h1
  exact⟨o,e.get (x.nts h3) ho,r⟩⟩
private theorem Ex.append{y:Str}{e:PySem.Expr}{ds:List PyData}{d:PyData}(hy:ρ.lookup y=some (.own ds))(he:Ev prog w W k K ρ e d)(hsz:ds.length≤sizeLine)
  (hs:∀env,starEach [e] env=[(false,eval e env)]:=by intro _;rfl) (hline:(apos.endLine==pos.line)=true:=by rfl) (hd:(y==("__debug__":Str))=false:=by rfl) :
  Ex prog w W k K ρ (.Expr (.Call (.Attribute (.Name y npos) "append" apos) [e] [] pos) p) (.next (upd ρ y (.own (ds++[d])))):=.mk fun A s₀ X₀ env X s E R hk x=>by
 obtain⟨m,a,vs,hn,hh,h0,hX,hX₀,hp,hr⟩:=x.own hy
 rw[exec_Expr env _ p (by unfold interactive;rw[x.fk];rfl) rfl]
 refine wpAny_bind (wpAny_standAt (wpAny_bind (Call_method1 rfl (hs env) hline (x.ldOwn hn hh ?_ hd))))
 have hpn:=hp
 obtain⟨n,hpn⟩:=hpn
 refine⟨"list","list.append",F.plainAttrs_list,F.slot_list_append,F.type_list_append,⟨_,hpn,rfl⟩,fun b hb=>by cases hb;exact⟨_,hpn,rfl⟩,?_⟩
 refine P.append_list (wpAny_mono (he.run A s₀ X₀ env X s E R hk x) (fun v s₁ ⟨hv,e1⟩=>?_) fun _ _ h=>h)
 have x1:=x.step e1
 have hp1:IsL s₁.heap a vs n:=e1.get (x.nts h0) hpn
 obtain⟨hn1,hh1⟩:=x.holds e1 hn hh
 have hlen:vs.size=ds.length:=by have:=hr.length;simpa using this
 refine⟨vs,n,by lia,hp1,?_⟩
 rw[dropValue_plain (by intro a h;cases h)]
 refine wpAny_pure ⟨rfl,X,x1.mutate hy hn1 hh1 h0 hX hX₀ ⟨n,hp1⟩ (vs':=vs.push v) ⟨_,by rw[Heap.get?_update_self _ hp1 rfl];rfl⟩ (Heap.SameBut.update ..) ?_,fun b o hb ho=>?_⟩
 ·rw[Array.toList_push]
  exact(hr.frame (e1.fram x.ts)).append (.cons hv .nil)
 ·exact⟨(Heap.get?_update_other _ _ (fun (e:a=b)=>hb (e▸hX))).trans (e1.get (fun h=>hb (x.ts b h)) ho),hb⟩
end Wk
end
section
open PySem PyProof.Rows
open Builtin
set_option maxHeartbeats 400000
set_option maxRecDepth 100000
set_option autoImplicit false
set_option linter.unusedVariables false
namespace Wk
private theorem zAp(l:Addr)(items:Array Value)(n:Nat)(i:Int)(u:Tok)(j:Nat)(y v:Value)(hf:Builtin.List.listFitsIndex i=true)(hj:i=(j:Int))(hlt:j<items.size)(hsz:items.size≤sizeLine) :
  Meets (Builtin.«list.__setitem__» ⟨[.ref l,.int i u,v],[]⟩) (fun _ R s=>s.heap.get? l=some {cls:=.type "list",dict:=none,data:=.seq items n,slots:=#[]}∧R (.ok (.ret .none)) {s with heap:=s.heap.update l (Obj.mapSeq (·.setIfInBounds j v))}) :=
 .of_wp fun prog w A R s h=>by
  obtain⟨hl,h⟩:=h
  show wpAny _ _ (Builtin.List.listSubscript? (.int i u)>>=_) _ _ s
  refine wpAny_bind (wpAny_listSubscript_int hf ?_)
  clear hf
  subst hj
  show wpAny _ _ ((seqItemAt l j>>=fun r=>pure (r.map (j,·)))>>=_) _ _ s
  refine wpAny_bind (wpAny_bind (wpAny_seqItemAt hl rfl (wpAny_pure ?_)))
  rw[Array.getElem?_eq_getElem hlt]
  show wpAny _ _ (setSeqItemAt l j v>>=_) _ _ s
  refine wpAny_bind (wpAny_setSeqItemAt hl rfl ?_)
  first
   | exact wpAny_bind (wpAny_pure (wpAny_pure ⟨.none,rfl,h⟩))
   | exact wpAny_pure ⟨.none,rfl,h⟩
private theorem zB2{prog:Program}{w:World}{A:Around}{E:Value→Shared→Prop}{s:Shared}{l:Addr}{items:Array Value}{n:Nat}{i:Int}{u:Tok}{j:Nat}{v:Value}{Q:Unit→Shared→Prop}(hl:IsL s.heap l items n)
  (hf:Builtin.List.listFitsIndex i=true) (hj:i=(j:Int)) (hlt:j<items.size) (hsz:items.size≤sizeLine) (h:Q () {s with heap:=s.heap.update l (Obj.mapSeq (·.setIfInBounds j v))}):wpAny (model prog w) A (setItem (.ref l) (.int i u) v) Q E s:=by
 have hT:s.TypeIs (.ref l) "list":=⟨_,hl,rfl⟩
 unfold setItem
 try with_reducible refine wpAny_holding ?_
 first | refine wpAny_bind (wpAny_pure ?_) | skip
 refine wpAny_bind (wpAny_sequenceKey hT (by decide) ?_)
 refine wpAny_bind (wpAny_callSpecial?_slot (name:=Str.ofString "__setitem__") hT PySem.F.slot_list_setitem
  (call_meets PySem.F.slot_list_setitem hT PySem.F.entry_list_setitem (PySem.F.args_list_setitem_3 _ _ _) (zAp l items n i u j .none v hf hj hlt hsz) ⟨hl,?_⟩))
 exact wpAny_pure h
variable{prog:Program}{w:World}{W:Wd}{k:Nat}{K:List (Str×NameKind)}{ρ ρ':Rho}{pos p apos npos spos:Pos}
private theorem RdAll.set{X:Addr→Prop}{h:Heap}{vs:List Value}{ds:List PyData}(a:RdAll X h vs ds){v:Value}{d:PyData}(b:Rd X h v d)(j:Nat):RdAll X h (vs.set j v) (ds.set j d):=by
  induction ds generalizing vs j with
  | nil=>obtain rfl:=a.n;exact .nil
  | cons d ds ih =>
    obtain⟨v,r,rfl,p,q⟩:=a.c
    cases j with
    | zero=>exact .cons b q
    | succ j=>exact .cons p (ih q j)
private theorem Ex.augsub{y:Str}{i value:PySem.Expr}{op:Operator}{ds:List PyData}{j:Nat}{z:Int}{a b d:PyData}(hy:ρ.lookup y=some (.own ds))(hi:Ev prog w W k K ρ i (.int z))(hz:z=(j:Int))(ha:ds[j]?=some a)
    (he:Ev prog w W k K ρ value b) (hop:Op2i prog w W op a b d) (hsz:ds.length≤sizeLine)
    (hau:∀ov iv new,augStore i ov iv new=(do holding [new,ov,iv] (setItem ov iv new);release [new,ov,iv] [];pure .next):=by intro _ _ _;rfl) (hd:(y==("__debug__":Str))=false:=by rfl) :
    Ex prog w W k K ρ (.AugAssign (.Subscript (.Name y npos) i spos) op value pos) (.next (upd ρ y (.own (ds.set j d)))):=.mk fun A s₀ X₀ env X s E R hk x=>by
  obtain⟨m,l,vs,hn,hh,h0,hX,hX₀,hp,hr⟩:=x.own hy
  obtain⟨n,hpn⟩:=hp
  have hlt:j<ds.length:=(List.getElem?_eq_some_iff.mp ha).1
  have hlen:vs.size=ds.length:=by have:=hr.length;simpa using this
  have hs24:(sizeLine:Int)<2^62:=by decide
  have hj62 : (j : Int) < 2 ^ 62 := by have : (j : Int) < ds.length := by exact_mod_cast hlt
                                       have:(ds.length:Int)≤sizeLine:=by exact_mod_cast hsz
                                       lia
  refine wpAny_AugAssign_Subscript_any (x.ldOwn hn hh (wpAny_mono (hi.run A s₀ X₀ env X s E R hk x) (fun iv s₁ ⟨hiv,e1⟩=>?_) fun _ _ h=>h) hd) hau
  cases hiv
  have x1:=x.step e1
  have hp1:IsL s₁.heap l vs n:=e1.get (x.nts h0) hpn
  obtain⟨u,hu,hru⟩:=hr.get ha
  refine wpAny_getItem_list (x:=u) ⟨_,hp1,rfl,n,rfl⟩ (by lia) (by lia) (by rw[hz];simpa using hu) ?_
  refine wpAny_mono (he.run A s₀ X₀ env X s₁ E R hk x1) (fun v s₂ ⟨hv,e2⟩=>?_) fun _ _ h=>h
  have x2:=x1.step e2
  refine wpAny_mono (hop A k X s₂ u v E R e2.inv x.ts x2.xs (hru.frame ((e1.trans e2).fram x.ts)) hv) (fun r s₃ ⟨hr3,e3⟩=>?_) fun _ _ h=>h
  have e13:=(e1.trans e2).trans e3
  have x3:=x.step e13
  have hp3:IsL s₃.heap l vs n:=e13.get (x.nts h0) hpn
  obtain⟨hn3,hh3⟩:=x.holds e13 hn hh
  refine zB2 hp3 (fitsIndex_of (by lia) (by lia)) hz (by lia) (by lia) ?_
  refine⟨rfl,X,x3.mutate hy hn3 hh3 h0 hX hX₀ ⟨n,hp3⟩ (vs':=vs.setIfInBounds j r) ⟨_,by rw[Heap.get?_update_self _ hp3 rfl];rfl⟩ (Heap.SameBut.update ..) ?_,fun b o hb ho=>?_⟩
  · rw[Array.toList_setIfInBounds]
    exact(hr.frame (e13.fram x.ts)).set hr3 j
  · exact⟨(Heap.get?_update_other _ _ (fun (e:l=b)=>hb (e▸hX))).trans (e13.get (fun h=>hb (x.ts b h)) ho),hb⟩
end Wk
end
section
open PySem PyProof.Rows
set_option maxHeartbeats 400000
set_option autoImplicit false
set_option linter.unusedVariables false
namespace Wk
variable{prog:Program}{w:World}{W:Wd}{k:Nat}{K:List (Str×NameKind)}{ρ ρ':Rho}{pos p apos npos spos:Pos}
section
variable{a b:Int}{x y:Str}
private theorem qE:Op2i prog w W .Add (.int a) (.int b) (.int (a+b)):=fun A k X s v u E r i tx xs h1 h2=>by
 obtain⟨_,rfl⟩:=Rd.v h1;obtain⟨_,rfl⟩:=Rd.v h2;exact P.iadd_int ⟨.int _ _,.of_toks i⟩
private theorem zM2:Op2i prog w W .Sub (.int a) (.int b) (.int (a-b)):=fun A k X s v u E r i tx xs h1 h2=>by
 obtain⟨_,rfl⟩:=Rd.v h1;obtain⟨_,rfl⟩:=Rd.v h2;exact P.isub_int ⟨.int _ _,.of_toks i⟩
private theorem zQ8(hm:IntMulOk a b):Op2i prog w W .Mult (.int a) (.int b) (.int (a*b)):=fun A k X s v u E r i tx xs h1 h2=>by
 obtain⟨_,rfl⟩:=Rd.v h1;obtain⟨_,rfl⟩:=Rd.v h2;exact P.imul_int ⟨.int _ _,.of_toks i⟩ hm
private theorem zIe(hb:0≤b):Op2i prog w W .RShift (.int a) (.int b) (.int (a.fdiv (2^b.toNat))):=fun A k X s v u E r i tx xs h1 h2=>by
 obtain⟨_,rfl⟩:=Rd.v h1;obtain⟨_,rfl⟩:=Rd.v h2;exact irshift_int hb ⟨.int _ _,.of_toks i⟩
private theorem zCg(hb:0≤b)(hs:(Builtin.Int.intBits a:Int)+b≤2^27):Op2i prog w W .LShift (.int a) (.int b) (.int (a*2^b.toNat)):=fun A k X s v u E r i tx xs h1 h2=>by
 obtain⟨_,rfl⟩:=Rd.v h1;obtain⟨_,rfl⟩:=Rd.v h2;exact ilshift_int hb hs ⟨.int _ _,.of_toks i⟩
private theorem qU(hs:x.length+y.length≤sizeLine):Op2i prog w W .Add (.str x) (.str y) (.str (x++y)):=fun A k X s v u E r i tx xs h1 h2=>by
 obtain⟨_,rfl⟩:=Rd.v h1;obtain⟨_,rfl⟩:=Rd.v h2;exact iadd_str (fun t' tk=>⟨.str _ _,.of_toks i⟩) hs
end
noncomputable def uR{α:Type}(xs:List α)(lo hi:Option Int):List α:=(xs.drop (lo.elim 0 (clipAt xs.length))).take (hi.elim xs.length (clipAt xs.length)-lo.elim 0 (clipAt xs.length))
private theorem zA3(n m:Nat):clipAt n (m:Int)=min m n:=by
 unfold clipAt
 rw[if_neg (Int.not_lt.mpr (Int.natCast_nonneg m)),Int.max_eq_right (Int.le_min.mpr ⟨Int.natCast_nonneg m,Int.natCast_nonneg n⟩)]
 rcases Nat.le_total m n with h|h
 ·rw[Int.min_eq_left (Int.ofNat_le.mpr h),Nat.min_eq_left h];rfl
 ·rw[Int.min_eq_right (Int.ofNat_le.mpr h),Nat.min_eq_right h];rfl
structure Prt(prog:Program)(w:World)(W:Wd)(k:Nat)(K:List (Str×NameKind))(ρ:Rho)(e:Option PySem.Expr)(i:Option Int):Prop where
 run:∀A s₀ X₀ env X s E,Room k A→env.scope.names=K→St W s₀ X₀ env ρ X s→wpAny (model prog w) A (evalPart e env) (fun v s'=>(∃t,v=partValue (i.map fun z=>(z,t)))∧W.Ext s s') E s
private theorem Prt.none:Prt prog w W k K ρ none none:=.mk fun A s₀ X₀ env X s E R hk x=>by rw[evalPart_none];exact wpAny_pure ⟨⟨0,rfl⟩,.refl x.inv⟩
private theorem Prt.some{e:PySem.Expr}{i:Int}(h:Ev prog w W k K ρ e (.int i)):Prt prog w W k K ρ (some e) (some i):=.mk fun A s₀ X₀ env X s E R hk x=>by
 rw[evalPart_some]
 exact wpAny_mono (h.run A s₀ X₀ env X s E R hk x) (fun v s' ⟨hv,e1⟩=>by obtain⟨_,rfl⟩:=Rd.v hv;exact⟨⟨_,rfl⟩,e1⟩) fun _ _ h=>h
private theorem zF4(i:Option Int)(t:Tok):IsPart (partValue (i.map fun z=>(z,t))) i:=by
 cases i with
 | none=>exact .none
 | some z=>exact .int z t
private theorem Ev.slicel{value:PySem.Expr}{lower upper:Option PySem.Expr}{ds:List PyData}{lo hi:Option Int}(h:Ev prog w W k K ρ value (.list ds))(h1:Prt prog w W k K ρ lower lo)(h2:Prt prog w W k K ρ upper hi)(hsz:ds.length≤sizeLine) :
  Ev prog w W k K ρ (.Subscript value (.Slice lower upper none p) pos) (.list (uR ds lo hi)):=.mk fun A s₀ X₀ env X s E R hk x=>by
 rw[eval_Subscript]
 refine wpAny_bind (wpAny_mono (h.run A s₀ X₀ env X s _ R hk x) (fun o s₁ ⟨ho,e1⟩=>wpAny_bind (wpAny_holding (wpAny_Slice (wpAny_mono (h1.run A s₀ X₀ env X s₁ _ R hk (x.step e1)) (fun l s₂ ⟨⟨t1,hl⟩,e2⟩ =>
  wpAny_mono (h2.run A s₀ X₀ env X s₂ _ R hk ((x.step e1).step e2)) (fun u s₃ ⟨⟨t2,hu⟩,e3⟩=>?_) fun _ _ x=>x) fun _ _ x=>x)))) fun _ _ x=>x)
 rw[evalPart_none]
 refine wpAny_pure (wpAny_bind (wpAny_standAt ?_))
 subst hl;subst hu
 have e13:=(e1.trans e2).trans e3
 have x3:=x.step e13
 have ho3:=ho.frame ((e2.trans e3).fram x.ts)
 obtain⟨a,vs,rfl,hx,hp,ha⟩:=Rd.l ho3
 obtain⟨n,hp⟩:=hp
 have hlen:vs.size=ds.length:=by have:=ha.length;simpa using this
 have hpl:(s₃.heap.push {cls:=.type "slice",data:=.fields #[partValue (lo.map fun z=>(z,t1)),partValue (hi.map fun z=>(z,t2)),.none]}).IsList a vs:=⟨_,Heap.get?_push_of_some _ hp,rfl,n,rfl⟩
 have hT:({s₃ with heap:=s₃.heap.push {cls:=.type "slice",data:=.fields #[partValue (lo.map fun z=>(z,t1)),partValue (hi.map fun z=>(z,t2)),.none]}}:Shared).TypeIs (.ref a) "list":=⟨_,Heap.get?_push_of_some _ hp,rfl⟩
 refine wpAny_bind ?_
 rw[getitemInPython_of_ne hT.not_modules]
 refine wpAny_bind (wpAny_specialOf hT list_getitem_lookup ?_)
 have fin:wpAny (model prog w) A (operate [.ref s₃.heap.objs.size,.ref a] (getItem (.ref a) (.ref s₃.heap.objs.size))) (fun r s₄=>wpAny (model prog w) A (letTemporaryGo value (.ref a) r>>=fun _=>pure r) (fun v s'=>Rd X s'.heap v (.list (uR ds lo hi))∧W.Ext s s') E s₄) E
   {s₃ with heap:=s₃.heap.push {cls:=.type "slice",data:=.fields #[partValue (lo.map fun z=>(z,t1)),partValue (hi.map fun z=>(z,t2)),.none]}}:=by
  refine wpAny_operating (wpAny_getItem_list_slice hpl (Heap.IsSliceOf.new ..) (zF4 lo t1) (zF4 hi t2) .none (by simp) ?_ (by lia))
  refine wpAny_bind (wpAny_letTemporaryGo (wpAny_pure ⟨?_,e13.trans (.of_heap (tk:=s₃.toks) e13.inv fun b o e=>Heap.get?_push_of_some _ (Heap.get?_push_of_some _ e))⟩))
  refine Rd.new_list (h:=s₃.heap.push {cls:=.type "slice",data:=.fields #[partValue (lo.map fun z=>(z,t1)),partValue (hi.map fun z=>(z,t2)),.none]}) (fun b hb=>?_) ?_
  ·obtain⟨o,ho⟩:=x3.xs b hb;exact⟨o,Heap.get?_push_of_some _ ho⟩
  ·rw[slicePick_plain]
   simp only[hlen]
   exact((ha.frame (Fram.of_get fun b o e=>Heap.get?_push_of_some _ e)).drop _).take _
 first
  | exact wpAny_pure (wpAny_bind fin)
  | exact wpAny_bind (wpAny_pure (wpAny_bind fin))
  | exact wpAny_bind fin
end Wk
namespace Wk
variable{prog:Program}{w:World}{W:Wd}{k:Nat}{K:List (Str×NameKind)}{ρ ρ':Rho}{pos p apos npos spos tpos:Pos}
private theorem zCj{s:Shared}{h':Heap}{tk:Tok}(i:W.Inv s.heap)(h:Heap.ExtBut s.heap.objs.size s.heap h'):W.Ext s {s with heap:=h',toks:=tk} :=
 .of_heap i fun b o e=>h b o (Nat.ne_of_lt (Heap.lt_size e)) e
noncomputable def Unp(prog:Program)(w:World)(W:Wd)(x:PyData)(ds:List PyData):Prop :=
 ∀A X s v E,A.handled=none→W.Inv s.heap→(∀b,W.Ts b→X b)→Rd X s.heap v x→wpAny (model prog w) A (unpackItems v ds.length none) (fun vs s'=>RdAll X s'.heap vs ds∧W.Ext s s') E s
private theorem zW{ds:List PyData}:Unp prog w W (.tuple ds) ds:=fun A X s v E hh i tx hv=>by
 obtain⟨a,vs,rfl,hx,hp,ha⟩:=Rd.tp hv
 obtain⟨n,hp⟩:=hp
 have hlen:vs.size=ds.length:=by have:=ha.length;simpa using this
 rw[←hlen]
 refine unpackItems_tuple hh ⟨_,hp,rfl,n,rfl⟩ fun h' he=>?_
 have e:=zCj (W:=W) (tk:=s.toks) i he
 exact⟨ha.frame (e.fram tx),e⟩
private theorem RdAll.reverse{X:Addr→Prop}{h:Heap}{vs:List Value}{ds:List PyData}(a:RdAll X h vs ds):RdAll X h vs.reverse ds.reverse:=by
 induction ds generalizing vs with
 | nil=>obtain rfl:=a.n;exact .nil
 | cons d ds ih=>obtain⟨v,r,rfl,p,q⟩:=a.c;rw[List.reverse_cons,List.reverse_cons];exact(ih q).append (.cons p .nil)
structure Sto(prog:Program)(w:World)(W:Wd)(K:List (Str×NameKind))(ρ:Rho)(f:List (Env→Value→Sem Unit))(ds:List PyData)(ρ':Rho):Prop where
 run:∀A s₀ X₀ env X s vs E,env.scope.names=K→St W s₀ X₀ env ρ X s→RdAll X s.heap vs ds→wpAny (model prog w) A (assignInOrder (f.map fun g=>g env) vs) (fun _ s'=>St W s₀ X₀ env ρ' X s'∧Grow X s X s') E s
private theorem Sto.nil:Sto prog w W K ρ [] [] ρ:=.mk fun A s₀ X₀ env X s vs E hk x h=>by
 cases h;exact wpAny_pure ⟨x,.refl⟩
noncomputable def envK(K:List (Str×NameKind)):Env:={scope:={kind:=.function,names:=K,isGenerator:=false,isCoroutine:=false},locals:=0,globals:=0,cells:=[]}
private theorem jU{env:Env}{K:List (Str×NameKind)}(hk:env.scope.names=K)(hf:env.scope.kind=.function)(ts:List PySem.Expr)(v:PySem.Expr):swappedStores ts v env=swappedStores ts v (envK K):=by
 have e1:env.blockKind=(envK K).blockKind:=by unfold Env.blockKind;rw[hf];rfl
 have e2:∀n,env.kindOf n=(envK K).kindOf n:=fun n=>by show env.scope.names.lookup n=K.lookup n;rw[hk]
 delta swappedStores
 rw[e1,show env.kindOf=(envK K).kindOf from funext e2]
private theorem Ex.assignS{elts:List PySem.Expr}{f:List (Env→Value→Sem Unit)}{n:Nat}{value:PySem.Expr}{ds:List PyData}{names:List Str}(h:Ev prog w W k K ρ value (.tuple ds))(hst:Sto prog w W K ρ f ds.reverse ρ')
  (hf:∀env,names.reverse.map (fun n=>bindName env n)=f.map fun g=>g env:=by intro _;rfl) (hn:names.length=ds.length:=by rfl)
  (hs:∀env,swapsWithSole [.Tuple elts n tpos] value pos.line env=pure false:=by intro _;rfl) (hw:swappedStores [.Tuple elts n tpos] value (envK K)=pure (some names):=by rfl) :
  Ex prog w W k K ρ (.Assign [.Tuple elts n tpos] value pos) (.next ρ'):=.mk fun A s₀ X₀ env X s E R hk x₀=>by
 refine Assign_Tuple_swapped (wpAny_mono (h.run A s₀ X₀ env X s E R hk x₀) (fun v s₁ ⟨hv,e1⟩=>?_) fun _ _ h=>h) (hs env) (by rw[jU hk x₀.fk];exact hw)
 rw[hn]
 refine wpAny_mono (zW A X s₁ v _ R.1 e1.inv x₀.ts hv) (fun vs s₂ ⟨hvs,e2⟩=>?_) fun _ _ h=>h
 rw[hf env]
 have hrev:RdAll X s₂.heap vs.reverse ds.reverse:=hvs.reverse
 exact wpAny_mono (hst.run A s₀ X₀ env X s₂ _ E hk ((x₀.step e1).step e2) hrev) (fun _ s₃ ⟨x3,g3⟩=>⟨rfl,X,x3,(Grow.ext (e1.trans e2) x₀.ts).trans g3⟩) fun _ _ h=>h
end Wk
namespace Wk
variable{prog:Program}{w:World}{W:Wd}{k:Nat}{K:List (Str×NameKind)}{ρ ρ':Rho}{pos p apos npos spos tpos:Pos}
noncomputable def xG(cs:List (Str×Addr)):List (Str×NameKind)→List (Str×Addr)→List (Str×Addr)
 | [],acc=>acc
 | (n,kd)::r,acc=>if kd == .free then xG cs r ((n,(cs.lookup n).getD 0)::acc) else xG cs r acc
private theorem vS{env:Env}(f:Str×NameKind→List (Str×Addr)→Sem (ForInStep (List (Str×Addr))))
    (hf:∀n kd cs,f (n,kd) cs=if (kd==NameKind.free)=true then (do let a ← cellOf env n;pure (ForInStep.yield ((n,a)::cs))) else pure (ForInStep.yield cs)) :
    ∀(names:List (Str×NameKind)) (acc:List (Str×Addr)),(∀y∈names,y.2=.free→∃c,env.cells.lookup y.1=some c)→forIn names acc f=pure (xG env.cells names acc)
  | [],acc,_=>rfl
  | (n, kd) :: r, acc, h => by
    rw[List.forIn_cons,hf]
    unfold xG
    by_cases hk:(kd==NameKind.free)=true
    · obtain⟨c,hc⟩:=h (n,kd) List.mem_cons_self (by simpa using hk)
      simp only at hc
      rw[if_pos hk,if_pos hk,hc]
      have:cellOf env n=pure c:=by unfold cellOf;rw[hc]
      rw[this]
      exact vS f hf r _ fun y hy=>h y (List.mem_cons_of_mem _ hy)
    · rw[if_neg hk,if_neg hk]
      exact vS f hf r _ fun y hy=>h y (List.mem_cons_of_mem _ hy)
private theorem zCa{env:Env}{scope:Scope}(h:∀y∈scope.names,y.2=.free→∃c,env.cells.lookup y.1=some c):closureFor scope env=pure (xG env.cells scope.names []):=by
 unfold closureFor
 dsimp only
 rw[vS _ (fun n kd cs=>by cases hkc:kd==NameKind.free <;> simp[hkc]) scope.names [] h]
 rfl
private theorem zB9{cs:List (Str×Addr)}{x:Str}{c:Addr}:∀(names:List (Str×NameKind)) (acc:List (Str×Addr)),(∀c',(x,c')∈acc→c'=(cs.lookup x).getD 0)→(xG cs names acc).lookup x=some c→c=(cs.lookup x).getD 0
  | [],acc,h,e=>h c (mem_of_lookup e)
  | (n, kd) :: r, acc, h, e => by
    unfold xG at e
    split at e
    · refine zB9 r _ (fun c' hc'=>?_) e
      rcases List.mem_cons.mp hc' with hc' | hc'
      · cases hc';rfl
      · exact h c' hc'
    · exact zB9 r acc h e
private theorem kH{cs:List (Str×Addr)}{x:Str}:∀(names:List (Str×NameKind)) (acc:List (Str×Addr)),(∃c,acc.lookup x=some c)→∃c,(xG cs names acc).lookup x=some c
  | [],acc,h=>h
  | (n, kd) :: r, acc, h => by
    unfold xG
    split
    · refine kH r _ ?_
      rw[List.lookup_cons]
      cases x==n
      · exact h
      · exact⟨_,rfl⟩
    · exact kH r acc h
private theorem kY{cs:List (Str×Addr)}{x:Str}:∀(names:List (Str×NameKind)) (acc:List (Str×Addr)),(x,NameKind.free)∈names→∃c,(xG cs names acc).lookup x=some c
  | (n, kd) :: r, acc, h => by
    unfold xG
    rcases List.mem_cons.mp h with h|h
    · cases h
      rw[if_pos (by decide)]
      exact kH r _ ⟨(cs.lookup x).getD 0,by simp⟩
    · split
      · exact kY r _ h
      · exact kY r _ h
private theorem QE{cs:List (Str×Addr)}{names:List (Str×NameKind)}{x:Str}{c:Addr}(h:(xG cs names []).lookup x=some c)(hs:∃c',cs.lookup x=some c'):cs.lookup x=some c:=by
 obtain⟨c',hc'⟩:=hs
 have:=zB9 names [] (fun _ h=>nomatch h) h
 rw[hc'] at this
 rw[hc',this];rfl
end Wk
namespace Wk
variable{prog:Program}{w:World}{W:Wd}{k:Nat}{K:List (Str×NameKind)}{ρ ρ' ρc:Rho}{pos p apos npos spos tpos:Pos}
noncomputable def relK(K names:List (Str×NameKind)):List (Str×NameKind):=names.map fun (n,kd)=>if (kd == .free&&K.lookup n==some .cell) then (n,.cell) else (n,kd)
private theorem jR{env:Env}{scope:Scope}(hk:env.scope.names=K)(hf:env.scope.kind=.function):(relabel scope env).names=relK K scope.names:=by
 unfold relabel relK
 simp only[hf,Env.kindOf,hk]
 congr 1
 funext x
 obtain⟨n,kd⟩:=x
 have:(ScopeKind.function==ScopeKind.function)=true:=rfl
 simp[this]
end Wk
namespace Wk
variable{prog:Program}{w:World}{W:Wd}{k:Nat}{K:List (Str×NameKind)}{ρ ρ' ρc:Rho}{pos p apos npos spos tpos:Pos}
private theorem zB4{cs:List (Str×Addr)}{x:Str}{c:Addr}:∀(names:List (Str×NameKind)) (acc:List (Str×Addr)),(xG cs names acc).lookup x=some c→(x,NameKind.free)∈names∨(x,c)∈acc
  | [],acc,h=>.inr (mem_of_lookup h)
  | (n, kd) :: r, acc, h => by
    unfold xG at h
    split at h
    · rename_i hb
      rcases zB4 r _ h with h|h
      · exact .inl (List.mem_cons_of_mem _ h)
      · rcases List.mem_cons.mp h with h|h
        · cases h
          have:kd=.free:=by simpa using hb
          subst this
          exact .inl List.mem_cons_self
        · exact .inr h
    · rcases zB4 r _ h with h|h
      · exact .inl (List.mem_cons_of_mem _ h)
      · exact .inr h
end Wk
namespace Wk
variable{prog:Program}{w:World}{W:Wd}{k:Nat}{K:List (Str×NameKind)}{ρ ρ' ρc:Rho}{pos p apos npos spos tpos:Pos}
private theorem St.otherX{s₀ s:Shared}{X₀ X:Addr→Prop}{env:Env}{D:Addr}{vs vs':Array Value}{h':Heap}{tk:Tok}(x:St W s₀ X₀ env ρ X s)(hρ:∀y ds,ρ.lookup y≠some (.own ds))(h0:s₀.heap.get? D=none)(hX:X D)
  (hp:s.heap.PlainList D vs) (hp':h'.PlainList D vs') (hs:Heap.SameBut D s.heap h'):St W s₀ X₀ env ρ X {s with heap:=h',toks:=tk}:=by
 obtain⟨m,hn,hv,hd⟩:=x.vals
 have hL:∀b o,b≠D→s.heap.get? b=some o→h'.get? b=some o:=fun b o hb e=>(hs.2 b hb).trans e
 have fr:Fram X X s.heap h':=fun b o hb e _=>⟨hL b o (fun e'=>hb (e'▸hX)) e,hb⟩
 have cellk:∀z c u,env.kindOf z=some .cell→env.cells.lookup z=some c→s.heap.IsCell c u→h'.IsCell c u:=fun z c u _ _ hc=>by
  have:=xJ hp hc
  obtain⟨o,ho,hdc⟩:=hc
  exact⟨o,hL c o this ho,hdc⟩
 refine⟨x.inv0,?_,x.fk,x.gl,x.bu,x.lo,x.xl,x.x0,x.xts,fun b hb=>?_,fun z hz=>?_,x.ap,m,?_,fun z t hz=>?_,fun z u ds es b hz hu h1 h2=>?_⟩
 ·obtain⟨h₁,tk₁,e₁,k₁,i₁⟩:=x.ext
  refine⟨h',tk,by rw[e₁],fun b o hb e=>?_,W.stable _ _ x.inv fun b o e hc=>hL b o ?_ e⟩
  ·have hh:s.heap.get? b=some o:=by rw[e₁];exact k₁ b o hb e
   exact hL b o (fun e'=>by rw[e',h0] at e;cases e) hh
  ·rintro rfl
   obtain⟨n,hp⟩:=hp
   rw[hp] at e;cases e
   rcases hc with hc|⟨hc|hc,_⟩
   ·exact x.nB h0 hc
   ·cases hc
   ·exact absurd (Value.type.inj hc) (by decide)
 ·by_cases e:b=D
  ·obtain⟨n,hp'⟩:=hp';exact⟨_,e▸hp'⟩
  ·obtain⟨o,ho⟩:=x.xs b hb;exact⟨o,hL b o e ho⟩
 ·obtain⟨c,u,h1,h2,h3,h4⟩:=x.ce z hz
  exact⟨c,u,h1,cellk z c u hz h1 h2,h3,h4⟩
 ·exact hn.at' fun o ho=>hL _ o (wQ hp hn).symm ho
 ·obtain⟨u,h1,h2⟩:=hv z t hz
  refine⟨u,h1.at fun c w=>cellk z c w,?_⟩
  cases t with
  | v d=>exact Rd.frame fr h2
  | opq=>trivial
  | own es=>exact absurd hz (hρ z es)
 ·exact absurd hz (hρ z ds)
end Wk
namespace Wk
variable{prog:Program}{w:World}{W:Wd}{k:Nat}{K:List (Str×NameKind)}{ρ ρ' ρc:Rho}{pos p apos npos spos tpos:Pos}
private theorem zC5{h:Heap}{c L:Addr}{v:Option Value}{m:Str→Option Value}(hc:h.IsCell c v)(hn:h.Ns L m):c≠L:=fun e=>by
 obtain⟨o,ho,hd⟩:=hc
 obtain⟨o',es,ep,ho',hd',_⟩:=hn
 rw[e,ho'] at ho;cases ho;rw[hd'] at hd;cases hd
private theorem St.storedC{s₀ s:Shared}{X₀ X:Addr→Prop}{env:Env}{y:Str}{v:Value}{sl:Slot}{h':Heap}{tk:Tok}{c:Addr}(x:St W s₀ X₀ env ρ X s)(hl:env.kindOf y=some .cell)(hc:env.cells.lookup y=some c)
  (hn:h'.IsCell c (some v)) (hs:Heap.SameBut c s.heap h') (hsl:uD s₀.heap X₀ X s.heap sl v)
  (hown:∀ds,sl=.own ds→∀z es,ρ.lookup z=some (.own es)→z≠y→∀m',s.heap.Ns env.locals m'→¬ Holds env m' s.heap z v) :
  St W s₀ X₀ env (upd ρ y sl) X {s with heap:=h',toks:=tk}:=by
 obtain⟨m,hm,hv,hd⟩:=x.vals
 obtain⟨c',v₀,hc1,hic,h0,hX⟩:=x.ce y hl
 rw[hc] at hc1;cases hc1
 have hL:∀b o,b≠c→s.heap.get? b=some o→h'.get? b=some o:=fun b o hb e=>(hs.2 b hb).trans e
 have hfr:Fram X X s.heap h':=fun b o hb e _=>⟨hL b o (fun e'=>hb (e'▸hX)) e,hb⟩
 have hpl:∀a vs,X a→s₀.heap.get? a=none→s.heap.PlainList a vs→h'.PlainList a vs:=fun a vs _ _ hp=>by
  have:=(xJ hp hic).symm
  obtain⟨n,e⟩:=hp
  exact⟨n,hL a _ this e⟩
 have cellk:∀z c' u,z≠y→env.cells.lookup z=some c'→s.heap.IsCell c' u→h'.IsCell c' u:=fun z c' u hz hzc ⟨o,ho,hdc⟩=>⟨o,hL c' o (fun e=>hz (x.ap z y c (e▸hzc) hc)) ho,hdc⟩
 have cellb:∀z c' u,z≠y→env.cells.lookup z=some c'→h'.IsCell c' u→s.heap.IsCell c' u:=fun z c' u hz hzc ⟨o,ho,hdc⟩=>⟨o,(hs.2 c' fun e=>hz (x.ap z y c (e▸hzc) hc)).symm.trans ho,hdc⟩
 have holds':∀z u,z≠y→(Holds env m h' z u ↔ Holds env m s.heap z u):=fun z u hz=>by
  constructor
  ·rintro(h|⟨h1,c',h2,h3⟩)
   ·exact .inl h
   ·exact .inr ⟨h1,c',h2,cellb z c' _ hz h2 h3⟩
  ·rintro(h|⟨h1,c',h2,h3⟩)
   ·exact .inl h
   ·exact .inr ⟨h1,c',h2,cellk z c' _ hz h2 h3⟩
 refine⟨x.inv0,?_,x.fk,x.gl,x.bu,x.lo,x.xl,x.x0,x.xts,fun b hb=>?_,fun z hz=>?_,x.ap,m,?_,fun z t hz=>?_,fun z u ds es a hz hu h1 h2=>?_⟩
 ·obtain⟨h₁,tk₁,e₁,k₁,i₁⟩:=x.ext
  refine⟨h',tk,by rw[e₁],fun b o hb e=>?_,W.stable _ _ x.inv fun b o e hc'=>hL b o ?_ e⟩
  ·have hh:s.heap.get? b=some o:=by rw[e₁];exact k₁ b o hb e
   exact hL b o (fun e'=>by rw[e',h0] at e;cases e) hh
  ·rintro rfl
   rcases hc' with hc' | ⟨_,vs,hc'⟩
   ·exact x.nB h0 hc'
   ·obtain⟨o',ho',hd'⟩:=hic
    rw[ho'] at e;cases e;rw[hd'] at hc';cases hc'
 ·by_cases hbl:b=c
  ·obtain⟨o,ho,_⟩:=hn;exact⟨o,hbl▸ho⟩
  ·obtain⟨o,ho⟩:=x.xs b hb;exact⟨o,hL b o hbl ho⟩
 ·obtain⟨c',u,h1,h2,h3,h4⟩:=x.ce z hz
  by_cases e:z=y
  ·subst e
   rw[hc] at h1;cases h1
   exact⟨_,_,hc,hn,h3,h4⟩
  ·exact⟨c',u,h1,cellk z c' u e h1 h2,h3,h4⟩
 ·exact hm.at' fun o ho=>hL _ o (zC5 hic hm).symm ho
 ·rw[yE] at hz
  by_cases e:z=y
  ·subst e
   simp only[if_true] at hz;cases hz
   exact⟨v,.inr ⟨hl,c,hc,hn⟩,hsl.fram hfr hpl⟩
  ·rw[if_neg e] at hz
   obtain⟨u,h1,h2⟩:=hv z t hz
   exact⟨u,(holds' z u e).mpr h1,h2.fram hfr hpl⟩
 ·have hyv:∀{u},Holds env m h' y u→u=v:=fun {u} h=>by
   rcases h with⟨h,_⟩|⟨_,c',h,⟨o,ho,hd⟩⟩
   ·rw[hl] at h;cases h
   ·rw[hc] at h;cases h
    obtain⟨o',ho',hd'⟩:=hn
    rw[ho] at ho';cases ho';rw[hd] at hd';cases hd';rfl
  rw[yE] at hz hu
  by_cases ez:z=y
  ·by_cases eu:u=y
   ·rw[ez,eu]
   ·subst ez
    rw[if_pos rfl] at hz;cases hz
    rw[if_neg eu] at hu
    have:=hyv h1;subst this
    exact absurd ((holds' u _ eu).mp h2) (hown _ rfl u es hu eu _ hm)
  ·by_cases eu:u=y
   ·subst eu
    rw[if_pos rfl] at hu;cases hu
    rw[if_neg ez] at hz
    have:=hyv h2;subst this
    exact absurd ((holds' z _ ez).mp h1) (hown _ rfl z ds hz ez _ hm)
   ·rw[if_neg ez] at hz;rw[if_neg eu] at hu
    exact hd z u ds es a hz hu ((holds' z _ ez).mp h1) ((holds' u _ eu).mp h2)
noncomputable def Stb(K:List (Str×NameKind))(y:Str):Prop:=K.lookup y=some .local∨K.lookup y=some .cell
private theorem St.put{A:Around}{E:Value→Shared→Prop}{s₀ s:Shared}{X₀ X:Addr→Prop}{env:Env}{y:Str}{v:Value}{d:PyData}{Q:Unit→Shared→Prop}(x:St W s₀ X₀ env ρ X s)(hl:Stb env.scope.names y)
  (hv:Rd X s.heap v d) (h:∀s',St W s₀ X₀ env (upd ρ y (.v d)) X s'→Grow X s X s'→Q () s'):wpAny (model prog w) A (storeName env y v) Q E s:=by
 rcases hl with hl|hl
 ·exact x.store hl hv h
 ·obtain⟨c,u,h1,h2,h3,h4⟩:=x.ce y hl
  exact wpAny_storeName_cell x.fk hl h1 h2 fun h' hc' hs'=>h _ (x.storedC hl h1 hc' hs' (sl:=.v d) hv fun ds e=>by cases e) fun b o hb e=>⟨(hs'.2 b fun e'=>hb (e'▸h4)).trans e,hb⟩
end Wk
namespace Wk
variable{prog:Program}{w:World}{W:Wd}{k:Nat}{K:List (Str×NameKind)}{ρ ρ' ρ₁ ρ₂ ρc:Rho}{pos p apos npos spos tpos:Pos}
noncomputable def Sub(ρ' ρ:Rho):Prop:=∀x sl,ρ'.lookup x=some sl→ρ.lookup x=some sl
private theorem Sub.nil:Sub [] ρ:=fun _ _ h=>by cases h
private theorem Sub.cons{x:Str}{sl:Slot}{r:Rho}(h:ρ.lookup x=some sl)(hr:Sub r ρ):Sub ((x,sl)::r) ρ:=fun y t e=>by
 rw[List.lookup_cons] at e
 cases hy:y==x with
 | true=>rw[hy] at e;cases e;rw[beq_iff_eq] at hy;rw[hy];exact h
 | false=>rw[hy] at e;exact hr y t e
private theorem St.weaken{s₀ s:Shared}{X₀ X:Addr→Prop}{env:Env}(x:St W s₀ X₀ env ρ X s)(h:Sub ρ' ρ):St W s₀ X₀ env ρ' X s:=by
 obtain⟨m,hn,hv,hd⟩:=x.vals
 exact⟨x.inv0,x.ext,x.fk,x.gl,x.bu,x.lo,x.xl,x.x0,x.xts,x.xs,x.ce,x.ap,m,hn,fun y sl e=>hv y sl (h y sl e),fun y z ds es a e1 e2=>hd y z ds es a (h y _ e1) (h z _ e2)⟩
private theorem Sx.weakR{sts:List Stmt}(h:Sx prog w W k K ρ sts (.next ρ₁))(hs:Sub ρ₂ ρ₁):Sx prog w W k K ρ sts (.next ρ₂):=.mk fun A s₀ X₀ env X s E R hk x =>
 wpAny_mono (h.run A s₀ X₀ env X s E R hk x) (fun f s' ⟨h1,X',h2,h3⟩=>⟨h1,X',h2.weaken hs,h3⟩) fun _ _ h=>h
private theorem Sx.weakL{sts:List Stmt}{o:Out}(h:Sx prog w W k K ρ₁ sts o)(hs:Sub ρ₁ ρ):Sx prog w W k K ρ sts o:=.mk fun A s₀ X₀ env X s E R hk x=>h.run A s₀ X₀ env X s E R hk (x.weaken hs)
private theorem Ex.weakR{st:Stmt}(h:Ex prog w W k K ρ st (.next ρ₁))(hs:Sub ρ₂ ρ₁):Ex prog w W k K ρ st (.next ρ₂):=.mk fun A s₀ X₀ env X s E R hk x =>
 wpAny_mono (h.run A s₀ X₀ env X s E R hk x) (fun f s' ⟨h1,X',h2,h3⟩=>⟨h1,X',h2.weaken hs,h3⟩) fun _ _ h=>h
private theorem Ex.weakL{st:Stmt}{o:Out}(h:Ex prog w W k K ρ₁ st o)(hs:Sub ρ₁ ρ):Ex prog w W k K ρ st o:=.mk fun A s₀ X₀ env X s E R hk x=>h.run A s₀ X₀ env X s E R hk (x.weaken hs)
noncomputable def Kept(W:Wd)(env:Env)(ys:List Str)(s s':Shared):Prop:=∀b o,¬ W.Ts b→b≠env.locals→(∀y∈ys,env.cells.lookup y≠some b)→s.heap.get? b=some o→s'.heap.get? b=some o
private theorem Kept.refl{env:Env}{ys:List Str}{s:Shared}:Kept W env ys s s:=fun _ _ _ _ _ e=>e
private theorem Kept.trans{env:Env}{ys:List Str}{s₁ s₂ s₃:Shared}(a:Kept W env ys s₁ s₂)(b:Kept W env ys s₂ s₃):Kept W env ys s₁ s₃:=fun c o h1 h2 h3 e=>b c o h1 h2 h3 (a c o h1 h2 h3 e)
private theorem Kept.mono{env:Env}{ys zs:List Str}{s₁ s₂:Shared}(a:Kept W env ys s₁ s₂)(h:∀y∈ys,y∈zs):Kept W env zs s₁ s₂:=fun c o h1 h2 h3 e=>a c o h1 h2 (fun y hy=>h3 y (h y hy)) e
private theorem Kept.ext{env:Env}{ys:List Str}{s₁ s₂:Shared}(a:W.Ext s₁ s₂):Kept W env ys s₁ s₂:=fun c o h1 _ _ e=>a.get h1 e
private theorem Kept.grow{s₀ s s':Shared}{X₀ X:Addr→Prop}{env:Env}{ys:List Str}(x:St W s₀ X₀ env ρ X s)(hy:∀y∈ys,env.kindOf y=some .cell)(a:Kept W env ys s s'):Grow X s X s':=fun b o hb e =>
 ⟨a b o (fun h=>hb (x.ts b h)) (fun h=>hb (h▸x.xl)) (fun y hm hc=>by obtain⟨c,v,h1,_,_,h4⟩:=x.ce y (hy y hm);rw[hc] at h1;cases h1;exact hb h4) e,hb⟩
structure Tgt(prog:Program)(w:World)(W:Wd)(K:List (Str×NameKind))(ρ:Rho)(target:PySem.Expr)(d:PyData)(ρ':Rho)(ys:List Str):Prop where
 cells:∀y∈ys,K.lookup y=some .cell
 run:∀A s₀ X₀ env X s v E,A.handled=none→env.scope.names=K→St W s₀ X₀ env ρ X s→Rd X s.heap v d→wpAny (model prog w) A (assign target env v) (fun _ s'=>St W s₀ X₀ env ρ' X s'∧Kept W env ys s s') E s
private theorem Tgt.local{y:Str}{d:PyData}(hl:K.lookup y=some .local):Tgt prog w W K ρ (.Name y p) d (upd ρ y (.v d)) [] where
 cells:=fun _ h=>nomatch h
 run:=fun A s₀ X₀ env X s v E hh hk x hv=>by
  have hl':env.kindOf y=some .local:=by rw[←hk] at hl;exact hl
  obtain⟨m,hn,_⟩:=x.vals
  have hp:(env.scope.kind == .class||(env.scope.kind == .module&&env.locals != env.globals))=false:=by rw[x.fk];rfl
  exact wpAny_assign_Name (wpAny_storeName_local hl' hn (fun h' hn' hs=>⟨x.stored hl' hn hn' hs (sl:=.v d) hv (fun ds e=>by cases e),fun b o _ hb _ e=>(hs.2 b hb).trans e⟩) hp)
structure Tgts(prog:Program)(w:World)(W:Wd)(K:List (Str×NameKind))(ρ:Rho)(elts:List PySem.Expr)(ds:List PyData)(ρ':Rho)(ys:List Str):Prop where
 cells:∀y∈ys,K.lookup y=some .cell
 run:∀A s₀ X₀ env X s vs E,A.handled=none→env.scope.names=K→St W s₀ X₀ env ρ X s→RdAll X s.heap vs ds→wpAny (model prog w) A (assignInOrder ((assignEach elts env).map (·.2)) vs) (fun _ s'=>St W s₀ X₀ env ρ' X s'∧Kept W env ys s s') E s
private theorem Tgts.nil:Tgts prog w W K ρ [] [] ρ [] where
 cells:=fun _ h=>nomatch h
 run:=fun A s₀ X₀ env X s vs E hh hk x h=>by cases h;exact wpAny_pure ⟨x,.refl⟩
private theorem Tgts.cons{e:PySem.Expr}{es:List PySem.Expr}{d:PyData}{ds:List PyData}{ys zs:List Str}(h:Tgt prog w W K ρ e d ρ₁ ys)(hs:Tgts prog w W K ρ₁ es ds ρ' zs)
  (he:∀env,assignEach (e::es) env=(false,assign e env)::assignEach es env:=by intro _;rfl):Tgts prog w W K ρ (e::es) (d::ds) ρ' (ys++zs) where
 cells:=fun y hy=>(List.mem_append.mp hy).elim (h.cells y) (hs.cells y)
 run:=fun A s₀ X₀ env X s vs E hh hk x hv=>by
  have qhv:=RdAll.c hv;clear hv;obtain⟨_,_,rfl,a,r⟩:=qhv
  rw[he]
  show wpAny _ A (do holding _ (assign e env _);assignInOrder _ _) _ E s
  refine wpAny_bind (wpAny_holding (wpAny_mono (h.run A s₀ X₀ env X s _ _ hh hk x a) (fun _ s₁ ⟨x₁,k₁⟩=>?_) fun _ _ h=>h))
  have g:Grow X s X s₁:=k₁.grow x fun y hy=>by have:=h.cells y hy;rw[←hk] at this;exact this
  exact wpAny_mono (hs.run A s₀ X₀ env X s₁ _ E hh hk x₁ (r.frame fun b o hb e _=>g b o hb e)) (fun _ s₂ ⟨x₂,k₂⟩=>⟨x₂,(k₁.mono fun y hy=>List.mem_append_left _ hy).trans (k₂.mono fun y hy=>List.mem_append_right _ hy)⟩) fun _ _ h=>h
private theorem Tgt.tuple{elts:List PySem.Expr}{n:Nat}{x:PyData}{ds:List PyData}{ys:List Str}(hu:Unp prog w W x ds)(h:Tgts prog w W K ρ elts ds ρ' ys)
  (hn:∀env,(assignEach elts env).length=ds.length:=by intro _;rfl) (hstar:∀env,(assignEach elts env).findIdx? (·.1)=none:=by intro _;rfl):Tgt prog w W K ρ (.Tuple elts n tpos) x ρ' ys where
 cells:=h.cells
 run:=fun A s₀ X₀ env X s v E hh hk x₀ hv=>by
  rw[assign_Tuple]
  refine wpAny_bind (wpAny_standAt ?_)
  unfold unpack
  rw[hn env,hstar env]
  refine wpAny_bind (wpAny_holding (wpAny_mono (hu A X s v _ hh x₀.inv x₀.ts hv) (fun vs s₂ ⟨hvs,e2⟩=>?_) fun _ _ h=>h))
  exact wpAny_mono (h.run A s₀ X₀ env X s₂ vs E hh hk (x₀.step e2) hvs) (fun _ s₃ ⟨x3,g3⟩=>⟨x3,(Kept.ext e2).trans g3⟩) fun _ _ h=>h
private theorem Ex.setX(d:PyData){y:Str}{value:PySem.Expr}(h:Ev prog w W k K ρ value d)(hl:Stb K y)(hs:∀env,swapsWith value (some (.Name y p)) pos.line env=pure false:=by intro _;rfl) :
  Ex prog w W k K ρ (.Assign [.Name y p] value pos) (.next (upd ρ y (.v d))):=.mk fun A s₀ X₀ env X s E R hk x =>
 wpAny_Assign_Name (wpAny_mono (h.run A s₀ X₀ env X s E R hk x) (fun v s₁ ⟨hv,e1⟩=>(x.step e1).put (by rw[hk];exact hl) hv fun s₂ x₂ g=>⟨rfl,X,x₂,(Grow.ext e1 x.ts).trans g⟩) fun _ _ h=>h) (hs env)
private theorem Ex.setT{elts:List PySem.Expr}{n:Nat}{value:PySem.Expr}{x:PyData}{ds:List PyData}{ys:List Str}(h:Ev prog w W k K ρ value x)(hst:Tgt prog w W K ρ (.Tuple elts n tpos) x ρ' ys)
  (hs:∀env,swapsWithSole [.Tuple elts n tpos] value pos.line env=pure false:=by intro _;rfl) (hw:swappedStores [.Tuple elts n tpos] value (envK K)=pure none:=by rfl) :
  Ex prog w W k K ρ (.Assign [.Tuple elts n tpos] value pos) (.next ρ'):=.mk fun A s₀ X₀ env X s E R hk x₀=>by
 refine Assign_Tuple (wpAny_mono (h.run A s₀ X₀ env X s E R hk x₀) (fun v s₁ ⟨hv,e1⟩=>?_) fun _ _ h=>h) (hs env) (by rw[jU hk x₀.fk];exact hw)
 refine wpAny_mono (hst.run A s₀ X₀ env X s₁ v _ R.1 hk (x₀.step e1) hv) (fun _ s₃ ⟨x3,k3⟩=>?_) fun _ _ h=>h
 exact⟨rfl,X,x3,(Grow.ext e1 x₀.ts).trans (k3.grow (x₀.step e1) fun y hy=>by have:=hst.cells y hy;rw[←hk] at this;exact this)⟩
private theorem Sto.consP{y:Str}{f:List (Env→Value→Sem Unit)}{d:PyData}{ds:List PyData}(hl:Stb K y)(h:Sto prog w W K (upd ρ y (.v d)) f ds ρ'):Sto prog w W K ρ ((fun env v=>bindName env y v)::f) (d::ds) ρ' :=
 .mk fun A s₀ X₀ env X s vs E hk x hv=>by
 have qhv:=RdAll.c hv;clear hv;obtain⟨_,_,rfl,a,r⟩:=qhv
 show wpAny _ A (do holding _ (bindName env y _);assignInOrder _ _) _ E s
 refine wpAny_bind (wpAny_holding (bindName_ (x.put (by rw[hk];exact hl) a fun s₁ x₁ g=>?_)))
 exact wpAny_mono (h.run A s₀ X₀ env X s₁ _ E hk x₁ (r.frame fun b o hb e _=>g b o hb e)) (fun _ s₂ ⟨x₂,g2⟩=>⟨x₂,g.trans g2⟩) fun _ _ h=>h
private theorem Ex.augP{y:Str}{op:Operator}{value:PySem.Expr}{a b d:PyData}(hy:ρ.lookup y=some (.v a))(hl:Stb K y)(h:Ev prog w W k K ρ value b)(hop:Op2i prog w W op a b d) :
  Ex prog w W k K ρ (.AugAssign (.Name y p) op value pos) (.next (upd ρ y (.v d))):=.mk fun A s₀ X₀ env X s E R hk x=>by
 obtain⟨m,v,hn,hv,hsl⟩:=x.slotx hy
 have fin:wpAny (model prog w) A (eval value env) (fun u s₁=>wpAny (model prog w) A (inplaceOp op v u) (fun r s₂=>wpAny (model prog w) A (storeName env y r) (fun _ s₃=>Post W s₀ X₀ env X s (.next (upd ρ y (.v d))) .next s₃) E s₂) E s₁) E s:=by
  refine wpAny_mono (h.run A s₀ X₀ env X s E R hk x) (fun u s₁ ⟨hu,e1⟩=>?_) fun _ _ h=>h
  refine wpAny_mono (hop A k X s₁ v u E R e1.inv x.ts (x.step e1).xs (hsl.frame (e1.fram x.ts)) hu) (fun r s₂ ⟨hr,e2⟩=>?_) fun _ _ h=>h
  exact((x.step e1).step e2).put (by rw[hk];exact hl) hr fun s₃ x₃ g=>⟨rfl,X,x₃,(Grow.ext (e1.trans e2) x.ts).trans g⟩
 refine wpAny_AugAssign_Name ?_
 rcases hv with⟨hl',hv⟩|⟨hl',c,h1,h2⟩
 ·exact wpAny_loadName_local x.fk hl' hn hv fin
 ·exact wpAny_loadName_cell x.fk hl' h1 h2 fin
private theorem Ex.loop{target iter:PySem.Expr}{body:List Stmt}{ds:List PyData}(ρs:Nat→Rho)(h0:Sub (ρs 0) ρ)(hi:Itr prog w W k K ρ iter ds)
  (hstep:∀i d,ds[i]?=some d→∃ ρ₁ ys,Tgt prog w W K (ρs i) target d ρ₁ ys∧Sx prog w W k K ρ₁ body (.next (ρs (i+1)))) (hs:∀env x,foldedSetIterable iter env x=pure x:=by intro _ _;rfl) :
  Ex prog w W k K ρ (.For target iter body [] pos) (.next (ρs ds.length)):=.mk fun A s₀ X₀ env X s E R hk x=>by
 suffices hg:∀Q:Flow→Shared→Prop,(∀X' s',St W s₀ X₀ env (ρs ds.length) X' s'→Grow X s X' s'→Q .next s')→wpAny (model prog w) A (exec (.For target iter body [] pos) env) Q E s from hg _ fun X' _ h1 h2=>⟨rfl,X',h1,h2⟩
 intro Q hQ
 refine wpAny_For (wpAny_mono (hi.run A s₀ X₀ env X s E R hk x) (fun v s₁ h1=>wpAny_mono h1 (fun it s₂ h2=>?_) fun _ _ h=>h) fun _ _ h=>h) (hs env)
 obtain⟨I,Z,S,rfl,hit,hS0,e2,hI,hZ⟩:=h2
 have T:=hit A R.1
 obtain⟨J,hJ⟩:∃J:Nat→Shared→Prop,∀n s',J n s' ↔ (∃i X',i≤ds.length∧n=ds.length+1-i∧St W s₀ X₀ env (ρs i) X' s'∧Grow X s X' s'∧S i s'.heap∧(∀b,Z b→¬ X' b∧∃o,s'.heap.get? b=some o)):=⟨_,fun _ _=>Iff.rfl⟩
 refine codeAny_forLoop_any J ?_ (ds.length+1) ((hJ _ _).2 ⟨0,X,Nat.zero_le _,rfl,(x.step e2).weaken h0,.ext e2 x.ts,hS0,hZ⟩)
 intro n s' hj
 obtain⟨i,X',hi',rfl,x',g',hS,hZ'⟩:=(hJ _ _).1 hj
 clear hj
 have hI':s₀.heap.get? I=none:=x.fresh0 hI
 by_cases hlt:i<ds.length
 ·refine wpAny_mono (T.item i s' _ _ (List.getElem?_eq_getElem hlt) hS) (fun r s₃ h3=>?_) fun _ _ h=>h
  obtain⟨v,h',tk,rfl,rfl,hr,hS',hkk⟩:=h3
  have x3:St W s₀ X₀ env (ρs i) X' {s' with heap:=h',toks:=tk}:=x'.other (hZ' I T.zI).1 hI' (T.live i _ hS).live hkk
  have hIo:∃o,h'.get? I=some o:=by obtain⟨o,_,ho,_⟩:=T.live _ _ hS';exact⟨o,ho⟩
  have hZ3:∀b,Z b→¬ X' b∧∃o,h'.get? b=some o:=fun b hb=>⟨(hZ' b hb).1,by
   by_cases e:b=I
   ·exact e▸hIo
   ·obtain⟨o,ho⟩:=(hZ' b hb).2;exact⟨o,hkk b o e ho⟩⟩
  have hr':Rd X' h' v ds[i]:=hr.frame (Fram.mono fun b hb h=>(hZ' b h).1 hb)
  have gI:Grow X s X' {s' with heap:=h',toks:=tk}:=fun b o hb e=>by
   obtain⟨a1,a2⟩:=g' b o hb e
   exact⟨hkk b o (fun e'=>by rw[e',hI] at e;cases e) a1,a2⟩
  obtain⟨ρ₁,ys,ht,hst⟩:=hstep i ds[i] (List.getElem?_eq_getElem hlt)
  dsimp only
  refine(T.live (i+1) _ hS').go ?_
  refine wpAny_mono (ht.run A s₀ X₀ env X' _ v _ R.1 hk x3 hr') (fun _ s₄ ⟨x4,k4⟩=>?_) fun _ _ h=>h
  have g4:Grow X' {s' with heap:=h',toks:=tk} X' s₄:=k4.grow x3 fun y hy=>by have:=ht.cells y hy;rw[←hk] at this;exact this
  refine wpAny_mono (hst.run A s₀ X₀ env X' s₄ _ R hk x4) (fun f s₅ h5=>?_) fun _ _ h=>h
  obtain⟨rfl,X5,x5,g5⟩:=h5
  have g45:=g4.trans g5
  exact⟨ds.length+1-(i+1),by lia,(hJ _ _).2 ⟨i+1,X5,hlt,rfl,x5,(gI.trans g4).trans g5,T.frame _ _ _ hS' fun b o hb e=>(g45 b o (hZ3 b hb).1 e).1,fun b hb=>by
   obtain⟨o,ho⟩:=(hZ3 b hb).2
   have:=g45 b o (hZ3 b hb).1 ho
   exact⟨this.2,o,this.1⟩⟩⟩
 ·have hin:i=ds.length:=by lia
  subst hin
  refine wpAny_mono (T.done s' _ hS) (fun r s₃ h3=>?_) fun _ _ h=>h
  obtain⟨h',tk,rfl,rfl,hkk⟩:=h3
  have x3:St W s₀ X₀ env (ρs ds.length) X' {s' with heap:=h',toks:=tk}:=x'.other (hZ' I T.zI).1 hI' (T.live _ _ hS).live hkk
  refine wpAny_execs_nil (hQ X' _ x3 fun b o hb e=>?_)
  obtain⟨a1,a2⟩:=g' b o hb e
  exact⟨hkk b o (fun e'=>by rw[e',hI] at e;cases e) a1,a2⟩
end Wk
namespace Wk
variable{prog:Program}{w:World}{W:Wd}{k:Nat}{K:List (Str×NameKind)}{ρ ρ' ρ₁ ρ₂ ρc:Rho}{pos p apos npos spos tpos:Pos}
private theorem zFv{elt target iter:PySem.Expr}{ifs:List PySem.Expr}{gens:List Comprehension}{scope:Scope}{dep:Nat}(hg:gens[dep]?=some ⟨target,iter,ifs,0⟩)(it acc:Value)(env:Env) :
    compTurn (.ListComp elt gens scope pos) dep it acc env=(do
      standAt iter.pos
      match ← pyNext it with
      | none=>pure (.done .next)
      | some v =>
        letOwnedTupleGo target it v
        assign target env v
        let mut ok:=true
        for c in ifs do
          if ok then ok ← isTrue c env (eval c env)
        if ok then
          match gens[dep+1]? with
          | some g' =>
            let x ← eval g'.iter env
            standAt g'.iter.pos
            let x ← if g'.is_async != 0 then foldedIterable g'.iter x else foldedSetIterable g'.iter env x
            let _ ← runOwn (.compStart (.ListComp elt gens scope pos) (dep+1) (← holding [x] (if g'.is_async != 0 then asyncIter x else pyIter x)) acc env) env
          | none=>(do let _ ← call (.builtin "list.append") [acc,←eval elt env])
        again (.compLoop (.ListComp elt gens scope pos) dep it acc env)):=by
  unfold compTurn
  simp only[hg]
  rfl
structure Ifs(prog:Program)(w:World)(W:Wd)(k:Nat)(K:List (Str×NameKind))(ρ:Rho)(ifs:List PySem.Expr)(b:Bool):Prop where
 run:∀A s₀ X₀ env X s E,Room k A→env.scope.names=K→St W s₀ X₀ env ρ X s →
  wpAny (model prog w) A (forIn ifs true fun c r=>if r=true then do let ok ← isTrue c env (eval c env);pure (ForInStep.yield ok) else pure (ForInStep.yield r)) (fun ok s'=>ok=b∧W.Ext s s') E s
private theorem Ifs.nil:Ifs prog w W k K ρ [] true:=.mk fun A s₀ X₀ env X s E R hk x=>wpAny_tests_nil ⟨rfl,.refl x.inv⟩
private theorem Ifs.one{c:PySem.Expr}{b:Bool}(h:Tr prog w W k K ρ c b):Ifs prog w W k K ρ [c] b:=.mk fun A s₀ X₀ env X s E R hk x=>wpAny_tests_one (h.run A s₀ X₀ env X s E R hk x)
noncomputable def Acc(s₀:Shared)(X:Addr→Prop)(D:Addr)(s:Shared)(ds:List PyData):Prop:=s₀.heap.get? D=none∧X D∧∃vs,s.heap.PlainList D vs∧RdAll X s.heap vs.toList ds
noncomputable def zB7(ρ:Rho):Prop:=∀y ds,ρ.lookup y≠some (.own ds)
noncomputable def kF(W:Wd)(env:Env)(ys:List Str)(D I:Addr)(s s':Shared):Prop :=
 ∀b o,¬ W.Ts b→b≠env.locals→(∀y∈ys,env.cells.lookup y≠some b)→b≠D→b≠I→s.heap.get? b=some o→s'.heap.get? b=some o
private theorem kF.of{env:Env}{ys:List Str}{D I:Addr}{s s':Shared}(h:Kept W env ys s s'):kF W env ys D I s s':=fun b o h1 h2 h3 _ _ e=>h b o h1 h2 h3 e
private theorem kF.trans{env:Env}{ys:List Str}{D I:Addr}{s₁ s₂ s₃:Shared}(a:kF W env ys D I s₁ s₂)(b:kF W env ys D I s₂ s₃):kF W env ys D I s₁ s₃:=fun c o h1 h2 h3 h4 h5 e=>b c o h1 h2 h3 h4 h5 (a c o h1 h2 h3 h4 h5 e)
private theorem kF.refl{env:Env}{ys:List Str}{D I:Addr}{s:Shared}:kF W env ys D I s s:=fun _ _ _ _ _ _ _ e=>e
structure CL(prog:Program)(w:World)(W:Wd)(k:Nat)(K:List (Str×NameKind))(ρ:Rho)(e:PySem.Expr)(dep:Nat)(ds outs:List PyData)(ys:List Str):Prop where
 run:∀A s₀ X₀ env X s D acc I Z S,Room k A→env.scope.names=K→St W s₀ X₀ env ρ X s→Acc s₀ X D s acc→(∀A':Around,A'.handled=none→Iter prog w A' I Z ds S)→S 0 s.heap→s₀.heap.get? I=none →
  (∀b,Z b→¬ X b∧∃o,s.heap.get? b=some o)→acc.length+outs.length≤sizeLine →
  codeAny (model prog w) A (.compLoop e dep (.ref I) (.ref D) env) (fun r s'=>r=.ok .next∧St W s₀ X₀ env ρ X s'∧Acc s₀ X D s' (acc++outs)∧kF W env ys D I s s') s
inductive Emit(prog:Program)(w:World)(W:Wd)(k:Nat)(K:List (Str×NameKind))(ρ:Rho)(elt:PySem.Expr)(gens:List Comprehension)(scope:Scope)(pos:Pos)(dep:Nat):List PyData→List Str→Prop where
 | last {d:PyData} {ys:List Str} (hg:gens[dep+1]?=none) (ho:zB7 ρ) (h:Ev prog w W k K ρ elt d):Emit prog w W k K ρ elt gens scope pos dep [d] ys
 | more {target iter:PySem.Expr} {ifs:List PySem.Expr} {es outs:List PyData} {ys:List Str} (hg:gens[dep+1]?=some ⟨target,iter,ifs,0⟩) (hi:Itr prog w W k K ρ iter es) (hs:∀env x,foldedSetIterable iter env x=pure x)
   (h:CL prog w W k K ρ (.ListComp elt gens scope pos) (dep+1) es outs ys):Emit prog w W k K ρ elt gens scope pos dep outs ys
private theorem Acc.ext{s₀ s s':Shared}{X X₀:Addr→Prop}{env:Env}{D:Addr}{ds:List PyData}(x:St W s₀ X₀ env ρ X s)(a:Acc s₀ X D s ds)(e:W.Ext s s'):Acc s₀ X D s' ds:=by
 obtain⟨h0,hX,vs,⟨n,hp⟩,hr⟩:=a
 exact⟨h0,hX,vs,⟨n,e.get (x.nts h0) hp⟩,hr.frame (e.fram x.ts)⟩
private theorem Acc.kept{s₀ s s':Shared}{X X₀:Addr→Prop}{env:Env}{D:Addr}{ds:List PyData}{ys:List Str}(x:St W s₀ X₀ env ρ X s)(hy:∀y∈ys,env.kindOf y=some .cell)(a:Acc s₀ X D s ds)(e:Kept W env ys s s'):Acc s₀ X D s' ds:=by
 obtain⟨h0,hX,vs,hp,hr⟩:=a
 obtain⟨m,hn,_⟩:=x.vals
 have hD:D≠env.locals:=wQ hp hn
 have hDc:∀y∈ys,env.cells.lookup y≠some D:=fun y hm hc=>by
  obtain⟨c,v,h1,h2,_⟩:=x.ce y (hy y hm)
  rw[hc] at h1;cases h1
  exact xJ hp h2 rfl
 obtain⟨n,hp⟩:=hp
 exact⟨h0,hX,vs,⟨n,e _ _ (x.nts h0) hD hDc hp⟩,hr.frame fun b o hb ho _=>e.grow x hy b o hb ho⟩
private theorem Acc.append{A:Around}{E:Value→Shared→Prop}{s₀ s:Shared}{X X₀:Addr→Prop}{env:Env}{D:Addr}{ds:List PyData}{v:Value}{d:PyData}{Q:Value→Shared→Prop}(x:St W s₀ X₀ env ρ X s)(ho:zB7 ρ)(a:Acc s₀ X D s ds)(hv:Rd X s.heap v d)(hsz:ds.length≤sizeLine)
  (hQ:∀r s',St W s₀ X₀ env ρ X s'→Acc s₀ X D s' (ds++[d])→(∀b o,b≠D→s.heap.get? b=some o→s'.heap.get? b=some o)→Q r s'):wpAny (model prog w) A (call (.builtin "list.append") [.ref D,v]) Q E s:=by
 obtain⟨h0,hX,vs,hp,hr⟩:=a
 have hlen:vs.size=ds.length:=by have:=hr.length;simpa using this
 refine wpAny_list_append_plain (hsz:=by lia) hp fun h' hp' hs'=>hQ _ _ (x.otherX (tk:=s.toks) ho h0 hX hp hp' hs') ⟨h0,hX,_,hp',?_⟩ fun b o hb e=>(hs'.2 b hb).trans e
 rw[Array.toList_push]
 have fr:Fram X X s.heap h':=fun b o hb e _=>⟨(hs'.2 b fun e'=>hb (e'▸hX)).trans e,hb⟩
 exact(hr.frame fr).append (.cons (hv.frame fr) .nil)
private theorem Fram.iter{X:Addr→Prop}{I:Addr}{h h':Heap}(l:uQ I h)(k:∀b o,b≠I→h.get? b=some o→h'.get? b=some o):Fram X X h h':=fun b o hb e hc=>by
 obtain⟨o',ho',_,_,c3,c4⟩:=l.live
 exact⟨k b o (fun e'=>by subst e';rw[e] at ho';cases ho';rcases hc with hc|hc;exact c3 hc;exact c4 hc) e,hb⟩
private theorem qQ{A:Around}{R:Result→Shared→Prop}{s:Shared}{elt target iter:PySem.Expr}{ifs:List PySem.Expr}{gens:List Comprehension}{scope:Scope}{dep:Nat}{it acc:Value}{env:Env}(hg:gens[dep]?=some ⟨target,iter,ifs,0⟩)
  (h0:codeAny (model prog w) A (.compLoop (.ListComp elt gens scope pos) dep it acc env) R s)
  (h:wpAny (model prog w) A (pyIter it) (fun it' s'=>codeAny (model prog w) A (.compLoop (.ListComp elt gens scope pos) dep it' acc env) R s') (notedBy (model prog w) A env fun x s'=>R (.error x) s') s) :
  codeAny (model prog w) A (.compStart (.ListComp elt gens scope pos) dep it acc env) R s:=by
 refine codeAny_of_tree ?_
 show wpAny _ _ ((compStart (.ListComp elt gens scope pos) dep it acc env).onRaise (fun x=>do noteFrame x env;standAt theWindowsPlace)) _ _ s
 refine wpAny_notedAt ?_
 unfold compStart
 have hg':(clausesOf (.ListComp elt gens scope pos))[dep]?=some ⟨target,iter,ifs,0⟩:=hg
 simp only[hg',Option.elim,bne_self_eq_false,Bool.false_eq_true,if_false]
 refine wpAny_bind (wpAny_askSetting (wpAny_ite ?_))
 split
 ·first
   | exact wpAny_bind (wpAny_pure (wpAny_pure (And.intro rfl h0)))
   | exact wpAny_pure (And.intro rfl h0)
 ·exact wpAny_bind (wpAny_rule (wpAny_bind (wpAny_standAt (wpAny_bind (wpAny_mono h (fun it' s' h'=>wpAny_pure (And.intro rfl h')) fun _ _ x=>x)))))
private theorem CL.of{elt target iter:PySem.Expr}{ifs:List PySem.Expr}{gens:List Comprehension}{scope:Scope}{dep:Nat}{ds:List PyData}{ys:List Str}(f:PyData→List PyData)(hg:gens[dep]?=some ⟨target,iter,ifs,0⟩)(hno:zB7 ρ)
    (h:∀(i:Nat) d,ds[i]?=some d→∃ ρ₁ b,Tgt prog w W K ρ target d ρ₁ ys∧Ifs prog w W k K ρ₁ ifs b∧Sub ρ ρ₁∧(b=true→Emit prog w W k K ρ₁ elt gens scope pos dep (f d) ys)∧(b=false→f d=[])) :
    CL prog w W k K ρ (.ListComp elt gens scope pos) dep ds (ds.flatMap f) ys:=.mk fun A s₀ X₀ env X s D acc I Z S R hk x a hit hS0 hI hZ hsz=>by
  have T:=hit A R.1
  obtain⟨J,hJ⟩:∃J:Nat→Shared→Prop,∀n s',J n s' ↔ (∃i,i≤ds.length∧n=ds.length+1-i∧St W s₀ X₀ env ρ X s'∧Acc s₀ X D s' (acc++(ds.take i).flatMap f)∧kF W env ys D I s s'∧S i s'.heap∧(∀b,Z b→¬ X b∧∃o,s'.heap.get? b=some o)):=⟨_,fun _ _=>Iff.rfl⟩
  suffices hg:∀Q:Result→Shared→Prop,(∀s',St W s₀ X₀ env ρ X s'→Acc s₀ X D s' (acc++ds.flatMap f)→kF W env ys D I s s'→Q (.ok .next) s')→codeAny (model prog w) A (.compLoop (.ListComp elt gens scope pos) dep (.ref I) (.ref D) env) Q s from hg _ fun _ h1 h2 h3=>⟨rfl,h1,h2,h3⟩
  intro Q hQ
  refine codeAny_loop rfl J ?_ (ds.length+1) ((hJ _ _).2 ⟨0,Nat.zero_le _,rfl,x,by simpa using a,.refl,hS0,hZ⟩)
  intro n s' hj
  obtain⟨i,hi',rfl,x',a',k',hS,hZ'⟩:=(hJ _ _).1 hj
  clear hj
  show wpAny _ A ((compTurn (.ListComp elt gens scope pos) dep (.ref I) (.ref D) env).onRaise (fun x=>do noteFrame x env;theTreesLotGoes x)) _ _ s'
  refine wpAny_noted ?_
  rw[zFv hg]
  refine wpAny_bind (wpAny_standAt (wpAny_bind ?_))
  by_cases hlt:i<ds.length
  · refine wpAny_mono (T.item i s' _ _ (List.getElem?_eq_getElem hlt) hS) (fun r s₃ h3=>?_) fun _ _ h=>h
    obtain⟨v,h',tk,rfl,rfl,hr,hS',hkk⟩:=h3
    have hIX:=(hZ' I T.zI).1
    have x3:St W s₀ X₀ env ρ X {s' with heap:=h',toks:=tk}:=x'.other hIX hI (T.live i _ hS).live hkk
    have a3:Acc s₀ X D {s' with heap:=h',toks:=tk} (acc++(ds.take i).flatMap f):=by
      obtain⟨q0,qX,vs,⟨n,hp⟩,hr⟩:=a'
      exact⟨q0,qX,vs,⟨n,hkk _ _ (fun e=>hIX (e▸qX)) hp⟩,hr.frame (Fram.iter (T.live i _ hS) hkk)⟩
    have k3:kF W env ys D I s {s' with heap:=h',toks:=tk}:=k'.trans fun b o _ _ _ _ h5 e=>hkk b o h5 e
    have hIo:∃o,h'.get? I=some o:=by obtain⟨o,_,ho,_⟩:=T.live _ _ hS';exact⟨o,ho⟩
    have hZ3:∀b,Z b→¬ X b∧∃o,h'.get? b=some o:=fun b hb=>⟨(hZ' b hb).1,by
      by_cases e:b=I
      · exact e▸hIo
      · obtain⟨o,ho⟩:=(hZ' b hb).2;exact⟨o,hkk b o e ho⟩⟩
    have hr':Rd X h' v ds[i]:=hr.frame (Fram.mono fun b hb h=>(hZ' b h).1 hb)
    obtain⟨ρ₁,b,ht,hif,hsub,hem,hno'⟩:=h i ds[i] (List.getElem?_eq_getElem hlt)
    have hcy:∀y∈ys,env.kindOf y=some .cell:=fun y hy=>by have:=ht.cells y hy;rw[←hk] at this;exact this
    dsimp only
    refine wpAny_bind ((T.live (i+1) _ hS').go ?_)
    refine wpAny_bind (wpAny_mono (ht.run A s₀ X₀ env X _ v _ R.1 hk x3 hr') (fun _ s₄ ⟨x4,k4⟩=>?_) fun _ _ h=>h)
    have a4:=a3.kept x3 hcy k4
    have g4:Grow X {s' with heap:=h',toks:=tk} X s₄:=k4.grow x3 hcy
    have hZ4:∀b,Z b→¬ X b∧∃o,s₄.heap.get? b=some o:=fun b hb=>by obtain⟨q1,o,q2⟩:=hZ3 b hb;exact⟨q1,o,(g4 b o q1 q2).1⟩
    have hS4:S (i+1) s₄.heap:=T.frame _ _ _ hS' fun b o hb e=>(g4 b o (hZ3 b hb).1 e).1
    refine wpAny_bind (wpAny_mono (hif.run A s₀ X₀ env X s₄ _ R hk x4) (fun ok s₅ ⟨hok,e5⟩=>?_) fun _ _ h=>h)
    subst hok
    have x5:=x4.step e5
    have a5:=a4.ext x4 e5
    have k5:kF W env ys D I s s₅:=(k3.trans (.of k4)).trans (.of (.ext e5))
    have hZ5:∀b,Z b→¬ X b∧∃o,s₅.heap.get? b=some o:=fun b hb=>by obtain⟨q1,o,q2⟩:=hZ4 b hb;exact⟨q1,o,e5.get (fun h=>q1 (x4.ts b h)) q2⟩
    have hS5:S (i+1) s₅.heap:=T.frame _ _ _ hS4 fun b o hb e=>e5.get (fun h=>(hZ4 b hb).1 (x4.ts b h)) e
    have htk:(ds.take (i+1)).flatMap f=(ds.take i).flatMap f++f ds[i]:=by
      rw[List.take_add_one,List.getElem?_eq_getElem hlt,List.flatMap_append];simp
    have hle:((ds.take (i+1)).flatMap f).length≤(ds.flatMap f).length:=by
      conv=>rhs;rw[←List.take_append_drop (i+1) ds,List.flatMap_append,List.length_append]
      exact Nat.le_add_right _ _
    cases ok with
    | false =>
      have hf0:f ds[i]=[]:=hno' rfl
      refine wpAny_pure ⟨rfl,ds.length+1-(i+1),by lia,(hJ _ _).2 ⟨i+1,hlt,rfl,x5.weaken hsub,?_,k5,hS5,hZ5⟩⟩
      rw[htk,hf0,List.append_nil];exact a5
    | true =>
      simp only[if_true]
      have hsz5:(acc++(ds.take i).flatMap f).length+(f ds[i]).length≤sizeLine:=by
        rw[htk,List.length_append] at hle
        rw[List.length_append];lia
      have cont:∀s₆,St W s₀ X₀ env ρ₁ X s₆∧Acc s₀ X D s₆ (acc++(ds.take i).flatMap f++f ds[i])∧(∀b o,¬ W.Ts b→b≠env.locals→(∀y∈ys,env.cells.lookup y≠some b)→b≠D→s₅.heap.get? b=some o→s₆.heap.get? b=some o) →
          ∃m,m<ds.length+1-i∧J m s₆:=by
        rintro s₆ ⟨x6,a6,k6⟩
        obtain⟨m5,hn5,_⟩:=x5.vals
        have hk6:∀b o,Z b→s₅.heap.get? b=some o→s₆.heap.get? b=some o:=fun b o hb e=>k6 b o (fun h=>(hZ5 b hb).1 (x5.ts b h)) (fun h=>(hZ5 b hb).1 (h▸x5.xl))
          (fun y hy hc=>by obtain⟨c,v,h1,_,_,h4⟩:=x5.ce y (hcy y hy);rw[hc] at h1;cases h1;exact(hZ5 _ hb).1 h4) (fun h=>(hZ5 b hb).1 (h▸a5.2.1)) e
        refine⟨ds.length+1-(i+1),by lia,(hJ _ _).2 ⟨i+1,hlt,rfl,x6.weaken hsub,?_,k5.trans fun b o h1 h2 h3 h4 _ e=>k6 b o h1 h2 h3 h4 e,?_,fun b hb=>?_⟩⟩
        · rw[htk,←List.append_assoc];exact a6
        · exact T.frame _ _ _ hS5 fun b o hb e=>hk6 b o hb e
        · obtain⟨q1,o,q2⟩:=hZ5 b hb;exact⟨q1,o,hk6 b o hb q2⟩
      generalize hfo:f ds[i]=fo at hem hsz5 cont
      cases hem rfl with
      | last hgn hown hel =>
        rw[hgn]
        dsimp only
        refine wpAny_bind (wpAny_bind (wpAny_mono (hel.run A s₀ X₀ env X s₅ _ R hk x5) (fun v s₆ ⟨hv,e6⟩=>?_) fun _ _ h=>h))
        exact wpAny_bind (Acc.append (x5.step e6) hown (a5.ext x5 e6) hv (by simp at hsz5 ⊢;lia) fun r s₇ x7 a7 k7=>wpAny_pure (wpAny_pure ⟨rfl,cont s₇ ⟨x7,a7,fun b o h1 _ _ h4 e=>k7 b o h4 (e6.get h1 e)⟩⟩))
      | @more target' iter' ifs' es _ _ hgn hi hfold hcl =>
        rw[hgn]
        simp only[bne_self_eq_false,Bool.false_eq_true,if_false]
        refine wpAny_bind (wpAny_mono (hi.run A s₀ X₀ env X s₅ _ R hk x5) (fun v s₆ h6=>?_) fun _ _ h=>h)
        refine wpAny_bind (wpAny_standAt (wpAny_bind (wpAny_of_eq (hfold env v) ?_)))
        refine wpAny_bind (wpAny_holding (wpAny_mono h6 (fun it s₇ h7=>?_) fun _ _ h=>h))
        obtain⟨I',Z',S',rfl,hit',hS0',e7,hI',hZ'⟩:=h7
        have x7:=x5.step e7
        have a7:=a5.ext x5 e7
        have hloop:codeAny (model prog w) A (.compLoop (.ListComp elt gens scope pos) (dep+1) (.ref I') (.ref D) env) _ s₇:=hcl.run A s₀ X₀ env X s₇ D _ I' Z' S' R hk x7 a7 hit' hS0' (x5.fresh0 hI') hZ' hsz5
        refine wpAny_bind (wpAny_runOwn (A:=A) (h:=none) (codeAny_mono (qQ hgn hloop ((hit' A R.1).self 0 s₇ _ _ hS0' hloop)) fun r s₈ h8=>?_))
        obtain⟨rfl,x8,a8,k8⟩:=h8
        refine wpAny_pure ⟨rfl,cont s₈ ⟨x8,a8,fun b o h1 h2 h3 h4 e=>k8 b o h1 h2 h3 h4 (fun e'=>by rw[e',hI'] at e;cases e) (e7.get h1 e)⟩⟩
  · have hin:i=ds.length:=by lia
    subst hin
    refine wpAny_mono (T.done s' _ hS) (fun r s₃ h3=>?_) fun _ _ h=>h
    obtain⟨h',tk,rfl,rfl,hkk⟩:=h3
    have hIX:=(hZ' I T.zI).1
    have x3:St W s₀ X₀ env ρ X {s' with heap:=h',toks:=tk}:=x'.other hIX hI (T.live _ _ hS).live hkk
    refine wpAny_pure (hQ _ x3 ?_ (k'.trans fun b o _ _ _ _ h5 e=>hkk b o h5 e))
    rw[List.take_length] at a'
    obtain⟨q0,qX,vs,⟨n,hp⟩,hr⟩:=a'
    exact⟨q0,qX,vs,⟨n,hkk _ _ (fun e=>hIX (e▸qX)) hp⟩,hr.frame (Fram.iter (T.live _ _ hS) hkk)⟩
end Wk
namespace Wk
variable{prog:Program}{w:World}{W:Wd}{k:Nat}{K:List (Str×NameKind)}{ρ ρ' ρ₁ ρ₂ ρc:Rho}{pos p apos npos spos tpos:Pos}
private theorem EvN.ev{e:PySem.Expr}{ds:List PyData}(h:EvN prog w W k K ρ e ds):Ev prog w W k K ρ e (.list ds):=.mk fun A s₀ X₀ env X s E R hk x=>by
 refine wpAny_mono (h.run A s₀ X₀ env X s E R hk x) (fun v s' ⟨a,vs,hv,h0,hp,hr,e⟩=>?_) fun _ _ h=>h
 subst hv
 exact⟨.list (x.nX h0) hp (hr.frame (Fram.mono fun b hb=>.inl hb)),e⟩
end Wk
namespace Wk
variable{prog:Program}{w:World}{W:Wd}{k k':Nat}{K:List (Str×NameKind)}{ρ ρ' ρ₁ ρ₂ ρc:Rho}{pos p apos npos spos tpos:Pos}
noncomputable def DefG(W:Wd)(f:Str)(st:Stmt):Prop:=∃a,W.mg f=some (.ref a)∧Def W a (sName st) (sArgs st) (sBody st) (sScope st)
noncomputable def FunG(prog:Program)(w:World)(W:Wd)(k:Nat)(f:Str)(ds:List PyData)(d:PyData):Prop :=
 ∃a,W.mg f=some (.ref a)∧(∃o fd,o.data=.func fd∧∀h,W.Inv h→h.get? a=some o)∧Fun prog w W k (.ref a) ds d
private theorem Fun.mono{f:Value}{ds:List PyData}{d:PyData}(h:Fun prog w W k f ds d)(hk:k≤k'):Fun prog w W k' f ds d:=fun A X s vs E R=>h A X s vs E (R.mono hk)
private theorem FunG.mono{f:Str}{ds:List PyData}{d:PyData}(h:FunG prog w W k f ds d)(hk:k≤k'):FunG prog w W k' f ds d:=let ⟨a,h1,h2,h3⟩:=h;⟨a,h1,h2,h3.mono hk⟩
private theorem Fun.conv{f:Value}{ds:List PyData}{d d':PyData}(h:Fun prog w W k f ds d)(e:d=d'):Fun prog w W k f ds d':=e▸h
private theorem zHq{β:Type}{P:Str→β→Prop}(y:Str)(b:β)(h:([]:List (Str×β)).lookup y=some b):P y b:=by cases h
private theorem xT{β:Type}{P:Str→β→Prop}{k:Str}{v:β}{r:List (Str×β)}(h0:P k v)(hr:∀y b,r.lookup y=some b→P y b)(y:Str)(b:β)(h:((k,v)::r).lookup y=some b):P y b:=by
 rw[List.lookup_cons] at h
 cases e:y==k with
 | true=>rw[e] at h;cases h;rw[eq_of_beq e];exact h0
 | false=>rw[e] at h;exact hr y b h
private theorem lens0{α:Type}{l:List α}(h:l.length=0):l=[]:=List.eq_nil_of_length_eq_zero h
private theorem zIy{α:Type}{l:List α}{n:Nat}(h:l.length=n+1):∃a r,l=a::r∧r.length=n:=by
 cases l with
 | nil=>cases h
 | cons a r=>exact⟨a,r,rfl,Nat.succ.inj h⟩
private theorem uC{α:Type}{P:List α→Prop}(H:∀a,P [a])(l:List α)(h:l.length=1):P l:=by
 obtain⟨a,r,rfl,h2⟩:=zIy h;cases lens0 h2;exact H a
private theorem zAu{α:Type}{P:List α→Prop}(H:∀a b,P [a,b])(l:List α)(h:l.length=2):P l:=by
 obtain⟨a,r,rfl,h2⟩:=zIy h;exact uC (P:=fun r=>P (a::r)) (H a) r h2
private theorem zP2{α:Type}{P:List α→Prop}(H:∀a b c,P [a,b,c])(l:List α)(h:l.length=3):P l:=by
 obtain⟨a,r,rfl,h2⟩:=zIy h;exact zAu (P:=fun r=>P (a::r)) (H a) r h2
private theorem lens4{α:Type}{P:List α→Prop}(H:∀a b c d,P [a,b,c,d])(l:List α)(h:l.length=4):P l:=by
 obtain⟨a,r,rfl,h2⟩:=zIy h;exact zP2 (P:=fun r=>P (a::r)) (H a) r h2
private theorem lens6{α:Type}{P:List α→Prop}(H:∀a b c d e f,P [a,b,c,d,e,f])(l:List α)(h:l.length=6):P l:=by
 obtain⟨a,r,rfl,h2⟩:=zIy h;obtain⟨b,r,rfl,h3⟩:=zIy h2;exact lens4 (P:=fun r=>P (a::b::r)) (H a b) r h3
private theorem lens0'{α:Type}{P:List α→Prop}(H:P [])(l:List α)(h:l.length=0):P l:=by cases lens0 h;exact H
private theorem FunG.of{f:Str}{st:Stmt}{names:List Str}{ds:List PyData}{d:PyData}(D:DefG W f st)(hK:(sScope st).names=K)
  (hb:∀pm cd doc (vs:List Value),vs.length=ds.length→bindArgs (Calls.docDef (sName st) (sArgs st) (sBody st) (sScope st) pm cd doc) ⟨vs,[]⟩=pure (names.zip vs)) (hn:names.Nodup)
  (hkn:∀x∈names,K.lookup x=some .local∨K.lookup x=some .cell) (h:Sx prog w W k K (yI names ds) (sBody st) (.ret d)):FunG prog w W (k+1) f ds d:=by
 obtain⟨a,h1,h2⟩:=D
 exact⟨a,h1,h2.fd,Fun.of_def h2 hb hn (hK▸hkn) (hK▸h)⟩
private theorem Ev.fnX(ds:List PyData){f:Str}{e:PySem.Expr}{es:List PySem.Expr}{d:PyData}(hK:K.lookup f=some .globalImplicit)
  (ha:Evs prog w W k K ρ pos (e::es) ds) (hf:FunG prog w W k f ds d) (he:∀env,starEach (e::es) env=(false,eval e env)::starEach es env:=by intro _;rfl)
  (hd:(f==("__debug__":Str))=false:=by rfl):Ev prog w W k K ρ (.Call (.Name f p) (e::es) [] pos) d:=by
 obtain⟨a,h1,h2,h3⟩:=hf
 exact Ev.fn hK h1 h2 ha h3 he hd
private theorem Ev.fnG0{f:Str}{d:PyData}(hK:K.lookup f=some .globalImplicit)(hf:FunG prog w W k f [] d)(hd:(f==("__debug__":Str))=false:=by rfl):Ev prog w W k K ρ (.Call (.Name f p) [] [] pos) d:=by
 obtain⟨a,h1,h2,h3⟩:=hf
 exact Ev.fn0 hK h1 h2 h3 hd
noncomputable def ConG(W:Wd)(f:Str)(d:PyData):Prop:=∃v,W.mg f=some v∧∀X h,Rd X h v d
private theorem Ev.conG{f:Str}{d:PyData}(h:ConG W f d)(hK:K.lookup f=some .globalImplicit)(hd:(f==("__debug__":Str))=false:=by rfl):Ev prog w W k K ρ (.Name f pos) d:=by
 obtain⟨v,h1,h2⟩:=h;exact Ev.con hK h1 h2 hd
noncomputable def BuiG(W:Wd)(f:Str)(v:Value):Prop:=W.mg f=none∧W.mb f=some v
private theorem Ev.buiX(ds:List PyData){f:Str}{id:String}{e:PySem.Expr}{es:List PySem.Expr}{d:PyData}(h:BuiG W f (.builtin id))(hK:K.lookup f=some .globalImplicit)
  (ha:Evs prog w W k K ρ pos (e::es) ds) (hf:Fun prog w W k (.builtin id) ds d) (he:∀env,starEach (e::es) env=(false,eval e env)::starEach es env:=by intro _;rfl)
  (hpl:∀env,(backTo pos (starEach (e::es) env)).any (·.1)=false:=by intro _;rfl) (hd:(f==("__debug__":Str))=false:=by rfl):Ev prog w W k K ρ (.Call (.Name f p) (e::es) [] pos) d :=
 Ev.builtin hK h.1 h.2 ha hf he hpl hd
private theorem Ev.conv{e:PySem.Expr}{d d':PyData}(h:Ev prog w W k K ρ e d)(he:d=d'):Ev prog w W k K ρ e d':=he▸h
private theorem Ex.conv{st:Stmt}{o o':Out}(h:Ex prog w W k K ρ st o)(he:o=o'):Ex prog w W k K ρ st o':=he▸h
private theorem Sx.ifret{t:PySem.Expr}{a b rest:List Stmt}{d:PyData}(h:Tr prog w W k K ρ t true)(ha:Sx prog w W k K ρ a (.ret d)):Sx prog w W k K ρ (.If t a b pos::rest) (.ret d):=Sx.ret (Ex.ite_t h ha)
private theorem Sx.ifskip{t:PySem.Expr}{a b rest:List Stmt}{o:Out}(h:Tr prog w W k K ρ t false)(hb:Sx prog w W k K ρ b (.next ρ'))(hr:Sx prog w W k K ρ' rest o):Sx prog w W k K ρ (.If t a b pos::rest) o:=Sx.cons (Ex.ite_f h hb) hr
private theorem Sx.iftake{t:PySem.Expr}{a b rest:List Stmt}{o:Out}(h:Tr prog w W k K ρ t true)(hb:Sx prog w W k K ρ a (.next ρ'))(hr:Sx prog w W k K ρ' rest o):Sx prog w W k K ρ (.If t a b pos::rest) o:=Sx.cons (Ex.ite_t h hb) hr
inductive StoN(K:List (Str×NameKind)):Rho→List Str→List PyData→Rho→Prop where
 | nil {ρ:Rho}:StoN K ρ [] [] ρ
 | cons {ρ ρ':Rho} {y:Str} {ns:List Str} {d:PyData} {ds:List PyData} (hl:Stb K y) (h:StoN K (upd ρ y (.v d)) ns ds ρ'):StoN K ρ (y::ns) (d::ds) ρ'
private theorem StoN.sto{ns:List Str}{ds:List PyData}(h:StoN K ρ ns ds ρ'):Sto prog w W K ρ (ns.map fun n env v=>bindName env n v) ds ρ':=by
 induction h with
 | nil=>exact .nil
 | cons hl h ih=>exact .consP hl ih
private theorem Ex.swap{elts:List PySem.Expr}{n:Nat}{value:PySem.Expr}{ds:List PyData}{names:List Str}(hw:swappedStores [.Tuple elts n tpos] value (envK K)=pure (some names))(h:Ev prog w W k K ρ value (.tuple ds))(hst:StoN K ρ names.reverse ds.reverse ρ')
  (hn:names.length=ds.length:=by rfl) (hs:∀env,swapsWithSole [.Tuple elts n tpos] value pos.line env=pure false:=by intro _;rfl) :
  Ex prog w W k K ρ (.Assign [.Tuple elts n tpos] value pos) (.next ρ') :=
 Ex.assignS (f:=names.reverse.map fun n env v=>bindName env n v) h hst.sto (fun env=>by simp) hn hs hw
private theorem FunG.at{f:Str}{ds:List PyData}{d:PyData}(h:FunG prog w W k f ds d)(hk:Nat.ble k k'=true):FunG prog w W k' f ds d:=h.mono (Nat.le_of_ble_eq_true hk)
end Wk
end
section
open PySem PyProof.Rows
open Builtin Builtin.Str
set_option maxHeartbeats 400000
set_option maxRecDepth 100000
set_option autoImplicit false
set_option linter.unusedVariables false
namespace Wk
variable{prog:Program}{w:World}{W:Wd}{k k':Nat}{K:List (Str×NameKind)}{ρ ρ' ρ₁ ρ₂ ρc:Rho}{pos p apos npos spos tpos:Pos}
noncomputable def zA(ns:List Int):List PyData:=ns.map PyData.int
noncomputable def yH(ys:List Str):List PyData:=ys.map PyData.str
private theorem ints_n{vs:List Value}(r:IntsAre vs []):vs=[]:=by cases r;rfl
private theorem zJt{vs:List Value}{n:Int}{ns:List Int}(r:IntsAre vs (n::ns)):∃t ws,vs=.int n t::ws∧IntsAre ws ns:=by cases r with | cons _ t b=>exact⟨t,_,rfl,b⟩
private theorem zG0{vs:List Value}{a b:Int}(r:IntsAre vs [a,b]):∃t u,vs=[.int a t,.int b u]:=by
 obtain⟨t,_,rfl,r1⟩:=zJt r;obtain⟨u,_,rfl,r2⟩:=zJt r1;cases ints_n r2;exact⟨t,u,rfl⟩
private theorem zLn{vs:List Value}{a b c:Int}(r:IntsAre vs [a,b,c]):∃t u v,vs=[.int a t,.int b u,.int c v]:=by
 obtain⟨t,_,rfl,r1⟩:=zJt r;obtain⟨u,v,rfl⟩:=zG0 r1;exact⟨t,u,v,rfl⟩
private theorem RdAll.ints{X:Addr→Prop}{h:Heap}{vs:List Value}{ns:List Int}(a:RdAll X h vs (zA ns)):IntsAre vs ns:=by
 induction ns generalizing vs with
 | nil=>obtain rfl:=a.n;exact .nil
 | cons n ns ih=>obtain⟨v,r,rfl,p,q⟩:=a.c;obtain⟨_,rfl⟩:=p.i;exact .cons _ _ (ih q)
private theorem RdAll.strVals{X:Addr→Prop}{h:Heap}{vs:List Value}{ys:List Str}(a:RdAll X h vs (yH ys)):∃l:List (Str×Tok),vs=strValues l∧l.map (·.1)=ys:=by
 induction ys generalizing vs with
 | nil=>obtain rfl:=a.n;exact⟨[],rfl,rfl⟩
 | cons n ns ih=>obtain⟨v,r,rfl,p,q⟩:=a.c;obtain⟨t,rfl⟩:=p.s;obtain⟨l,rfl,rfl⟩:=ih q;exact⟨(n,t)::l,rfl,rfl⟩
private theorem RdAll.ofStrVals{X:Addr→Prop}{h:Heap}:∀(l:List (Str×Tok)),RdAll X h (strValues l) (yH (l.map (·.1)))
 | []=>.nil
 | (y,t)::r=>.cons (.str y t) (RdAll.ofStrVals r)
private theorem IntsAre.rd{X:Addr→Prop}{h:Heap}{vs:List Value}{ns:List Int}(i:IntsAre vs ns):RdAll X h vs (zA ns):=by
 induction i with
 | nil=>exact .nil
 | cons n t _ ih=>exact .cons (.int n t) ih
private theorem zCu{a b:Int}(hb:b≠0)(hp:Builtin.divisionGoesByPylong a b=false):Fun prog w W k (.builtin "divmod") [.int a,.int b] (.tuple [.int (a.fdiv b),.int (a.fmod b)]):=fun A X s vs E R inv tx xs h=>by
 have qh:=RdAll.c h;clear h;obtain⟨_,_,rfl,h,r⟩:=qh
 have qr:=RdAll.c r;clear r;obtain⟨_,_,rfl,h2,r⟩:=qr
 obtain rfl:=RdAll.n r;obtain⟨_,rfl⟩:=Rd.v h;obtain⟨_,rfl⟩:=Rd.v h2
 refine divmod_int hb ?_ (.inl hp)
 exact⟨Rd.new_tuple xs (.cons (.int _ _) (.cons (.int _ _) .nil)),.of_heap (tk:=s.toks+1+1) inv fun b o e=>Heap.get?_push_of_some _ e⟩
private theorem zDk{a:Int}:Mth0 prog w W "bit_length" (.int a) (.int (Builtin.Int.intBits a)):=fun A k X s v pos E R inv tx xs h=>by
 obtain⟨t,rfl⟩:=Rd.i h
 refine⟨"int","int.bit_length",PySem.F.plainAttrs_int,PySem.F.slot_int_bit_length,PySem.F.type_int_bit_length,typeIs_int _ _ _,(fun _ e=>nomatch e),?_⟩
 refine seqMethod0_meets PySem.F.slot_int_bit_length PySem.F.entry_int_bit_length (typeIs_int _ _ _) (PySem.F.args_int_bit_length_1 _) (S:=fun _ R s=>R (.ok (.ret (.int (Builtin.Int.intBits a) s.toks))) {s with toks:=s.toks+1}) (.of_wp fun prog w A R s h=>?_) ⟨.int _ _,.of_toks inv⟩
 show wpAny _ _ (do ret (← mkInt (Builtin.Int.intBits a))) _ _ s
 exact wpAny_bind (wpAny_mkInt (wpAny_pure ⟨_,rfl,h⟩))
private theorem Ev.slices{value:PySem.Expr}{lower upper:Option PySem.Expr}{x:Str}{lo hi:Option Int}(h:Ev prog w W k K ρ value (.str x))(h1:Prt prog w W k K ρ lower lo)(h2:Prt prog w W k K ρ upper hi)(hsz:x.length≤sizeLine) :
  Ev prog w W k K ρ (.Subscript value (.Slice lower upper none p) pos) (.str (Txt.slice x lo hi)):=.mk fun A s₀ X₀ env X s E R hk x₀=>by
 rw[eval_Subscript]
 refine wpAny_bind (wpAny_mono (h.run A s₀ X₀ env X s _ R hk x₀) (fun o s₁ ⟨ho,e1⟩=>wpAny_bind (wpAny_holding (wpAny_Slice (wpAny_mono (h1.run A s₀ X₀ env X s₁ _ R hk (x₀.step e1)) (fun l s₂ ⟨⟨t1,hl⟩,e2⟩ =>
  wpAny_mono (h2.run A s₀ X₀ env X s₂ _ R hk ((x₀.step e1).step e2)) (fun u s₃ ⟨⟨t2,hu⟩,e3⟩=>?_) fun _ _ x=>x) fun _ _ x=>x)))) fun _ _ x=>x)
 rw[evalPart_none]
 refine wpAny_pure (wpAny_bind (wpAny_standAt ?_))
 subst hl;subst hu
 have e13:=(e1.trans e2).trans e3
 obtain⟨t,rfl⟩:=Rd.s ho
 have hT:({s₃ with heap:=s₃.heap.push {cls:=.type "slice",data:=.fields #[partValue (lo.map fun z=>(z,t1)),partValue (hi.map fun z=>(z,t2)),.none]}}:Shared).TypeIs (.str x t) "str":=typeIs_str _ _ _
 refine wpAny_bind ?_
 rw[getitemInPython_of_ne hT.not_modules]
 refine wpAny_bind (wpAny_specialOf hT PySem.F.slot_str_getitem.lookup ?_)
 have fin:wpAny (model prog w) A (operate [.ref s₃.heap.objs.size,.str x t] (getItem (.str x t) (.ref s₃.heap.objs.size))) (fun r s₄=>wpAny (model prog w) A (letTemporaryGo value (.str x t) r>>=fun _=>pure r) (fun v s'=>Rd X s'.heap v (.str (Txt.slice x lo hi))∧W.Ext s s') E s₄) E
   {s₃ with heap:=s₃.heap.push {cls:=.type "slice",data:=.fields #[partValue (lo.map fun z=>(z,t1)),partValue (hi.map fun z=>(z,t2)),.none]}}:=by
  refine wpAny_operating (wpAny_getItem_str_slice (l:=lo.map fun z=>(z,t1)) (u:=hi.map fun z=>(z,t2)) (st:=none) ⟨_,Heap.get?_push_size _ rfl,rfl,rfl⟩ rfl ?_)
  have hle:(Txt.slice x lo hi).length≤sizeLine:=Nat.le_trans (Txt.slice_le x _ _) hsz
  have fin2:∀t' tk,wpAny (model prog w) A (letTemporaryGo value (.str x t) (.str (Txt.slice x lo hi) t')>>=fun _=>pure (.str (Txt.slice x lo hi) t')) (fun v s'=>Rd X s'.heap v (.str (Txt.slice x lo hi))∧W.Ext s s') E
    {s₃ with heap:=s₃.heap.push {cls:=.type "slice",data:=.fields #[partValue (lo.map fun z=>(z,t1)),partValue (hi.map fun z=>(z,t2)),.none]},toks:=tk}:=fun t' tk =>
   wpAny_bind (wpAny_letTemporaryGo (wpAny_pure ⟨.str _ _,e13.trans (.of_heap (tk:=tk) e13.inv fun b o e=>Heap.get?_push_of_some _ e)⟩))
  have:=post_val_or_str (c:=(((none:Option (Int×Tok)).map (·.1)).getD 1==1&&(slicePicked x (lo.map fun z=>(z,t1)) (hi.map fun z=>(z,t2)) none).length==x.length)=true) (y:=x) (z:=⟨((slicePicked x (lo.map fun z=>(z,t1)) (hi.map fun z=>(z,t2)) none).filterMap (x.cps[·]?)).toArray⟩) (t:=t)
   (s:={s₃ with heap:=s₃.heap.push {cls:=.type "slice",data:=.fields #[partValue (lo.map fun z=>(z,t1)),partValue (hi.map fun z=>(z,t2)),.none]}})
   (Q:=fun r s₄=>wpAny (model prog w) A (letTemporaryGo value (.str x t) r>>=fun _=>pure r) (fun v s'=>Rd X s'.heap v (.str (Txt.slice x lo hi))∧W.Ext s s') E s₄)
  refine this ?_
  have e0:Txt.slice x lo hi=(if (((none:Option (Int×Tok)).map (·.1)).getD 1==1&&(slicePicked x (lo.map fun z=>(z,t1)) (hi.map fun z=>(z,t2)) none).length==x.length)=true then x else ⟨((slicePicked x (lo.map fun z=>(z,t1)) (hi.map fun z=>(z,t2)) none).filterMap (x.cps[·]?)).toArray⟩):=by
   cases lo <;> cases hi <;> rfl
  rw[←e0]
  exact⟨hle,fin2⟩
 first
  | exact wpAny_pure (wpAny_bind fin)
  | exact wpAny_bind (wpAny_pure (wpAny_bind fin))
  | exact wpAny_bind fin
private theorem zO5{α:Type}(items:Array α)(n:Nat):((List.replicate n items).foldl (fun x y=>x++y) (#[]:Array α)).toList=(List.replicate n items.toList).flatten:=by
 have:∀(n:Nat) (acc:Array α),((List.replicate n items).foldl (fun x y=>x++y) acc).toList=acc.toList++(List.replicate n items.toList).flatten:=by
  intro n
  induction n with
  | zero=>intro acc;simp
  | succ n ih=>intro acc;rw[List.replicate_succ,List.foldl_cons,ih,List.replicate_succ,List.flatten_cons];simp
 simpa using this n #[]
private theorem RdAll.rep{X:Addr→Prop}{h:Heap}{vs:List Value}{ds:List PyData}(r:RdAll X h vs ds):∀n,RdAll X h (List.replicate n vs).flatten (List.replicate n ds).flatten
 | 0=>.nil
 | n+1=>by rw[List.replicate_succ,List.replicate_succ,List.flatten_cons,List.flatten_cons];exact r.append (RdAll.rep r n)
private theorem zEn{A:Around}{E:Value→Shared→Prop}{s:Shared}{l:Addr}{items:Array Value}{n:Nat}{x:Int}{u:Tok}{Q:Value→Shared→Prop}(hl:IsL s.heap l items n)(hlo:0≤x)(hhi:x<2^63)(hsz:items.size*x.toNat≤2^24)
  (h:∀vs:Array Value,vs.toList=(List.replicate x.toNat items.toList).flatten→Q (.ref s.heap.objs.size) {s with heap:=s.heap.push {cls:=.type "list",data:=.seq vs}}):wpAny (model prog w) A (binaryOp .Mult (.ref l) (.int x u)) Q E s:=by
 refine wpAny_binaryOp_repeat_ref (T:="list") (U:="int") (by decide) ⟨_,hl,rfl⟩ (fun s'=>typeIs_int s' x u) noFill_list_mul PySem.F.fills_int_mul PySem.F.slot_int_rmul repeat_list PySem.F.slot_int_index.lookup
  (call_meets PySem.F.slot_int_rmul (typeIs_int s x u) PySem.F.entry_int_rmul (PySem.F.args_int_rmul_2 _ _) (int___rmul___int_list x u l items n)
   ⟨hl,rfl,⟨_,hl,rfl⟩,call_meets PySem.F.slot_list_mul ⟨_,hl,rfl⟩ PySem.F.entry_list_mul (PySem.F.args_list_mul_2 _ _)
    (AutoListH.list___mul___list_int_3 l items n x u (by simp[Builtin.List.listFitsIndex];lia) (by lia) (by simp[Builtin.List.listTooLong,sizeLine];lia))
    ⟨hl,?_⟩⟩)
 refine h _ ?_
 by_cases he:items.isEmpty=true
 ·rw[if_pos he]
  have:items=#[]:=by simpa using he
  subst this
  simp
 ·rw[if_neg he,zO5]
private theorem zJg{xs:List PyData}{b:Int}(h0:0≤b)(h1:b<2^62)(hs:xs.length*b.toNat≤2^24):Op2 prog w W .Mult (.list xs) (.int b) (.list (List.replicate b.toNat xs).flatten):=fun A k X s v u E r i tx xsm h1 h2=>by
 obtain⟨_,rfl⟩:=Rd.v h2
 obtain⟨a,vs,rfl,hx,hl,ha⟩:=Rd.l h1
 obtain⟨n,hl⟩:=hl
 have hlen:vs.size=xs.length:=by have:=ha.length;simpa using this
 refine zEn hl h0 (by lia) (by rw[hlen];exact hs) fun us hus=>?_
 exact⟨Rd.new_list xsm (by rw[hus];exact ha.rep _),.of_heap (tk:=s.toks) i fun b o e=>Heap.get?_push_of_some _ e⟩
private theorem EvN.mul{l r:PySem.Expr}{xs:List PyData}{b:Int}(h1:Ev prog w W k K ρ l (.list xs))(h2:Ev prog w W k K ρ r (.int b))(h0:0≤b)(hb:b<2^62)(hs:xs.length*b.toNat≤2^24) :
  EvN prog w W k K ρ (.BinOp l .Mult r pos) (List.replicate b.toNat xs).flatten:=.mk fun A s₀ X₀ env X s E R hK x₀=>by
 refine wpAny_BinOp (wpAny_mono (h1.run A s₀ X₀ env X s _ R hK x₀) (fun a s₁ ⟨ha,e1⟩=>?_) fun _ _ h=>h)
 refine wpAny_mono (h2.run A s₀ X₀ env X s₁ _ R hK (x₀.step e1)) (fun b s₂ ⟨hb',e2⟩=>?_) fun _ _ h=>h
 have e12:=e1.trans e2
 have ha2:=ha.frame (e2.fram x₀.ts)
 cases hb'
 obtain⟨a,vs,rfl,hx,hl,ha⟩:=Rd.l ha2
 obtain⟨n,hl⟩:=hl
 have hlen:vs.size=xs.length:=by have:=ha.length;simpa using this
 refine zEn hl h0 (by lia) (by rw[hlen];exact hs) fun us hus=>?_
 refine⟨_,us,rfl,vY e12 (Nat.le_refl _),⟨_,Heap.get?_push_size _ rfl⟩,?_,e12.trans (.of_heap (tk:=s₂.toks) e12.inv fun b o e=>Heap.get?_push_of_some _ e)⟩
 rw[hus]
 exact(ha.rep _).frame fun b o hb ho _=>⟨Heap.get?_push_of_some _ ho,fun h=>h.elim hb fun h=>by rw[h,xH] at ho;cases ho⟩
section
variable{x y:Str}{i:Int}{ds:List PyData}
private theorem zNz:Cmp prog w W .In (.str y) (.str x) (Txt.contains x y):=fun A k X s v u E r i tx xs h1 h2=>by obtain⟨_,rfl⟩:=Rd.v h1;obtain⟨_,rfl⟩:=Rd.v h2;exact SB.contains ⟨rfl,.refl i⟩
private theorem zF1(hy:(y.length==0)=false)(hx:x.length≤sizeLine)(hn:(partsBetween x (occurrences x y 0 x.length (x.length+1)) y.length).length≤sizeLine):Mth1 prog w W "split" (.str x) (.str y) (.list (yH (Txt.split x y))):=fun A k X s v pos a E R inv tx xs h ha=>by
 obtain⟨t,rfl⟩:=Rd.s h
 refine⟨"str",_,PySem.F.plainAttrs_str,PySem.F.slot_str_split,PySem.F.type_str_split,typeIs_str _ _ _,(fun _ e=>nomatch e),
  method1_meets PySem.F.slot_str_split PySem.F.entry_str_split (wpAny_mono ha (fun v s₁ ⟨hv,e1⟩=>?_) fun _ _ e=>e)⟩
 obtain⟨u,rfl⟩:=Rd.s hv
 have xs1:∀b,X b→∃o,s₁.heap.get? b=some o:=fun b hb=>by
  obtain⟨o,ho⟩:=xs b hb
  by_cases ht:W.Ts b
  ·obtain⟨o',h',_⟩:=W.inv_Ts _ _ e1.inv ht;exact⟨o',h'⟩
  ·exact⟨o,e1.get ht ho⟩
 have fin:∀(l:List (Str×Tok)) (tk:Tok),l.map (·.1)=Txt.split x y→Rd X (s₁.heap.push {cls:=.type "list",data:=.seq (strValues l).toArray}) (.ref s₁.heap.objs.size) (.list (yH (Txt.split x y))) ∧
   W.Ext s {s₁ with heap:=s₁.heap.push {cls:=.type "list",data:=.seq (strValues l).toArray},toks:=tk}:=fun l tk hl =>
  ⟨Rd.new_list xs1 (by rw[←hl];exact RdAll.ofStrVals l),e1.trans (.of_heap e1.inv fun b o e=>Heap.get?_push_of_some _ e)⟩
 refine⟨typeIs_str _ _ _,PySem.F.args_str_split_2 _ _,?_⟩
 cases h1:(decide (x.length<y.length)||decide (strKind x<strKind y))
 ·cases hf:(occurrences x y 0 x.length (x.length+1)).isEmpty
  ·refine⟨_,meets_str_split_sep x y t u h1 hy hf hx hn,?_⟩
   show wants _ E _ {s₁ with toks:=_,heap:=s₁.heap.push {cls:=.type "list",data:=.seq (strsFrom s₁.toks (partsBetween x (occurrences x y 0 x.length (x.length+1)) y.length)).toArray}}
   rw[strsFrom_eq]
   exact fin (numbered s₁.toks _) _ ((numbered_texts _ _).trans ((if_neg (ne_true_of_eq_false h1)).trans (if_neg (ne_true_of_eq_false hf))).symm)
  ·exact⟨_,meets_str_split_not_found x y t u h1 hy hf,fin [(x,t)] _ ((if_neg (ne_true_of_eq_false h1)).trans (if_pos hf)).symm⟩
 ·exact⟨_,meets_str_split_cannot_occur x y t u h1,fin [(x,t)] _ (if_pos h1).symm⟩
private theorem zE0{ys:List Str}(hok:PySem.JoinOk x ys=true):Mth1 prog w W "join" (.str x) (.list (yH ys)) (.str (Txt.join x ys)):=fun A k X s v pos a E R inv tx xs h ha=>by
 obtain⟨t,rfl⟩:=Rd.s h
 refine SB.join (wpAny_mono ha (fun v s₁ ⟨hv,e1⟩=>?_) fun _ _ e=>e)
 obtain⟨D,vs,rfl,hx,hl,ha⟩:=Rd.l hv
 obtain⟨l,h1,h2⟩:=ha.strVals
 refine⟨D,l,rfl,?_,ys,h2,hok,fun t' tk=>⟨.str _ _,e1.trans (.of_toks e1.inv)⟩⟩
 rw[←h1];exact hl.isList
private theorem wS{n:Int}{ns:List Int}:Mth1 prog w W "count" (.list (zA ns)) (.int n) (.int (ns.count n:Nat)):=fun A k X s v pos a E R inv tx xs h ha=>by
 obtain⟨D,vs,rfl,hx,hl,hr⟩:=Rd.l h
 obtain⟨nn,hl⟩:=hl
 refine⟨"list","list.count",PySem.F.plainAttrs_list,PySem.F.slot_list_count,PySem.F.type_list_count,⟨_,hl,rfl⟩,fun b hb=>by cases hb;exact⟨_,hl,rfl⟩,?_⟩
 refine P.count_list (wpAny_mono ha (fun v s₁ ⟨hv,e1⟩=>?_) fun _ _ e=>e)
 obtain⟨u,rfl⟩:=Rd.i hv
 have hl1:IsL s₁.heap D vs nn:=e1.get (fun h=>hx (tx _ h)) hl
 have hi:=hr.ints
 refine⟨vs,nn,isInt n,hl1,fun y hy=>eq_isInt n u hi y (by simpa using hy),?_⟩
 have e:(vs.toList.countP (isInt n):Nat)=ns.count n:=by exact_mod_cast countP_isInt n hi
 rw[e]
 exact⟨.int _ _,e1.trans (.of_toks e1.inv)⟩
private theorem zL9{j:Nat}{rest:List Nat}(hf:occurrences x y 0 x.length 1=j::rest):Mth1 prog w W "index" (.str x) (.str y) (.int j):=fun A k X s v pos a E R inv tx xs h ha=>by
 obtain⟨t,rfl⟩:=Rd.s h
 refine SB.index (wpAny_mono ha (fun v s₁ ⟨hv,e1⟩=>?_) fun _ _ e=>e)
 obtain⟨u,rfl⟩:=Rd.s hv
 exact⟨y,u,rfl,j,rest,hf,.int _ _,e1.trans (.of_toks e1.inv)⟩
end
end Wk
namespace Wk
variable{prog:Program}{w:World}{W:Wd}{k k':Nat}{K:List (Str×NameKind)}{ρ ρ' ρ₁ ρ₂ ρc:Rho}{pos p apos npos spos tpos:Pos}
private theorem Ex.reverse{y:Str}{ds:List PyData}(hy:ρ.lookup y=some (.own ds))(hsz:ds.length≤sizeLine)(hline:(apos.endLine==pos.line)=true:=by rfl)(hd:(y==("__debug__":Str))=false:=by rfl) :
  Ex prog w W k K ρ (.Expr (.Call (.Attribute (.Name y npos) "reverse" apos) [] [] pos) p) (.next (upd ρ y (.own ds.reverse))):=.mk fun A s₀ X₀ env X s E R hk x=>by
 obtain⟨m,a,vs,hn,hh,h0,hX,hX₀,hp,hr⟩:=x.own hy
 rw[exec_Expr env _ p (by unfold interactive;rw[x.fk];rfl) rfl]
 refine wpAny_bind (wpAny_standAt (wpAny_bind (Call_method0 rfl hline (x.ldOwn hn hh ?_ hd))))
 have hpn:=hp
 obtain⟨n,hpn⟩:=hpn
 have hlen:vs.size=ds.length:=by have:=hr.length;simpa using this
 refine⟨"list","list.reverse",PySem.F.plainAttrs_list,PySem.F.slot_list_reverse,PySem.F.type_list_reverse,⟨_,hpn,rfl⟩,fun b hb=>by cases hb;exact⟨_,hpn,rfl⟩,?_⟩
 refine P.reverse_list hpn ?_ (by lia)
 rw[dropValue_plain (by intro a h;cases h)]
 refine wpAny_pure ⟨rfl,X,x.mutate (tk:=s.toks) hy hn hh h0 hX hX₀ hp (vs':=vs.reverse) ⟨_,by rw[Heap.get?_update_self _ hpn rfl];rfl⟩ (Heap.SameBut.update ..) ?_,fun b o hb ho=>?_⟩
 ·rw[Array.toList_reverse];exact hr.reverse
 ·exact⟨(Heap.get?_update_other _ _ (fun (e:a=b)=>hb (e▸hX))).trans ho,hb⟩
private theorem Ex.extend{y:Str}{e:PySem.Expr}{ds es:List PyData}(hy:ρ.lookup y=some (.own ds))(he:Ev prog w W k K ρ e (.list es))(hsz:ds.length+es.length≤sizeLine)
  (hs:∀env,starEach [e] env=[(false,eval e env)]:=by intro _;rfl) (hline:(apos.endLine==pos.line)=true:=by rfl) (hd:(y==("__debug__":Str))=false:=by rfl) :
  Ex prog w W k K ρ (.Expr (.Call (.Attribute (.Name y npos) "extend" apos) [e] [] pos) p) (.next (upd ρ y (.own (ds++es)))):=.mk fun A s₀ X₀ env X s E R hk x=>by
 obtain⟨m,a,vs,hn,hh,h0,hX,hX₀,hp,hr⟩:=x.own hy
 rw[exec_Expr env _ p (by unfold interactive;rw[x.fk];rfl) rfl]
 refine wpAny_bind (wpAny_standAt (wpAny_bind (Call_method1 rfl (hs env) hline (x.ldOwn hn hh ?_ hd))))
 have hpn:=hp
 obtain⟨n,hpn⟩:=hpn
 refine⟨"list","list.extend",PySem.F.plainAttrs_list,PySem.F.slot_list_extend,PySem.F.type_list_extend,⟨_,hpn,rfl⟩,fun b hb=>by cases hb;exact⟨_,hpn,rfl⟩,?_⟩
 refine P.extend_list (wpAny_mono (he.run A s₀ X₀ env X s E R hk x) (fun v s₁ ⟨hv,e1⟩=>?_) fun _ _ h=>h)
 have x1:=x.step e1
 have hp1:IsL s₁.heap a vs n:=e1.get (x.nts h0) hpn
 obtain⟨hn1,hh1⟩:=x.holds e1 hn hh
 have hlen:vs.size=ds.length:=by have:=hr.length;simpa using this
 obtain⟨b,us,rfl,hx,hl,ha⟩:=Rd.l hv
 obtain⟨n2,hl⟩:=hl
 have hlen2:us.size=es.length:=by have:=ha.length;simpa using this
 refine⟨b,vs,us,n,n2,by lia,by lia,?_,rfl,hp1,hl,?_⟩
 ·have:Builtin.List.listTooLong (vs.size+us.size)=false:=by unfold Builtin.List.listTooLong;simp only[sizeLine] at *;simp;lia
  rw[this];simp
 rw[dropValue_plain (by intro a h;cases h)]
 refine wpAny_pure ⟨rfl,X,x1.mutate (tk:=s₁.toks) hy hn1 hh1 h0 hX hX₀ ⟨n,hp1⟩ (vs':=vs++us) ⟨_,by rw[Heap.get?_update_self _ hp1 rfl];rfl⟩ (Heap.SameBut.update ..) ?_,fun c o hb ho=>?_⟩
 ·rw[Array.toList_append]
  exact(hr.frame (e1.fram x.ts)).append ha
 ·exact⟨(Heap.get?_update_other _ _ (fun (e:a=c)=>hb (e▸hX))).trans (e1.get (fun h=>hb (x.ts c h)) ho),hb⟩
private theorem Ex.setPop{y:Str}{elts:List PySem.Expr}{nn:Nat}{ds:List PyData}{d:PyData}{ys:List Str}(hy:ρ.lookup y=some (.own (ds++[d])))(hsz:ds.length<sizeLine)(hst:Tgt prog w W K (upd ρ y (.own ds)) (.Tuple elts nn tpos) d ρ' ys)
  (hs:∀env,swapsWithSole [.Tuple elts nn tpos] (.Call (.Attribute (.Name y npos) "pop" apos) [] [] pos) p.line env=pure false:=by intro _;rfl)
  (hw:swappedStores [.Tuple elts nn tpos] (.Call (.Attribute (.Name y npos) "pop" apos) [] [] pos) (envK K)=pure none:=by rfl)
  (hline:(apos.endLine==pos.line)=true:=by rfl) (hd:(y==("__debug__":Str))=false:=by rfl) :
  Ex prog w W k K ρ (.Assign [.Tuple elts nn tpos] (.Call (.Attribute (.Name y npos) "pop" apos) [] [] pos) p) (.next ρ'):=.mk fun A s₀ X₀ env X s E R hk x=>by
 obtain⟨m,a,vs,hn,hh,h0,hX,hX₀,hp,hr⟩:=x.own hy
 refine Assign_Tuple (Call_method0 rfl hline (x.ldOwn hn hh ?_ hd)) (hs env) (by rw[jU hk x.fk];exact hw)
 have hpn:=hp
 obtain⟨n,hpn⟩:=hpn
 have hlen:vs.size=ds.length+1:=by have:=hr.length;simpa using this
 refine⟨"list","list.pop",PySem.F.plainAttrs_list,PySem.F.slot_list_pop,PySem.F.type_list_pop,⟨_,hpn,rfl⟩,fun b hb=>by cases hb;exact⟨_,hpn,rfl⟩,?_⟩
 obtain⟨v,hv,hrv⟩:=hr.get (i:=ds.length) (d:=d) (by simp)
 have hv':vs[vs.size-1]?=some v:=by rw[hlen];simpa using hv
 refine P.pop_list hpn hv' ?_ (by lia)
 have hget:(s.heap.update a (Obj.mapSeq fun xs=>xs.eraseIdxIfInBounds (vs.size-1))).PlainList a (vs.eraseIdxIfInBounds (vs.size-1)):=⟨_,by rw[Heap.get?_update_self _ hpn rfl];rfl⟩
 have hds:RdAll X s.heap (vs.eraseIdxIfInBounds (vs.size-1)).toList ds:=by
  have e1:(vs.eraseIdxIfInBounds (vs.size-1)).toList=vs.toList.take ds.length:=by
   rw[hlen,Nat.add_sub_cancel]
   unfold Array.eraseIdxIfInBounds
   rw[dif_pos (by lia),Array.toList_eraseIdx,List.eraseIdx_eq_take_drop_succ]
   have:vs.toList.drop (ds.length+1)=[]:=List.drop_eq_nil_of_le (by simp;lia)
   rw[this,List.append_nil]
  have:=hr.take ds.length
  rw[e1]
  simpa using this
 have x2:=x.mutate (tk:=s.toks) hy hn hh h0 hX hX₀ hp hget (Heap.SameBut.update ..) hds
 have fr:Fram X X s.heap (s.heap.update a (Obj.mapSeq fun xs=>xs.eraseIdxIfInBounds (vs.size-1))):=fun b o hb ho _=>⟨(Heap.get?_update_other _ _ (fun (e:a=b)=>hb (e▸hX))).trans ho,hb⟩
 refine wpAny_mono (hst.run A s₀ X₀ env X _ v _ R.1 hk x2 (hrv.frame fr)) (fun _ s₃ ⟨x3,k3⟩=>?_) fun _ _ h=>h
 refine⟨rfl,X,x3,fun b o hb ho=>?_⟩
 exact(k3.grow x2 fun z hz=>by have:=hst.cells z hz;rw[←hk] at this;exact this) b o hb ((Heap.get?_update_other _ _ (fun (e:a=b)=>hb (e▸hX))).trans ho)
private theorem zHx{ds:List PyData}(hsz:(ds.length:Int)<2^63):Tru prog w W (.list ds) (!ds.isEmpty):=fun A k X s v E r i h=>by
 obtain⟨a,vs,rfl,hx,hl,ha⟩:=Rd.l h
 have hlen:vs.size=ds.length:=by have:=ha.length;simpa using this
 refine wpAny_truthy_list hl.isList (by rw[hlen];exact hsz) ⟨?_,.of_toks i⟩
 have:vs.isEmpty=ds.isEmpty:=by
  rw[Bool.eq_iff_iff]
  simp only[Array.isEmpty_iff,List.isEmpty_iff]
  rw[←Array.size_eq_zero_iff,←List.length_eq_zero_iff,hlen]
 rw[this]
end Wk
namespace Wk
variable{prog:Program}{w:World}{W:Wd}{k k':Nat}{K:List (Str×NameKind)}{ρ ρ' ρ₁ ρ₂ ρc:Rho}{pos p apos npos spos tpos:Pos}
private theorem Ev.glob{A:Around}{E:Value→Shared→Prop}{s₀ s:Shared}{X₀ X:Addr→Prop}{env:Env}{f:Str}{v:Value}{Q:Value→Shared→Prop}(x:St W s₀ X₀ env ρ X s)(hk:env.scope.names=K)(hK:K.lookup f=some .globalImplicit)(hg:W.mg f=some v)(hd:(f==("__debug__":Str))=false)(hQ:Q v s) :
  wpAny (model prog w) A (eval (.Name f npos) env) Q E s :=
 Calls.Name_function_global x.fk (by rw[←hk] at hK;exact hK) (Calls.loadGlobal_global (by rw[x.gl];exact W.inv_ns _ x.inv) hg hQ) hd
noncomputable def CmpG(prog:Program)(w:World)(W:Wd)(op:CmpOp)(f:Str)(x:PyData)(b:Bool):Prop :=
 ∃v,W.mg f=some v∧∀A k X s u E,Room k A→W.Inv s.heap→Rd X s.heap u x→wpAny (model prog w) A (compareOp op u v) (fun r s'=>r=.bool b∧W.Ext s s') E s
private theorem Ev.cmpG{l:PySem.Expr}{op:CmpOp}{f:Str}{x:PyData}{b:Bool}(h1:Ev prog w W k K ρ l x)(hK:K.lookup f=some .globalImplicit)(h3:CmpG prog w W op f x b)(hm:behindInMarks op (.Name f p)=false:=by rfl)(hd:(f==("__debug__":Str))=false:=by rfl) :
  Ev prog w W k K ρ (.Compare l [op] [.Name f p] pos) (.bool b):=.mk fun A s₀ X₀ env X s E R hk x₀=>by
 obtain⟨v,hg,h3⟩:=h3
 refine wpAny_Compare1 (wpAny_mono (h1.run A s₀ X₀ env X s _ R hk x₀) (fun a s₁ ⟨ha,e1⟩=>?_) fun _ _ h=>h) hm
 refine Ev.glob (x₀.step e1) hk hK hg hd ?_
 refine wpAny_mono (h3 A k X s₁ a _ R e1.inv ha) (fun c s₃ ⟨hc,e3⟩=>?_) fun _ _ h=>h
 subst hc
 exact⟨.bool _,e1.trans e3⟩
private theorem Tr.cmpG{l:PySem.Expr}{op:CmpOp}{f:Str}{x:PyData}{b:Bool}(h1:Ev prog w W k K ρ l x)(hK:K.lookup f=some .globalImplicit)(h3:CmpG prog w W op f x b)(hm:behindInMarks op (.Name f p)=false:=by rfl)(hd:(f==("__debug__":Str))=false:=by rfl) :
  Tr prog w W k K ρ (.Compare l [op] [.Name f p] pos) b:=.mk fun A s₀ X₀ env X s E R hk x₀=>by
 obtain⟨v,hg,h3⟩:=h3
 refine wpAny_isTrue_Compare1 (wpAny_mono (h1.run A s₀ X₀ env X s _ R hk x₀) (fun a s₁ ⟨ha,e1⟩=>?_) fun _ _ h=>h) hm
 refine Ev.glob (x₀.step e1) hk hK hg hd ?_
 refine wpAny_mono (h3 A k X s₁ a _ R e1.inv ha) (fun c s₃ ⟨hc,e3⟩=>?_) fun _ _ h=>h
 subst hc
 exact wpAny_pure ⟨rfl,e1.trans e3⟩
noncomputable def DicG{T:Type}[DecidableEq T](W:Wd)(knd:KeyKind prog w T)(f:Str)(t:T→Option PyData):Prop :=
 ∃a g,W.mg f=some (.ref a)∧(a==sysModules)=false∧(∀h,W.Inv h→h.MapOf knd a g)∧∀y,(t y=none∧g y=none) ∨ ∃d v,t y=some d∧g y=some v∧∀X h,Rd X h v d
noncomputable def SetG(prog:Program)(w:World)(W:Wd)(f:Str)(S:Int→Bool):Prop:=∃a n,W.mg f=some (.ref a)∧∀h,W.Inv h→h.SetOf (intKind prog w) a S n
private theorem SetG.in{f:Str}{S:Int→Bool}(h:SetG prog w W f S)(i:Int):CmpG prog w W .In f (.int i) (S i):=by
 obtain⟨a,n,hg,hs⟩:=h
 refine⟨_,hg,fun A k X s u E R inv hu=>?_⟩
 obtain⟨t,rfl⟩:=Rd.i hu
 exact wpAny_inSet_of (knd:=intKind prog w) (k:=i) (by simp[intKind,Value.isInt]) rfl (hs _ inv) ⟨rfl,.of_toks inv⟩
private theorem DicG.notInS{f:Str}{t:Str→Option PyData}(h:DicG W (PySem.strKind prog w) f t)(y:Str):CmpG prog w W .NotIn f (.str y) (!(t y).isSome):=by
 obtain⟨a,g,hg,hm,hs,ht⟩:=h
 refine⟨_,hg,fun A k X s u E R inv hu=>?_⟩
 obtain⟨u,rfl⟩:=Rd.s hu
 refine wpAny_notIn_of (knd:=PySem.strKind prog w) (k:=y) (by simp[PySem.strKind,Value.isStrOf]) hm (hs _ inv) ⟨?_,.of_toks inv⟩
 rcases ht y with⟨h1,h2⟩|⟨d,v,h1,h2,_⟩ <;> rw[h1,h2] <;> rfl
private theorem Ev.getS{f:Str}{t:Str→Option PyData}{e₁ e₂:PySem.Expr}{y:Str}{d:PyData}(h:DicG W (PySem.strKind prog w) f t)(hK:K.lookup f=some .globalImplicit)(h1:Ev prog w W k K ρ e₁ (.str y))(h2:Ev prog w W k K ρ e₂ d)
  (hs:∀env,starEach [e₁,e₂] env=[(false,eval e₁ env),(false,eval e₂ env)]:=by intro _;rfl) (hline:(apos.endLine==pos.line)=true:=by rfl) (hd:(f==("__debug__":Str))=false:=by rfl) :
  Ev prog w W k K ρ (.Call (.Attribute (.Name f npos) "get" apos) [e₁,e₂] [] pos) ((t y).getD d):=.mk fun A s₀ X₀ env X s E R hk x₀=>by
 obtain⟨a,g,hg,hm,hmap,ht⟩:=h
 refine Call_method2 rfl (hs env) hline (Ev.glob x₀ hk hK hg hd ?_)
 have M0:=hmap _ x₀.inv
 refine⟨"dict","dict.get",PySem.F.plainAttrs_dict,PySem.F.slot_dict_get,PySem.F.type_dict_get,M0.typeIs,M0.noDict,?_⟩
 refine wpAny_dict_get2 (knd:=PySem.strKind prog w) hm (wpAny_mono (h1.run A s₀ X₀ env X s E R hk x₀) (fun u s₁ ⟨hu,e1⟩=>wpAny_mono (h2.run A s₀ X₀ env X s₁ E R hk (x₀.step e1)) (fun v s₂ ⟨hv,e2⟩=>?_) fun _ _ h=>h) fun _ _ h=>h)
 obtain⟨u,rfl⟩:=Rd.s hu
 refine⟨y,g,by simp[PySem.strKind,Value.isStrOf],hmap _ e2.inv,?_,(e1.trans e2).trans (.of_toks e2.inv)⟩
 rcases ht y with⟨q1,q2⟩|⟨d',v',q1,q2,q3⟩
 ·rw[q1,q2];exact hv
 ·rw[q1,q2];exact q3 _ _
private theorem Ev.getI{f:Str}{t:Int→Option PyData}{e₁:PySem.Expr}{i:Int}(h:DicG W (intKind prog w) f t)(hK:K.lookup f=some .globalImplicit)(h1:Ev prog w W k K ρ e₁ (.int i))
  (hs:∀env,starEach [e₁] env=[(false,eval e₁ env)]:=by intro _;rfl) (hline:(apos.endLine==pos.line)=true:=by rfl) (hd:(f==("__debug__":Str))=false:=by rfl) :
  Ev prog w W k K ρ (.Call (.Attribute (.Name f npos) "get" apos) [e₁] [] pos) ((t i).getD .none):=.mk fun A s₀ X₀ env X s E R hk x₀=>by
 obtain⟨a,g,hg,hm,hmap,ht⟩:=h
 refine Call_method1 rfl (hs env) hline (Ev.glob x₀ hk hK hg hd ?_)
 have M0:=hmap _ x₀.inv
 refine⟨"dict","dict.get",PySem.F.plainAttrs_dict,PySem.F.slot_dict_get,PySem.F.type_dict_get,M0.typeIs,M0.noDict,?_⟩
 refine wpAny_dict_get1 (knd:=intKind prog w) hm (wpAny_mono (h1.run A s₀ X₀ env X s E R hk x₀) (fun u s₁ ⟨hu,e1⟩=>?_) fun _ _ h=>h)
 obtain⟨u,rfl⟩:=Rd.i hu
 refine⟨i,g,by simp[intKind,Value.isInt],hmap _ e1.inv,?_,e1.trans (.of_toks e1.inv)⟩
 rcases ht i with⟨q1,q2⟩|⟨d',v',q1,q2,q3⟩
 ·rw[q1,q2];exact .none
 ·rw[q1,q2];exact q3 _ _
private theorem cmp_isnone{d:PyData}:Cmp prog w W .Is d .none (match d with | .none=>true | _=>false):=fun A k X s v u E r i tx xs h1 h2=>by
 obtain⟨_,rfl⟩:=Rd.v h2
 refine wpAny_is_plain (by cases h1 <;> rfl) ⟨?_,.refl i⟩
 cases h1 <;> rfl
private theorem jH{d:PyData}:Cmp prog w W .IsNot d .none (match d with | .none=>false | _=>true):=fun A k X s v u E r i tx xs h1 h2=>by
 obtain⟨_,rfl⟩:=Rd.v h2
 refine wpAny_isNot_plain (by cases h1 <;> rfl) ⟨?_,.refl i⟩
 cases h1 <;> rfl
end Wk
end
section
open PySem PyProof.Rows
set_option maxHeartbeats 400000
set_option maxRecDepth 100000
namespace Wk
private theorem zBp:PlainAttrs "re.Pattern" :=
 ⟨⟨"object.__getattribute__",by rw[typeLookup_type,builtinLookup_eq_fast];kernel_rfl,by decide +kernel⟩,by rw[typeLookup_type,builtinLookup_eq_fast];kernel_rfl⟩
private theorem uG:PySem.Slot "re.Pattern" "sub" "re.Pattern.sub" :=
 .of (owner:="re.Pattern") (n:="sub") (by rw[typeLookup_type,builtinLookup_eq_fast];kernel_rfl) (by decide +kernel) (by decide +kernel) (by decide +kernel)
  (by first | exact .inl (by decide +kernel) | exact .inr (by decide +kernel)) (by rw[isSubtype_type];kernel_rfl)
private theorem zEz:typeOf (.builtin "re.Pattern.sub")=pure (.type "method_descriptor"):=by show builtinType _=_;rw[builtinType_eq_fast];kernel_rfl
private theorem zDi:entryFor table "re.Pattern.sub"=some Builtin.«re.Pattern.sub»:=entryFor_of_tree (by kernel_rfl)
private theorem uT:entryFor table "re.Pattern.sub.loop"=some Builtin.«re.Pattern.sub.loop»:=entryFor_of_tree (by kernel_rfl)
private theorem zM7:Manifest.owners.lookup (String.ofList ['n','r','e','t','t','a','P','.','e','r'].reverse)=some Manifest.sig_re_Pattern:=by kernel_rfl
private theorem zFa(a b c:Value):argsOk "re.Pattern.sub" ⟨[a,b,c],[]⟩:=by
 unfold argsOk;rw[signature?_of (id:="re.Pattern.sub") (n:=['b','u','s']) (o:=['n','r','e','t','t','a','P','.','e','r']) (by kernel_rfl) zM7];kernel_rfl
end Wk
end
section
open PySem PySem.Sre
set_option maxHeartbeats 400000
set_option maxRecDepth 100000
set_option autoImplicit false
set_option linter.unusedVariables false
namespace Wk
private theorem vE(n:Nat)(m:M):m.runFor (n+1)=if m.outcome.isSome then m else m.step.runFor n:=rfl
private theorem wZ{m:M}(h:m.outcome.isSome=true)(n:Nat):m.runFor n=m:=by
 cases n with
 | zero=>rfl
 | succ n=>rw[vE,if_pos h]
private theorem wP(a b:Nat)(m:M):m.runFor (a+b)=(m.runFor a).runFor b:=by
  induction a generalizing m with
  | zero=>rw[Nat.zero_add];rfl
  | succ a ih =>
    rw[show a+1+b=(a+b)+1 by lia,vE,vE]
    by_cases h:m.outcome.isSome=true
    · rw[if_pos h,if_pos h,wZ h]
    · rw[if_neg h,if_neg h,ih]
private theorem zGt{m:M}(h:m.outcome.isSome=false):m.runFor 1=m.step:=by
 rw[vE,if_neg (by rw[h];decide)];rfl
noncomputable def Runs(n:Nat)(m m':M):Prop:=∃k,k≤n∧m.runFor k=m'
private theorem Runs.trans{a b:Nat}{m₁ m₂ m₃:M}:Runs a m₁ m₂→Runs b m₂ m₃→Runs (a+b) m₁ m₃:=fun ⟨k,hk,e⟩ ⟨l,hl,e'⟩=>⟨k+l,by lia,by rw[wP,e,e']⟩
private theorem Runs.step{m m':M}(h:m.outcome.isSome=false)(e:m.step=m'):Runs 1 m m':=⟨1,Nat.le_refl _,by rw[zGt h,e]⟩
private theorem Runs.le{a b:Nat}{m m':M}(h:Runs a m m')(hab:a≤b):Runs b m m':=let ⟨k,hk,e⟩:=h;⟨k,by lia,e⟩
noncomputable def zD7:Array Nat:=#[14,4,0,1,1,6,1,16,46,1]
noncomputable def kR:Array Nat:=#[14,9,4,1,2,16,10,16,13,0,7,7,16,13,16,10,15,18,5,16,10,15,13,11,16,13,5,5,0,16,10,1,15,2,0,1]
section
variable(text:Array Nat)(lim s:Nat)(first must:Bool)(seen:Seen)
noncomputable def St1(pc pos handed:Nat)(ans:Option Bool)(seen:Seen):M :=
  { code := zD7, text, lim, start := s, lastStart := lim, wholeText := false, mustAdvance := must, pc, pos, handed, outermost := first, marks := #[], lastmark := -1, lastindex := -1, loops := #[], inner := none,
    frames:=[{wait:=.nextStart,pc:=5,pos:=s,outermost:=first}],weight:=1,answer:=ans,seen,outcome:=none}
noncomputable def beg1:Bool:=s==0||text.getD (s-1) 0==10
private theorem zHt:(St1 text lim s first must 5 s s none seen).step=if beg1 text s then St1 text lim s first must 7 s s none ((seen.add 6).add 44) else St1 text lim s first must 5 s s (some false) ((seen.add 6).add 44):=by
 kernel_rfl
private theorem zFp:(St1 text lim s first must 7 s s none seen).step=if s≥lim then St1 text lim s first must 7 s s (some false) (seen.add 16) else
  if text.getD s 0==46 then St1 text lim s first must 9 (s+1) s none (seen.add 16) else St1 text lim s first must 7 s s (some false) (seen.add 16):=by
 have:(St1 text lim s first must 7 s s none seen).step=if s≥lim then St1 text lim s first must 7 s s (some false) (seen.add 16) else
  (match (text.getD s 0==46) with | false=>St1 text lim s first must 7 s s (some false) (seen.add 16) | true=>St1 text lim s first must 9 (s+1) s none (seen.add 16)):=by kernel_rfl
 rw[this]
 cases text.getD s 0==46 <;> rfl
private theorem zPe:(St1 text lim s first must 9 (s+1) s none seen).step=if (first&&(must&&(s+1)==s))=true then St1 text lim s first must 9 (s+1) s (some false) (seen.add 1) else St1 text lim s first must 9 (s+1) (s+1) (some true) (seen.add 1):=by
 kernel_rfl
private theorem st1_yes(pc pos handed:Nat):(St1 text lim s first must pc pos handed (some true) seen).step={(St1 text lim s first must 5 s handed (some true) seen) with frames:=[],weight:=0}:=by
 kernel_rfl
private theorem st1_end(pc handed:Nat):({(St1 text lim s first must pc s handed (some true) seen) with frames:=[],weight:=0}:M).step={(St1 text lim s first must pc s handed (some true) seen) with frames:=[],weight:=0,outcome:=some .matched}:=by
 kernel_rfl
private theorem zOk(pc pos handed:Nat):(St1 text lim s first must pc pos handed (some false) seen).step=if s<lim then St1 text lim (s+1) false false 5 (s+1) (s+1) none seen else {(St1 text lim s first must 5 s handed (some false) seen) with frames:=[],weight:=0}:=by
 kernel_rfl
private theorem zNv(pc pos handed:Nat):({(St1 text lim s first must pc pos handed (some false) seen) with frames:=[],weight:=0}:M).step={(St1 text lim s first must pc pos handed (some false) seen) with frames:=[],weight:=0,outcome:=some .failed}:=by
 kernel_rfl
end
noncomputable def zA0(text:Array Nat):Nat→Nat→Option Nat
 | 0,_=>none
 | n+1,s=>if beg1 text s&&text.getD s 0==46 then some s else zA0 text n (s+1)
noncomputable def zFy(m:M):Option (Nat×Nat)→Prop
 | some (i,j)=>m.outcome.isSome=true∧(∃h:m.outcome.isSome=true,m.outcome=some .matched)∧m.start=i∧m.handed=j
 | none=>m.outcome=some .failed
private theorem zI8{a s n:Nat}(h:a-s=n+1):s<a∧a-(s+1)=n:=⟨Nat.lt_of_sub_eq_succ h,congrArg Nat.pred h⟩
private theorem zO4{a s:Nat}(h:a-s=0)(h':s≤a):s=a:=Nat.le_antisymm h' (Nat.le_of_sub_eq_zero h)
private theorem le6{a n:Nat}(ha:a≤5):a+1+(6*n+6)≤6*(n+1)+6:=by omega
private theorem le5{n:Nat}:1+1+1+1+1≤6*(n+1)+6:=by omega
private theorem zQc(text:Array Nat)(lim:Nat):∀(n s:Nat) (first must:Bool) (seen:Seen),lim-s=n→s≤lim →
    ∃m',Runs (6*n+6) (St1 text lim s first must 5 s s none seen) m'∧zFy m' ((zA0 text n s).map fun i=>(i,i+1)):=by
  intro n
  induction n with
  | zero =>
    intro s first must seen hn hs
    have hs':¬ s<lim:=Nat.not_lt.mpr (Nat.le_of_eq (zO4 hn hs).symm)
    have nope:∀(pc:Nat) (sn:Seen),Runs 2 (St1 text lim s first must pc s s (some false) sn) {(St1 text lim s first must 5 s s (some false) sn) with frames:=[],weight:=0,outcome:=some .failed}:=fun pc sn =>
      (Runs.step rfl (by rw[zOk,if_neg hs'])).trans (Runs.step rfl (zNv text lim s first must sn 5 s s))
    cases hb:beg1 text s with
    | false =>
      refine⟨_,((Runs.step (m':=St1 text lim s first must 5 s s (some false) ((seen.add 6).add 44)) rfl (by rw[zHt,hb];rfl)).trans (nope 5 _)).le (Nat.le_of_ble_eq_true rfl),rfl⟩
    | true =>
      refine⟨_,(((Runs.step (m':=St1 text lim s first must 7 s s none ((seen.add 6).add 44)) rfl (by rw[zHt,hb];rfl)).trans (Runs.step (m':=St1 text lim s first must 7 s s (some false) (((seen.add 6).add 44).add 16)) rfl (by rw[zFp,if_pos (Nat.not_lt.mp hs')]))).trans (nope 7 _)).le (Nat.le_of_ble_eq_true rfl),rfl⟩
  | succ n ih =>
    intro s first must seen hn hs
    obtain⟨hlt,hn'⟩:=zI8 hn
    have next:∀(pc:Nat) (sn:Seen),Runs 1 (St1 text lim s first must pc s s (some false) sn) (St1 text lim (s+1) false false 5 (s+1) (s+1) none sn):=fun pc sn=>Runs.step rfl (by rw[zOk,if_pos hlt])
    have go:∀(pc:Nat) (sn:Seen) (a:Nat),a≤5→Runs a (St1 text lim s first must 5 s s none seen) (St1 text lim s first must pc s s (some false) sn)→(beg1 text s&&text.getD s 0==46)=false →
        ∃m',Runs (6*(n+1)+6) (St1 text lim s first must 5 s s none seen) m'∧zFy m' ((zA0 text (n+1) s).map fun i=>(i,i+1)):=fun pc sn a ha r hf=>by
      obtain⟨m',r',f⟩:=ih (s+1) false false sn hn' hlt
      refine⟨m',((r.trans (next pc sn)).trans r').le (le6 ha),?_⟩
      unfold zA0
      rw[if_neg (by rw[hf];decide)]
      exact f
    cases hb:beg1 text s with
    | false=>exact go 5 _ 1 (by decide) (Runs.step rfl (by rw[zHt,hb];rfl)) (by rw[hb];rfl)
    | true =>
      have r1:Runs 1 (St1 text lim s first must 5 s s none seen) (St1 text lim s first must 7 s s none ((seen.add 6).add 44)):=Runs.step rfl (by rw[zHt,hb];rfl)
      cases hc:text.getD s 0==46 with
      | false=>exact go 7 _ 2 (by decide) (r1.trans (Runs.step rfl (by rw[zFp,if_neg (Nat.not_le.mpr hlt),hc];rfl))) (by rw[hc,Bool.and_false])
      | true =>
        have r2:=r1.trans (Runs.step (m':=St1 text lim s first must 9 (s+1) s none (((seen.add 6).add 44).add 16)) rfl (by rw[zFp,if_neg (Nat.not_le.mpr hlt),hc];rfl))
        have r3:=r2.trans (Runs.step (m':=St1 text lim s first must 9 (s+1) (s+1) (some true) ((((seen.add 6).add 44).add 16).add 1)) rfl (by
          rw[zPe,if_neg]
          have:((s+1)==s)=false:=by simp
          rw[this];simp))
        have r4:=r3.trans (Runs.step rfl (st1_yes text lim s first must _ 9 (s+1) (s+1)))
        have r5:=r4.trans (Runs.step rfl (st1_end text lim s first must _ 5 (s+1)))
        refine⟨_,r5.le le5,?_⟩
        unfold zA0
        rw[if_pos (by rw[hb,hc];rfl)]
        exact⟨rfl,⟨rfl,rfl⟩,rfl,rfl⟩
private theorem zIg(text:Array Nat)(lim s:Nat)(must:Bool)(hs:s≤lim) :
  ∃m',Runs (6*(lim-s)+6) (forSearch zD7 text 0 s lim must) m'∧zFy m' ((zA0 text (lim-s) s).map fun i=>(i,i+1)):=by
 by_cases h:s<lim
 ·have e:forSearch zD7 text 0 s lim must=if (decide (s>lim)||decide (lim-s<1))=true then (forSearch zD7 text 0 s lim must) else St1 text lim s true must 5 s s none (({}:Seen).add 14):=by
   rw[if_neg (by simp;lia)]
   have:forSearch zD7 text 0 s lim must=if (decide (s>lim)||decide (lim-s<1))=true then {(St1 text lim s true must 5 s s (some false) (({}:Seen).add 14)) with frames:=[],weight:=0,lastStart:=0} else St1 text lim s true must 5 s s none (({}:Seen).add 14):=by kernel_rfl
   rw[this,if_neg (by simp;lia)]
  rw[if_neg (by simp;lia)] at e
  rw[e]
  exact zQc text lim _ s true must _ rfl hs
 ·have hs':lim-s=0:=by lia
  rw[hs']
  have e:forSearch zD7 text 0 s lim must=if (decide (s>lim)||decide (lim-s<1))=true then {(St1 text lim s true must 5 s s (some false) (({}:Seen).add 14)) with frames:=[],weight:=0,lastStart:=0} else St1 text lim s true must 5 s s none (({}:Seen).add 14):=by kernel_rfl
  rw[e,if_pos (by simp;lia)]
  exact⟨{(St1 text lim s true must 5 s s (some false) (({}:Seen).add 14)) with frames:=[],weight:=0,lastStart:=0,outcome:=some .failed},(Runs.step rfl (by kernel_rfl)).le (by lia),rfl⟩
end Wk
namespace Wk
section
variable(text:Array Nat)(lim s:Nat)(seen:Seen)
noncomputable def F0(s:Nat):Sre.Frame:={wait:=.nextStart,pc:=10,pos:=s,outermost:=true}
noncomputable def Fb(pc s:Nat):Sre.Frame:={wait:=.nextBranch,pc:=pc,pos:=s,outermost:=true}
noncomputable def Fl(s:Nat):Sre.Frame:={wait:=.lookNot,pc:=26,pos:=s,outermost:=true}
noncomputable def St2(outermost:Bool)(pc pos handed:Nat)(frames:List Sre.Frame)(weight:Nat)(ans:Option Bool)(seen:Seen):M :=
  { code := kR, text, lim, start := s, lastStart := lim, wholeText := false, mustAdvance := false, pc, pos, handed, outermost, marks := #[], lastmark := -1, lastindex := -1, loops := #[], inner := none,
    frames:=frames,weight:=weight,answer:=ans,seen,outcome:=none}
private theorem st2_br:(St2 text lim s true 10 s s [F0 s] 1 none seen).step=St2 text lim s true 12 s s [Fb 11 s,F0 s] 2 none (seen.add 7):=by kernel_rfl
private theorem qA(o:Bool)(pc pos handed c:Nat)(fr:List Sre.Frame)(wt:Nat)(hpc:pc=12∧c=13∨pc=14∧c=10∨pc=19∧c=10∨pc=24∧c=13∨pc=29∧c=10):(St2 text lim s o pc pos handed fr wt none seen).step =
  if pos≥lim then St2 text lim s o pc pos handed fr wt (some false) (seen.add 16) else
  if text.getD pos 0==c then St2 text lim s o (pc+2) (pos+1) handed fr wt none (seen.add 16) else St2 text lim s o pc pos handed fr wt (some false) (seen.add 16):=by
 have key:∀pc c,pc=12∧c=13∨pc=14∧c=10∨pc=19∧c=10∨pc=24∧c=13∨pc=29∧c=10→(St2 text lim s o pc pos handed fr wt none seen).step=if pos≥lim then St2 text lim s o pc pos handed fr wt (some false) (seen.add 16) else
  (match (text.getD pos 0==c) with | false=>St2 text lim s o pc pos handed fr wt (some false) (seen.add 16) | true=>St2 text lim s o (pc+2) (pos+1) handed fr wt none (seen.add 16)):=by
  rintro pc c (⟨rfl,rfl⟩|⟨rfl,rfl⟩|⟨rfl,rfl⟩|⟨rfl,rfl⟩|⟨rfl,rfl⟩) <;> cases fr <;> kernel_rfl
 rw[key pc c hpc]
 cases text.getD pos 0==c <;> rfl
private theorem zDj(o:Bool)(pc pos handed:Nat)(fr:List Sre.Frame)(wt:Nat)(hpc:pc=16∨pc=21∨pc=32):(St2 text lim s o pc pos handed fr wt none seen).step=St2 text lim s o 35 pos handed fr wt none (seen.add 15):=by
 rcases hpc with rfl|rfl|rfl <;> cases fr <;> kernel_rfl
private theorem zGv(pc pos handed:Nat)(fr:List Sre.Frame)(wt:Nat)(hpc:pc=35):(St2 text lim s true pc pos handed fr wt none seen).step=St2 text lim s true 35 pos pos fr wt (some true) (seen.add 1):=by
 subst hpc;cases fr <;> kernel_rfl
private theorem zJ5(pos handed:Nat)(fr:List Sre.Frame):(St2 text lim s true 26 pos handed fr 2 none seen).step=St2 text lim s false 29 pos pos (Fl pos::fr) 3 none (seen.add 5):=by
 cases fr <;> kernel_rfl
private theorem zHu(pos handed pc:Nat)(o:Bool):(St2 text lim s o pc pos handed [Fb 11 s,F0 s] 2 (some false) seen).step=St2 text lim s true 19 s s [Fb 18 s,F0 s] 2 none seen:=by kernel_rfl
private theorem zNp(pos handed pc:Nat)(o:Bool):(St2 text lim s o pc pos handed [Fb 18 s,F0 s] 2 (some false) seen).step=St2 text lim s true 24 s s [Fb 23 s,F0 s] 2 none seen:=by kernel_rfl
private theorem zMs(pos handed pc b:Nat)(o:Bool):(St2 text lim s o pc pos handed [Fb b s,F0 s] 2 (some true) seen).step=St2 text lim s true b s handed [F0 s] 1 (some true) seen:=by kernel_rfl
private theorem zPo(pos p handed pc:Nat)(o:Bool)(fr:List Sre.Frame):(St2 text lim s o pc pos handed (Fl p::fr) 3 (some false) seen).step=St2 text lim s true 32 p handed fr 2 none seen:=by kernel_rfl
private theorem zOx(pos handed pc:Nat)(o:Bool):(St2 text lim s o pc pos handed [F0 s] 1 (some true) seen).step=St2 text lim s true 10 s handed [] 0 (some true) seen:=by kernel_rfl
private theorem zQn(pos handed pc:Nat)(o:Bool):(St2 text lim s o pc pos handed [] 0 (some true) seen).step={(St2 text lim s o pc pos handed [] 0 (some true) seen) with outcome:=some .matched}:=by kernel_rfl
noncomputable def yU(text:Array Nat)(lim s:Nat):Nat:=if text.getD s 0==13&&decide (s+1<lim)&&text.getD (s+1) 0==10 then 2 else 1
private theorem run2(hs:s<lim)(hc:(text.getD s 0==10||text.getD s 0==13)=true):∃m',Runs 30 (St2 text lim s true 10 s s [F0 s] 1 none seen) m'∧zFy m' (some (s,s+yU text lim s)):=by
  have fin:∀(pos handed pc b:Nat) (o:Bool) (sn:Seen),Runs 3 (St2 text lim s o pc pos handed [Fb b s,F0 s] 2 (some true) sn) {(St2 text lim s true 10 s handed [] 0 (some true) sn) with outcome:=some .matched}:=fun pos handed pc b o sn =>
    ((Runs.step rfl (zMs text lim s sn pos handed pc b o)).trans (Runs.step rfl (zOx text lim s sn s handed b true))).trans (Runs.step rfl (zQn text lim s sn s handed 10 true))
  have r0:Runs 1 (St2 text lim s true 10 s s [F0 s] 1 none seen) _:=Runs.step rfl (st2_br text lim s seen)
  cases h13:text.getD s 0==13 with
  | false =>
    have h10:(text.getD s 0==10)=true:=by rw[h13,Bool.or_false] at hc;exact hc
    have hE:yU text lim s=1:=by unfold yU;rw[h13];rfl
    have r1:=r0.trans (Runs.step (m':=St2 text lim s true 12 s s [Fb 11 s,F0 s] 2 (some false) ((seen.add 7).add 16)) rfl (by rw[qA text lim s _ true 12 s s 13 _ 2 (by simp),if_neg (by omega),h13];rfl))
    have r2:=r1.trans (Runs.step rfl (zHu text lim s _ s s 12 true))
    have r3:=r2.trans (Runs.step (m':=St2 text lim s true 21 (s+1) s [Fb 18 s,F0 s] 2 none (((seen.add 7).add 16).add 16)) rfl (by rw[qA text lim s _ true 19 s s 10 _ 2 (by simp),if_neg (by omega),h10];rfl))
    have r4:=r3.trans (Runs.step rfl (zDj text lim s _ true 21 (s+1) s _ 2 (by simp)))
    have r5:=r4.trans (Runs.step rfl (zGv text lim s _ 35 (s+1) s _ 2 rfl))
    have r6:=r5.trans (fin (s+1) (s+1) 35 18 true _)
    exact⟨_,r6.le (by omega),by rw[hE];exact⟨rfl,⟨rfl,rfl⟩,rfl,rfl⟩⟩
  | true =>
    have r1:=r0.trans (Runs.step (m':=St2 text lim s true 14 (s+1) s [Fb 11 s,F0 s] 2 none ((seen.add 7).add 16)) rfl (by rw[qA text lim s _ true 12 s s 13 _ 2 (by simp),if_neg (by omega),h13];rfl))
    cases h2:(decide (s+1<lim)&&text.getD (s+1) 0==10) with
    | true =>
      have hE:yU text lim s=2:=by unfold yU;rw[h13,Bool.true_and,h2];rfl
      obtain⟨h3,h4⟩:=Bool.and_eq_true_iff.mp h2
      have h3':s+1<lim:=by simpa using h3
      have r2:=r1.trans (Runs.step (m':=St2 text lim s true 16 (s+1+1) s [Fb 11 s,F0 s] 2 none (((seen.add 7).add 16).add 16)) rfl (by rw[qA text lim s _ true 14 (s+1) s 10 _ 2 (by simp),if_neg (by omega),h4];rfl))
      have r4:=r2.trans (Runs.step rfl (zDj text lim s _ true 16 (s+1+1) s _ 2 (by simp)))
      have r5:=r4.trans (Runs.step rfl (zGv text lim s _ 35 (s+1+1) s _ 2 rfl))
      have r6:=r5.trans (fin (s+1+1) (s+1+1) 35 11 true _)
      exact⟨_,r6.le (by omega),by rw[hE];exact⟨rfl,⟨rfl,rfl⟩,rfl,rfl⟩⟩
    | false =>
      have hE:yU text lim s=1:=by unfold yU;rw[h13,Bool.true_and,h2];rfl
      have no:∀(o:Bool) (pc handed:Nat) (fr:List Sre.Frame) (wt:Nat) (sn:Seen),pc=14∨pc=29→(St2 text lim s o pc (s+1) handed fr wt none sn).step=St2 text lim s o pc (s+1) handed fr wt (some false) (sn.add 16):=fun o pc handed fr wt sn hp=>by
        rw[qA text lim s sn o pc (s+1) handed 10 fr wt (by rcases hp with rfl|rfl <;> simp)]
        by_cases hl:s+1≥lim
        · rw[if_pos hl]
        · rw[if_neg hl]
          have:(text.getD (s+1) 0==10)=false:=by
            cases hh:text.getD (s+1) 0==10 with
            | false=>rfl
            | true=>rw[hh,Bool.and_true] at h2;simp at h2;omega
          rw[this];rfl
      have r2:=r1.trans (Runs.step rfl (no true 14 s _ 2 _ (by simp)))
      have r3:=r2.trans (Runs.step rfl (zHu text lim s _ (s+1) s 14 true))
      have h10:(text.getD s 0==10)=false:=by
        have:=eq_of_beq h13
        rw[this];rfl
      have r4:=r3.trans (Runs.step (m':=St2 text lim s true 19 s s [Fb 18 s,F0 s] 2 (some false) ((((seen.add 7).add 16).add 16).add 16)) rfl (by rw[qA text lim s _ true 19 s s 10 _ 2 (by simp),if_neg (by omega),h10];rfl))
      have r5:=r4.trans (Runs.step rfl (zNp text lim s _ s s 19 true))
      have r6:=r5.trans (Runs.step (m':=St2 text lim s true 26 (s+1) s [Fb 23 s,F0 s] 2 none (((((seen.add 7).add 16).add 16).add 16).add 16)) rfl (by rw[qA text lim s _ true 24 s s 13 _ 2 (by simp),if_neg (by omega),h13];rfl))
      have r7:=r6.trans (Runs.step rfl (zJ5 text lim s _ (s+1) s _))
      have r8:=r7.trans (Runs.step rfl (no false 29 (s+1) _ 3 _ (by simp)))
      have r9:=r8.trans (Runs.step rfl (zPo text lim s _ (s+1) (s+1) (s+1) 29 false _))
      have r10:=r9.trans (Runs.step rfl (zDj text lim s _ true 32 (s+1) (s+1) _ 2 (by simp)))
      have r11:=r10.trans (Runs.step rfl (zGv text lim s _ 35 (s+1) (s+1) _ 2 rfl))
      have r12:=r11.trans (fin (s+1) (s+1) 35 23 true _)
      exact⟨_,r12.le (by omega),by rw[hE];exact⟨rfl,⟨rfl,rfl⟩,rfl,rfl⟩⟩
end
noncomputable def zCz(c:Nat):Bool:=c==10||c==13
noncomputable def QT(text:Array Nat):Nat→Nat→Option Nat
 | 0,_=>none
 | n+1,s=>if zCz (text.getD s 0) then some s else QT text n (s+1)
private theorem inSet2(c:Nat)(seen:Seen):∃sn,inSet kR c kR.size 5 true seen=.ok (zCz c,sn):=by
 have:inSet kR c kR.size 5 true seen=if c==10 then .ok (true,seen.add 16) else if c==13 then .ok (true,(seen.add 16).add 16) else .ok (false,((seen.add 16).add 16).add 0):=by kernel_rfl
 rw[this]
 unfold zCz
 cases c==10 <;> cases c==13 <;> exact⟨_,rfl⟩
private theorem adm2(m:M)(hc:m.code=kR):∀(n s:Nat) (seen:Seen),m.lim-s=n→s≤m.lim→∃sn,M.admitted m (n+1) s seen=.ok (QT m.text n s,sn):=by
  intro n
  induction n with
  | zero =>
    intro s seen h h'
    refine⟨seen,?_⟩
    unfold M.admitted
    rw[if_pos (Nat.le_of_sub_eq_zero h)];rfl
  | succ n ih =>
    intro s seen h h'
    unfold M.admitted
    obtain⟨hlt,h2⟩:=zI8 h
    rw[if_neg (Nat.not_le.mpr hlt),hc]
    obtain⟨sn,e⟩:=inSet2 (m.text.getD s 0) seen
    rw[e]
    unfold QT
    cases hE:zCz (m.text.getD s 0) with
    | true=>exact⟨sn,rfl⟩
    | false =>
      simp only[Bool.false_eq_true,if_false]
      exact ih (s+1) sn h2 hlt
private theorem zDl(text:Array Nat):∀(n s i:Nat),QT text n s=some i→s≤i∧i<s+n∧zCz (text.getD i 0)=true
  | 0,s,i,h=>by cases h
  | n + 1, s, i, h => by
    unfold QT at h
    by_cases hE:zCz (text.getD s 0)=true
    · rw[if_pos hE] at h;cases h;exact⟨Nat.le_refl _,by omega,hE⟩
    · rw[if_neg hE] at h
      obtain⟨h1,h2,h3⟩:=zDl text n (s+1) i h
      exact⟨by omega,by omega,h3⟩
private theorem zId(text:Array Nat)(lim s:Nat)(must:Bool)(hs:s≤lim) :
    ∃m',Runs 40 (forSearch kR text 0 s lim must) m'∧zFy m' ((QT text (lim-s) s).map fun i=>(i,i+yU text lim i)):=by
  let m0:M:={code:=kR,text,lim,start:=s,lastStart:=lim,wholeText:=false,mustAdvance:=must,pc:=10,pos:=s,handed:=s,outermost:=true,marks:=#[],seen:=({}:Seen).add 14}
  by_cases h:s<lim
  · have e:forSearch kR text 0 s lim must=if (decide (s>lim)||decide (lim-s<1))=true then {m0 with lastStart:=0,answer:=some false} else m0.attemptFrom s true:=by kernel_rfl
    rw[e,if_neg (by simp;omega)]
    obtain⟨sn,ha⟩:=adm2 m0 rfl (lim-s) s m0.seen rfl hs
    have e2:m0.attemptFrom s true=(match M.admitted m0 (m0.lim+1-s) s m0.seen with
      | .ok (some s,seen)=>M.attemptAt {m0 with mustAdvance:=false,seen} s true
      | .ok (none,seen)=>M.say {m0 with seen} false
      | .error why=>m0.stick why):=by kernel_rfl
    have e3:m0.lim+1-s=lim-s+1:=by show lim+1-s=_;omega
    rw[e2,e3,ha]
    cases hf:QT m0.text (lim-s) s with
    | none =>
      exact⟨{m0 with seen:=sn,answer:=some false,outcome:=some .failed},(Runs.step rfl (by kernel_rfl)).le (by omega),rfl⟩
    | some i =>
      have hf':QT text (lim-s) s=some i:=hf
      obtain⟨h1,h2,h3⟩:=zDl text _ _ _ hf'
      have e4:M.attemptAt {m0 with mustAdvance:=false,seen:=sn} i true=St2 text lim i true 10 i i [F0 i] 1 none sn:=by kernel_rfl
      show ∃m',Runs 40 (M.attemptAt {m0 with mustAdvance:=false,seen:=sn} i true) m'∧_
      rw[e4]
      obtain⟨m',r,f⟩:=run2 text lim i sn (by omega) h3
      exact⟨m',r.le (by omega),f⟩
  · have hs':lim-s=0:=by omega
    rw[hs']
    have e:forSearch kR text 0 s lim must=if (decide (s>lim)||decide (lim-s<1))=true then {m0 with lastStart:=0,answer:=some false} else m0.attemptFrom s true:=by kernel_rfl
    rw[e,if_pos (by simp;omega)]
    exact⟨{m0 with lastStart:=0,answer:=some false,outcome:=some .failed},(Runs.step rfl (by kernel_rfl)).le (by omega),rfl⟩
end Wk
end
section
open PySem PySem.Sre PyProof.Rows
open PySem.Builtin PySem.Builtin.Re
set_option maxHeartbeats 400000
set_option maxRecDepth 100000
set_option autoImplicit false
set_option linter.unusedVariables false
namespace Wk
section
variable{prog:Program}{w:World}{A:Around}{E:Value→Shared→Prop}{s:Shared}
private theorem jT:∀(turns k:Nat) (m:M) (s:Shared) (Q:M→Shared→Prop),k<4*turns→(m.runFor k).outcome.isSome=true→Q (m.runFor k) s→wpAny (model prog w) A (reDrive turns m) Q E s
  | 0,k,m,s,Q,hk,_,_=>absurd hk (by lia)
  | turns + 1, k, m, s, Q, hk, ho, hq => by
    unfold reDrive
    show wpAny _ A (if (m.runFor reTurnSteps).outcome.isSome=true then pure (m.runFor reTurnSteps) else (do rule "sre.turn";reDrive turns (m.runFor reTurnSteps))) Q E s
    by_cases h4:(m.runFor reTurnSteps).outcome.isSome=true
    · rw[if_pos h4]
      have e:m.runFor k=m.runFor reTurnSteps:=by
        rcases Nat.le_total k reTurnSteps with h|h
        · obtain⟨d,hd⟩:=Nat.exists_eq_add_of_le h
          rw[hd,wP,wZ ho]
        · obtain⟨d,hd⟩:=Nat.exists_eq_add_of_le h
          rw[hd,wP,wZ h4]
      exact wpAny_pure (e▸hq)
    · rw[if_neg h4]
      refine wpAny_bind (wpAny_rule ?_)
      have hk4:reTurnSteps≤k:=by
        rcases Nat.le_total k reTurnSteps with h|h
        · exfalso
          obtain⟨d,hd⟩:=Nat.exists_eq_add_of_le h
          rw[hd,wP,wZ ho] at h4
          exact h4 ho
        · exact h
      obtain⟨d,hd⟩:=Nat.exists_eq_add_of_le hk4
      rw[hd,wP] at ho hq
      have h4':reTurnSteps=4:=rfl
      exact jT turns d (m.runFor reTurnSteps) s Q (by lia) ho hq
private theorem vK{m m':M}{n:Nat}{o:Option (Nat×Nat)}{Q:Option M→Shared→Prop}(r:Runs n m m')(hn:n<4*2^64)(f:zFy m' o)
    (hs:∀i j,o=some (i,j)→∀m'':M,m''.start=i→m''.handed=j→Q (some m'') s) (h0:o=none→Q none s):wpAny (model prog w) A (reRunToEnd m) Q E s:=by
  obtain⟨k,hk,e⟩:=r
  have ho:(m.runFor k).outcome.isSome=true:=by
    rw[e]
    cases o with
    | none=>show m'.outcome.isSome=true;rw[show m'.outcome=some .failed from f];rfl
    | some p=>exact f.1
  unfold reRunToEnd
  refine wpAny_bind (jT (2^64) k m s _ (by lia) ho ?_)
  rw[e]
  refine wpAny_bind (wpAny_forIn_list _ (fun _ _ s'=>s'=s) (fun _ s'=>wpAny (model prog w) A (match m'.outcome with
    | some .matched=>pure (some m')
    | some .failed=>pure none
    | some (.stuck why)=>unsupported s!"_sre:{why}"
    | none=>unsupported "internal:sre:no-outcome") Q E s') (fun x rest b s' hs'=>?_) (fun b s' hs'=>?_) _ _ rfl)
  · subst hs'
    cases m'.seen.has x
    · exact wpAny_pure rfl
    · exact wpAny_bind (wpAny_rule (wpAny_pure rfl))
  · subst hs'
    cases o with
    | none =>
      rw[show m'.outcome=some .failed from f]
      exact wpAny_pure (h0 rfl)
    | some p =>
      obtain⟨i,j⟩:=p
      obtain⟨_,⟨_,f2⟩,f3,f4⟩:=f
      rw[f2]
      exact wpAny_pure (hs i j rfl m' f3 f4)
noncomputable def zDr(h:Heap)(a:Addr)(code:Array Nat):Prop :=
  ∃ fs tp items n, h.get? a = some { cls := .type "re.Pattern", dict := none, data := .fields fs, slots := #[] } ∧ fs.getD 2 .none = .int 0 0 ∧ fs.getD 6 .none = .int 0 0 ∧ fs.getD 5 .none = .ref tp ∧
    h.get? tp=some {cls:=.type "tuple",dict:=none,data:=.seq items n,slots:=#[]}∧(items.map reRawOf).map (·.toNat)=code
private theorem zDr.keep{h h':Heap}{a:Addr}{code:Array Nat}(p:zDr h a code){D:Addr}(hD:h.get? D=none ∨ ∃vs n,h.get? D=some {cls:=.type "list",dict:=none,data:=.seq vs n,slots:=#[]})(k:∀b o,b≠D→h.get? b=some o→h'.get? b=some o):zDr h' a code:=by
 obtain⟨fs,tp,items,n,h1,h2,h3,h4,h5,h6⟩:=p
 refine⟨fs,tp,items,n,k _ _ ?_ h1,h2,h3,h4,k _ _ ?_ h5,h6⟩
 ·rintro rfl
  rcases hD with hD|⟨vs,n,hD⟩
  ·rw[h1] at hD;cases hD
  ·rw[h1] at hD;exact absurd (Value.type.inj (congrArg Obj.cls (Option.some.inj hD))) (by decide)
 ·rintro rfl
  rcases hD with hD|⟨vs,n,hD⟩
  ·rw[h5] at hD;cases hD
  ·rw[h5] at hD;exact absurd (Value.type.inj (congrArg Obj.cls (Option.some.inj hD))) (by decide)
private theorem yY{a:Addr}{code:Array Nat}{x:Str}{t:Tok}{Q:ReTarget→Shared→Prop}(p:zDr s.heap a code)
  (h:Q {pattern:=.ref a,string:=.str x t,code:=code,text:=x.cps,kind:=0,groups:=0,pos:=0,lim:=x.cps.size} s):wpAny (model prog w) A (reWholeTarget (.ref a) (.str x t)) Q E s:=by
 obtain⟨fs,tp,items,n,h1,h2,h3,h4,h5,h6⟩:=p
 unfold reWholeTarget
 refine wpAny_bind (wpAny_fieldsOf h1 rfl ?_)
 refine wpAny_bind (m:=reTextOf (.str x t)) (wpAny_pure ?_)
 dsimp only
 rw[h3,h4,h2]
 refine wpAny_bind (m:=reNoCollectionInside (.str x t) 0) (wpAny_pure ?_)
 refine wpAny_bind (m:=reRawItems (.ref tp)) ?_
 unfold reRawItems
 refine wpAny_bind (wpAny_seqItems h5 rfl ?_)
 refine wpAny_pure (wpAny_pure ?_)
 show Q {pattern:=.ref a,string:=.str x t,code:=(items.map reRawOf).map (·.toNat),text:=x.cps,kind:=0,groups:=0,pos:=0,lim:=x.cps.size} s
 rw[h6];exact h
end
end Wk
namespace Wk
noncomputable def wR(x:Array Nat)(d i:Nat):List Str:=if d<i then [⟨x.extract d i⟩] else []
noncomputable def yG(fnd:Nat→Option (Nat×Nat))(x:Array Nat)(repl:Str):Nat→Nat→List Str
  | 0,d=>wR x d x.size
  | n + 1, d => match fnd d with
    | some (i,j)=>wR x d i++repl::yG fnd x repl n j
    | none=>wR x d x.size
structure Finder(code:Array Nat)(x:Array Nat)(fnd:Nat→Option (Nat×Nat)):Prop where
 runs:∀start must,start≤x.size→∃m' n,n<4*2^64∧Runs n (forSearch code x 0 start x.size must) m'∧zFy m' (fnd start)
 bounds:∀start i j,start≤x.size→fnd start=some (i,j)→start≤i∧i<j∧j≤x.size
section
variable{prog:Program}{w:World}{A:Around}{E:Value→Shared→Prop}{s:Shared}
noncomputable def qT(pat string repl:Value)(n done start:Int)(must:Bool)(yG:Value):Args:=⟨[pat,string,repl,rawInt 0,rawInt 0,rawInt n,rawInt done,rawInt start,.bool must,yG,.bool false],[]⟩
private theorem xI:plainId "re.Pattern.sub.loop"=true:=by decide +kernel
private theorem vG{D:Addr}{l:List (Str×Tok)}{y:Str}{u:Tok}{Q:Unit→Shared→Prop}(hp:s.heap.PlainList D (strValues l).toArray)(hl:l.length≤sizeLine)
  (h:∀h',h'.PlainList D (strValues (l++[(y,u)])).toArray→(∀b o,b≠D→s.heap.get? b=some o→h'.get? b=some o)→Q () {s with heap:=h'}):wpAny (model prog w) A (updateSeq D (·.push (.str y u))) Q E s:=by
 obtain⟨n,hp⟩:=hp
 refine wpAny_updateSeq hp rfl ?_ (by simpa [strValues] using hl) (by simp[strValues];lia)
 have hpl:(s.heap.update D (Obj.mapSeq fun xs=>xs.push (.str y u))).PlainList D ((strValues l).toArray.push (.str y u)):=⟨_,by rw[Heap.get?_update_self _ hp rfl];rfl⟩
 refine h _ ?_ fun b o hb e=>(Heap.get?_update_other _ _ (Ne.symm hb)).trans e
 rw[show(strValues (l++[(y,u)])).toArray=(strValues l).toArray.push (.str y u) by simp[strValues]]
 exact hpl
private theorem zI7{pat D:Addr}{code:Array Nat}{x repl:Str}{t u:Tok}{fnd:Nat→Option (Nat×Nat)}(hf:Finder code x.cps fnd)(hx:x.cps.size≤sizeLine){done k:Nat}{must:Bool}{l:List (Str×Tok)}{T:List Str}{s:Shared}{R:Result→Shared→Prop}
  (hd:done≤x.cps.size) (hn:fnd done=none) (p:zDr s.heap pat code) (hp:s.heap.PlainList D (strValues l).toArray) (hT:T=l.map (·.1)++wR x.cps done x.cps.size) (hTl:T.length≤sizeLine) (hok:JoinOk Str.empty T=true)
  (hR:∀t' h' tk,(∀b o,b≠D→s.heap.get? b=some o→h'.get? b=some o)→R (.ok (.ret (.str (Txt.join Str.empty T) t'))) {s with heap:=h',toks:=tk}) :
  codeAny (model prog w) A (.builtin "re.Pattern.sub.loop" (qT (.ref pat) (.str x t) (.str repl u) k done done must (.ref D))) R s:=by
 have hl:l.length≤sizeLine:=by rw[hT] at hTl;simp at hTl;lia
 refine codeAny_builtin uT ?_
 rw[Around.under_plainId xI _]
 unfold Builtin.«re.Pattern.sub.loop» qT rawInt
 dsimp only
 refine wpAny_bind (yY p ?_)
 refine wpAny_bind (m:=reLiteralCannotBeTurned _) (wpAny_pure ?_)
 dsimp only
 obtain⟨m',nn,hnn,r,f⟩:=hf.runs done must hd
 refine wpAny_bind ?_
 rw[if_neg (by simp)]
 unfold reNextFound
 rw[Int.toNat_natCast]
 refine vK r hnn f (fun i' j' e' m hms hmh=>by rw[hn] at e';cases e') fun e'=>?_
 dsimp only
 have tail:∀(l':List (Str×Tok)) (s':Shared),s'.heap.PlainList D (strValues l').toArray→l'.map (·.1)=T→(∀b o,b≠D→s.heap.get? b=some o→s'.heap.get? b=some o)→(∃h' tk,s'={s with heap:=h',toks:=tk}) →
   wpAny (model prog w) A.in1 (do
    let joiner ← reSlice x.cps 0 0 0
    let text ← if ((← seqItems? (.ref D)).getD #[]).isEmpty then pure joiner else call (.builtin "str.join") [joiner,.ref D]
    ret text) (fun fin s'=>match fin with | .done f=>R (.ok f) s' | .again c'=>c'.quiet=true∧codeAny (model prog w) A c' R s') (fun e s'=>R (.error e) s') s':=by
  intro l' s' hp' hl' hk' hs'
  obtain⟨g,tk0,rfl⟩:=hs'
  have hjo:(⟨x.cps.extract 0 0⟩:Str)=Str.empty:=by
   show(⟨x.cps.extract 0 0⟩:Str)=⟨#[]⟩
   congr 1;simp
  refine wpAny_bind (m:=reSlice x.cps 0 0 0) ?_
  show wpAny _ _ (mkStr ⟨x.cps.extract 0 0⟩) _ _ _
  rw[hjo]
  refine wpAny_mkStr ?_ (by show(0:Nat)≤sizeLine;exact Nat.zero_le _)
  obtain⟨n1,hp1⟩:=id hp'
  refine wpAny_bind (wpAny_seqItems (s:={s with heap:=g,toks:=tk0+1}) hp1 rfl ?_)
  by_cases hem:(strValues l').toArray.isEmpty=true
  ·rw[Option.getD_some,if_pos hem]
   have:l'=[]:=by
    cases l' with
    | nil=>rfl
    | cons a b=>simp[strValues] at hem
   subst this
   simp at hl'
   refine wpAny_bind (wpAny_pure (wpAny_pure ?_))
   have:=hR tk0 g (tk0+1) hk'
   rw[hl'] at this
   exact this
  ·rw[Option.getD_some,if_neg hem]
   refine wpAny_bind (SC.join hp'.isList hl' hok fun t' k'=>wpAny_pure ?_)
   exact hR t' g k' hk'
 by_cases hdi:done<x.cps.size
 ·rw[if_pos (by simpa using hdi)]
  refine wpAny_bind (m:=reSlice x.cps 0 done x.cps.size) ?_
  show wpAny _ _ (mkStr ⟨x.cps.extract done x.cps.size⟩) _ _ s
  refine wpAny_mkStr ?_ (by show(x.cps.extract done x.cps.size).size≤sizeLine;rw[Array.size_extract];lia)
  refine wpAny_bind (vG (s:={s with toks:=s.toks+1}) (y:=⟨x.cps.extract done x.cps.size⟩) (u:=s.toks) hp hl fun h1 hp1 hk1=>?_)
  exact tail (l++[(⟨x.cps.extract done x.cps.size⟩,s.toks)]) _ hp1 (by rw[hT];simp[wR,hdi]) hk1 ⟨h1,s.toks+1,rfl⟩
 ·rw[if_neg (by simpa using hdi)]
  exact tail l s hp (by rw[hT];simp[wR,hdi]) (fun b o _ eo=>eo) ⟨s.heap,s.toks,rfl⟩
private theorem zMr{pat D:Addr}{code:Array Nat}{x repl:Str}{t u:Tok}{fnd:Nat→Option (Nat×Nat)}(hf:Finder code x.cps fnd)(hx:x.cps.size≤sizeLine):∀(fuel done:Nat) (k:Nat) (must:Bool) (l:List (Str×Tok)) (T:List Str) (s:Shared) (R:Result→Shared→Prop),
    x.cps.size-done≤fuel→done≤x.cps.size→zDr s.heap pat code→s.heap.PlainList D (strValues l).toArray→T=l.map (·.1)++yG fnd x.cps repl fuel done→T.length≤sizeLine→JoinOk Str.empty T=true →
    (∀t' h' tk,(∀b o,b≠D→s.heap.get? b=some o→h'.get? b=some o)→R (.ok (.ret (.str (Txt.join Str.empty T) t'))) {s with heap:=h',toks:=tk}) →
    codeAny (model prog w) A (.builtin "re.Pattern.sub.loop" (qT (.ref pat) (.str x t) (.str repl u) k done done must (.ref D))) R s:=by
  intro fuel
  induction fuel with
  | zero =>
    intro done k must l T s R hn hd p hp hT hTl hok hR
    have hfn:fnd done=none:=by
      cases e:fnd done with
      | none=>rfl
      | some q=>obtain⟨i,j⟩:=q;obtain⟨h1,h2,h3⟩:=hf.bounds done i j hd e;lia
    exact zI7 hf hx hd hfn p hp hT hTl hok hR
  | succ fuel ih =>
    intro done k must l T s R hn hd p hp hT hTl hok hR
    cases e:fnd done with
    | none =>
      refine zI7 hf hx hd e p hp ?_ hTl hok hR
      rw[hT];unfold yG;rw[e]
    | some q =>
      obtain⟨i,j⟩:=q
      obtain⟨h1,h2,h3⟩:=hf.bounds done i j hd e
      unfold yG at hT
      rw[e] at hT
      dsimp only at hT
      have hl:l.length≤sizeLine:=by rw[hT] at hTl;simp at hTl;lia
      refine codeAny_builtin uT ?_
      rw[Around.under_plainId xI _]
      unfold Builtin.«re.Pattern.sub.loop» qT rawInt
      dsimp only
      refine wpAny_bind (yY p ?_)
      refine wpAny_bind (m:=reLiteralCannotBeTurned _) (wpAny_pure ?_)
      dsimp only
      obtain⟨m',nn,hnn,r,f⟩:=hf.runs done must hd
      refine wpAny_bind ?_
      rw[if_neg (by simp)]
      unfold reNextFound
      rw[Int.toNat_natCast]
      refine vK r hnn f (fun i' j' e' m hms hmh=>?_) fun e'=>by rw[e] at e';cases e'
      rw[e] at e';cases e'
      dsimp only
      rw[hms,hmh]
      have tail:∀(l':List (Str×Tok)) (s':Shared),zDr s'.heap pat code→s'.heap.PlainList D (strValues l').toArray→l'.map (·.1)=l.map (·.1)++wR x.cps done i→(∀b o,b≠D→s.heap.get? b=some o→s'.heap.get? b=some o)→(∃h' tk,s'={s with heap:=h',toks:=tk}) →
          wpAny (model prog w) A.in1 (updateSeq D (·.push (.str repl u))>>=fun _=>again (.builtin "re.Pattern.sub.loop" (qT (.ref pat) (.str x t) (.str repl u) ((k+1:Nat):Int) j j (j==i) (.ref D))))
            (fun fin s'=>match fin with | .done f=>R (.ok f) s' | .again c'=>c'.quiet=true∧codeAny (model prog w) A c' R s') (fun e s'=>R (.error e) s') s':=by
        intro l' s' p' hp' hl' hk' hs'
        have hll:l'.length=l.length+(wR x.cps done i).length:=by have:=congrArg List.length hl';simpa using this
        have hTl':l'.length+1≤T.length:=by rw[hT];simp;lia
        refine wpAny_bind (vG hp' (by lia) fun h2 hp2 hk2=>wpAny_pure ⟨plainId_quiet xI _,?_⟩)
        obtain⟨n',hp'n⟩:=id hp'
        refine ih j (k+1) (j==i) (l'++[(repl,u)]) T {s' with heap:=h2} R (by lia) h3 (p'.keep (.inr ⟨_,_,hp'n⟩) hk2) hp2 ?_ hTl hok fun t' h' tk hk3=>?_
        · rw[List.map_append,hl',hT];simp
        · obtain⟨g,tk0,rfl⟩:=hs'
          exact hR t' h' tk fun b o hb eo=>hk3 b o hb (hk2 b o hb (hk' b o hb eo))
      have hpn:=hp
      obtain⟨n0,hpn⟩:=hpn
      by_cases hdi:done<i
      · rw[if_pos hdi]
        refine wpAny_bind (m:=reSlice x.cps 0 done i) ?_
        show wpAny _ _ (mkStr ⟨x.cps.extract done i⟩) _ _ s
        refine wpAny_mkStr ?_ (by show(x.cps.extract done i).size≤sizeLine;rw[Array.size_extract];lia)
        refine wpAny_bind (vG (s:={s with toks:=s.toks+1}) (y:=⟨x.cps.extract done i⟩) (u:=s.toks) hp hl fun h1 hp1 hk1=>?_)
        exact tail (l++[(⟨x.cps.extract done i⟩,s.toks)]) _ (p.keep (.inr ⟨_,_,hpn⟩) hk1) hp1 (by simp[wR,hdi]) hk1 ⟨h1,s.toks+1,rfl⟩
      · rw[if_neg hdi]
        exact tail l s p hp (by simp[wR,hdi]) (fun b o _ eo=>eo) ⟨s.heap,s.toks,rfl⟩
end
end Wk
namespace Wk
private theorem zIr:typeLookup (.type "str") "__call__"=pure none:=by rw[typeLookup_type,builtinLookup_eq_fast];kernel_rfl
private theorem zLt(a b:Value):reNamed "re.Pattern.sub" "sub" ["repl","string","count"] 2 [a,b] []=pure [some a,some b,none]:=by rfl
section
variable{prog:Program}{w:World}{W:Wd}{k k':Nat}{K:List (Str×NameKind)}{ρ:Rho}{pos p apos npos spos tpos:Pos}
noncomputable def PatG(W:Wd)(f:Str)(code:Array Nat):Prop:=∃a,W.mg f=some (.ref a)∧∀h,W.Inv h→zDr h a code
private theorem zO2{A:Around}{E:Value→Shared→Prop}{s:Shared}{pat:Addr}{code:Array Nat}{x repl:Str}{t u:Tok}{fnd:Nat→Option (Nat×Nat)}{Q:Value→Shared→Prop}(p:zDr s.heap pat code)(hf:Finder code x.cps fnd)(hx:x.cps.size≤sizeLine)(hb:repl.cps.contains 92=false)
  (hTl:(yG fnd x.cps repl x.cps.size 0).length≤sizeLine) (hok:JoinOk Str.empty (yG fnd x.cps repl x.cps.size 0)=true)
  (hQ:∀t' h' tk,(∀b o,s.heap.get? b=some o→h'.get? b=some o)→Q (.str (Txt.join Str.empty (yG fnd x.cps repl x.cps.size 0)) t') {s with heap:=h',toks:=tk}) :
  wpAny (model prog w) A (call (.builtin "re.Pattern.sub") [.ref pat,.str repl u,.str x t]) Q E s:=by
 have hT:s.TypeIs (.ref pat) "re.Pattern":=by obtain⟨fs,tp,items,n,h1,_⟩:=p;exact⟨_,h1,rfl⟩
 refine wpAny_call (codeAny_call_builtin uG.plain zDi (uG.check _ _ _ _ _ _ _ _ hT (zFa _ _ _) ?_))
 unfold Builtin.«re.Pattern.sub» reSubstitute
 dsimp only
 rw[zLt]
 refine wpAny_bind (wpAny_pure ?_)
 dsimp only
 refine wpAny_bind (wpAny_pure ?_)
 refine wpAny_bind (wpAny_specialOf (typeIs_str _ _ _) zIr ?_)
 simp only[Option.isSome_none,Bool.false_eq_true,if_false]
 refine wpAny_bind (m:=asStr? (.str repl u)) (wpAny_pure ?_)
 dsimp only
 rw[hb]
 refine wpAny_bind (wpAny_pure ?_)
 simp only[Bool.not_false,if_true]
 refine wpAny_bind (wpAny_pure ?_)
 dsimp only
 refine wpAny_bind (wpAny_holding (yY p ?_))
 rw[if_neg (by decide)]
 refine wpAny_bind (wpAny_newList ?_ (by decide))
 refine wpAny_pure ⟨plainId_quiet xI _,?_⟩
 have hsz:s.heap.get? s.heap.objs.size=none:=xH
 refine zMr (D:=s.heap.objs.size) (k:=0) hf hx x.cps.size 0 false [] _ _ _ (by lia) (Nat.zero_le _) (p.keep (.inl hsz) fun b o hb e=>Heap.get?_push_of_some _ e) ⟨_,Heap.get?_push_size _ rfl⟩ rfl hTl hok fun t' h' tk hk=>?_
 exact hQ t' h' tk fun b o e=>hk b o (fun e'=>by rw[e',hsz] at e;cases e) (Heap.get?_push_of_some _ e)
private theorem Ev.sub{f:Str}{code:Array Nat}{e₁ e₂:PySem.Expr}{x repl:Str}{fnd:Nat→Option (Nat×Nat)}(hP:PatG W f code)(hK:K.lookup f=some .globalImplicit)(h1:Ev prog w W k K ρ e₁ (.str repl))(h2:Ev prog w W k K ρ e₂ (.str x))
  (hf:Finder code x.cps fnd) (hx:x.cps.size≤sizeLine) (hb:repl.cps.contains 92=false) (hTl:(yG fnd x.cps repl x.cps.size 0).length≤sizeLine) (hok:JoinOk Str.empty (yG fnd x.cps repl x.cps.size 0)=true)
  (hs:∀env,starEach [e₁,e₂] env=[(false,eval e₁ env),(false,eval e₂ env)]:=by intro _;rfl) (hline:(apos.endLine==pos.line)=true:=by rfl) (hd:(f==("__debug__":Str))=false:=by rfl) :
  Ev prog w W k K ρ (.Call (.Attribute (.Name f npos) "sub" apos) [e₁,e₂] [] pos) (.str (Txt.join Str.empty (yG fnd x.cps repl x.cps.size 0))):=.mk fun A s₀ X₀ env X s E R hk x₀=>by
 obtain⟨a,hg,hp⟩:=hP
 refine Call_method2 rfl (hs env) hline (Ev.glob x₀ hk hK hg hd ?_)
 have M0:=hp _ x₀.inv
 obtain⟨fs,tp,items,n,q1,_⟩:=id M0
 refine⟨"re.Pattern","re.Pattern.sub",zBp,uG,zEz,⟨_,q1,rfl⟩,fun b hb=>by cases hb;exact⟨_,q1,rfl⟩,?_⟩
 refine Calls.callWith_builtin rfl (Calls.evalArgs_plain (Calls.spliced_cons (wpAny_mono (h1.run A s₀ X₀ env X s E R hk x₀) (fun u s₁ ⟨hu,e1⟩=>Calls.spliced_cons (wpAny_mono (h2.run A s₀ X₀ env X s₁ E R hk (x₀.step e1)) (fun v s₂ ⟨hv,e2⟩=>Calls.spliced_nil ?_) fun _ _ h=>h)) fun _ _ h=>h)))
 cases hu;cases hv
 exact zO2 (hp _ e2.inv) hf hx hb hTl hok fun t' h' tk hkk=>⟨.str _ _,(e1.trans e2).trans (.of_heap e2.inv hkk)⟩
end
noncomputable def fnd1(x:Array Nat)(s:Nat):Option (Nat×Nat):=(zA0 x (x.size-s) s).map fun i=>(i,i+1)
noncomputable def fnd2(x:Array Nat)(s:Nat):Option (Nat×Nat):=(QT x (x.size-s) s).map fun i=>(i,i+yU x x.size i)
private theorem zH7(x:Array Nat):∀(n s i:Nat),zA0 x n s=some i→s≤i∧i<s+n∧x.getD i 0=46
  | 0,s,i,h=>by cases h
  | n + 1, s, i, h => by
    unfold zA0 at h
    by_cases hE:(beg1 x s&&x.getD s 0==46)=true
    · rw[if_pos hE] at h;cases h
      exact⟨Nat.le_refl _,by lia,by simpa using (Bool.and_eq_true_iff.mp hE).2⟩
    · rw[if_neg hE] at h
      obtain⟨h1,h2,h3⟩:=zH7 x n (s+1) i h
      exact⟨by lia,by lia,h3⟩
private theorem zKq(x:Array Nat)(hx:x.size≤sizeLine):Finder zD7 x (fnd1 x) where
  runs:=fun start must hs=>by
    obtain⟨m',r,f⟩:=zIg x x.size start must hs
    have h24:sizeLine=2^24:=rfl
    exact ⟨m', _, by have : x.size - start ≤ 2 ^ 24 := by lia
                     have h64:(2:Nat)^64=18446744073709551616:=by decide
                     have h2:(2:Nat)^24=16777216:=by decide
                     lia,r,f⟩
  bounds:=fun start i j hs e=>by
    unfold fnd1 at e
    obtain⟨i',h1,h2⟩:=Option.map_eq_some_iff.mp e
    cases h2
    obtain⟨h3,h4,_⟩:=zH7 x _ _ _ h1
    exact⟨h3,by lia,by lia⟩
private theorem zGh(x:Array Nat):Finder kR x (fnd2 x) where
 runs:=fun start must hs=>by
  obtain⟨m',r,f⟩:=zId x x.size start must hs
  exact⟨m',_,by decide,r,f⟩
 bounds:=fun start i j hs e=>by
  unfold fnd2 at e
  obtain⟨i',h1,h2⟩:=Option.map_eq_some_iff.mp e
  cases h2
  obtain⟨h3,h4,_⟩:=zDl x _ _ _ h1
  refine⟨h3,?_,?_⟩ <;> unfold yU
  ·split <;> lia
  ·split
   ·rename_i h
    simp only[Bool.and_eq_true,decide_eq_true_eq] at h
    lia
   ·lia
end Wk
end
section
open PySem PySem.Sre PyProof.Rows
set_option maxHeartbeats 400000
set_option maxRecDepth 100000
set_option autoImplicit false
set_option linter.unusedVariables false
namespace Wk
noncomputable def yF:List Nat→List Nat
 | []=>[]
 | c::r=>if c==10 then 13::10::yF r else if c==13 then (match r with | 10::r'=>13::10::yF r' | r=>13::10::yF r) else c::yF r
noncomputable def xE:Bool→List Nat→List Nat
 | _,[]=>[]
 | b,c::r=>if b&&c==46 then 46::46::xE false r else c::xE (c==10) r
noncomputable def xO(ts:List Str):List Nat:=(ts.map fun y=>y.cps.toList).flatten
private theorem vV:∀ts:List Str,(Txt.join Str.empty ts).cps.toList=xO ts:=by
  intro ts
  show(Builtin.Str.glued Str.empty ts).cps.toList=_
  rw[StrLaws.glued_eq_join]
  induction ts with
  | nil=>rfl
  | cons a r ih =>
    cases r with
    | nil=>simp[xO,Str.join]
    | cons b r =>
      rw[show Str.join Str.empty (a::b::r)=a++Str.empty++Str.join Str.empty (b::r) from rfl]
      simp only[PySem.Str.cps_append,Array.toList_append,ih]
      simp[xO,Str.empty]
private theorem qV(x:Array Nat)(d i:Nat):xO (wR x d i)=(x.toList.take i).drop d:=by
 unfold wR
 by_cases h:d<i
 ·rw[if_pos h];simp[xO,List.drop_take]
 ·rw[if_neg h]
  simp[xO]
  omega
section
variable{fnd:Nat→Option (Nat×Nat)}{x:Array Nat}{repl:Str}
private theorem zEg{n d:Nat}(hd:d<x.size)(e:fnd d=fnd (d+1))(hb:∀i j,fnd (d+1)=some (i,j)→d<i∧i≤x.size):xO (yG fnd x repl (n+1) d)=x.getD d 0::xO (yG fnd x repl (n+1) (d+1)):=by
  have hx:x.getD d 0=x[d]:=by simp[Array.getD,hd]
  unfold yG
  rw[e]
  cases h:fnd (d+1) with
  | none =>
    dsimp only
    rw[qV,qV,hx,List.take_of_length_le (by simp)]
    rw[List.drop_eq_getElem_cons (by simpa using hd)];simp
  | some q =>
    obtain⟨i,j⟩:=q
    obtain⟨h1,h2⟩:=hb i j h
    dsimp only
    have:∀a b:List Str,xO (a++b)=xO a++xO b:=by intro a b;simp[xO]
    rw[this,this,qV,qV,hx]
    rw[List.drop_eq_getElem_cons (i:=d) (by simp;omega)]
    simp
private theorem zHo{n d j:Nat}(e:fnd d=some (d,j)):xO (yG fnd x repl (n+1) d)=repl.cps.toList++xO (yG fnd x repl n j):=by
 have e1:yG fnd x repl (n+1) d=match fnd d with | some (i,j)=>wR x d i++repl::yG fnd x repl n j | none=>wR x d x.size:=rfl
 rw[e1,e]
 simp[xO,wR]
private theorem zH0{n:Nat}(e:fnd x.size=none):xO (yG fnd x repl n x.size)=[]:=by
 cases n <;> simp[yG,e,xO,wR]
end
private theorem zKn(x:Array Nat):fnd2 x x.size=none:=by unfold fnd2;simp[QT]
private theorem zMg(x:Array Nat):fnd1 x x.size=none:=by unfold fnd1;simp[zA0]
private theorem uE{x:Array Nat}{d:Nat}(hd:d<x.size):x.toList.drop d=x.getD d 0::x.toList.drop (d+1):=by
 rw[List.drop_eq_getElem_cons (by simpa using hd)];simp[Array.getD,hd]
private theorem sz_q{a d:Nat}(h:d<a):a-d=a-(d+1)+1:=(Nat.succ_pred_eq_of_pos (Nat.sub_pos_of_lt h)).symm
private theorem zKo{a d c m:Nat}(hm:a-d=m)(h:d<a)(hc:d<c):a-c<m:=hm▸Nat.sub_lt_sub_left h hc
private theorem zN5{a d c n m:Nat}(hm:a-d=m)(hn:m≤n+1)(h:d<a)(hc:d<c):a-c≤n:=Nat.le_of_lt_succ (Nat.lt_of_lt_of_le (zKo hm h hc) hn)
private theorem sz_p{a d m n:Nat}(hm:a-d=m)(hn:m≤n)(h:d<a):∃k,n=k+1:=⟨n-1,(Nat.succ_pred_eq_of_pos (Nat.lt_of_lt_of_le (hm▸Nat.sub_pos_of_lt h) hn)).symm⟩
private theorem zJi(x:Array Nat):∀(m d n:Nat),x.size-d=m→m≤n→d≤x.size→xO (yG (fnd2 x) x ⟨#[13,10]⟩ n d)=yF (x.toList.drop d):=by
  intro m
  induction m using Nat.strongRecOn with
  | ind m ih =>
    intro d n hm hn hd
    by_cases hlt:d<x.size
    · obtain⟨n',rfl⟩:=sz_p hm hn hlt
      rw[uE hlt]
      cases hE:zCz (x.getD d 0) with
      | false =>
        have hE':(x.getD d 0==10)=false∧(x.getD d 0==13)=false:=by unfold zCz at hE;exact Bool.or_eq_false_iff.mp hE
        have e:fnd2 x d=fnd2 x (d+1):=by
          unfold fnd2
          rw[sz_q hlt]
          conv=>lhs;unfold QT
          rw[if_neg (by rw[hE];decide)]
        rw[zEg hlt e (fun i j h=>let ⟨h1,h2,h3⟩:=(zGh x).bounds (d+1) i j hlt h;⟨h1,Nat.le_trans (Nat.le_of_lt h2) h3⟩)]
        conv=>rhs;unfold yF
        rw[if_neg (by rw[hE'.1];decide),if_neg (by rw[hE'.2];decide),ih (x.size-(d+1)) (zKo hm hlt (Nat.lt_succ_self d)) (d+1) (n'+1) rfl (Nat.le_succ_of_le (zN5 hm hn hlt (Nat.lt_succ_self d))) hlt]
      | true =>
        have e:fnd2 x d=some (d,d+yU x x.size d):=by
          unfold fnd2
          rw[sz_q hlt]
          unfold QT
          rw[if_pos hE];rfl
        obtain⟨_,h2,h3⟩:=(zGh x).bounds d _ _ hd e
        rw[zHo e,ih (x.size-(d+yU x x.size d)) (zKo hm hlt h2) (d+yU x x.size d) n' rfl (zN5 hm hn hlt h2) h3]
        cases h13:x.getD d 0==13 with
        | false =>
          have h10:(x.getD d 0==10)=true:=by unfold zCz at hE;rw[h13,Bool.or_false] at hE;exact hE
          have hL:yU x x.size d=1:=by unfold yU;rw[h13];rfl
          rw[hL]
          conv=>rhs;unfold yF
          rw[if_pos h10];rfl
        | true =>
          have h10:(x.getD d 0==10)=false:=by rw[eq_of_beq h13];rfl
          conv=>rhs;unfold yF
          rw[if_neg (by rw[h10];decide),if_pos h13]
          by_cases h2':d+1<x.size
          · rw[uE h2']
            cases hn2:x.getD (d+1) 0==10 with
            | true =>
              have hL:yU x x.size d=2:=by unfold yU;rw[h13,hn2];simp[h2']
              rw[hL,eq_of_beq hn2]
              rfl
            | false =>
              have hL:yU x x.size d=1:=by unfold yU;rw[h13,hn2];simp
              rw[hL]
              have hne:x.getD (d+1) 0≠10:=by simpa using hn2
              rw[←uE h2']
              generalize hg:x.toList.drop (d+1)=L at *
              cases L with
              | nil=>rfl
              | cons c r =>
                have:c≠10:=by rw[uE h2'] at hg;cases hg;exact hne
                split
                · rename_i h;cases h;exact absurd rfl this
                · rfl
          · have hL:yU x x.size d=1:=by unfold yU;simp[h2']
            have:x.toList.drop (d+1)=[]:=List.drop_eq_nil_of_le (by simp;omega)
            rw[hL,this];rfl
    · obtain rfl:d=x.size:=Nat.le_antisymm hd (Nat.not_lt.mp hlt)
      rw[zH0 (zKn x)]
      have:x.toList.drop x.size=[]:=List.drop_eq_nil_of_le (by simp)
      rw[this];rfl
private theorem zLg(x:Array Nat)(hx:x.size≤sizeLine):∀(m d n:Nat),x.size-d=m→m≤n→d≤x.size→xO (yG (fnd1 x) x ⟨#[46,46]⟩ n d)=xE (beg1 x d) (x.toList.drop d):=by
  intro m
  induction m using Nat.strongRecOn with
  | ind m ih =>
    intro d n hm hn hd
    by_cases hlt:d<x.size
    · obtain⟨n',rfl⟩:=sz_p hm hn hlt
      rw[uE hlt]
      have hbeg:beg1 x (d+1)=(x.getD d 0==10):=by unfold beg1;simp
      cases hE:(beg1 x d&&x.getD d 0==46) with
      | false =>
        have e:fnd1 x d=fnd1 x (d+1):=by
          unfold fnd1
          rw[sz_q hlt]
          conv=>lhs;unfold zA0
          rw[if_neg (by rw[hE];decide)]
        rw[zEg hlt e (fun i j h=>let ⟨h1,h2,h3⟩:=(zKq x hx).bounds (d+1) i j hlt h;⟨h1,Nat.le_trans (Nat.le_of_lt h2) h3⟩)]
        conv=>rhs;unfold xE
        rw[if_neg (by rw[hE];decide),ih (x.size-(d+1)) (zKo hm hlt (Nat.lt_succ_self d)) (d+1) (n'+1) rfl (Nat.le_succ_of_le (zN5 hm hn hlt (Nat.lt_succ_self d))) hlt,hbeg]
      | true =>
        have e:fnd1 x d=some (d,d+1):=by
          unfold fnd1
          rw[sz_q hlt]
          unfold zA0
          rw[if_pos hE];rfl
        rw[zHo e,ih (x.size-(d+1)) (zKo hm hlt (Nat.lt_succ_self d)) (d+1) n' rfl (zN5 hm hn hlt (Nat.lt_succ_self d)) hlt,hbeg]
        have h46:=eq_of_beq (Bool.and_eq_true_iff.mp hE).2
        conv=>rhs;unfold xE
        rw[if_pos hE,h46];rfl
    · obtain rfl:d=x.size:=Nat.le_antisymm hd (Nat.not_lt.mp hlt)
      rw[zH0 (zMg x)]
      have:x.toList.drop x.size=[]:=List.drop_eq_nil_of_le (by simp)
      rw[this];cases beg1 x x.size <;> rfl
end Wk
namespace Wk
variable{prog:Program}{w:World}{W:Wd}{k k':Nat}{K:List (Str×NameKind)}{ρ:Rho}{pos p apos npos spos tpos:Pos}
private theorem kU(x:Array Nat)(d i:Nat):(wR x d i).length≤1:=by unfold wR;split <;> simp
private theorem vD(fnd:Nat→Option (Nat×Nat))(x:Array Nat)(repl:Str):∀n d,(yG fnd x repl n d).length≤2*n+1
  | 0,d=>kU x d x.size
  | n + 1, d => by
    have e1:yG fnd x repl (n+1) d=match fnd d with | some (i,j)=>wR x d i++repl::yG fnd x repl n j | none=>wR x d x.size:=rfl
    rw[e1]
    cases fnd d with
    | none=>have:=kU x d x.size;dsimp only;lia
    | some q =>
      obtain⟨i,j⟩:=q
      have h1:=kU x d i
      have h2:=vD fnd x repl n j
      dsimp only
      rw[List.length_append,List.length_cons];lia
private theorem vF{T:List Str}(h:(xO T).length≤2^24):JoinOk Str.empty T=true:=by
 unfold JoinOk
 rw[StrLaws.joinTotal]
 have e:(T.map (·.length)).sum+T.length*Str.empty.length=(xO T).length:=by
  have:Str.empty.length=0:=rfl
  rw[this,Nat.mul_zero,Nat.add_zero]
  unfold xO
  rw[List.length_flatten,List.map_map]
  congr 1
 rw[e]
 unfold Builtin.Str.tooLong sizeLine
 simp;lia
private theorem QK:∀(n:Nat) (l:List Nat),l.length≤n→(yF l).length≤2*l.length:=by
  intro n
  induction n with
  | zero=>intro l h;cases l with | nil=>simp[yF] | cons a b=>simp at h
  | succ n ih =>
    intro l h
    cases l with
    | nil=>simp[yF]
    | cons c r =>
      have hr:r.length≤n:=by simpa using h
      unfold yF
      by_cases h1:(c==10)=true
      · rw[if_pos h1];have:=ih r hr;simp;lia
      · rw[if_neg h1]
        by_cases h2:(c==13)=true
        · rw[if_pos h2]
          split
          · rename_i r';have:=ih r' (by simp at hr;lia);simp;lia
          · have:=ih r hr;simp;lia
        · rw[if_neg h2];have:=ih r hr;simp;lia
private theorem wI:∀(l:List Nat) (b:Bool),(xE b l).length≤2*l.length
  | [],b=>by cases b <;> simp[xE]
  | c :: r, b => by
    unfold xE
    split
    · have:=wI r false;simp;lia
    · have:=wI r (c==10);simp;lia
noncomputable def zJ4(x:Str):Str:=⟨(yF x.cps.toList).toArray⟩
noncomputable def zJx(x:Str):Str:=⟨(xE true x.cps.toList).toArray⟩
noncomputable def wG(x:Str):Str:=zJx (zJ4 x)
private theorem QQ(x:Str):(zJ4 x).length≤2*x.length:=by
 have:=QK _ x.cps.toList (Nat.le_refl _)
 simpa [zJ4,Str.length] using this
private theorem zEb(x:Str):(zJx x).length≤2*x.length:=by
 have:=wI x.cps.toList true
 simpa [zJx,Str.length] using this
private theorem Ev.norm{f:Str}{e₁ e₂:PySem.Expr}{x:Str}(hP:PatG W f kR)(hK:K.lookup f=some .globalImplicit)(h1:Ev prog w W k K ρ e₁ (.str ⟨#[13,10]⟩))(h2:Ev prog w W k K ρ e₂ (.str x))(hx:x.length≤1048576)
  (hs:∀env,starEach [e₁,e₂] env=[(false,eval e₁ env),(false,eval e₂ env)]:=by intro _;rfl) (hline:(apos.endLine==pos.line)=true:=by rfl) (hd:(f==("__debug__":Str))=false:=by rfl) :
  Ev prog w W k K ρ (.Call (.Attribute (.Name f npos) "sub" apos) [e₁,e₂] [] pos) (.str (zJ4 x)):=by
 have hx':x.cps.size≤1048576:=hx
 have h24:sizeLine=16777216:=by decide
 have hfl:=zJi x.cps x.cps.size 0 x.cps.size rfl (Nat.le_refl _) (Nat.zero_le _)
 rw[List.drop_zero] at hfl
 have hnl:=QK _ x.cps.toList (Nat.le_refl _)
 have h:=Ev.sub (prog:=prog) (w:=w) (W:=W) (k:=k) (K:=K) (ρ:=ρ) (pos:=pos) (apos:=apos) (npos:=npos) hP hK h1 h2 (zGh x.cps) (by lia) (by decide +kernel) (by have:=vD (fnd2 x.cps) x.cps ⟨#[13,10]⟩ x.cps.size 0;lia)
  (vF (by rw[hfl];simp at hnl;lia)) hs hline hd
 refine Ev.conv h (congrArg PyData.str (PySem.Str.ext' ?_))
 apply Array.ext'
 rw[vV,hfl];simp[zJ4]
private theorem Ev.dots{f:Str}{e₁ e₂:PySem.Expr}{x:Str}(hP:PatG W f zD7)(hK:K.lookup f=some .globalImplicit)(h1:Ev prog w W k K ρ e₁ (.str ⟨#[46,46]⟩))(h2:Ev prog w W k K ρ e₂ (.str x))(hx:x.length≤2097152)
  (hs:∀env,starEach [e₁,e₂] env=[(false,eval e₁ env),(false,eval e₂ env)]:=by intro _;rfl) (hline:(apos.endLine==pos.line)=true:=by rfl) (hd:(f==("__debug__":Str))=false:=by rfl) :
  Ev prog w W k K ρ (.Call (.Attribute (.Name f npos) "sub" apos) [e₁,e₂] [] pos) (.str (zJx x)):=by
 have hx':x.cps.size≤2097152:=hx
 have h24:sizeLine=16777216:=by decide
 have hfl:=zLg x.cps (by lia) x.cps.size 0 x.cps.size rfl (Nat.le_refl _) (Nat.zero_le _)
 rw[List.drop_zero] at hfl
 have hnl:=wI x.cps.toList (beg1 x.cps 0)
 have h:=Ev.sub (prog:=prog) (w:=w) (W:=W) (k:=k) (K:=K) (ρ:=ρ) (pos:=pos) (apos:=apos) (npos:=npos) hP hK h1 h2 (zKq x.cps (by lia)) (by lia) (by decide +kernel) (by have:=vD (fnd1 x.cps) x.cps ⟨#[46,46]⟩ x.cps.size 0;lia)
  (vF (by rw[hfl];simp at hnl;lia)) hs hline hd
 refine Ev.conv h (congrArg PyData.str (PySem.Str.ext' ?_))
 apply Array.ext'
 rw[vV,hfl]
 have:beg1 x.cps 0=true:=rfl
 rw[this];simp[zJx]
end Wk
end
section
open PySem PyProof.Rows
set_option maxHeartbeats 400000
set_option autoImplicit false
set_option linter.unusedVariables false
namespace Wk
variable{prog:Program}{w:World}{W:Wd}{k:Nat}{K:List (Str×NameKind)}{ρ ρ' ρc:Rho}{pos p apos npos spos tpos cpos:Pos}
private theorem zJq:∀(names:List (Str×NameKind)) (n:Nat) (a b:List (Str×Addr)),cellsFrom n names (a++b)=cellsFrom n names a++b
  | [],_,_,_=>rfl
  | (y, kd) :: r, n, a, b => by
    unfold cellsFrom
    split
    · rw[←List.cons_append,zJq r]
    · exact zJq r n a b
private theorem zLz:∀(names:List (Str×NameKind)) (n:Nat) (acc:List (Str×Addr)) (x:Str) (c:Addr),(x,c)∈cellsFrom n names acc→(n≤c∧(x,NameKind.cell)∈names)∨(x,c)∈acc
  | [],_,_,_,_,h=>.inr h
  | (y, kd) :: r, n, acc, x, c, h => by
    unfold cellsFrom at h
    split at h
    · rename_i hk
      rcases zLz r _ _ x c h with⟨h1,h2⟩|h
      · exact .inl ⟨Nat.le_of_succ_le h1,List.mem_cons_of_mem _ h2⟩
      · rcases List.mem_cons.mp h with h|h
        · cases h
          have:kd=.cell:=by simpa using hk
          subst this
          exact .inl ⟨Nat.le_refl _,List.mem_cons_self⟩
        · exact .inr h
    · rcases zLz r _ _ x c h with⟨h1,h2⟩|h
      · exact .inl ⟨h1,List.mem_cons_of_mem _ h2⟩
      · exact .inr h
private theorem zDf:∀(names:List (Str×NameKind)) (n:Nat) (acc:List (Str×Addr)) (x:Str),(x,NameKind.cell)∈names→∃c,(cellsFrom n names acc).lookup x=some c
  | (y, kd) :: r, n, acc, x, h => by
    unfold cellsFrom
    rcases List.mem_cons.mp h with h|h
    · cases h
      rw[if_pos (by decide)]
      exact xR r _ _ ⟨n,by simp⟩
    · split
      · exact zDf r _ _ x h
      · exact zDf r _ _ x h
private theorem zCc:∀{names:List (Str×NameKind)},(names.map (·.1)).Nodup→∀{x:Str} {a b:NameKind},(x,a)∈names→(x,b)∈names→a=b
  | [],_,_,_,_,h,_=>nomatch h
  | (y, kd) :: r, hn, x, a, b, h1, h2 => by
    rw[List.map_cons,List.nodup_cons] at hn
    rcases List.mem_cons.mp h1 with h1|h1 <;> rcases List.mem_cons.mp h2 with h2|h2
    · rw[←h2] at h1;exact(Prod.mk.inj h1).2
    · cases h1;exact absurd (List.mem_map_of_mem (f:=(·.1)) h2) hn.1
    · cases h2;exact absurd (List.mem_map_of_mem (f:=(·.1)) h1) hn.1
    · exact zCc hn.2 h1 h2
private theorem zCp:∀{names:List (Str×NameKind)} {x:Str},(relK K names).lookup x=some .cell→((x,NameKind.free)∈names∧K.lookup x=some .cell)∨(x,NameKind.cell)∈names
  | [],x,h=>by simp[relK] at h
  | (n, kd) :: r, x, h => by
    have ih:=zCp (names:=r) (x:=x)
    unfold relK at h ih
    rw[List.map_cons] at h
    by_cases hb:(kd==NameKind.free&&K.lookup n==some NameKind.cell)=true
    · simp only[hb,if_true,List.lookup_cons] at h
      obtain⟨h1,h2⟩:=Bool.and_eq_true_iff.mp hb
      by_cases e:x=n
      · subst e
        rw[beq_iff_eq] at h1 h2
        subst h1
        exact .inl ⟨List.mem_cons_self,h2⟩
      · have:(x==n)=false:=by simpa using e
        rw[this] at h
        exact(ih h).imp (fun q=>⟨List.mem_cons_of_mem _ q.1,q.2⟩) (List.mem_cons_of_mem _)
    · dsimp only at h
      rw[if_neg hb,List.lookup_cons] at h
      by_cases e:x=n
      · subst e
        simp at h
        subst h
        exact .inr List.mem_cons_self
      · have:(x==n)=false:=by simpa using e
        rw[this] at h
        exact(ih h).imp (fun q=>⟨List.mem_cons_of_mem _ q.1,q.2⟩) (List.mem_cons_of_mem _)
private theorem zGf{M:Model}{A:Around}{E:Value→Shared→Prop}{s:Shared}{scope:Scope}{globals:Addr}{cl:List (Str×Addr)}{qual:Str}{env:Env}{Q:Env→Shared→Prop}
  (h:Q {scope,locals:=s.heap.objs.size,globals,cells:=cellsFrom (s.heap.objs.size+1) scope.names cl,qual,func:=none,code:=env.code,frame:=env.frame,builtins:=env.builtins}
   {s with heap:=pushCells (s.heap.push {cls:=.type "dict",data:=.dict #[]}) scope.names}) :
  wpAny M A (newFunctionEnv scope globals cl [] qual none .none (some env)) Q E s:=by
 simp only[newFunctionEnv,Option.isSome_some,if_true]
 refine wpAny_bind (wpAny_alloc ?_)
 refine wpAny_bind (wpAny_layCells _ (fun name kind cells=>by cases hkc:kind==NameKind.cell <;> simp[hkc]) _ _ _ _ ?_)
 rw[show({s with heap:=s.heap.push {cls:=.type "dict",data:=.dict #[]}}:Shared).heap.objs.size=s.heap.objs.size+1 from Heap.size_push ..]
 rw[List.forIn_nil]
 exact wpAny_bind (wpAny_pure (wpAny_pure h))
noncomputable def Caps(K names:List (Str×NameKind))(ρ ρc:Rho):Prop:=∀y sl,ρc.lookup y=some sl→(∃d,sl=.v d)∧ρ.lookup y=some sl∧(y,NameKind.free)∈names∧K.lookup y=some .cell
private theorem Caps.nil{names:List (Str×NameKind)}:Caps K names ρ []:=fun _ _ h=>by cases h
noncomputable def capB(K names:List (Str×NameKind))(y:Str):Bool:=names.contains (y,NameKind.free)&&K.lookup y==some .cell
private theorem Caps.cons{names:List (Str×NameKind)}{y:Str}{d:PyData}{r:Rho}(h:ρ.lookup y=some (.v d))(hf:capB K names y=true)(hr:Caps K names ρ r):Caps K names ρ ((y,.v d)::r):=fun z t e=>by
  rw[List.lookup_cons] at e
  cases hy:z==y with
  | true =>
    rw[hy] at e;cases e;rw[beq_iff_eq] at hy;subst hy
    obtain⟨f1,f2⟩:=Bool.and_eq_true_iff.mp hf
    exact⟨⟨d,rfl⟩,h,List.contains_iff_mem.mp f1,eq_of_beq f2⟩
  | false=>rw[hy] at e;exact hr z t e
structure CScope(K:List (Str×NameKind))(scope:Scope):Prop where
 nodup:(scope.names.map (·.1)).Nodup
 kind:scope.kind=.function
 free:∀y∈scope.names,y.2=.free→K.lookup y.1=some .cell
 names:∀y∈scope.names,y.2=.local→scope.names.lookup y.1=some .local
private theorem St.compC{s₀ s s₄:Shared}{X₀ X:Addr→Prop}{env:Env}{scope:Scope}{C D:Addr}{cf:List (Str×Addr)}(x:St W s₀ X₀ env ρ X s)(hk:env.scope.names=K)(e:W.Ext s s₄)(hC:s.heap.get? C=none)(hD:s.heap.get? D=none)
    (hCn:s₄.heap.Ns C fun _=>none) (hDn:∃o,s₄.heap.get? D=some o) (hS:CScope K scope) (hcf:∀y c,(y,c)∈cf→s.heap.get? c=none∧s₄.heap.IsCell c none∧(y,NameKind.cell)∈scope.names) (hcs:∀y,(y,NameKind.cell)∈scope.names→∃c,cf.lookup y=some c)
    (hap:cf.Pairwise fun x y=>x.2≠y.2) (hfree:∀y∈scope.names,y.2=.free→∃c,env.cells.lookup y.1=some c) (hρ:Caps K scope.names ρ ρc) :
    St W s₀ (fun b=>X b∨b=D) (compEnvC scope (cf++xG env.cells scope.names []) C env) ρc (fun b=>(X b∨b=D)∨b=C ∨ ∃y,(y,b)∈cf) s₄:=by
  have hn:(compEnvC scope (cf++xG env.cells scope.names []) C env).scope.names=relK K scope.names:=jR hk x.fk
  have lk:∀y c,(cf++xG env.cells scope.names []).lookup y=some c→(y,c)∈cf∨((y,NameKind.free)∈scope.names∧env.cells.lookup y=some c):=fun y c h=>by
    rcases List.mem_append.mp (mem_of_lookup h) with h1|h1
    · exact .inl h1
    · cases h2:cf.lookup y with
      | some c' =>
        have:(cf++xG env.cells scope.names []).lookup y=some c':=by rw[List.lookup_append,h2];rfl
        rw[h] at this;cases this
        exact .inl (mem_of_lookup h2)
      | none =>
        have h3:(xG env.cells scope.names []).lookup y=some c:=by rw[List.lookup_append,h2] at h;exact h
        have f1:=(zB4 scope.names [] h3).resolve_right (fun h=>nomatch h)
        exact .inr ⟨f1,QE h3 (hfree _ f1 rfl)⟩
  have outer:∀y,(y,NameKind.free)∈scope.names→K.lookup y=some .cell→∃c v,(cf++xG env.cells scope.names []).lookup y=some c∧env.cells.lookup y=some c∧env.kindOf y=some .cell∧s.heap.IsCell c v∧s₀.heap.get? c=none∧X c:=fun y h1 h2=>by
    have h2':env.kindOf y=some .cell:=by show env.scope.names.lookup y=_;rw[hk];exact h2
    obtain⟨c,v,g1,g2,g3,g4⟩:=x.ce y h2'
    obtain⟨c',hc'⟩:=kY (cs:=env.cells) scope.names [] h1
    have:=QE hc' ⟨c,g1⟩
    rw[g1] at this;cases this
    have hcn:cf.lookup y=none:=by
      cases q:cf.lookup y with
      | none=>rfl
      | some c'=>exact absurd (zCc hS.nodup h1 (hcf _ _ (mem_of_lookup q)).2.2) (by decide)
    exact⟨c,v,by rw[List.lookup_append,hcn];exact hc',g1,h2',g2,g3,g4⟩
  have ck:∀{c v},s₀.heap.get? c=none→s.heap.IsCell c v→s₄.heap.IsCell c v:=fun {c v} h0 ⟨o,ho,r⟩=>⟨o,e.get (x.nts h0) ho,r⟩
  have fr:Fram X (fun b=>(X b∨b=D)∨b=C ∨ ∃y,(y,b)∈cf) s.heap s₄.heap:=fun b o hb ho _=>⟨e.get (fun h=>hb (x.ts b h)) ho,by
    rintro((h|rfl)|rfl|⟨y,hy⟩)
    · exact hb h
    · rw[hD] at ho;cases ho
    · rw[hC] at ho;cases ho
    · rw[(hcf y b hy).1] at ho;cases ho⟩
  refine⟨x.inv0,x.ext.trans e,hS.kind,x.gl,x.bu,x.fresh0 hC,.inr (.inl rfl),fun b hb=>.inl hb,fun b hb=>.inl (x.ts b hb),fun b hb=>?_,fun y hy=>?_,fun y z c h1 h2=>?_,fun _=>none,hCn,fun y sl hy=>?_,fun y z ds es a hy=>?_⟩
  · rcases hb with(hb|rfl)|rfl|⟨y,hy⟩
    · obtain⟨o,ho⟩:=(x.step e).xs b hb;exact⟨o,ho⟩
    · exact hDn
    · obtain⟨o,_,_,ho,_⟩:=hCn;exact⟨o,ho⟩
    · obtain⟨o,ho,_⟩:=(hcf y b hy).2.1;exact⟨o,ho⟩
  · have hy':(relK K scope.names).lookup y=some .cell:=by rw[←hn];exact hy
    rcases zCp hy' with⟨h1,h2⟩|h1
    · obtain⟨c,v,g1,g2,_,g3,g4,g5⟩:=outer y h1 h2
      exact⟨c,v,g1,ck g4 g3,g4,.inl (.inl g5)⟩
    · obtain⟨c,hc⟩:=hcs y h1
      obtain⟨q1,q2,_⟩:=hcf y c (mem_of_lookup hc)
      exact⟨c,none,by show(cf++_).lookup y=_;rw[List.lookup_append,hc];rfl,q2,x.fresh0 q1,.inr (.inr ⟨y,mem_of_lookup hc⟩)⟩
  · have notin:∀y' z',(y',c)∈cf→((z',NameKind.free)∈scope.names∧env.cells.lookup z'=some c)→False:=fun y' z' q1 q2=>by
      have hk':env.kindOf z'=some .cell:=by show env.scope.names.lookup z'=_;rw[hk];exact hS.free _ q2.1 rfl
      obtain⟨c',v,g1,⟨o,g2,_⟩,_⟩:=x.ce z' hk'
      rw[q2.2] at g1;cases g1
      rw[(hcf _ _ q1).1] at g2;cases g2
    rcases lk y c h1 with q1|q1 <;> rcases lk z c h2 with q2|q2
    · exact name_of_addr hap q1 q2
    · exact(notin _ _ q1 q2).elim
    · exact(notin _ _ q2 q1).elim
    · exact x.ap y z c q1.2 q2.2
  · obtain⟨⟨d,rfl⟩,h2,h3,h4⟩:=hρ y sl hy
    obtain⟨m,v,hm,hh,hs⟩:=x.slotx h2
    obtain⟨c,u,g1,g2,g2',g3,g4,g5⟩:=outer y h3 h4
    have hkd:(relK K scope.names).lookup y=some .cell:=by
      have:∀names:List (Str×NameKind),(names.map (·.1)).Nodup→(y,NameKind.free)∈names→(relK K names).lookup y=some .cell:=by
        intro names
        induction names with
        | nil=>intro _ h;cases h
        | cons q r ih =>
          obtain⟨n,kd⟩:=q
          intro hnd h
          rw[List.map_cons,List.nodup_cons] at hnd
          unfold relK
          rw[List.map_cons]
          rcases List.mem_cons.mp h with h|h
          · cases h
            have hb:(NameKind.free==NameKind.free&&K.lookup y==some NameKind.cell)=true:=by rw[h4];rfl
            simp only[hb,if_true,List.lookup_cons]
            simp
          · have hne:y≠n:=fun e=>hnd.1 (e▸List.mem_map_of_mem (f:=(·.1)) h)
            have:(y==n)=false:=by simpa using hne
            by_cases hb:(kd==NameKind.free&&K.lookup n==some NameKind.cell)=true
            · simp only[hb,if_true,List.lookup_cons,this]
              exact ih hnd.2 h
            · dsimp only
              rw[if_neg hb,List.lookup_cons,this]
              exact ih hnd.2 h
      exact this _ hS.nodup h3
    refine⟨v,.inr ⟨by show(compEnvC scope _ C env).scope.names.lookup y=_;rw[hn];exact hkd,c,g1,?_⟩,Rd.frame fr hs⟩
    rcases hh with⟨q1,_⟩|⟨q1,c',q2,q3⟩
    · rw[g2'] at q1;cases q1
    · rw[g2] at q2;cases q2;exact ck g4 q3
  · obtain⟨⟨d,h⟩,_⟩:=hρ y _ hy;cases h
end Wk
namespace Wk
variable{prog:Program}{w:World}{W:Wd}{k:Nat}{K:List (Str×NameKind)}{ρ ρ' ρc:Rho}{pos p apos npos spos tpos cpos:Pos}
private theorem zCt{elt target iter:PySem.Expr}{ifs:List PySem.Expr}{gs:List Comprehension}{scope:Scope}{ds outs:List PyData}{ys:List Str}{A:Around}{s₀ s:Shared}{X₀ X:Addr→Prop}{env:Env}{E:Value→Shared→Prop}{use:Option (Value→Sem Unit)}{Q:Value→Shared→Prop}{ipos:Pos}(ρc:Rho)
  (hi:Itr prog w W k K ρ iter ds) (C:CScope K scope) (hρ:Caps K scope.names ρ ρc) (hys:∀y∈ys,(y,NameKind.cell)∈scope.names) (h:CL prog w W k (relK K scope.names) ρc (.ListComp elt (⟨target,iter,ifs,0⟩::gs) scope pos) 0 ds outs ys) (hsz:outs.length≤sizeLine)
  (hs:∀env x,foldedSetIterable iter env x=pure x) (R:Room k A) (hk:env.scope.names=K) (x₀:St W s₀ X₀ env ρ X s)
  (hQ:∀D C s₅ vs m (F:Addr→Prop),s.heap.get? D=none→s.heap.get? C=none→(∀b,F b→s.heap.get? b=none)→D≠C→s₅.heap.Ns C m→s₅.heap.PlainList D vs→RdAll (fun b=>(X b∨b=D)∨b=C∨F b) s₅.heap vs.toList outs→W.Inv s₅.heap→W.Ext s s₅ →
   compPost (model prog w) A E use Q (.ref D) C (.ok .next) s₅) :
  wpAny (model prog w) A (comprehension (.ListComp elt (⟨target,iter,ifs,0⟩::gs) scope pos) scope env ipos (newList []) false (eval iter env) use) Q E s:=by
 have hfree:∀y∈scope.names,y.2=.free→∃c,env.cells.lookup y.1=some c:=fun y hy hf=>by
  have:env.kindOf y.1=some .cell:=by show env.scope.names.lookup y.1=_;rw[hk];exact C.free y hy hf
  obtain⟨c,_,h1,_⟩:=x₀.ce _ this;exact⟨c,h1⟩
 refine wpAny_comprehension_free (use:=use) rfl (hs env) (zCa hfree) C.kind C.names (wpAny_mono (hi.run A s₀ X₀ env X s E R hk x₀) (fun v s₁ h1=>wpAny_mono h1 (fun it s₂ h2=>?_) fun _ _ h=>h) fun _ _ h=>h)
 obtain⟨I,Z,S,rfl,hit,hS0,e2,hI,hZ⟩:=h2
 refine wpAny_newObj_type (zGf ?_)
 dsimp only
 generalize hH2:s₂.heap.push {cls:=.type "list",dict:=none,data:=.seq ([]:List Value).toArray}=H2
 have hC:H2.objs.size=s₂.heap.objs.size+1:=by rw[←hH2,Heap.size_push]
 have ok:=cellsFrom_ok scope.names (H2.push {cls:=.type "dict",data:=.dict #[]}) (H2.objs.size+1) [] ⟨fun _ _ hm=>(nomatch hm),List.Pairwise.nil⟩ (by rw[Heap.size_push];exact Nat.le_refl _)
 rw[Heap.size_push] at ok
 have hcfe:cellsFrom (H2.objs.size+1) scope.names (xG env.cells scope.names [])=cellsFrom (H2.objs.size+1) scope.names []++xG env.cells scope.names []:=zJq scope.names _ [] _
 rw[hcfe]
 generalize hcf:cellsFrom (H2.objs.size+1) scope.names []=cf at ok ⊢
 generalize hh1:pushCells (H2.push {cls:=.type "dict",data:=.dict #[]}) scope.names=h₁ at ok ⊢
 have old2:∀b o,(H2.push {cls:=.type "dict",data:=.dict #[]}).get? b=some o→h₁.get? b=some o:=fun b o e=>by rw[←hh1];exact pushCells_keeps _ _ b o e
 have hns₁:h₁.Ns H2.objs.size fun _=>none:=(Heap.Ns.new H2 (.type "dict")).keeps old2
 have hDC:s₂.heap.objs.size≠H2.objs.size:=by rw[hC];exact Nat.ne_of_lt (Nat.lt_succ_self _)
 have old:∀b o,s₂.heap.get? b=some o→h₁.get? b=some o:=fun b o e=>old2 b o (Heap.get?_push_of_some _ (hH2▸Heap.get?_push_of_some _ e))
 have above:∀c,s₂.heap.objs.size≤c→s₂.heap.get? c=none:=fun c hc=>by
  cases e:s₂.heap.get? c with
  | none=>rfl
  | some o=>exact absurd (Heap.lt_size e) (Nat.not_lt.mpr hc)
 have hD0:s₂.heap.get? s₂.heap.objs.size=none:=xH
 have hC0:s₂.heap.get? H2.objs.size=none:=above _ (by rw[hC];exact Nat.le_succ _)
 have hcf0:∀y c,(y,c)∈cf→s₂.heap.get? c=none:=fun y c hm=>above c (by have:=(ok.empty y c hm).2;lia)
 have hD1:h₁.PlainList s₂.heap.objs.size #[]:=⟨_,old2 _ _ (Heap.get?_push_of_some _ (hH2▸Heap.get?_push_size _ rfl))⟩
 have hCs:s.heap.get? H2.objs.size=none:=wJ e2 hC0
 have hDs:s.heap.get? s₂.heap.objs.size=none:=wJ e2 hD0
 generalize hs4:({s₂ with heap:=h₁,toks:=s₂.toks}:Shared)=s₄
 have hh4:s₄.heap=h₁:=by rw[←hs4]
 have e4:W.Ext s s₄:=e2.trans (by rw[←hs4];exact .of_heap e2.inv old)
 have x4:=x₀.compC (ρc:=ρc) (cf:=cf) hk e4 hCs hDs (by rw[hh4];exact hns₁) (by rw[hh4];obtain⟨n,e⟩:=hD1;exact⟨_,e⟩) C
  (fun y c hm=>⟨wJ e2 (hcf0 y c hm),by rw[hh4];exact(ok.empty y c hm).1,by rw[←hcf] at hm;exact((zLz scope.names _ [] y c hm).resolve_right fun h=>nomatch h).2⟩)
  (fun y hy=>by rw[←hcf];exact zDf scope.names _ [] y hy) ok.apart hfree hρ
 generalize hXX:(fun b=>(X b∨b=s₂.heap.objs.size)∨b=H2.objs.size ∨ ∃y,(y,b)∈cf)=XX at x4
 have XXi:∀b,XX b ↔ ((X b∨b=s₂.heap.objs.size)∨b=H2.objs.size ∨ ∃y,(y,b)∈cf):=fun b=>by rw[←hXX]
 have a4:Acc s₀ XX s₂.heap.objs.size s₄ []:=⟨x₀.fresh0 hDs,(XXi _).mpr (.inl (.inr rfl)),#[],by rw[hh4];exact hD1,.nil⟩
 have hZ4:∀b,Z b→¬ XX b∧∃o,s₄.heap.get? b=some o:=fun b hb=>by
  obtain⟨q1,o,q2⟩:=hZ b hb
  refine⟨fun h=>?_,o,by rw[hh4];exact old b o q2⟩
  rcases (XXi b).mp h with(h|rfl)|rfl|⟨y,h⟩
  ·exact q1 h
  ·rw[hD0] at q2;cases q2
  ·rw[hC0] at q2;cases q2
  ·rw[hcf0 y b h] at q2;cases q2
 have hS4:S 0 s₄.heap:=(hit A R.1).frame _ _ _ hS0 fun b o _ e=>by rw[hh4];exact old b o e
 have hloop:=h.run A s₀ _ (compEnvC scope (cf++xG env.cells scope.names []) H2.objs.size env) XX s₄ s₂.heap.objs.size [] I Z S R (jR hk x₀.fk) x4 a4 hit hS4 (x₀.fresh0 hI) hZ4 (by simpa using hsz)
 refine codeAny_mono (qQ (gens:=⟨target,iter,ifs,0⟩::gs) rfl hloop ((hit A R.1).self 0 s₄ _ _ hS4 hloop)) fun r s₅ h5=>?_
 obtain⟨rfl,x5,⟨a0,aX,vs,hp,hr⟩,k5⟩:=h5
 obtain⟨m,hn,_⟩:=x5.vals
 refine hQ s₂.heap.objs.size H2.objs.size s₅ vs m (fun b=>∃y,(y,b)∈cf) hDs hCs (fun b ⟨y,hb⟩=>wJ e2 (hcf0 y b hb)) hDC hn hp (by rw[hXX];simpa using hr) x5.inv ?_
 obtain⟨g,t,es,_,_⟩:=x₀.ext
 obtain⟨g',t',es',_,_⟩:=x5.ext
 refine⟨s₅.heap,s₅.toks,by rw[es',es],fun b o hb e=>?_,x5.inv⟩
 have hbC:b≠H2.objs.size:=fun e'=>by rw[e',hCs] at e;cases e
 refine k5 b o hb hbC (fun y hy hl=>?_) (fun e'=>by rw[e',hDs] at e;cases e) (fun e'=>by rw[e',hI] at e;cases e) (e4.get hb e)
 have hl':(cf++xG env.cells scope.names []).lookup y=some b:=hl
 obtain⟨c,hc⟩:∃c,cf.lookup y=some c:=by rw[←hcf];exact zDf scope.names _ [] y (hys y hy)
 rw[List.lookup_append,hc] at hl'
 cases hl'
 rw[wJ e2 (hcf0 y _ (mem_of_lookup hc))] at e;cases e
private theorem EvN.compC{elt target iter:PySem.Expr}{ifs:List PySem.Expr}{gs:List Comprehension}{scope:Scope}{ds outs:List PyData}{ys:List Str}(ρc:Rho)(hi:Itr prog w W k K ρ iter ds)(C:CScope K scope)(hρ:Caps K scope.names ρ ρc)(hys:∀y∈ys,(y,NameKind.cell)∈scope.names)
  (h:CL prog w W k (relK K scope.names) ρc (.ListComp elt (⟨target,iter,ifs,0⟩::gs) scope pos) 0 ds outs ys) (hsz:outs.length≤sizeLine) (hs:∀env x,foldedSetIterable iter env x=pure x:=by intro _ _;rfl) :
  EvN prog w W k K ρ (.ListComp elt (⟨target,iter,ifs,0⟩::gs) scope pos) outs:=.mk fun A s₀ X₀ env X s E R hk x₀=>by
 rw[eval_ListComp]
 refine zCt (use:=none) ρc hi C hρ hys h hsz hs R hk x₀ fun D Cc s₅ vs m F hD hC hF hDC hn hp hr inv5 e5=>?_
 refine⟨m,hn,fun h' hs'0=>?_⟩
 have hs':Heap.SameBut Cc s₅.heap h':=hs'0
 have hinv:W.Inv h':=W.stable _ _ inv5 fun b o e hc=>(hs'.2 b (by
  rintro rfl
  rcases hc with hc|⟨_,us,hc⟩
  ·exact x₀.nBs hC hc
  ·obtain⟨o',es,ep,ho',hd',_⟩:=hn
   rw[ho'] at e;cases e;rw[hd'] at hc;cases hc)).trans e
 refine⟨D,vs,rfl,hD,by obtain⟨n,e⟩:=hp;exact⟨n,(hs'.2 _ hDC).trans e⟩,?_,?_⟩
 ·exact hr.frame fun b o hb e _=>⟨(hs'.2 b fun e'=>hb (.inr (.inl e'))).trans e,fun h=>hb (.inl h)⟩
 ·obtain⟨g',t',es',k',_⟩:=e5
  subst es'
  refine⟨h',t',rfl,fun b o hb e=>?_,hinv⟩
  exact(hs'.2 b fun e'=>by rw[e',hC] at e;cases e).trans (k' b o hb e)
private theorem Ex.setCC{y:Str}{elt target iter:PySem.Expr}{ifs:List PySem.Expr}{gs:List Comprehension}{scope:Scope}{ds outs:List PyData}{ys:List Str}(ρc:Rho)(hl:K.lookup y=some .local)(hi:Itr prog w W k K ρ iter ds)(C:CScope K scope)(hρ:Caps K scope.names ρ ρc)(hys:∀y∈ys,(y,NameKind.cell)∈scope.names)
  (h:CL prog w W k (relK K scope.names) ρc (.ListComp elt (⟨target,iter,ifs,0⟩::gs) scope cpos) 0 ds outs ys) (hsz:outs.length≤sizeLine) (hs:∀env x,foldedSetIterable iter env x=pure x:=by intro _ _;rfl)
  (hline:(p.line==cpos.line)=true:=by rfl) (hns:(scope.names.any fun (n,k)=>n==y&&(k == .local||k == .cell))=false:=by rfl) :
  Ex prog w W k K ρ (.Assign [.Name y p] (.ListComp elt (⟨target,iter,ifs,0⟩::gs) scope cpos) pos) (.next (upd ρ y (.v (.list outs)))):=.mk fun A s₀ X₀ env X s E R hk x=>by
 have hl':env.kindOf y=some .local:=by rw[←hk] at hl;exact hl
 have hsw:swapsWith (.ListComp elt (⟨target,iter,ifs,0⟩::gs) scope cpos) (some (.Name y p)) pos.line env=pure true:=by
  show(pure (env.blockKind == .function&&env.kindOf y==some .local&&p.line==cpos.line && !(scope.names.any fun (n,k)=>n==y&&(k == .local||k == .cell))):Sem Bool)=pure true
  rw[hl',hline,hns]
  have:env.blockKind=.function:=by unfold Env.blockKind;rw[x.fk];rfl
  rw[this];rfl
 rw[exec_Assign_Name_used _ _ _ _ hsw]
 refine wpAny_bind (wpAny_standAt (wpAny_bind ?_))
 show wpAny _ A (do let _ ← comprehension (.ListComp elt (⟨target,iter,ifs,0⟩::gs) scope cpos) scope env _ (newList []) false (eval iter env) (some (PySem.assign (PySem.Expr.Name y p) env))) _ _ s
 refine wpAny_bind (wpAny_mono (zCt (use:=some (PySem.assign (PySem.Expr.Name y p) env)) (Q:=fun _ s'=>Post W s₀ X₀ env X s (.next (upd ρ y (.v (.list outs)))) .next s') ρc hi C hρ hys h hsz hs R hk x ?_) (fun _ s' hq=>wpAny_pure (wpAny_pure hq)) fun _ _ e=>e)
 intro D Cc s₅ vs m F hD hC hF hDC hn hp hr inv5 e5
 obtain⟨m1,hn1,_⟩:=x.vals
 have hLt:¬ W.Ts env.locals:=x.nts x.lo
 have hnl:s₅.heap.Ns env.locals m1:=hn1.at' fun o e=>e5.get hLt e
 have hLC:env.locals≠Cc:=by rintro rfl;obtain⟨o,_,_,ho,_⟩:=hn1;rw[hC] at ho;cases ho
 have hLD:D≠env.locals:=by rintro rfl;obtain⟨o,_,_,ho,_⟩:=hn1;rw[hD] at ho;cases ho
 have hLF:¬ F env.locals:=fun h=>by have:=hF _ h;obtain⟨o,_,_,ho,_⟩:=hn1;rw[this] at ho;cases ho
 have hpo:(env.scope.kind == .class||(env.scope.kind == .module&&env.locals != env.globals))=false:=by rw[x.fk];rfl
 refine wpAny_assign_Name (wpAny_storeName_local hl' hnl (fun h₂ hn₂ hs₂=>⟨m,hn.at' fun o e=>(hs₂.2 _ hLC.symm).trans e,fun h' hs'0=>?_⟩) hpo)
 have hs':Heap.SameBut Cc h₂ h':=hs'0
 have k':∀b o,b≠env.locals→b≠Cc→s₅.heap.get? b=some o→h'.get? b=some o:=fun b o h1 h2 e=>(hs'.2 b h2).trans ((hs₂.2 b h1).trans e)
 have kx:∀b o,b≠env.locals→¬ W.Ts b→s.heap.get? b=some o→h'.get? b=some o:=fun b o h1 ht e=>k' b o h1 (fun e'=>by rw[e',hC] at e;cases e) (e5.get ht e)
 have inv':W.Inv h':=W.stable _ _ inv5 fun b o e hc=>k' b o (by
   rintro rfl
   rcases hc with hc|⟨_,us,hc⟩
   ·exact x.nB x.lo hc
   ·obtain⟨o',es,ep,ho',hd',_⟩:=hnl
    rw[ho'] at e;cases e;rw[hd'] at hc;cases hc) (by
   rintro rfl
   rcases hc with hc|⟨_,us,hc⟩
   ·exact x.nBs hC hc
   ·obtain⟨o',es,ep,ho',hd',_⟩:=hn
    rw[ho'] at e;cases e;rw[hd'] at hc;cases hc) e
 have hpD:h'.PlainList D vs:=by obtain⟨n,e⟩:=hp;exact⟨n,k' D _ hLD hDC e⟩
 have hrd:Rd X h' (.ref D) (.list outs):=.list (x.nX hD) hpD (hr.frame fun b o hb e _=>⟨k' b o (fun e'=>hb (.inl (.inl (e'▸x.xl)))) (fun e'=>hb (.inr (.inl e'))) e,fun h=>hb (.inl (.inl h))⟩)
 have hnf:h'.Ns env.locals (fun z=>if z=y then some (.ref D) else m1 z):=hn₂.at' fun o e=>(hs'.2 _ hLC).trans e
 obtain⟨h5,t5,e5',_,_⟩:=e5
 subst e5'
 exact⟨rfl,X,x.storedE (sl:=.v (.list outs)) (tk:=t5+1) hl' hn1 hnf kx inv' hrd fun ds e=>(by cases e),fun b o hb e=>⟨kx b o (fun e'=>hb (e'▸x.xl)) (fun h=>hb (x.ts b h)) e,hb⟩⟩
end Wk
namespace Wk
variable{prog:Program}{w:World}{W:Wd}{k k':Nat}{K:List (Str×NameKind)}{ρ ρ':Rho}{pos p apos npos spos tpos cpos:Pos}
private theorem EvN.comp{elt target iter:PySem.Expr}{ifs:List PySem.Expr}{gs:List Comprehension}{scope:Scope}{ds outs:List PyData}(ρc:Rho)(hi:Itr prog w W k K ρ iter ds)(C:CScope K scope)(hρ:Caps K scope.names ρ ρc)
  (h:CL prog w W k (relK K scope.names) ρc (.ListComp elt (⟨target,iter,ifs,0⟩::gs) scope pos) 0 ds outs []) (hsz:outs.length≤sizeLine) (hs:∀env x,foldedSetIterable iter env x=pure x:=by intro _ _;rfl) :
  EvN prog w W k K ρ (.ListComp elt (⟨target,iter,ifs,0⟩::gs) scope pos) outs:=EvN.compC (ys:=[]) ρc hi C hρ (fun _ h=>nomatch h) h hsz hs
private theorem Ex.setC{y:Str}{elt target iter:PySem.Expr}{ifs:List PySem.Expr}{gs:List Comprehension}{scope:Scope}{ds outs:List PyData}(ρc:Rho)(hl:K.lookup y=some .local)(hi:Itr prog w W k K ρ iter ds)(C:CScope K scope)(hρ:Caps K scope.names ρ ρc)
  (h:CL prog w W k (relK K scope.names) ρc (.ListComp elt (⟨target,iter,ifs,0⟩::gs) scope cpos) 0 ds outs []) (hsz:outs.length≤sizeLine) (hs:∀env x,foldedSetIterable iter env x=pure x:=by intro _ _;rfl)
  (hline:(p.line==cpos.line)=true:=by rfl) (hns:(scope.names.any fun (n,k)=>n==y&&(k == .local||k == .cell))=false:=by rfl) :
  Ex prog w W k K ρ (.Assign [.Name y p] (.ListComp elt (⟨target,iter,ifs,0⟩::gs) scope cpos) pos) (.next (upd ρ y (.v (.list outs)))):=Ex.setCC (ys:=[]) ρc hl hi C hρ (fun _ h=>nomatch h) h hsz hs hline hns
end Wk
namespace Wk
variable{prog:Program}{w:World}{W:Wd}{k k':Nat}{K:List (Str×NameKind)}{ρ ρ':Rho}{pos p apos npos spos tpos:Pos}
private theorem Ev.convX(d:PyData){e:PySem.Expr}{d':PyData}(h:Ev prog w W k K ρ e d)(he:d=d'):Ev prog w W k K ρ e d':=he▸h
private theorem Tr.convX(b:Bool){e:PySem.Expr}{b':Bool}(h:Tr prog w W k K ρ e b)(he:b=b'):Tr prog w W k K ρ e b':=he▸h
private theorem Cmp.conv{op:CmpOp}{x y:PyData}{b b':Bool}(h:Cmp prog w W op x y b)(e:b=b'):Cmp prog w W op x y b':=e▸h
private theorem Ev.binX(x y:PyData){l r:PySem.Expr}{op:Operator}{d:PyData}(h1:Ev prog w W k K ρ l x)(h2:Ev prog w W k K ρ r y)(h3:Op2 prog w W op x y d):Ev prog w W k K ρ (.BinOp l op r pos) d:=Ev.bin h1 h2 h3
private theorem Sx.consX(ρ₁:Rho){st:Stmt}{rest:List Stmt}{o:Out}(h:Ex prog w W k K ρ st (.next ρ₁))(h2:Sx prog w W k K ρ₁ rest o):Sx prog w W k K ρ (st::rest) o:=Sx.cons h h2
private theorem Sx.ifretX(b:Bool){t:PySem.Expr}{a c rest:List Stmt}{d:PyData}(hb:b=true)(h:Tr prog w W k K ρ t b)(ha:Sx prog w W k K ρ a (.ret d)):Sx prog w W k K ρ (.If t a c pos::rest) (.ret d):=Sx.ifret (hb▸h) ha
private theorem Sx.ifskipX(b:Bool){t:PySem.Expr}{a rest:List Stmt}{o:Out}(hb:b=false)(h:Tr prog w W k K ρ t b)(hr:Sx prog w W k K ρ rest o):Sx prog w W k K ρ (.If t a [] pos::rest) o:=Sx.ifskip (hb▸h) Sx.nil hr
private theorem Sx.retX(d:PyData){e:PySem.Expr}{rest:List Stmt}(h:Ev prog w W k K ρ e d):Sx prog w W k K ρ (.Return (some e) pos::rest) (.ret d):=Sx.ret (Ex.ret h)
private theorem EvN.conv{e:PySem.Expr}{ds ds':List PyData}(h:EvN prog w W k K ρ e ds)(he:ds=ds'):EvN prog w W k K ρ e ds':=he▸h
private theorem Evs.one{e:PySem.Expr}{d:PyData}(h:Ev prog w W k K ρ e d)(he:∀env,starEach [e] env=(false,eval e env)::starEach [] env:=by intro _;rfl):Evs prog w W k K ρ pos [e] [d]:=Evs.cons h Evs.nil he
private theorem Evs.two{e e':PySem.Expr}{d d':PyData}(h:Ev prog w W k K ρ e d)(h':Ev prog w W k K ρ e' d')(he:∀env,starEach [e,e'] env=(false,eval e env)::starEach [e'] env:=by intro _;rfl)(he':∀env,starEach [e'] env=(false,eval e' env)::starEach [] env:=by intro _;rfl) :
  Evs prog w W k K ρ pos [e,e'] [d,d']:=Evs.cons h (Evs.cons h' Evs.nil he') he
private theorem zDz{c:Nat}:Fun prog w W k (.builtin "ord") [.str ⟨#[c]⟩] (.int c):=zOz rfl
private theorem zN4{c:Nat}(h:c≤1114111):Fun prog w W k (.builtin "chr") [.int c] (.str ⟨#[c]⟩):=fun_chr (by lia) (by lia)
private theorem Ev.chrX(i:Int)(c:Nat){e:PySem.Expr}(h:BuiG W "chr" (.builtin "chr"))(hK:K.lookup ("chr":Str)=some .globalImplicit)(ha:Ev prog w W k K ρ e (.int i))(hi:i=c)(hc:c≤1114111)
  (he:∀env,starEach [e] env=(false,eval e env)::starEach [] env:=by intro _;rfl) (hpl:∀env,(backTo pos (starEach [e] env)).any (·.1)=false:=by intro _;rfl):Ev prog w W k K ρ (.Call (.Name "chr" p) [e] [] pos) (.str ⟨#[c]⟩) :=
 Ev.buiX _ h hK (Evs.cons ha Evs.nil he) (by subst hi;exact zN4 hc) he hpl rfl
private theorem Ev.ordX(c:Nat){e:PySem.Expr}(h:BuiG W "ord" (.builtin "ord"))(hK:K.lookup ("ord":Str)=some .globalImplicit)(ha:Ev prog w W k K ρ e (.str ⟨#[c]⟩))
  (he:∀env,starEach [e] env=(false,eval e env)::starEach [] env:=by intro _;rfl) (hpl:∀env,(backTo pos (starEach [e] env)).any (·.1)=false:=by intro _;rfl):Ev prog w W k K ρ (.Call (.Name "ord" p) [e] [] pos) (.int c) :=
 Ev.buiX _ h hK (Evs.cons ha Evs.nil he) zDz he hpl rfl
end Wk
namespace Wk
variable{prog:Program}{w:World}{W:Wd}{k k':Nat}{K:List (Str×NameKind)}{ρ ρ':Rho}{pos p apos npos spos tpos:Pos}
noncomputable def repS(x:Str)(n:Nat):Str:=⟨(List.replicate n x.cps.toList).flatten.toArray⟩
private theorem zG(x:Str)(n:Nat):(repS x n).length=n*x.length:=by
 show(List.replicate n x.cps.toList).flatten.toArray.size=n*x.cps.size
 simp
private theorem zE8(c:Array Nat):∀(n:Nat) (a:Array Nat),((List.replicate n c).foldl (· ++ ·) a).toList=a.toList++(List.replicate n c.toList).flatten
 | 0,a=>by simp
 | n+1,a=>by rw[List.replicate_succ,List.foldl_cons,zE8 c n,List.replicate_succ];simp
private theorem zNs(x:Str)(n:Nat):Txt.mul x n=repS x n:=by
 unfold Txt.mul repS
 by_cases h0:(n:Int)<1
 ·rw[if_pos h0];have:n=0:=by lia
  subst this;rfl
 ·rw[if_neg h0]
  by_cases h1:((n:Int)==1||x.length==0)=true
  ·rw[if_pos h1]
   rw[Bool.or_eq_true,beq_iff_eq,beq_iff_eq] at h1
   rcases h1 with h1|h1
   ·have:n=1:=by lia
    subst this;simp
   ·have hx:x.cps.toList=[]:=by
     have:x.cps.size=0:=h1
     simpa using this
    rw[hx]
    have:x=⟨#[]⟩:=by
     have:x.cps=#[]:=by simpa using hx
     cases x;simp_all
    rw[this];simp
  ·rw[if_neg h1]
   congr 1
   apply Array.toList_inj.mp
   rw[zE8,Int.toNat_natCast];simp
private theorem QO{x:Str}{n:Nat}(h:x.length*n≤2^24)(hn:n<2^62):Op2 prog w W .Mult (.str x) (.int n) (.str (repS x n)):=by
 rw[←zNs]
 refine zQ2 ⟨?_,?_,?_⟩
 ·simp;lia
 ·intro h1 h2
  rw[Bool.or_eq_false_iff] at h2
  simp only[beq_eq_false_iff_ne] at h2
  have hx:x.length≤2^24:=by
   have:1≤n:=by lia
   calc x.length=x.length*1:=by simp
    _≤x.length*n:=Nat.mul_le_mul_left _ this
    _≤_:=h
  have h3:(x.length:Int)*n≤2^24:=by exact_mod_cast h
  have h4:(0:Int)<n:=by lia
  intro hc
  have:=Int.lt_mul_of_ediv_lt h4 hc
  lia
 ·intro h1 h2
  have h24:sizeLine=16777216:=by decide
  unfold Builtin.Str.tooLong
  rw[Int.toNat_natCast]
  simp;lia
private theorem Ev.cat{k:Nat}{K:List (Str×NameKind)}{ρ:Rho}{pos:Pos}{l r:PySem.Expr}(x y:Str)(h1:Ev prog w W k K ρ l (.str x))(h2:Ev prog w W k K ρ r (.str y))(hs:x.length+y.length≤sizeLine):Ev prog w W k K ρ (.BinOp l .Add r pos) (.str (x++y)) :=
 Ev.bin h1 h2 (uI hs)
private theorem yQ{i:Int}{j n:Nat}(hi:i=j)(hj:j<n):seqIndex? i n=some j:=by
 subst hi;exact seqIndex_of (Int.natCast_nonneg j) (Int.ofNat_lt.mpr hj)
private theorem zAr{x:Str}{i:Int}(j c:Nat)(hi:i=j)(hj:x.cps[j]?=some c)(hs:x.length≤2^62):Itm prog w W (.str x) (.int i) (.str ⟨#[c]⟩):=by
 have hlt:j<x.length:=(Array.getElem?_eq_some_iff.mp hj).1
 refine itm_str (by lia) (by lia) ?_
 have:seqIndex? i x.length=some j:=yQ hi hlt
 rw[this];exact hj
private theorem zP(a b:Nat):(a:Int).fmod (b:Int)=((a%b:Nat):Int):=by rw[Int.fmod_eq_emod_of_nonneg _ (Int.natCast_nonneg b)];rfl
private theorem yJ(a b:Nat):(a:Int).fdiv (b:Int)=((a/b:Nat):Int):=by rw[Int.fdiv_eq_ediv_of_nonneg _ (Int.natCast_nonneg b)];rfl
private theorem yR{L:List Int}{i:Int}{j:Nat}(hi:i=j)(hj:j<L.length)(hs:L.length<2^62):Itm prog w W (.list (zA L)) (.int i) (.int (L.getD j 0)):=by
 refine uN (j:=j) (by lia) (by lia) (yQ hi (by simpa [zA] using hj)) ?_
 rw[zA,List.getElem?_map,List.getElem?_eq_getElem hj,List.getD_eq_getElem?_getD,List.getElem?_eq_getElem hj];rfl
private theorem zA5{L:List Str}{i:Int}{j:Nat}(hi:i=j)(hj:j<L.length)(hs:L.length<2^62):Itm prog w W (.list (yH L)) (.int i) (.str (L.getD j "")):=by
 refine uN (j:=j) (by lia) (by lia) (yQ hi (by simpa [yH] using hj)) ?_
 rw[yH,List.getElem?_map,List.getElem?_eq_getElem hj,List.getD_eq_getElem?_getD,List.getElem?_eq_getElem hj];rfl
end Wk
end
section
open PySem PyProof.Rows
set_option maxHeartbeats 400000
set_option maxRecDepth 100000
set_option autoImplicit false
set_option linter.unusedVariables false
namespace Wk
variable{prog:Program}{w:World}{K:List (Str×NameKind)}{pos p apos npos spos tpos:Pos}
noncomputable def FrI(env:Env)(μ:List (Str×Int))(cs:List (Str×Value))(h:Heap):Prop :=
 (∃m,h.Ns env.locals m∧∀x i,μ.lookup x=some i→∃t,m x=some (.int i t))∧∀x v,cs.lookup x=some v→env.kindOf x=some .free∧∃c,env.cells.lookup x=some c∧h.IsCell c (some v)
structure EnvI(env:Env)(K:List (Str×NameKind)):Prop where
 names:env.scope.names=K
 kind:env.scope.kind=.function
structure EvI(prog:Program)(w:World)(K:List (Str×NameKind))(μ:List (Str×Int))(cs:List (Str×Value))(e:PySem.Expr)(i:Int):Prop where
 run:∀A env s E,EnvI env K→FrI env μ cs s.heap→wpAny (model prog w) A (eval e env) (fun v s'=>∃t tk,v=.int i t∧s'={s with toks:=tk}) E s
section
variable{μ:List (Str×Int)}{cs:List (Str×Value)}
private theorem EvI.loc{x:Str}{i:Int}(h:μ.lookup x=some i)(hK:K.lookup x=some .local)(hd:(x==("__debug__":Str))=false:=by rfl):EvI prog w K μ cs (.Name x pos) i:=.mk fun A env s E hE hF=>by
 obtain⟨⟨m,hn,hm⟩,_⟩:=hF
 obtain⟨t,ht⟩:=hm x i h
 exact wpAny_Name (wpAny_loadName_local hE.kind (by show env.scope.names.lookup x=_;rw[hE.names];exact hK) hn ht ⟨t,s.toks,rfl,rfl⟩) hd
private theorem EvI.free{x:Str}{i:Int}{t:Tok}(h:cs.lookup x=some (.int i t))(hd:(x==("__debug__":Str))=false:=by rfl)(hc:(x==("__classdict__":Str))=false:=by rfl):EvI prog w K μ cs (.Name x pos) i:=.mk fun A env s E hE hF=>by
 obtain⟨hk,c,h1,h2⟩:=hF.2 x _ h
 exact wpAny_Name (wpAny_loadName_free hE.kind hk h1 h2 ⟨t,s.toks,rfl,rfl⟩ hc) hd
private theorem EvI.const{i:Int}{n:Nat}:EvI prog w K μ cs (.Constant (.int i) n pos) i:=.mk fun A env s E hE hF=>wpAny_Constant_int ⟨_,_,rfl,rfl⟩
structure BinI(prog:Program)(w:World)(op:Operator)(a b c:Int):Prop where
 run:∀A s t u E,wpAny (model prog w) A (binaryOp op (.int a t) (.int b u)) (fun v s'=>∃t tk,v=.int c t∧s'={s with toks:=tk}) E s
private theorem EvI.bin{l r:PySem.Expr}{op:Operator}{a b c:Int}(h1:EvI prog w K μ cs l a)(h2:EvI prog w K μ cs r b)(h3:BinI prog w op a b c):EvI prog w K μ cs (.BinOp l op r pos) c:=.mk fun A env s E hE hF=>by
 refine wpAny_BinOp (wpAny_mono (h1.run A env s _ hE hF) (fun v s₁ ⟨t,tk,hv,hs⟩=>?_) fun _ _ h=>h)
 subst hv;subst hs
 refine wpAny_mono (h2.run A env {s with toks:=tk} _ hE hF) (fun v s₂ ⟨u,tk2,hv,hs⟩=>?_) fun _ _ h=>h
 subst hv;subst hs
 exact wpAny_mono (h3.run A {s with toks:=tk2} t u _) (fun v s₃ ⟨t3,tk3,hv,hs⟩=>⟨t3,tk3,hv,hs⟩) fun _ _ h=>h
section
variable{a b:Int}
private theorem BinI.add:BinI prog w .Add a b (a+b):=.mk fun A s t u E=>P.add_int ⟨_,_,rfl,rfl⟩
private theorem BinI.sub:BinI prog w .Sub a b (a-b):=.mk fun A s t u E=>P.sub_int ⟨_,_,rfl,rfl⟩
private theorem BinI.mul(h:IntMulOk a b):BinI prog w .Mult a b (a*b):=.mk fun A s t u E=>P.mul_int ⟨_,_,rfl,rfl⟩ h
private theorem BinI.rsh(h:0≤b):BinI prog w .RShift a b (a.fdiv (2^b.toNat)):=.mk fun A s t u E=>rshift_int h ⟨_,_,rfl,rfl⟩
private theorem BinI.lsh(h:0≤b)(hs:(Builtin.Int.intBits a:Int)+b≤2^27):BinI prog w .LShift a b (a*2^b.toNat):=.mk fun A s t u E=>lshift_int h hs ⟨_,_,rfl,rfl⟩
private theorem BinI.xor:BinI prog w .BitXor a b (Builtin.bitXor a b):=.mk fun A s t u E=>xor_int ⟨_,_,rfl,rfl⟩
end
private theorem EvI.conv{e:PySem.Expr}{i j:Int}(h:EvI prog w K μ cs e i)(hij:i=j):EvI prog w K μ cs e j:=hij▸h
private theorem TrI.eq{l r:PySem.Expr}{a b:Int}(h1:EvI prog w K μ cs l a)(h2:EvI prog w K μ cs r b){A:Around}{env:Env}{s:Shared}{E:Value→Shared→Prop}{Q:Bool→Shared→Prop}(hE:EnvI env K)(hF:FrI env μ cs s.heap)(hQ:∀tk,Q (a==b) {s with toks:=tk})
  (hm:behindInMarks .Eq r=false:=by rfl):wpAny (model prog w) A (isTrue (.Compare l [.Eq] [r] pos) env (eval (.Compare l [.Eq] [r] pos) env)) Q E s:=by
 refine wpAny_isTrue_Compare1 (wpAny_mono (h1.run A env s _ hE hF) (fun v s₁ ⟨t,tk,hv,hs⟩=>?_) fun _ _ h=>h) hm
 subst hv;subst hs
 refine wpAny_mono (h2.run A env {s with toks:=tk} _ hE hF) (fun v s₂ ⟨u,tk2,hv,hs⟩=>?_) fun _ _ h=>h
 subst hv;subst hs
 exact P.eq_int (wpAny_pure (hQ tk2))
private theorem FrI.keep{env:Env}{h h':Heap}(x:FrI env μ cs h)(k:∀b o,h.get? b=some o→(∀vs n,o.data ≠ .seq vs n)→h'.get? b=some o):FrI env μ cs h':=by
 obtain⟨⟨m,hn,hm⟩,hc⟩:=x
 refine⟨⟨m,hn.at' fun o ho=>k _ o ho ?_,hm⟩,fun y v hy=>?_⟩
 ·obtain⟨o',es,ep,ho',hd,_⟩:=hn
  rw[ho] at ho';cases ho'
  intro vs n h;rw[hd] at h;cases h
 ·obtain⟨h1,c,h2,o,h3,h4⟩:=hc y v hy
  exact⟨h1,c,h2,o,k c o h3 (fun vs n h=>by rw[h4] at h;cases h),h4⟩
private theorem StI.set{y:Str}{value:PySem.Expr}{i:Int}(h:EvI prog w K μ cs value i)(hK:K.lookup y=some .local){A:Around}{env:Env}{s:Shared}{E:Value→Shared→Prop}{Q:Flow→Shared→Prop}(hE:EnvI env K)(hF:FrI env μ cs s.heap)
    (hQ:∀h' tk,FrI env ((y,i)::μ) cs h'→(∀b o,b≠env.locals→s.heap.get? b=some o→h'.get? b=some o)→Q .next {s with heap:=h',toks:=tk})
    (hs:∀env,swapsWith value (some (.Name y p)) pos.line env=pure false:=by intro _;rfl):wpAny (model prog w) A (exec (.Assign [.Name y p] value pos) env) Q E s:=by
  refine wpAny_Assign_Name (wpAny_mono (h.run A env s _ hE hF) (fun v s₁ ⟨t,tk,hv,hs⟩=>?_) fun _ _ h=>h) (hs env)
  subst hv;subst hs
  obtain⟨⟨m,hn,hm⟩,hc⟩:=hF
  refine wpAny_storeName_local (s:={s with toks:=tk}) (by show env.scope.names.lookup y=_;rw[hE.names];exact hK) hn (fun h' hn' hsb=>hQ h' _ ⟨⟨_,hn',fun x j hx=>?_⟩,fun x v hx=>?_⟩ fun b o hb e=>(hsb.2 b hb).trans e) (by rw[hE.kind];rfl)
  · rw[List.lookup_cons] at hx
    cases hy:x==y with
    | true=>rw[hy] at hx;cases hx;rw[beq_iff_eq] at hy;subst hy;exact⟨t,by simp⟩
    | false =>
      rw[hy] at hx
      have:x≠y:=by simpa using hy
      obtain⟨u,hu⟩:=hm x j hx
      exact⟨u,by simpa [this] using hu⟩
  · obtain⟨h1,c,h2,h3⟩:=hc x v hx
    refine⟨h1,c,h2,?_⟩
    have:=zC5 h3 hn
    obtain⟨o,h3,h4⟩:=h3
    exact⟨o,(hsb.2 c this).trans h3,h4⟩
end
end Wk
namespace Wk
variable{prog:Program}{w:World}{K:List (Str×NameKind)}{pos p apos npos spos tpos:Pos}
private theorem zEe{A:Around}{E:Value→Shared→Prop}{s:Shared}{F:Addr}{o:Obj}{fd:FuncData}{body:List Stmt}{names:List Str}{vals:List Value}{Q:Value→Shared→Prop}(hroom:A.depth<recursionLimit)(ho:s.heap.get? F=some o)(hd:o.data=.func fd)(hb:fd.body=.stmts body)
  (hcd:s.heap.CodeRec fd.code fd.qualname) (hlim:s.heap.NoLimit) (hK:fd.scope.names=K) (hbind:bindArgs fd ⟨vals,[]⟩=pure (names.zip vals)) (hcells:∀x∈K,x.2 ≠ .cell) (hloc:∀x∈names.zip vals,K.lookup x.1=some .local)
  (hco:fd.scope.isCoroutine=false) (hgen:fd.scope.isGenerator=false) (hk:fd.scope.kind=.function)
  (h:∀h₁ env tk,EnvI env K→env.locals=s.heap.objs.size→env.cells=fd.closure→env.globals=fd.globals→env.builtins=fd.builtins→h₁.Ns env.locals (fun x=>(names.zip vals).reverse.lookup x)→(∀b o,s.heap.get? b=some o→h₁.get? b=some o) →
   ∀E',wpAny (model prog w) (A.deeper env) (execs body env) (fun f s'=>Q (match f with | .ret v=>v | _=>.none) s') E' {s with heap:=h₁,toks:=tk}) :
  wpAny (model prog w) A (call (.ref F) vals) Q E s:=by
 refine wpAny_call (codeAny_call_function hroom ho hd hco hgen hb hcd ?_)
 rw[hbind]
 refine wpAny_pure (wpAny_newFunctionEnv (by rw[hK];exact hcells) (by rw[hK];exact hloc) (fun h₁ hns hsb=>?_) hk)
 have kp:∀b o,s.heap.get? b=some o→h₁.get? b=some o:=fun b o e=>(hsb.2 b (Nat.ne_of_lt (Heap.lt_size e))).trans (Heap.get?_push_of_some _ e)
 refine⟨hlim.keeps kp,codeAny_func ?_⟩
 have:=h h₁ (newEnv fd.scope s.heap.objs.size fd.globals fd.closure (fd.qualname ++ ".<locals>.") (some F) fd.code none fd.builtins) (s.toks+(names.zip vals).length) ⟨hK,hk⟩ rfl rfl rfl rfl hns kp
 exact this _
noncomputable def dig(n:Nat)(x:Nat)(cnt i:Nat):Nat:=if i+1<cnt then x/2^(n*i)%2^n else x/2^(n*i)
private theorem zQd(n:Nat)(x:Nat):dig n x 1 0=x:=by unfold dig;rw[if_neg (by lia)];simp
private theorem zP1(n:Nat)(x:Nat){a cnt i:Nat}(hi:i<a)(ha:a<cnt):dig n (x%2^(n*a)) a i=dig n x cnt i:=by
  unfold dig
  rw[if_pos (show i+1<cnt by lia)]
  obtain⟨d,rfl⟩:∃d,a=i+d+1:=⟨a-i-1,by lia⟩
  have hp:(2:Nat)^(n*(i+d+1))=2^(n*i)*2^(n*(d+1)):=by rw[←Nat.pow_add,←Nat.mul_add];congr 2
  rw[hp,Nat.mod_mul_right_div_self]
  cases d with
  | zero=>rw[if_neg (by lia)];simp
  | succ d =>
    rw[if_pos (by lia)]
    refine Nat.mod_mod_of_dvd _ ?_
    exact Nat.pow_dvd_pow 2 (by rw[Nat.mul_add];lia)
private theorem zMk(n:Nat)(x:Nat){a b i:Nat}(hi:i<b):dig n (x/2^(n*a)) b i=dig n x (a+b) (a+i):=by
 unfold dig
 have hp:(2:Nat)^(n*(a+i))=2^(n*a)*2^(n*i):=by rw[←Nat.pow_add,←Nat.mul_add]
 rw[hp,Nat.div_div_eq_div_mul]
 by_cases h:i+1<b
 ·rw[if_pos h,if_pos (by lia)]
 ·rw[if_neg h,if_neg (by lia)]
private theorem kD(a b:Nat):Builtin.bitAnd (a:Int) (b:Int)=((a&&&b:Nat):Int):=by
 unfold Builtin.bitAnd
 have h1:decide ((0:Int)≤(a:Int))=true:=by simp
 have h2:decide ((0:Int)≤(b:Int))=true:=by simp
 rw[h1,h2];rfl
private theorem bits2:∀x,x<2→∀y,y<2→(x&&&y)+(x|||y)=x+y∧2*(x&&&y)+(x^^^y)=x+y:=by decide
private theorem zOg{A B a b A1 B1 a1 b1 A0 B0 a0 b0 m:Nat}(h1:m*A1+B1=a1+b1)(h0:m*A0+B0=a0+b0)(eA:2*A1+A0=A)(eB:2*B1+B0=B)(ea:2*a1+a0=a)(eb:2*b1+b0=b):m*A+B=a+b:=by
 subst eA eB ea eb
 rw[Nat.mul_add,Nat.mul_left_comm];lia
private theorem zHw:∀(n a b:Nat),a<2^n→b<2^n→1*(a&&&b)+(a|||b)=a+b∧2*(a&&&b)+(a^^^b)=a+b
  | 0, a, b, ha, hb => by
    rw[Nat.pow_zero,Nat.lt_one_iff] at ha hb
    subst ha hb;exact⟨rfl,rfl⟩
  | n + 1, a, b, ha, hb => by
    rw[Nat.pow_succ,Nat.mul_comm] at ha hb
    obtain⟨h1,h2⟩:=zHw n (a/2) (b/2) (Nat.div_lt_of_lt_mul ha) (Nat.div_lt_of_lt_mul hb)
    obtain⟨b1,b2⟩:=bits2 (a%2) (Nat.mod_lt _ (by decide)) (b%2) (Nat.mod_lt _ (by decide))
    have m1:(a&&&b)%2=a%2&&&b%2:=Nat.and_mod_two_pow (n:=1)
    have m2:(a|||b)%2=a%2|||b%2:=Nat.or_mod_two_pow (n:=1)
    have m3:(a^^^b)%2=a%2^^^b%2:=Nat.xor_mod_two_pow (n:=1)
    rw[←m1,←m2,←Nat.one_mul ((a&&&b)%2)] at b1
    rw[←m1,←m3] at b2
    rw[←Nat.and_div_two,←Nat.or_div_two] at h1
    rw[←Nat.and_div_two,←Nat.xor_div_two] at h2
    exact⟨zOg h1 b1 (Nat.div_add_mod _ 2) (Nat.div_add_mod _ 2) (Nat.div_add_mod _ 2) (Nat.div_add_mod _ 2),zOg h2 b2 (Nat.div_add_mod _ 2) (Nat.div_add_mod _ 2) (Nat.div_add_mod _ 2) (Nat.div_add_mod _ 2)⟩
private theorem bit_sum(a b:Nat):1*(a&&&b)+(a|||b)=a+b∧2*(a&&&b)+(a^^^b)=a+b :=
 zHw (a+b) a b (Nat.lt_of_le_of_lt (Nat.le_add_right a b) Nat.lt_two_pow_self) (Nat.lt_of_le_of_lt (Nat.le_add_left b a) Nat.lt_two_pow_self)
private theorem zB0(a b:Nat):Builtin.bitOr (a:Int) (b:Int)=((a|||b:Nat):Int):=by
 unfold Builtin.bitOr Builtin.bitAnd
 have e1:Builtin.bitNot (a:Int)=-(a:Int)-1:=by unfold Builtin.bitNot;lia
 have e2:Builtin.bitNot (b:Int)=-(b:Int)-1:=by unfold Builtin.bitNot;lia
 have h1:decide ((0:Int)≤Builtin.bitNot (a:Int))=false:=by rw[e1];simp;lia
 have h2:decide ((0:Int)≤Builtin.bitNot (b:Int))=false:=by rw[e2];simp;lia
 rw[h1,h2]
 have e3:Builtin.bitNot (Builtin.bitNot (a:Int))=a:=by rw[e1];unfold Builtin.bitNot;lia
 have e4:Builtin.bitNot (Builtin.bitNot (b:Int))=b:=by rw[e2];unfold Builtin.bitNot;lia
 show Builtin.bitNot (Builtin.bitNot ((((Builtin.bitNot (Builtin.bitNot (a:Int))).toNat|||(Builtin.bitNot (Builtin.bitNot (b:Int))).toNat:Nat)):Int))=_
 rw[e3,e4,Int.toNat_natCast,Int.toNat_natCast]
 unfold Builtin.bitNot;lia
private theorem zIl(a b:Nat):Builtin.bitXor (a:Int) (b:Int)=((a^^^b:Nat):Int):=by
 unfold Builtin.bitXor
 rw[zB0,kD]
 obtain⟨h1,h2⟩:=bit_sum a b
 lia
private theorem zN8(x m:Nat):x^^^(x/2^m*2^m)=x%2^m:=by
 apply Nat.eq_of_testBit_eq
 intro i
 rw[Nat.testBit_xor,Nat.testBit_mod_two_pow]
 by_cases h:i<m
 ·have:(x/2^m*2^m).testBit i=false:=by rw[Nat.testBit_mul_two_pow];simp;lia
  rw[this];simp[h]
 ·have:(x/2^m*2^m).testBit i=x.testBit i:=by
   rw[Nat.testBit_mul_two_pow,Nat.testBit_div_two_pow]
   have e:i-m+m=i:=by lia
   rw[show(decide (m≤i))=true by simp;lia]
   simp[e]
  rw[this];simp[h]
private theorem zL3(x y m:Nat)(hy:y<2^m):(x*2^m)|||y=x*2^m+y:=by
 rw[Nat.mul_comm];exact(Nat.two_pow_add_eq_or_of_lt hy x).symm
end Wk
end
section
open PySem PySem.W PyProof.Rows
set_option maxHeartbeats 400000
set_option maxRecDepth 100000
set_option autoImplicit false
set_option linter.unusedVariables false
namespace Wk
structure Tab where
 P:Addr
 qual:Str
 line:Nat
 col:Nat
noncomputable def zEi(h:Heap)(q:Tab):Prop:=∃ps,h.get? q.P=some (tabObj ps)∧(ps=#[] ∨ ∃c' o vs t,ps=#[rawInt q.line,rawInt q.col,.ref c']∧h.get? c'=some o∧o.cls=.type "code"∧o.data=.fields vs∧vs[1]?=some (.str q.qual t))
private theorem zEi.keep{h h':Heap}{q:Tab}(x:zEi h q)(k:∀b o,h.get? b=some o→((o.cls=.none∨o.cls=.type "code")∧∃vs,o.data=.fields vs)→h'.get? b=some o):zEi h' q:=by
 obtain⟨ps,h1,h2⟩:=x
 refine⟨ps,k _ _ h1 ⟨.inl rfl,_,rfl⟩,?_⟩
 rcases h2 with h2|⟨c',o,vs,t,h3,h4,h5,h6,h7⟩
 ·exact .inl h2
 ·exact .inr ⟨c',o,vs,t,h3,k _ _ h4 ⟨.inr h5,vs,h6⟩,h5,h6,h7⟩
private theorem zDv{h₁:Heap}{a:Addr}{m:Str→Option Value}{tabs:List Tab}(ht:∀q∈tabs,∃o,h₁.get? q.P=some o∧o.cls=.none∧∃vs,o.data=.fields vs)(hg:h₁.Ns a m):∀q∈tabs,q.P≠a:=fun q hq e'=>by
 obtain⟨o1,e1,c1,vs,d1⟩:=ht q hq
 obtain⟨o2,es,ep,e2,d2,_⟩:=hg
 rw[e',e2] at e1;cases e1;rw[d2] at d1;cases d1
noncomputable def WdOf(h₁:Heap)(mg mb:Str→Option Value)(tabs:List Tab)(hg:h₁.Ns mainGlobals mg)(hb:h₁.Ns builtinsNs mb)(hl:h₁.NoLimit)(ht:∀q∈tabs,∃o,h₁.get? q.P=some o∧o.cls=.none∧∃vs,o.data=.fields vs):Wd where
 B:=fun b=>∃o,h₁.get? b=some o
 Ts:=fun b=>∃q∈tabs,q.P=b
 mg:=mg
 mb:=mb
 Inv:=fun h=>(∀b o,(∀q∈tabs,q.P≠b)→h₁.get? b=some o→h.get? b=some o)∧∀q∈tabs,zEi h q
 low:=fun b ⟨q,hq,e⟩=>by subst e;obtain⟨o,h,_⟩:=ht q hq;exact⟨o,h⟩
 inv_B:=fun h b hi ⟨o,e⟩=>by
  by_cases hq:∀q∈tabs,q.P≠b
  ·exact⟨o,hi.1 b o hq e⟩
  ·obtain⟨q,hq⟩:=Classical.not_forall.mp hq
   obtain⟨hm,he⟩:=Classical.not_imp.mp hq
   have he:=Classical.not_not.mp he
   subst he
   obtain⟨ps,h1,_⟩:=hi.2 q hm
   exact⟨_,h1⟩
 inv_Ts:=fun h b hi ⟨q,hq,e⟩=>by subst e;obtain⟨ps,h1,_⟩:=hi.2 q hq;exact⟨_,h1,rfl⟩
 inv_ns:=fun h hi=>hg.at' fun o e=>hi.1 _ o (zDv ht hg) e
 inv_nb:=fun h hi=>hb.at' fun o e=>hi.1 _ o (zDv ht hb) e
 inv_lim:=fun h hi=>let ⟨mc,a,r⟩:=hl;⟨mc,a.at' fun o e=>hi.1 _ o (zDv ht a) e,r⟩
 stable:=fun h h' hi k=>⟨fun b o hq e=>k b o (hi.1 b o hq e) (.inl ⟨o,e⟩),fun q hq=>(hi.2 q hq).keep fun b o e hc=>k b o e (.inr hc)⟩
end Wk
namespace Wk
variable{prog:Program}{w:World}{W:Wd}{k:Nat}{K:List (Str×NameKind)}{ρ ρ':Rho}{pos p apos:Pos}
structure DefN(W:Wd)(a:Addr)(name:Str)(params:Arguments)(body:List Stmt)(scope:Scope)(c:Addr):Prop where
 here:∃o pm doc,o.data=.func (Calls.docDef name params body scope pm (.ref c) doc)∧(∀h,W.Inv h→h.get? a=some o)∧∀h,W.Inv h→h.CodeRec (.ref c) name
 co:scope.isCoroutine=false
 gen:scope.isGenerator=false
 kind:scope.kind=.function
private theorem Fun.of_defE{c:Addr}{a:Addr}{name:Str}{params:Arguments}{body:List Stmt}{scope:Scope}{names:List Str}{ds:List PyData}{d:PyData}(D:DefN W a name params body scope c)
  (hb:∀pm cd doc (vs:List Value),vs.length=ds.length→bindArgs (Calls.docDef name params body scope pm cd doc) ⟨vs,[]⟩=pure (names.zip vs)) (hn:names.Nodup)
  (hkn:∀x∈names,scope.names.lookup x=some .local∨scope.names.lookup x=some .cell)
  (h:∀A s₀ X₀ env X s E,Room k A→env.scope=scope→env.code=.ref c→env.qual=name++(".<locals>.":Str)→St W s₀ X₀ env (yI names ds) X s→wpAny (model prog w) A (execs body env) (Post W s₀ X₀ env X s (.ret d)) E s):Fun prog w W (k+1) (.ref a) ds d:=fun A X s vs E R inv tx xs hvs=>by
 obtain⟨o,pm,doc,ho,hget,hcd⟩:=D.here
 refine Def.enterC ho hget hcd D.co D.gen D.kind hb hn hkn R inv tx xs hvs fun env X' s₁ e1 _ e5 e6 keep x0 R'=>?_
 refine wpAny_mono (h _ s X env X' s₁ _ R' e1 e5 e6 x0) (fun f s₂ hf=>?_) fun _ _ h=>h
 obtain⟨v,rfl,hv,he⟩:=hf
 exact⟨hv,he⟩
structure Nest(W:Wd)(c P:Addr)(q:Tab):Prop where
 hP:q.P=P
 ts:W.Ts P
 hd:∀h,W.Inv h→CodeHd h c P
 ok:∀h,W.Inv h→zEi h q
 inv:∀h h',W.Inv h→(∀b o,b≠P→h.get? b=some o→h'.get? b=some o)→zEi h' q→W.Inv h'
 bu:∀h,W.Inv h→h.BuiltinsAt W.mg P
 gP:mainGlobals≠P
section
variable{A:Around}{E:Value→Shared→Prop}{s:Shared}{name qual:Str}{params:Arguments}{body:List Stmt}{scope:Scope}{env:Env}{c P:Addr}{ps:Array Value}{firstLine:Nat}{mg:Str→Option Value}{q0:Str×Addr}{clos:List (Str×Addr)}{Q:Value→Shared→Prop}
private theorem mkFun(hcl:closureFor scope env=pure (q0::clos))(hge0:env.globals=mainGlobals)(hg:s.heap.Ns mainGlobals mg)(hcode:env.code=.ref c)(C:CodeHd s.heap c P)(hP:s.heap.get? P=some (tabObj ps))(ht:TriplesOk ps.toList)
  (hnf:codeAmong pos ps.toList=none) (hgP:mainGlobals≠P) (hb:s.heap.BuiltinsAt mg P) (hdoc:docOf body=none)
  (h:∀c' ctv h' tk,Heap.ExtBut P s.heap h'→h'.CodeRec (.ref c') qual→(∃o,h'.get? c'=some o∧o.cls=.type "code")→h'.get? P=some (tabObj (ps ++ #[rawInt pos.line,rawInt pos.col,.ref c'])) →
   Q (.ref h'.objs.size) {s with heap:=h'.push (fnMade name qual params body scope (q0::clos) .none ((mg "__name__").getD .none) c' ctv),toks:=tk}) :
  wpAny (model prog w) A (makeFunction name qual params (.stmts body) scope env [] [] [] pos firstLine) Q E s:=by
 rw[makeFunction_eq]
 simp only[List.zip_nil_right,List.filterMap_nil,List.isEmpty_nil,if_true,pure_bind]
 obtain⟨bm,ob,hbm,hne0,_,hneP,hbo,hcls,hdict,hdata⟩:=hb
 unfold makeTail
 rw[hcl,hge0]
 refine wpAny_bind (wpAny_pure ?_)
 simp only[List.isEmpty_cons,Bool.false_eq_true,if_false]
 refine wpAny_bind (wpAny_newTextTuple ?_)
 refine wpAny_bind (wpAny_functionCodeX hcode ((C.keeps fun b o e=>Heap.get?_push_of_some _ e).code (Heap.get?_push_of_some _ hP) ht) ((C.keeps fun b o e=>Heap.get?_push_of_some _ e).tab (Heap.get?_push_of_some _ hP)) hnf fun c' h' tk hx hge hlt _ hrec htb hnew=>?_)
 obtain⟨P',_,_,⟨o',vs',n1,n2,_⟩,_⟩:=hnew
 have hx':Heap.ExtBut P s.heap h':=fun b o hb' e=>hx b o hb' (Heap.get?_push_of_some _ e)
 refine wpAny_bind (wpAny_builtinsFor ((hg.push _).extBut hx hgP) hbm hne0 (hx' _ _ hneP hbo) hcls hdict hdata ?_)
 refine wpAny_bind (wpAny_nsGet ((hg.push _).extBut hx hgP) ?_)
 rw[hdoc]
 exact wpAny_bind (wpAny_pure (wpAny_newObj_type (h c' _ h' tk hx' hrec ⟨o',n1,n2⟩ htb.2) (by size_fits)))
end
private theorem St.nest{A:Around}{E:Value→Shared→Prop}{s₀ s:Shared}{X₀ X:Addr→Prop}{env:Env}{name:Str}{params:Arguments}{body:List Stmt}{scope:Scope}{c P:Addr}{q:Tab}{Q:Flow→Shared→Prop}{q0:Str×Addr}{cl:List (Str×Addr)}(x:St W s₀ X₀ env ρ X s)(N:Nest W c P q)(hcode:env.code=.ref c)(hqual:qualnameIn env name name=q.qual)
    (hline:q.line=pos.line) (hcol:q.col=pos.col) (hfree:∀y∈scope.names,y.2=.free→∃c,env.cells.lookup y.1=some c) (hclos:xG env.cells scope.names []=q0::cl) (hl:env.kindOf name=some .cell) (hd0:params.defaults=[]) (hk0:params.kw_defaults=[]) (ha:annTrees params none env=[]) (hdoc:docOf body=none)
    (hQ:∀s' F o doc cv ctv,s'.heap.get? F=some o→o.data=.func (fnX name q.qual params body scope (q0::cl) .none .none doc ((W.mg "__name__").getD .none) none cv ctv)→s'.heap.CodeRec cv q.qual→(∃cc oc,cv=.ref cc∧s'.heap.get? cc=some oc∧oc.cls=.type "code")→St W s₀ X₀ env (upd ρ name .opq) X s'→Grow X s X s' →
      (∃ci,env.cells.lookup name=some ci∧s'.heap.IsCell ci (some (.ref F)))→s.heap.get? F=none→Q .next s') :
    wpAny (model prog w) A (exec (.FunctionDef name params body [] none [] scope none name pos) env) Q E s:=by
  refine nestDef_K hd0 hk0 ha ?_
  rw[hqual]
  obtain⟨ps,hP,hps⟩:=N.ok _ x.inv
  rw[N.hP] at hP
  have hcl:closureFor scope env=pure (q0::cl):=by rw[zCa hfree,hclos]
  have fin:∀(h':Heap) (tk:Tok) (doc cv ctv:Value),(∀b o,b≠P→s.heap.get? b=some o→h'.get? b=some o)→h'.CodeRec cv q.qual→(∃cc oc,cv=.ref cc∧h'.get? cc=some oc∧oc.cls=.type "code")→zEi h' q →
      wpAny (model prog w) A (storeName env name (.ref h'.objs.size)) (fun _ s''=>Q .next s'') E
        {s with heap:=h'.push {cls:=.type "function",data:=.func (fnX name q.qual params body scope (q0::cl) .none .none doc ((W.mg "__name__").getD .none) none cv ctv)},toks:=tk}:=by
    intro h' tk doc cv ctv kx hrec hcc0 htab
    have kx':∀b o,b≠P→s.heap.get? b=some o→(h'.push {cls:=.type "function",data:=.func (fnX name q.qual params body scope (q0::cl) .none .none doc ((W.mg "__name__").getD .none) none cv ctv)}).get? b=some o:=fun b o hb e=>Heap.get?_push_of_some _ (kx b o hb e)
    have inv':=N.inv _ _ x.inv kx' (htab.keep fun b o e _=>Heap.get?_push_of_some _ e)
    have x1:St W s₀ X₀ env ρ X _:=x.step (s':={s with heap:=h'.push {cls:=.type "function",data:=.func (fnX name q.qual params body scope (q0::cl) .none .none doc ((W.mg "__name__").getD .none) none cv ctv)},toks:=tk}) ⟨_,_,rfl,fun b o hb e=>kx' b o (fun e'=>hb (e'▸N.ts)) e,inv'⟩
    have g1:Grow X s X {s with heap:=h'.push {cls:=.type "function",data:=.func (fnX name q.qual params body scope (q0::cl) .none .none doc ((W.mg "__name__").getD .none) none cv ctv)},toks:=tk}:=fun b o hb e=>⟨kx' b o (fun e'=>hb (x.ts b (e'▸N.ts))) e,hb⟩
    obtain⟨ci,u,h1,h2,h3,h4⟩:=x1.ce name hl
    have hF:(h'.push {cls:=.type "function",data:=.func (fnX name q.qual params body scope (q0::cl) .none .none doc ((W.mg "__name__").getD .none) none cv ctv)}).get? h'.objs.size=some {cls:=.type "function",data:=.func (fnX name q.qual params body scope (q0::cl) .none .none doc ((W.mg "__name__").getD .none) none cv ctv)}:=Heap.get?_push_size _ rfl
    have hFci:h'.objs.size≠ci:=fun e=>by
      obtain⟨o,ho,hd⟩:=h2
      rw[←e] at ho
      have ho':(h'.push {cls:=.type "function",data:=.func (fnX name q.qual params body scope (q0::cl) .none .none doc ((W.mg "__name__").getD .none) none cv ctv)}).get? h'.objs.size=some o:=ho
      rw[hF] at ho';cases ho';cases hd
    have hF0:s.heap.get? h'.objs.size=none:=by
      cases e:s.heap.get? h'.objs.size with
      | none=>rfl
      | some o =>
        exfalso
        by_cases hb:h'.objs.size=P
        · obtain⟨ps',hp',_⟩:=htab
          rw[N.hP,←hb,xH] at hp';cases hp'
        · have:=kx _ _ hb e
          rw[xH] at this;cases this
    refine wpAny_storeName_cell x1.fk hl h1 h2 fun h'' hc' hs'=>?_
    refine hQ _ h'.objs.size _ doc cv ctv ((hs'.2 _ hFci).trans hF) rfl ?_ ?_ (x1.storedC hl h1 hc' hs' (sl:=.opq) trivial fun ds e=>by cases e) (fun b o hb e=>⟨(hs'.2 b fun e'=>hb (e'▸h4)).trans (g1 b o hb e).1,hb⟩) ⟨ci,h1,hc'⟩ hF0
    rotate_left
    · obtain⟨cc,oc,r1,r2,r3⟩:=hcc0
      refine⟨cc,oc,r1,?_,r3⟩
      obtain⟨cc',oc',vs,t,r1',r2',r3',r4'⟩:=hrec
      rw[r1] at r1';cases r1'
      rw[r2] at r2';cases r2'
      have hcc:cc≠ci:=fun e=>by
        obtain⟨o,ho,hd⟩:=h2
        have ho':(h'.push {cls:=.type "function",data:=.func (fnX name q.qual params body scope (q0::cl) .none .none doc ((W.mg "__name__").getD .none) none cv ctv)}).get? ci=some o:=ho
        rw[←e,Heap.get?_push_of_some _ r2] at ho';cases ho';rw[r3'] at hd;cases hd
      exact(hs'.2 _ hcc).trans (Heap.get?_push_of_some _ r2)
    obtain⟨cc,oc,vs,t,r1,r2,r3,r4⟩:=hrec
    have hcc:cc≠ci:=fun e=>by
      obtain⟨o,ho,hd⟩:=h2
      have ho':(h'.push {cls:=.type "function",data:=.func (fnX name q.qual params body scope (q0::cl) .none .none doc ((W.mg "__name__").getD .none) none cv ctv)}).get? ci=some o:=ho
      rw[←e,Heap.get?_push_of_some _ r2] at ho';cases ho';rw[r3] at hd;cases hd
    exact⟨cc,oc,vs,t,r1,(hs'.2 _ hcc).trans (Heap.get?_push_of_some _ r2),r3,r4⟩
  rcases hps with rfl|⟨c',o',vs,t,rfl,hc',hcls,hdat,hv1⟩
  · refine mkFun hcl x.gl (W.inv_ns _ x.inv) hcode (N.hd _ x.inv) hP trivial rfl N.gP (N.bu _ x.inv) hdoc fun c' ctv h' tk hx hrec hcls hP'=>?_
    obtain⟨o,ho,hcl'⟩:=hcls
    refine fin h' tk .none (.ref c') ctv hx hrec ⟨c',o,rfl,ho,hcl'⟩ ?_
    obtain⟨cc,oc,vs,t,r1,r2,r3,r4⟩:=hrec
    cases r1
    rw[ho] at r2;cases r2
    exact⟨_,N.hP▸hP',.inr ⟨c',o,vs,t,by rw[hline,hcol];rfl,ho,hcl',r3,r4⟩⟩
  · refine makeFunction_hit (cv:=.ref c') hcl x.gl (W.inv_ns _ x.inv) hcode (N.hd _ x.inv) hP (by trivial) ?_ (N.bu _ x.inv) fun ctv doc h' tk kx _=>?_
    · rw[hline,hcol];exact codeAmong_snoc (c:=.ref c') [] trivial rfl
    · refine fin h' tk doc (.ref c') ctv (fun b o _ e=>kx b o e) ⟨c',o',vs,t,rfl,kx _ _ hc',hdat,hv1⟩ ⟨c',o',rfl,kx _ _ hc',hcls⟩ ?_
      exact⟨_,kx _ _ (N.hP▸hP),.inr ⟨c',o',vs,t,rfl,kx _ _ hc',hcls,hdat,hv1⟩⟩
noncomputable def zLs(W:Wd)(f:Str)(st inn:Stmt)(qual:Str):Prop :=
 ∃a c P q,W.mg f=some (.ref a)∧DefN W a (sName st) (sArgs st) (sBody st) (sScope st) c∧Nest W c P q∧q.qual=qual∧q.line=(sPos inn).line∧q.col=(sPos inn).col
end Wk
namespace Wk
variable{prog:Program}{w:World}{W:Wd}{k:Nat}{K:List (Str×NameKind)}{ρ ρ':Rho}{pos p apos:Pos}
private theorem St.storeOwnC{A:Around}{E:Value→Shared→Prop}{s₀ s s':Shared}{X₀ X:Addr→Prop}{env:Env}{y:Str}{a:Addr}{vs:Array Value}{ds:List PyData}{Q:Unit→Shared→Prop}(x:St W s₀ X₀ env ρ X s)(e:W.Ext s s')
  (hl:env.kindOf y=some .cell) (ha:s.heap.get? a=none) (hp:s'.heap.PlainList a vs) (hr:RdAll (fun b=>X b∨b=a) s'.heap vs.toList ds)
  (h:∀s'',St W s₀ X₀ env (upd ρ y (.own ds)) (fun b=>X b∨b=a) s''→Grow X s (fun b=>X b∨b=a) s''→Q () s''):wpAny (model prog w) A (storeName env y (.ref a)) Q E s':=by
 have x':=x.enlarge e ha (let ⟨n,hn⟩:=hp;⟨_,hn⟩)
 obtain⟨m,hn,hv,_⟩:=x'.vals
 obtain⟨c0,u0,i1,i2,i3,i4⟩:=x'.ce y hl
 refine wpAny_storeName_cell x.fk hl i1 i2 (fun h' hn' hs=>h _ (x'.storedC hl i1 hn' hs (sl:=.own ds) ⟨a,vs,rfl,x.fresh0 ha,.inr rfl,fun h0=>?_,hp,hr⟩ fun es _ z fs hz hzy m' hm' hh=>?_) fun b o hb ho=>?_)
 ·exact x.nX ha (x.x0 a h0)
 ·-- no other name holds the new place: in s it was free
  obtain⟨m₀,hn₀,hv₀,_⟩:=x.vals
  obtain⟨u,h1,h2⟩:=hv₀ z _ hz
  obtain⟨b,us,rfl,hb0,hb1,hb2,⟨n,hb3⟩,_⟩:=h2
  have hh':Holds env m' s'.heap z (.ref b):=by
   rcases h1 with⟨h1,h3⟩|⟨h1,c,h3,h4⟩
   ·left
    refine⟨h1,?_⟩
    have hnn:s'.heap.Ns env.locals m₀:=hn₀.at' fun o ho=>e.get (x.nts x.lo) ho
    obtain⟨o,es',ep,q1,q2,_,q3⟩:=hnn
    obtain⟨o',es'',ep',q1',q2',_,q3'⟩:=hm'
    rw[q1] at q1';cases q1';rw[q2] at q2';cases q2'
    rw[←q3',q3];exact h3
   ·obtain⟨c',v',r1,⟨o,r2,r2'⟩,r3,_⟩:=x.ce z h1
    rw[h3] at r1;cases r1
    obtain⟨o',t1,t2⟩:=h4
    exact .inr ⟨h1,c,h3,o',e.get (x.nts r3) t1,t2⟩
  have hab:b=a:=by
   rcases hh' with⟨h1,h3⟩|⟨h1,c,h3,⟨o1,h4,h4'⟩⟩ <;> rcases hh with⟨g1,g3⟩|⟨g1,c',g3,⟨o2,g4,g4'⟩⟩
   ·rw[h3] at g3;cases g3;rfl
   ·rw[h1] at g1;cases g1
   ·rw[h1] at g1;cases g1
   ·rw[h3] at g3;cases g3;rw[h4] at g4;cases g4;rw[h4'] at g4';cases g4';rfl
  rw[hab,ha] at hb3;cases hb3
 ·refine⟨(hs.2 b fun e'=>i4.elim (fun h=>hb (e'▸h)) fun h=>by rw[←e'] at h;rw[h,ha] at ho;cases ho).trans (e.get (fun h=>hb (x.ts b h)) ho),fun hh=>hh.elim hb fun hh=>by rw[hh,ha] at ho;cases ho⟩
private theorem Ex.ownC{y:Str}{value:PySem.Expr}{ds:List PyData}(h:EvN prog w W k K ρ value ds)(hl:K.lookup y=some .cell)(hs:∀env,swapsWith value (some (.Name y p)) pos.line env=pure false:=by intro _;rfl) :
  Ex prog w W k K ρ (.Assign [.Name y p] value pos) (.next (upd ρ y (.own ds))):=.mk fun A s₀ X₀ env X s E R hk x =>
 wpAny_Assign_Name (wpAny_mono (h.run A s₀ X₀ env X s E R hk x) (fun v s₁ ⟨a,vs,hv,ha,hp,hr,e1⟩=>by
  subst hv
  exact x.storeOwnC e1 (by rw[←hk] at hl;exact hl) ha hp hr fun s₂ x₂ g=>⟨rfl,_,x₂,g⟩) fun _ _ h=>h) (hs env)
end Wk
end
section
open PySem PySem.W PyProof.Rows Mine Wk
set_option maxRecDepth 100000
set_option maxHeartbeats 400000
set_option linter.unusedVariables false
namespace Wk
noncomputable def qW:Stmt:=stm 52
noncomputable def zFj:List (Str×NameKind):=[(("x":Str),NameKind.local),(("NT_OFFSET":Str),NameKind.globalImplicit)]
private theorem zBi:(sScope qW).names=zFj:=by kernel_rfl
noncomputable def vM:Stmt:=stm 53
noncomputable def zAh:List (Str×NameKind):=[(("x":Str),NameKind.local),(("NT_OFFSET":Str),NameKind.globalImplicit)]
private theorem jB:(sScope vM).names=zAh:=by kernel_rfl
noncomputable def zH4:Stmt:=stm 54
noncomputable def zQ3:List (Str×NameKind):=[(("x":Str),NameKind.local),(("ENDMARKER":Str),NameKind.globalImplicit)]
private theorem zIz:(sScope zH4).names=zQ3:=by kernel_rfl
noncomputable def wV:Stmt:=stm 57
noncomputable def yV:List (Str×NameKind):=[(("a":Str),NameKind.local),(("b":Str),NameKind.local),(("n":Str),NameKind.local),(("pad":Str),NameKind.local),(("half_n":Str),NameKind.local),(("mask":Str),NameKind.local),(("b1":Str),NameKind.local),(("b2":Str),NameKind.local),(("q1":Str),NameKind.local),(("r":Str),NameKind.local),(("q2":Str),NameKind.local),(("_DIV_LIMIT":Str),NameKind.globalImplicit),(("divmod":Str),NameKind.globalImplicit),(("_div3n2n":Str),NameKind.globalImplicit)]
private theorem QN:(sScope wV).names=yV:=by kernel_rfl
noncomputable def uJ:Stmt:=stm 58
noncomputable def zAb:List (Str×NameKind):=[(("a12":Str),NameKind.local),(("a3":Str),NameKind.local),(("b":Str),NameKind.local),(("b1":Str),NameKind.local),(("b2":Str),NameKind.local),(("n":Str),NameKind.local),(("q":Str),NameKind.local),(("r":Str),NameKind.local),(("_div2n1n":Str),NameKind.globalImplicit)]
private theorem zFl:(sScope uJ).names=zAb:=by kernel_rfl
noncomputable def vJ:Stmt:=stm 59
noncomputable def xM:List (Str×NameKind):=[(("a":Str),NameKind.local),(("n":Str),NameKind.cell),(("a_digits":Str),NameKind.cell),(("inner":Str),NameKind.cell),(("len":Str),NameKind.globalImplicit)]
private theorem uF:(sScope vJ).names=xM:=by kernel_rfl
noncomputable def zO:Stmt:=(sBody vJ).getD 1 default
noncomputable def xZ:List (Str×NameKind):=[(("x":Str),NameKind.local),(("L":Str),NameKind.local),(("R":Str),NameKind.local),(("mid":Str),NameKind.local),(("shift":Str),NameKind.local),(("upper":Str),NameKind.local),(("lower":Str),NameKind.local),(("a_digits":Str),NameKind.free),(("inner":Str),NameKind.free),(("n":Str),NameKind.free)]
private theorem xD:(sScope zO).names=xZ:=by kernel_rfl
noncomputable def vI:Stmt:=stm 60
noncomputable def xL:List (Str×NameKind):=[(("digits":Str),NameKind.cell),(("n":Str),NameKind.cell),(("inner":Str),NameKind.cell),(("len":Str),NameKind.globalImplicit)]
private theorem uB:(sScope vI).names=xL:=by kernel_rfl
noncomputable def zN:Stmt:=(sBody vI).getD 0 default
noncomputable def wA:List (Str×NameKind):=[(("L":Str),NameKind.local),(("R":Str),NameKind.local),(("mid":Str),NameKind.local),(("shift":Str),NameKind.local),(("digits":Str),NameKind.free),(("inner":Str),NameKind.free),(("n":Str),NameKind.free)]
private theorem xC:(sScope zN).names=wA:=by kernel_rfl
noncomputable def jM:Stmt:=stm 61
noncomputable def zE2:List (Str×NameKind):=[(("a":Str),NameKind.local),(("b":Str),NameKind.local),(("n":Str),NameKind.local),(("a_digits":Str),NameKind.local),(("r":Str),NameKind.local),(("q_digits":Str),NameKind.local),(("a_digit":Str),NameKind.local),(("q_digit":Str),NameKind.local),(("q":Str),NameKind.local),(("_int2digits":Str),NameKind.globalImplicit),(("reversed":Str),NameKind.globalImplicit),(("_div2n1n":Str),NameKind.globalImplicit),(("_digits2int":Str),NameKind.globalImplicit)]
private theorem zB5:(sScope jM).names=zE2:=by kernel_rfl
noncomputable def qN:Stmt:=stm 62
noncomputable def zEx:List (Str×NameKind):=[(("a":Str),NameKind.local),(("b":Str),NameKind.local),(("q":Str),NameKind.local),(("r":Str),NameKind.local),(("ZeroDivisionError":Str),NameKind.globalImplicit),(("int_divmod":Str),NameKind.globalImplicit),(("_divmod_pos":Str),NameKind.globalImplicit)]
private theorem xY:(sScope qN).names=zEx:=by kernel_rfl
noncomputable def QL:Stmt:=stm 67
noncomputable def zGk:List (Str×NameKind):=[(("data":Str),NameKind.local),(("_twin_re_1":Str),NameKind.globalImplicit),(("_twin_re_2":Str),NameKind.globalImplicit),(("CRLF":Str),NameKind.globalImplicit)]
private theorem zBv:(sScope QL).names=zGk:=by kernel_rfl
noncomputable def uU:Stmt:=stm 70
noncomputable def zDd:List (Str×NameKind):=[(("code":Str),NameKind.local),(("ord":Str),NameKind.globalImplicit),(("b1_set":Str),NameKind.globalImplicit)]
private theorem QV:(sScope uU).names=zDd:=by kernel_rfl
noncomputable def uA:Stmt:=stm 72
noncomputable def zC1:List (Str×NameKind):=[(("code":Str),NameKind.local),(("r":Str),NameKind.local),(("b3_exceptions":Str),NameKind.globalImplicit),(("ord":Str),NameKind.globalImplicit)]
private theorem jZ:(sScope uA).names=zC1:=by kernel_rfl
noncomputable def QM:Stmt:=stm 74
noncomputable def zGj:List (Str×NameKind):=[(("script":Str),NameKind.local),(("cells":Str),NameKind.local),(("k":Str),NameKind.local),(("range":Str),NameKind.globalImplicit),(("len":Str),NameKind.globalImplicit)]
private theorem zC3:(sScope QM).names=zGj:=by kernel_rfl
noncomputable def jI:Stmt:=stm 75
noncomputable def zE4:List (Str×NameKind):=[(("k":Str),NameKind.local),(("sign":Str),NameKind.local),(("chr":Str),NameKind.globalImplicit),(("in_table_b1":Str),NameKind.globalImplicit)]
private theorem zAw:(sScope jI).names=zE4:=by kernel_rfl
noncomputable def QH:Stmt:=stm 76
noncomputable def zGz:List (Str×NameKind):=[(("letter":Str),NameKind.local),(("k":Str),NameKind.local),(("chr":Str),NameKind.globalImplicit),(("ord":Str),NameKind.globalImplicit)]
private theorem zC4:(sScope QH).names=zGz:=by kernel_rfl
noncomputable def uV:Stmt:=stm 77
noncomputable def zD4:List (Str×NameKind):=[(("k":Str),NameKind.local),(("codes":Str),NameKind.local),(("chr":Str),NameKind.globalImplicit)]
private theorem QW:(sScope uV).names=zD4:=by kernel_rfl
noncomputable def zAy:Stmt:=stm 78
noncomputable def zJb:List (Str×NameKind):=[(("k":Str),NameKind.local),(("ends":Str),NameKind.local),(("typed":Str),NameKind.local),(("told":Str),NameKind.local),(("quotedata":Str),NameKind.globalImplicit)]
private theorem zD3:(sScope zAy).names=zJb:=by kernel_rfl
noncomputable def QC:Stmt:=stm 79
noncomputable def zG3:List (Str×NameKind):=[(("cell":Str),NameKind.local),(("low":Str),NameKind.local),(("high":Str),NameKind.local),(("sides":Str),NameKind.local),(("ISTERMINAL":Str),NameKind.globalImplicit),(("ISNONTERMINAL":Str),NameKind.globalImplicit),(("ISEOF":Str),NameKind.globalImplicit)]
private theorem zBx:(sScope QC).names=zG3:=by kernel_rfl
noncomputable def uH:Stmt:=stm 80
noncomputable def zBo:List (Str×NameKind):=[(("text":Str),NameKind.local)]
private theorem kO:(sScope uH).names=zBo:=by kernel_rfl
noncomputable def zAm:Stmt:=stm 81
noncomputable def zIu:List (Str×NameKind):=[(("text":Str),NameKind.local),(("row":Str),NameKind.local),(("place":Str),NameKind.local),(("size":Str),NameKind.local),(("len":Str),NameKind.globalImplicit),(("EXACT_TOKEN_TYPES":Str),NameKind.globalImplicit),(("ord":Str),NameKind.globalImplicit)]
private theorem zDq:(sScope zAm).names=zIu:=by kernel_rfl
noncomputable def zC7:Stmt:=stm 82
noncomputable def zJr:List (Str×NameKind):=[(("line":Str),NameKind.local),(("pieces":Str),NameKind.local),(("name":Str),NameKind.local),(("_law_read":Str),NameKind.globalImplicit)]
private theorem zFi:(sScope zC7).names=zJr:=by kernel_rfl
noncomputable def QI:Stmt:=stm 83
noncomputable def xU:List (Str×NameKind):=[(("cells":Str),NameKind.local),(("chosen":Str),NameKind.local),(("typed":Str),NameKind.local),(("told":Str),NameKind.local),(("k":Str),NameKind.local),(("j":Str),NameKind.local),(("size":Str),NameKind.local),(("x":Str),NameKind.local),(("range":Str),NameKind.globalImplicit),(("len":Str),NameKind.globalImplicit),(("_law_unseen":Str),NameKind.globalImplicit),(("_law_typed":Str),NameKind.globalImplicit)]
private theorem zBr:(sScope QI).names=xU:=by kernel_rfl
noncomputable def xS:Stmt:=stm 84
noncomputable def zS:List (Str×NameKind):=[(("rows":Str),NameKind.local),(("cells":Str),NameKind.local),(("entries":Str),NameKind.local),(("k":Str),NameKind.local),(("gap":Str),NameKind.local),(("near":Str),NameKind.local),(("sign":Str),NameKind.local),(("len":Str),NameKind.globalImplicit),(("ISTERMINAL":Str),NameKind.globalImplicit),(("ISNONTERMINAL":Str),NameKind.globalImplicit),(("chr":Str),NameKind.globalImplicit),(("_law_typed":Str),NameKind.globalImplicit)]
private theorem zBe:(sScope xS).names=zS:=by kernel_rfl
noncomputable def qB:Stmt:=stm 85
noncomputable def yB:List (Str×NameKind):=[(("rows":Str),NameKind.cell),(("cells":Str),NameKind.local),(("k":Str),NameKind.local),(("alone":Str),NameKind.local),(("solid":Str),NameKind.local),(("unit":Str),NameKind.local),(("far":Str),NameKind.local),(("back":Str),NameKind.local),(("part":Str),NameKind.local),(("left":Str),NameKind.local),(("odd":Str),NameKind.local),(("over":Str),NameKind.local),(("low":Str),NameKind.local),(("high":Str),NameKind.local),(("range":Str),NameKind.globalImplicit),(("len":Str),NameKind.globalImplicit),(("int_divmod":Str),NameKind.globalImplicit),(("divmod":Str),NameKind.globalImplicit),(("ISTERMINAL":Str),NameKind.globalImplicit)]
private theorem zD6:(sScope qB).names=yB:=by kernel_rfl
noncomputable def vR:Stmt:=stm 86
noncomputable def zAs:List (Str×NameKind):=[(("tally":Str),NameKind.local),(("grown":Str),NameKind.local),(("total":Str),NameKind.local),(("least":Str),NameKind.local),(("barred":Str),NameKind.local),(("part":Str),NameKind.local),(("range":Str),NameKind.globalImplicit)]
private theorem zC2:(sScope vR).names=zAs:=by kernel_rfl
noncomputable def wN:Stmt:=stm 87
noncomputable def yS:List (Str×NameKind):=[(("cells":Str),NameKind.local),(("width":Str),NameKind.local),(("size":Str),NameKind.local),(("unit":Str),NameKind.local),(("far":Str),NameKind.local),(("lower":Str),NameKind.local),(("rest":Str),NameKind.local),(("upper":Str),NameKind.local),(("whole":Str),NameKind.local),(("left":Str),NameKind.local),(("int_divmod":Str),NameKind.globalImplicit),(("_int2digits":Str),NameKind.globalImplicit)]
private theorem QU:(sScope wN).names=yS:=by kernel_rfl
noncomputable def zV:Stmt:=stm 88
noncomputable def vB:List (Str×NameKind):=[(("script":Str),NameKind.local),(("cells":Str),NameKind.cell),(("chosen":Str),NameKind.local),(("typed":Str),NameKind.local),(("told":Str),NameKind.local),(("strange":Str),NameKind.local),(("tail":Str),NameKind.local),(("end":Str),NameKind.local),(("page":Str),NameKind.local),(("rows":Str),NameKind.local),(("entries":Str),NameKind.local),(("left":Str),NameKind.local),(("k":Str),NameKind.local),(("pieces":Str),NameKind.local),(("turn":Str),NameKind.local),(("dots":Str),NameKind.local),(("name":Str),NameKind.local),(("least":Str),NameKind.local),(("_law_cells":Str),NameKind.globalImplicit),(("range":Str),NameKind.globalImplicit),(("_law_first":Str),NameKind.globalImplicit),(("_law_strange":Str),NameKind.globalImplicit),(("_law_prepared":Str),NameKind.globalImplicit),(("quotedata":Str),NameKind.globalImplicit),(("_law_ends":Str),NameKind.globalImplicit),(("sorted":Str),NameKind.globalImplicit),(("len":Str),NameKind.globalImplicit),(("_law_joined":Str),NameKind.globalImplicit),(("_law_read":Str),NameKind.globalImplicit),(("ISEOF":Str),NameKind.globalImplicit),(("ISNONTERMINAL":Str),NameKind.globalImplicit),(("_law_back":Str),NameKind.globalImplicit),(("_law_figures":Str),NameKind.globalImplicit),(("_law_tally":Str),NameKind.globalImplicit)]
private theorem zHc:(sScope zV).names=vB:=by kernel_rfl
structure Defs(W:Wd):Prop where
 d_ISTERMINAL:DefG W "ISTERMINAL" qW
 d_ISNONTERMINAL:DefG W "ISNONTERMINAL" vM
 d_ISEOF:DefG W "ISEOF" zH4
 d_div2n1n:DefG W "_div2n1n" wV
 d_div3n2n:DefG W "_div3n2n" uJ
 d_divmod_pos:DefG W "_divmod_pos" jM
 d_int_divmod:DefG W "int_divmod" qN
 d_quotedata:DefG W "quotedata" QL
 d_in_table_b1:DefG W "in_table_b1" uU
 d_map_table_b3:DefG W "map_table_b3" uA
 d_law_cells:DefG W "_law_cells" QM
 d_law_unseen:DefG W "_law_unseen" jI
 d_law_typed:DefG W "_law_typed" QH
 d_law_strange:DefG W "_law_strange" uV
 d_law_ends:DefG W "_law_ends" zAy
 d_law_sides:DefG W "_law_sides" QC
 d_law_prepared:DefG W "_law_prepared" uH
 d_law_read:DefG W "_law_read" zAm
 d_law_row:DefG W "_law_row" zC7
 d_law_first:DefG W "_law_first" QI
 d_law_joined:DefG W "_law_joined" xS
 d_law_back:DefG W "_law_back" qB
 d_law_tally:DefG W "_law_tally" vR
 d_law_figures:DefG W "_law_figures" wN
noncomputable def inB1(c:Int):Bool:=c==173||c==847||c==6150||c==6155||c==6156||c==6157||c==8203||c==8204||c==8205||c==8288||c==65279||(decide (65024≤c)&&decide (c<65040))
noncomputable def exL:List (Str×Int):=[(("!":Str),(54:Int)),(("!=":Str),(28:Int)),(("%":Str),(24:Int)),(("%=":Str),(40:Int)),(("&":Str),(19:Int)),(("&=":Str),(41:Int)),(("(":Str),(7:Int)),((")":Str),(8:Int)),(("*":Str),(16:Int)),(("**":Str),(35:Int)),(("**=":Str),(46:Int)),(("*=":Str),(38:Int)),(("+":Str),(14:Int)),(("+=":Str),(36:Int)),((",":Str),(12:Int)),(("-":Str),(15:Int)),(("-=":Str),(37:Int)),(("->":Str),(51:Int)),((".":Str),(23:Int)),(("...":Str),(52:Int)),(("/":Str),(17:Int)),(("//":Str),(47:Int)),(("//=":Str),(48:Int)),(("/=":Str),(39:Int)),((":":Str),(11:Int)),((":=":Str),(53:Int)),((";":Str),(13:Int)),(("<":Str),(20:Int)),(("<<":Str),(33:Int)),(("<<=":Str),(44:Int)),(("<=":Str),(29:Int)),(("=":Str),(22:Int)),(("==":Str),(27:Int)),((">":Str),(21:Int)),((">=":Str),(30:Int)),((">>":Str),(34:Int)),((">>=":Str),(45:Int)),(("@":Str),(49:Int)),(("@=":Str),(50:Int)),(("[":Str),(9:Int)),(("]":Str),(10:Int)),(("^":Str),(32:Int)),(("^=":Str),(43:Int)),(("{":Str),(25:Int)),(("|":Str),(18:Int)),(("|=":Str),(42:Int)),(("}":Str),(26:Int)),(("~":Str),(31:Int))]
noncomputable def QB:Stmt:=.FunctionDef "<lambda>" (sArgs zV) [] [] none [] (sScope zV) none "<lambda>" ⟨282,28,282,50⟩
structure Gl(prog:Program)(w:World)(W:Wd):Prop extends Defs W where
 n_i2d:zLs W "_int2digits" vJ zO "_int2digits.<locals>.inner"
 n_d2i:zLs W "_digits2int" vI zN "_digits2int.<locals>.inner"
 c_nt:ConG W "NT_OFFSET" (.int 256)
 c_end:ConG W "ENDMARKER" (.int 0)
 c_lim:ConG W "_DIV_LIMIT" (.int 4000)
 c_crlf:ConG W "CRLF" (.str "\r\n")
 p1:PatG W "_twin_re_1" zD7
 p2:PatG W "_twin_re_2" kR
 s_b1:SetG prog w W "b1_set" inB1
 m_b3:DicG W (intKind prog w) "b3_exceptions" (fun i=>(b3L.lookup i).map .str)
 m_ex:DicG W (PySem.strKind prog w) "EXACT_TOKEN_TYPES" (fun y=>(exL.lookup y).map .int)
 n_lam:zLs W "law" zV QB "law.<locals>.<lambda>"
 b_len:BuiG W "len" (.builtin "len")
 b_chr:BuiG W "chr" (.builtin "chr")
 b_ord:BuiG W "ord" (.builtin "ord")
 b_divmod:BuiG W "divmod" (.builtin "divmod")
 b_sorted:BuiG W "sorted" (.builtin "sorted")
 b_range:BuiG W "range" (.type "range")
 b_reversed:BuiG W "reversed" (.type "reversed")
end Wk
end
section
open PySem PySem.W PySem.Sre PyProof.Rows Mine Wk
open PySem.Builtin PySem.Builtin.Re
set_option maxRecDepth 100000
set_option maxHeartbeats 400000
set_option linter.unusedVariables false
namespace Wk
variable{prog:Program}{w:World}
private theorem ns_of{h:Heap}{a:Addr}{m:Str→Option Value}{o:Obj}{es:Array DictEntry}{ep:Nat}(hn:h.Ns a m)(ho:h.get? a=some o)(hd:o.data=.dict es ep)(f:Str):m f=nsFind es f:=by
 obtain⟨o',es',ep',h1,h2,_,h3⟩:=hn
 rw[ho] at h1;cases h1
 rw[hd] at h2;cases h2
 exact(h3 f).symm
noncomputable def zK3:Stmt→Bool
 | .FunctionDef ..=>true
 | _=>false
private theorem zL8{st:Stmt}(h:zK3 st=true)(md cd:Value):(fnO st (.type "function") 3 md cd).data=.func (Calls.docDef (sName st) (sArgs st) (sBody st) (sScope st) md cd .none):=by
 cases st <;> first | rfl | cases h
private theorem zU{W:Wd}{f:Str}{st:Stmt}{a c:Addr}{md:Value}{oc:Obj}{vs:Array Value}{t:Tok}(hk:(zK3 st && !(sScope st).isCoroutine && !(sScope st).isGenerator&&(match (sScope st).kind with | .function=>true | _=>false))=true)(hm:W.mg f=some (.ref a))(ha:∀h,W.Inv h→h.get? a=some (fnO st (.type "function") 3 md (.ref c)))(hc:∀h,W.Inv h→h.get? c=some oc)
  (hd:oc.data=.fields vs) (hv:vs[1]?=some (.str (sName st) t)):DefG W f st:=by
 simp only[Bool.and_eq_true,Bool.not_eq_true'] at hk
 obtain⟨⟨⟨h1,h2⟩,h3⟩,h4⟩:=hk
 refine⟨a,hm,⟨_,md,.ref c,.none,zL8 h1 md (.ref c),ha,fun h i=>⟨c,oc,vs,t,rfl,hc h i,hd,hv⟩⟩,h2,h3,?_⟩
 revert h4
 cases (sScope st).kind <;> first | (intro _;rfl) | (intro h;cases h)
section
variable{h₁:Heap}{mg mb:Str→Option Value}{tabs:List Tab}{hg:h₁.Ns mainGlobals mg}{hb:h₁.Ns builtinsNs mb}{hl:h₁.NoLimit}{ht:∀q∈tabs,∃o,h₁.get? q.P=some o∧o.cls=.none∧∃vs,o.data=.fields vs}
private theorem zDt{f:Str}{st inn:Stmt}{a c:Addr}{md:Value}{oc:Obj}{vs:Array Value}{t tf tg tt:Tok}{qual file:Str}{flags text:Int}{inF:Bool}{q:Tab}(hq:q∈tabs)(hap:∀q'∈tabs,q'.P=q.P→q'=q)
  (hk:(zK3 st && !(sScope st).isCoroutine && !(sScope st).isGenerator&&(match (sScope st).kind with | .function=>true | _=>false))=true) (hm:mg f=some (.ref a)) (ha:h₁.get? a=some (fnO st (.type "function") 3 md (.ref c))) (ha':∀q∈tabs,q.P≠a) (hc:h₁.get? c=some oc) (hc':∀q∈tabs,q.P≠c)
  (hcl:oc.cls=.type "code") (hd:oc.data=.fields vs) (hv:vs[1]?=some (.str (sName st) t)) (h11:vs[11]?=some (.ref q.P)) (h18:vs.getD 18 .none=.str file tf) (h7:vs.getD 7 .none=.int flags tg) (h9:vs.getD 9 .none=.bool inF) (h10:vs.getD 10 .none=.int text tt)
  (hbm:∃bm ob,mg "__builtins__"=some (.ref bm)∧bm≠builtinsNs∧h₁.get? bm=some ob∧ob.cls=.type "module"∧ob.dict=some builtinsNs∧ob.data=.plain)
  (hql:q.qual=qual) (hli:q.line=(sPos inn).line) (hco:q.col=(sPos inn).col):zLs (WdOf h₁ mg mb tabs hg hb hl ht) f st inn qual:=by
 simp only[Bool.and_eq_true,Bool.not_eq_true'] at hk
 obtain⟨⟨⟨h1,h2⟩,h3⟩,h4⟩:=hk
 have h4':(sScope st).kind=.function:=by
  revert h4
  cases (sScope st).kind <;> first | (intro _;rfl) | (intro h;cases h)
 have hP0:=ht q hq
 obtain⟨oP,eP,cP,vP,dP⟩:=hP0
 have hcc:∀h,(WdOf h₁ mg mb tabs hg hb hl ht).Inv h→h.get? c=some oc:=fun h i=>i.1 c oc hc' hc
 refine⟨a,c,q.P,q,hm,⟨⟨_,md,.none,zL8 h1 md (.ref c),fun h i=>i.1 a _ ha' ha,fun h i=>⟨c,oc,vs,t,rfl,hcc h i,hd,hv⟩⟩,h2,h3,h4'⟩,⟨rfl,⟨q,hq,rfl⟩,fun h i=>?_,fun h i=>i.2 q hq,fun h h' i k k2=>⟨fun b o hb' e=>k b o (fun e'=>hb' q hq e'.symm) (i.1 b o hb' e),fun q' hq'=>?_⟩,fun h i=>?_,fun e=>?_⟩,hql,hli,hco⟩
 ·have hg11:vs.getD 11 .none=.ref q.P:=by
   rw[Array.getD_eq_getD_getElem?,h11];rfl
  exact⟨oc,vs,file,tf,flags,tg,inF,text,tt,hcc h i,hcl,hd,h11,hg11,h18,h7,h9,h10,fun e=>hc' q hq e.symm⟩
 ·by_cases e:q'.P=q.P
  ·rw[hap q' hq' e];exact k2
  ·obtain⟨ps,e1,e2⟩:=i.2 q' hq'
   refine⟨ps,k _ _ e e1,?_⟩
   rcases e2 with e2|⟨c',o,us,t',e3,e4,e5,e6,e7⟩
   ·exact .inl e2
   ·refine .inr ⟨c',o,us,t',e3,k _ _ (fun e=>?_) e4,e5,e6,e7⟩
    obtain⟨ps2,r1,_⟩:=i.2 q hq
    rw[e,r1] at e4;cases e4;cases e5
 ·obtain⟨bm,ob,b1,b2,b3,b4,b5,b6⟩:=hbm
  have n1:∀q∈tabs,q.P≠bm:=fun q' hq' e=>by
   obtain⟨o,e1,_,us,d1⟩:=ht q' hq'
   rw[e,b3] at e1;cases e1;rw[b6] at d1;cases d1
  refine⟨bm,ob,b1,b2,fun e=>?_,fun e=>n1 q hq e.symm,i.1 bm ob n1 b3,b4,b5,b6⟩
  obtain⟨o,es,ep,e1,d1,_⟩:=hg
  rw[←e,b3] at e1;cases e1;rw[b6] at d1;cases d1
 ·obtain⟨o,es,ep,e1,d1,_⟩:=hg
  rw[e,eP] at e1;cases e1;rw[dP] at d1;cases d1
end
private theorem zD0{W:Wd}{f:Str}{i:Int}{t:Tok}(h:W.mg f=some (.int i t)):ConG W f (.int i):=⟨_,h,fun X h=>.int i t⟩
private theorem zN6{W:Wd}{f x:Str}{t:Tok}(h:W.mg f=some (.str x t)):ConG W f (.str x):=⟨_,h,fun X h=>.str x t⟩
private theorem zJz{W:Wd}{f:Str}{a tp:Addr}{code:Array Nat}{fs items:Array Value}{n:Nat}(hm:W.mg f=some (.ref a))(ha:∀h,W.Inv h→h.get? a=some {cls:=.type "re.Pattern",dict:=none,data:=.fields fs,slots:=#[]})(h2:fs.getD 2 .none=.int 0 0)(h6:fs.getD 6 .none=.int 0 0)(h5:fs.getD 5 .none=.ref tp)
  (ht:∀h,W.Inv h→h.get? tp=some {cls:=.type "tuple",dict:=none,data:=.seq items n,slots:=#[]}) (hc:(items.map reRawOf).map (·.toNat)=code):PatG W f code :=
 ⟨a,hm,fun h i=>⟨fs,tp,items,n,ha h i,h2,h6,h5,ht h i,hc⟩⟩
private theorem zQe{W:Wd}{f:Str}{a:Addr}{S:Int→Bool}{o:Obj}{l:List (Int×Tok)}{ep:Nat}{t:SetTable}(hm:W.mg f=some (.ref a))(ha:∀h,W.Inv h→h.get? a=some o)(hx:o.ExactSet)(hd:o.data=.set (l.map fun q=>(hashInt q.1,Value.int q.1 q.2)).toArray ep t)(hf:t.fits l.length=true)(hsz:l.length<scanBound)
  (hS:∀k,S k=true ↔ k∈l.map (·.1)):SetG prog w W f S:=by
 refine⟨a,l.length,hm,fun h i=>⟨o,_,ep,t,ha h i,hx,hd,?_,fun k=>?_,by simpa using hsz,by simpa using hf,by simp⟩⟩
 ·intro e he
  simp only[List.mem_map] at he
  obtain⟨q,_,rfl⟩:=he
  exact⟨⟨q.1,by simp[intKind,Value.isInt],rfl⟩,rfl⟩
 ·rw[hS k]
  constructor
  ·intro hk
   obtain⟨q,hq,rfl⟩:=List.mem_map.mp hk
   exact⟨(hashInt q.1,.int q.1 q.2),by rw[List.toList_toArray];exact List.mem_map_of_mem (f:=fun q:Int×Tok=>(hashInt q.1,Value.int q.1 q.2)) hq,by simp[intKind,Value.isInt]⟩
  ·rintro⟨e,he,hk⟩
   simp only[List.mem_map] at he
   obtain⟨q,hq,rfl⟩:=he
   have:k=q.1:=by simp[intKind,Value.isInt] at hk;exact hk.symm
   subst this
   exact List.mem_map_of_mem hq
private theorem zAc{Key:Type}(P:Key→Value→Bool)(es:List DictEntry)(k:Key):findBy P es.toArray k=(es.find? fun e=>P k e.key).map (·.val):=by
 unfold findBy;rw[List.find?_toArray]
inductive EntI:List (Int×Str)→List DictEntry→Prop
 | nil:EntI [] []
 | cons {q:Int×Str} {e:DictEntry} {l:List (Int×Str)} {es:List DictEntry}:(∃t u,e=⟨hashInt q.1,.int q.1 t,.str q.2 u⟩)→EntI l es→EntI (q::l) (e::es)
private theorem EntI.append{l l':List (Int×Str)}{es es':List DictEntry}(a:EntI l es)(b:EntI l' es'):EntI (l++l') (es++es'):=by
 induction a with
 | nil=>exact b
 | cons h _ ih=>exact .cons h ih
private theorem zOn:∀(t:Nat) (l:List (Int×Str)),EntI l (ent2 t l)
 | _,[]=>.nil
 | t,q::l=>.cons ⟨_,_,rfl⟩ (zOn (t+2) l)
private theorem zOo:∀(t:Nat) (l:List (Int×Str)),EntI l (ent3 t l)
 | _,[]=>.nil
 | t,q::l=>.cons ⟨_,_,rfl⟩ (zOo (t+3) l)
private theorem zM3(t:Nat)(l:List (Int×Str)):EntI l (ents t l):=by
 unfold ents;split
 ·exact zOn t l
 ·exact zOo t l
private theorem zHp:∀(cs:List (List (Int×Str))) (t:Nat),EntI cs.flatten (bigE t cs)
 | [],_=>.nil
 | c::cs,t=>by rw[List.flatten_cons];exact(zM3 t c).append (zHp cs _)
private theorem zA9:∀(n:Nat) (l:List (Int×Str)),l.length≤17*n→(zC n l).flatten=l
  | 0, l, h => by have : l = [] := List.eq_nil_of_length_eq_zero (by lia)
                  subst this;rfl
  | n + 1, l, h => by
    show(l.take 17::zC n (l.drop 17)).flatten=l
    rw[List.flatten_cons,zA9 n (l.drop 17) (by rw[List.length_drop];lia),List.take_append_drop]
private theorem EntI.keys{l:List (Int×Str)}{es:List DictEntry}(h:EntI l es):∀e∈es,∃k,Value.isInt k e.key=true∧e.hash=hashInt k:=by
  induction h with
  | nil=>intro e he;cases he
  | cons hq _ ih =>
    obtain⟨t,u,rfl⟩:=hq
    intro e he
    rcases List.mem_cons.mp he with rfl|he
    · exact⟨_,by simp[Value.isInt],rfl⟩
    · exact ih e he
private theorem EntI.find{l:List (Int×Str)}{es:List DictEntry}(h:EntI l es)(k:Int):(l.lookup k=none∧(es.find? fun e=>Value.isInt k e.key)=none) ∨ ∃x e u,l.lookup k=some x∧(es.find? fun e=>Value.isInt k e.key)=some e∧e.val=.str x u:=by
  induction h with
  | nil=>exact .inl ⟨rfl,rfl⟩
  | @cons q e l es hq _ ih =>
    obtain⟨t,u,rfl⟩:=hq
    rw[List.lookup_cons,List.find?_cons]
    by_cases hk:k=q.1
    · subst hk
      right
      exact⟨q.2,⟨hashInt q.1,.int q.1 t,.str q.2 u⟩,u,by simp,by simp[Value.isInt],rfl⟩
    · have h1:(k==q.1)=false:=by simpa using hk
      have h2:Value.isInt k (.int q.1 t)=false:=by simpa [Value.isInt] using fun h=>hk h.symm
      rw[h1,h2]
      exact ih
private theorem zO0{W:Wd}{f:Str}{a:Addr}{l:List (Int×Str)}{es:List DictEntry}{ep:Nat}(he:EntI l es)(hm:W.mg f=some (.ref a))(hs:(a==sysModules)=false)(ha:∀h,W.Inv h→h.get? a=some (zE es.toArray ep)):DicG W (intKind prog w) f (fun i=>(l.lookup i).map .str):=by
 refine⟨a,fun k=>findBy Value.isInt es.toArray k,hm,hs,fun h i=>⟨_,es.toArray,ep,ha h i,⟨rfl,rfl,rfl⟩,rfl,fun e h=>he.keys e (by simpa using h),fun k=>rfl⟩,fun k=>?_⟩
 dsimp only
 rw[zAc]
 rcases he.find k with⟨h1,h2⟩|⟨x,e,u,h1,h2,h3⟩
 ·left;rw[h1,h2];exact⟨rfl,rfl⟩
 ·right;rw[h1,h2];exact⟨.str x,.str x u,rfl,by simp[h3],fun X h=>.str x u⟩
noncomputable def entS(p:Params)(l:List ((Str×Tok)×(Int×Tok))):List DictEntry:=l.map fun q=>⟨PyData.keyHash p q.1.1,.str q.1.1 q.1.2,.int q.2.1 q.2.2⟩
private theorem zLl{W:Wd}{f:Str}{a:Addr}{l:List ((Str×Tok)×(Int×Tok))}{L:List (Str×Int)}{o:Obj}{ep:Nat}(hL:L=l.map fun q=>(q.1.1,q.2.1))(hm:W.mg f=some (.ref a))(hs:(a==sysModules)=false)(ha:∀h,W.Inv h→h.get? a=some o)(hx:o.ExactDict)(hd:o.data=.dict (entS w.params l).toArray ep)
    (hh:∀x:Str,PyData.keyHash w.params x=hashStr w x):DicG W (PySem.strKind prog w) f (fun y=>(L.lookup y).map .int):=by
  subst hL
  refine⟨a,fun k=>findBy Value.isStrOf (entS w.params l).toArray k,hm,hs,fun h i=>⟨_,_,ep,ha h i,hx,hd,fun e h=>?_,fun k=>rfl⟩,fun k=>?_⟩
  · have h':e∈entS w.params l:=by simpa using h
    unfold entS at h'
    obtain⟨q,_,rfl⟩:=List.mem_map.mp h'
    exact⟨q.1.1,by simp[PySem.strKind,Value.isStrOf],hh _⟩
  · dsimp only
    rw[zAc]
    clear hd
    induction l with
    | nil=>exact .inl ⟨rfl,rfl⟩
    | cons q l ih =>
      unfold entS
      rw[List.map_cons,List.map_cons,List.lookup_cons,List.find?_cons]
      by_cases hk:k=q.1.1
      · subst hk
        right
        exact⟨.int q.2.1,.int q.2.1 q.2.2,by simp,by simp[Value.isStrOf],fun X h=>.int _ _⟩
      · have h1:(k==q.1.1)=false:=by simpa using hk
        have h2:Value.isStrOf k (.str q.1.1 q.1.2)=false:=by simpa [Value.isStrOf] using fun h=>hk h.symm
        rw[h1]
        dsimp only
        rw[h2]
        exact ih
private theorem uX{W:Wd}{f:Str}{v:Value}(h1:W.mg f=none)(h2:W.mb f=some v):BuiG W f v:=⟨h1,h2⟩
end Wk
namespace Wk
noncomputable def uW:List Tab:=[⟨71,"_int2digits.<locals>.inner",(sPos zO).line,(sPos zO).col⟩,⟨78,"_digits2int.<locals>.inner",(sPos zN).line,(sPos zN).col⟩,⟨272,"law.<locals>.<lambda>",(sPos QB).line,(sPos QB).col⟩]
private theorem qF{a:Addr}(h:(71 != a&&78 != a&&272 != a)=true):∀q∈uW,q.P≠a:=by
 simp only[Bool.and_eq_true,bne_iff_ne] at h
 obtain⟨⟨h0,h1⟩,h2⟩:=h
 intro q hq
 unfold uW at hq
 simp only[List.mem_cons,List.not_mem_nil,or_false] at hq
 rcases hq with rfl|rfl|rfl
 ·exact h0
 ·exact h1
 ·exact h2
private theorem zAe:∀q∈uW,∀q'∈uW,q'.P=q.P→q'=q:=by
 unfold uW
 simp only[List.mem_cons,List.not_mem_nil,or_false]
 rintro q (rfl|rfl|rfl) q' (rfl|rfl|rfl) h <;> first|rfl|cases h
section
variable{w:World}{h₁:Heap}{mg mb:Str→Option Value}
private theorem tabs_ok(hK:InK Kf w h₁):∀q∈uW,∃o,h₁.get? q.P=some o∧o.cls=.none∧∃vs,o.data=.fields vs:=by
 intro q hq
 unfold uW at hq
 simp only[List.mem_cons,List.not_mem_nil,or_false] at hq
 rcases hq with rfl|rfl|rfl
 ·exact⟨_,hK 71 (o71 w.params) (by kernel_rfl),rfl,_,rfl⟩
 ·exact⟨_,hK 78 (o78 w.params) (by kernel_rfl),rfl,_,rfl⟩
 ·exact⟨_,hK 272 (o272 w.params) (by kernel_rfl),rfl,_,rfl⟩
noncomputable abbrev Wof(hK:InK Kf w h₁)(hg:h₁.Ns mainGlobals mg)(hb:h₁.Ns builtinsNs mb)(hl:h₁.NoLimit):Wd:=WdOf h₁ mg mb uW hg hb hl (tabs_ok hK)
noncomputable def gEs(p:Params):Array DictEntry:=match (zIa p).data with | .dict es _=>es | _=>#[]
private theorem mg_at(hK:InK Kf w h₁)(hg:h₁.Ns mainGlobals mg)(f:Str):mg f=nsFind (gEs w.params) f:=by
 exact ns_of (ep:=94) hg (hK 3 (zIa w.params) (by kernel_rfl)) (by kernel_rfl) f
private theorem zE9(p:Params):nsFind (gEs p) "ISTERMINAL"=some (vr 41):=by kernel_rfl
private theorem zAn(p:Params):nsFind (gEs p) "ISNONTERMINAL"=some (vr 48):=by kernel_rfl
private theorem zQ5(p:Params):nsFind (gEs p) "ISEOF"=some (vr 55):=by kernel_rfl
private theorem zJ8(p:Params):nsFind (gEs p) "_div2n1n"=some (vr 62):=by kernel_rfl
private theorem zJ7(p:Params):nsFind (gEs p) "_div3n2n"=some (vr 69):=by kernel_rfl
private theorem zDc(p:Params):nsFind (gEs p) "_int2digits"=some (vr 76):=by kernel_rfl
private theorem zE1(p:Params):nsFind (gEs p) "_digits2int"=some (vr 83):=by kernel_rfl
private theorem zD8(p:Params):nsFind (gEs p) "_divmod_pos"=some (vr 90):=by kernel_rfl
private theorem zEf(p:Params):nsFind (gEs p) "int_divmod"=some (vr 97):=by kernel_rfl
private theorem zG8(p:Params):nsFind (gEs p) "quotedata"=some (vr 114):=by kernel_rfl
private theorem zCy(p:Params):nsFind (gEs p) "in_table_b1"=some (vr 132):=by kernel_rfl
private theorem zC0(p:Params):nsFind (gEs p) "map_table_b3"=some (vr 178):=by kernel_rfl
private theorem zEr(p:Params):nsFind (gEs p) "_law_cells"=some (vr 185):=by kernel_rfl
private theorem zDy(p:Params):nsFind (gEs p) "_law_unseen"=some (vr 192):=by kernel_rfl
private theorem zE7(p:Params):nsFind (gEs p) "_law_typed"=some (vr 199):=by kernel_rfl
private theorem zBu(p:Params):nsFind (gEs p) "_law_strange"=some (vr 206):=by kernel_rfl
private theorem zFz(p:Params):nsFind (gEs p) "_law_ends"=some (vr 213):=by kernel_rfl
private theorem zFc(p:Params):nsFind (gEs p) "_law_sides"=some (vr 220):=by kernel_rfl
private theorem zBk(p:Params):nsFind (gEs p) "_law_prepared"=some (vr 225):=by kernel_rfl
private theorem zG1(p:Params):nsFind (gEs p) "_law_read"=some (vr 232):=by kernel_rfl
private theorem zIo(p:Params):nsFind (gEs p) "_law_row"=some (vr 237):=by kernel_rfl
private theorem zEa(p:Params):nsFind (gEs p) "_law_first"=some (vr 244):=by kernel_rfl
private theorem zDu(p:Params):nsFind (gEs p) "_law_joined"=some (vr 251):=by kernel_rfl
private theorem zGy(p:Params):nsFind (gEs p) "_law_back"=some (vr 256):=by kernel_rfl
private theorem zEt(p:Params):nsFind (gEs p) "_law_tally"=some (vr 263):=by kernel_rfl
private theorem zBy(p:Params):nsFind (gEs p) "_law_figures"=some (vr 270):=by kernel_rfl
private theorem g_law(p:Params):nsFind (gEs p) "law"=some (vr 275):=by kernel_rfl
private theorem zG2(p:Params):nsFind (gEs p) "NT_OFFSET"=some (vi 256 382):=by kernel_rfl
private theorem zFs(p:Params):nsFind (gEs p) "ENDMARKER"=some (vi 0 284):=by kernel_rfl
private theorem zF6(p:Params):nsFind (gEs p) "_DIV_LIMIT"=some (vi 4000 504):=by kernel_rfl
private theorem g_CRLF(p:Params):nsFind (gEs p) "CRLF"=some (vs "\x0d\n" 644):=by kernel_rfl
private theorem zE5(p:Params):nsFind (gEs p) "_twin_re_1"=some (vr 102):=by kernel_rfl
private theorem zEd(p:Params):nsFind (gEs p) "_twin_re_2"=some (vr 107):=by kernel_rfl
private theorem zMn(p:Params):nsFind (gEs p) "b1_set"=some (vr 122):=by kernel_rfl
private theorem zBc(p:Params):nsFind (gEs p) "b3_exceptions"=some (vr 133):=by kernel_rfl
private theorem qI(p:Params):nsFind (gEs p) "EXACT_TOKEN_TYPES"=some (vr 32):=by kernel_rfl
private theorem ng_len(p:Params):nsFind (gEs p) "len"=none:=by kernel_rfl
private theorem bb_len:bootBuiltins "len"=some (.builtin "len"):=by kernel_rfl
private theorem ng_chr(p:Params):nsFind (gEs p) "chr"=none:=by kernel_rfl
private theorem bb_chr:bootBuiltins "chr"=some (.builtin "chr"):=by kernel_rfl
private theorem ng_ord(p:Params):nsFind (gEs p) "ord"=none:=by kernel_rfl
private theorem bb_ord:bootBuiltins "ord"=some (.builtin "ord"):=by kernel_rfl
private theorem zKk(p:Params):nsFind (gEs p) "divmod"=none:=by kernel_rfl
private theorem zLb:bootBuiltins "divmod"=some (.builtin "divmod"):=by kernel_rfl
private theorem zLy(p:Params):nsFind (gEs p) "sorted"=none:=by kernel_rfl
private theorem zK0:bootBuiltins "sorted"=some (.builtin "sorted"):=by kernel_rfl
private theorem zMt(p:Params):nsFind (gEs p) "range"=none:=by kernel_rfl
private theorem zMv:bootBuiltins "range"=some (.type "range"):=by kernel_rfl
private theorem zGw(p:Params):nsFind (gEs p) "reversed"=none:=by kernel_rfl
private theorem zGi:bootBuiltins "reversed"=some (.type "reversed"):=by kernel_rfl
noncomputable def setL:List (Int×Tok):=[(65024,671),(65025,672),(65026,673),(65027,674),(65028,675),(65029,676),(6150,657),(65030,677),(65031,678),(65032,679),(65033,680),(6155,658),(6156,659),(6157,660),(8203,661),(8204,662),(8205,663),(65034,681),(65035,682),(65036,683),(65037,684),(65038,685),(65039,686),(173,655),(847,656),(8288,664),(65279,665)]
noncomputable def setC:List Int:=[173,847,6150,6155,6156,6157,8203,8204,8205,8288,65279]++(List.range 16).map fun (n:Nat)=>(65024+n:Int)
private theorem zNm:(setL.map (·.1)).Perm setC:=by decide +kernel
private theorem zPp(k:Int):inB1 k=true ↔ k∈setL.map (·.1):=by
 rw[zNm.mem_iff]
 have e:inB1 k=(([173,847,6150,6155,6156,6157,8203,8204,8205,8288,65279]:List Int).contains k||(decide (65024≤k)&&decide (k<65040))):=by
  unfold inB1;simp only[List.contains_cons,List.contains_nil,Bool.or_false,Bool.or_assoc]
 rw[e,Bool.or_eq_true,List.contains_iff_mem]
 unfold setC
 rw[List.mem_append,Bool.and_eq_true,decide_eq_true_eq,decide_eq_true_eq]
 refine or_congr Iff.rfl ⟨fun h=>List.mem_map.mpr ⟨(k-65024).toNat,List.mem_range.mpr (by omega),by omega⟩,fun h=>?_⟩
 obtain⟨n,h1,h2⟩:=List.mem_map.mp h
 have h3:=List.mem_range.mp h1
 omega
noncomputable def exE:List ((Str×Tok)×(Int×Tok)):=[((Str.ofString "!",(384:Tok)),((54:Int),(380:Tok))),((Str.ofString "!=",(386:Tok)),((28:Int),(328:Tok))),((Str.ofString "%",(388:Tok)),((24:Int),(320:Tok))),((Str.ofString "%=",(390:Tok)),((40:Int),(352:Tok))),((Str.ofString "&",(392:Tok)),((19:Int),(310:Tok))),((Str.ofString "&=",(394:Tok)),((41:Int),(354:Tok))),((Str.ofString "(",(396:Tok)),((7:Int),(286:Tok))),((Str.ofString ")",(398:Tok)),((8:Int),(288:Tok))),((Str.ofString "*",(400:Tok)),((16:Int),(304:Tok))),((Str.ofString "**",(402:Tok)),((35:Int),(342:Tok))),((Str.ofString "**=",(404:Tok)),((46:Int),(364:Tok))),((Str.ofString "*=",(406:Tok)),((38:Int),(348:Tok))),((Str.ofString "+",(408:Tok)),((14:Int),(300:Tok))),((Str.ofString "+=",(410:Tok)),((36:Int),(344:Tok))),((Str.ofString ",",(412:Tok)),((12:Int),(296:Tok))),((Str.ofString "-",(414:Tok)),((15:Int),(302:Tok))),((Str.ofString "-=",(416:Tok)),((37:Int),(346:Tok))),((Str.ofString "->",(418:Tok)),((51:Int),(374:Tok))),((Str.ofString ".",(420:Tok)),((23:Int),(318:Tok))),((Str.ofString "...",(422:Tok)),((52:Int),(376:Tok))),((Str.ofString "/",(424:Tok)),((17:Int),(306:Tok))),((Str.ofString "//",(426:Tok)),((47:Int),(366:Tok))),((Str.ofString "//=",(428:Tok)),((48:Int),(368:Tok))),((Str.ofString "/=",(430:Tok)),((39:Int),(350:Tok))),((Str.ofString ":",(432:Tok)),((11:Int),(294:Tok))),((Str.ofString ":=",(434:Tok)),((53:Int),(378:Tok))),((Str.ofString ";",(436:Tok)),((13:Int),(298:Tok))),((Str.ofString "<",(438:Tok)),((20:Int),(312:Tok))),((Str.ofString "<<",(440:Tok)),((33:Int),(338:Tok))),((Str.ofString "<<=",(442:Tok)),((44:Int),(360:Tok))),((Str.ofString "<=",(444:Tok)),((29:Int),(330:Tok))),((Str.ofString "=",(446:Tok)),((22:Int),(316:Tok))),((Str.ofString "==",(448:Tok)),((27:Int),(326:Tok))),((Str.ofString ">",(450:Tok)),((21:Int),(314:Tok))),((Str.ofString ">=",(452:Tok)),((30:Int),(332:Tok))),((Str.ofString ">>",(453:Tok)),((34:Int),(340:Tok))),((Str.ofString ">>=",(454:Tok)),((45:Int),(362:Tok))),((Str.ofString "@",(455:Tok)),((49:Int),(370:Tok))),((Str.ofString "@=",(456:Tok)),((50:Int),(372:Tok))),((Str.ofString "[",(457:Tok)),((9:Int),(290:Tok))),((Str.ofString "]",(458:Tok)),((10:Int),(292:Tok))),((Str.ofString "^",(459:Tok)),((32:Int),(336:Tok))),((Str.ofString "^=",(460:Tok)),((43:Int),(358:Tok))),((Str.ofString "{",(461:Tok)),((25:Int),(322:Tok))),((Str.ofString "|",(462:Tok)),((18:Int),(308:Tok))),((Str.ofString "|=",(463:Tok)),((42:Int),(356:Tok))),((Str.ofString "}",(464:Tok)),((26:Int),(324:Tok))),((Str.ofString "~",(465:Tok)),((31:Int),(334:Tok)))]
private theorem exE_is:exL=exE.map fun q=>(q.1.1,q.2.1):=by kernel_rfl
private theorem gl_of{prog:Program}(hK:InK Kf w h₁)(hg:h₁.Ns mainGlobals mg)(hb:h₁.Ns builtinsNs mb)(hl:h₁.NoLimit)(hbi:∀x:Str,x ≠ "__name__"→mb x=bootBuiltins x)
    (hbm:∃bm ob,mg "__builtins__"=some (.ref bm)∧bm≠builtinsNs∧h₁.get? bm=some ob∧ob.cls=.type "module"∧ob.dict=some builtinsNs∧ob.data=.plain):Gl prog w (Wof hK hg hb hl):=by
  have A:∀a o,(71 != a&&78 != a&&272 != a)=true→(Kf w.params).lookup a=some o→∀h,(Wof hK hg hb hl).Inv h→h.get? a=some o:=fun a o n k h i=>i.1 a o (qF n) (hK a o k)
  have M:=mg_at hK hg
  exact {
  d_ISTERMINAL:=zU (a:=41) (c:=40) (md:=vs "cpy313.token" 282) (oc:=o40 w.params) (by decide +kernel) ((M _).trans (zE9 _)) (A 41 (o41 w.params) rfl (by kernel_rfl)) (A 40 (o40 w.params) rfl (by kernel_rfl)) rfl rfl
  d_ISNONTERMINAL:=zU (a:=48) (c:=47) (md:=vs "cpy313.token" 282) (oc:=o47 w.params) (by decide +kernel) ((M _).trans (zAn _)) (A 48 (o48 w.params) rfl (by kernel_rfl)) (A 47 (o47 w.params) rfl (by kernel_rfl)) rfl rfl
  d_ISEOF:=zU (a:=55) (c:=54) (md:=vs "cpy313.token" 282) (oc:=o54 w.params) (by decide +kernel) ((M _).trans (zQ5 _)) (A 55 (o55 w.params) rfl (by kernel_rfl)) (A 54 (o54 w.params) rfl (by kernel_rfl)) rfl rfl
  d_div2n1n:=zU (a:=62) (c:=61) (md:=vs "cpy313._pylong" 502) (oc:=o61 w.params) (by decide +kernel) ((M _).trans (zJ8 _)) (A 62 (o62 w.params) rfl (by kernel_rfl)) (A 61 (o61 w.params) rfl (by kernel_rfl)) rfl rfl
  d_div3n2n:=zU (a:=69) (c:=68) (md:=vs "cpy313._pylong" 502) (oc:=o68 w.params) (by decide +kernel) ((M _).trans (zJ7 _)) (A 69 (o69 w.params) rfl (by kernel_rfl)) (A 68 (o68 w.params) rfl (by kernel_rfl)) rfl rfl
  d_divmod_pos:=zU (a:=90) (c:=89) (md:=vs "cpy313._pylong" 502) (oc:=o89 w.params) (by decide +kernel) ((M _).trans (zD8 _)) (A 90 (o90 w.params) rfl (by kernel_rfl)) (A 89 (o89 w.params) rfl (by kernel_rfl)) rfl rfl
  d_int_divmod:=zU (a:=97) (c:=96) (md:=vs "cpy313._pylong" 502) (oc:=o96 w.params) (by decide +kernel) ((M _).trans (zEf _)) (A 97 (o97 w.params) rfl (by kernel_rfl)) (A 96 (o96 w.params) rfl (by kernel_rfl)) rfl rfl
  d_quotedata:=zU (a:=114) (c:=113) (md:=vs "cpy313.smtplib" 584) (oc:=o113 w.params) (by decide +kernel) ((M _).trans (zG8 _)) (A 114 (o114 w.params) rfl (by kernel_rfl)) (A 113 (o113 w.params) rfl (by kernel_rfl)) rfl rfl
  d_in_table_b1:=zU (a:=132) (c:=131) (md:=vs "cpy313.stringprep" 653) (oc:=o131 w.params) (by decide +kernel) ((M _).trans (zCy _)) (A 132 (o132 w.params) rfl (by kernel_rfl)) (A 131 (o131 w.params) rfl (by kernel_rfl)) rfl rfl
  d_map_table_b3:=zU (a:=178) (c:=177) (md:=vs "cpy313.stringprep" 653) (oc:=o177 w.params) (by decide +kernel) ((M _).trans (zC0 _)) (A 178 (o178 w.params) rfl (by kernel_rfl)) (A 177 (o177 w.params) rfl (by kernel_rfl)) rfl rfl
  d_law_cells:=zU (a:=185) (c:=184) (md:=vs "law_we0034_01" 2681) (oc:=o184 w.params) (by decide +kernel) ((M _).trans (zEr _)) (A 185 (o185 w.params) rfl (by kernel_rfl)) (A 184 (o184 w.params) rfl (by kernel_rfl)) rfl rfl
  d_law_unseen:=zU (a:=192) (c:=191) (md:=vs "law_we0034_01" 2681) (oc:=o191 w.params) (by decide +kernel) ((M _).trans (zDy _)) (A 192 (o192 w.params) rfl (by kernel_rfl)) (A 191 (o191 w.params) rfl (by kernel_rfl)) rfl rfl
  d_law_typed:=zU (a:=199) (c:=198) (md:=vs "law_we0034_01" 2681) (oc:=o198 w.params) (by decide +kernel) ((M _).trans (zE7 _)) (A 199 (o199 w.params) rfl (by kernel_rfl)) (A 198 (o198 w.params) rfl (by kernel_rfl)) rfl rfl
  d_law_strange:=zU (a:=206) (c:=205) (md:=vs "law_we0034_01" 2681) (oc:=o205 w.params) (by decide +kernel) ((M _).trans (zBu _)) (A 206 (o206 w.params) rfl (by kernel_rfl)) (A 205 (o205 w.params) rfl (by kernel_rfl)) rfl rfl
  d_law_ends:=zU (a:=213) (c:=212) (md:=vs "law_we0034_01" 2681) (oc:=o212 w.params) (by decide +kernel) ((M _).trans (zFz _)) (A 213 (o213 w.params) rfl (by kernel_rfl)) (A 212 (o212 w.params) rfl (by kernel_rfl)) rfl rfl
  d_law_sides:=zU (a:=220) (c:=219) (md:=vs "law_we0034_01" 2681) (oc:=o219 w.params) (by decide +kernel) ((M _).trans (zFc _)) (A 220 (o220 w.params) rfl (by kernel_rfl)) (A 219 (o219 w.params) rfl (by kernel_rfl)) rfl rfl
  d_law_prepared:=zU (a:=225) (c:=224) (md:=vs "law_we0034_01" 2681) (oc:=o224 w.params) (by decide +kernel) ((M _).trans (zBk _)) (A 225 (o225 w.params) rfl (by kernel_rfl)) (A 224 (o224 w.params) rfl (by kernel_rfl)) rfl rfl
  d_law_read:=zU (a:=232) (c:=231) (md:=vs "law_we0034_01" 2681) (oc:=o231 w.params) (by decide +kernel) ((M _).trans (zG1 _)) (A 232 (o232 w.params) rfl (by kernel_rfl)) (A 231 (o231 w.params) rfl (by kernel_rfl)) rfl rfl
  d_law_row:=zU (a:=237) (c:=236) (md:=vs "law_we0034_01" 2681) (oc:=o236 w.params) (by decide +kernel) ((M _).trans (zIo _)) (A 237 (o237 w.params) rfl (by kernel_rfl)) (A 236 (o236 w.params) rfl (by kernel_rfl)) rfl rfl
  d_law_first:=zU (a:=244) (c:=243) (md:=vs "law_we0034_01" 2681) (oc:=o243 w.params) (by decide +kernel) ((M _).trans (zEa _)) (A 244 (o244 w.params) rfl (by kernel_rfl)) (A 243 (o243 w.params) rfl (by kernel_rfl)) rfl rfl
  d_law_joined:=zU (a:=251) (c:=250) (md:=vs "law_we0034_01" 2681) (oc:=o250 w.params) (by decide +kernel) ((M _).trans (zDu _)) (A 251 (o251 w.params) rfl (by kernel_rfl)) (A 250 (o250 w.params) rfl (by kernel_rfl)) rfl rfl
  d_law_back:=zU (a:=256) (c:=255) (md:=vs "law_we0034_01" 2681) (oc:=o255 w.params) (by decide +kernel) ((M _).trans (zGy _)) (A 256 (o256 w.params) rfl (by kernel_rfl)) (A 255 (o255 w.params) rfl (by kernel_rfl)) rfl rfl
  d_law_tally:=zU (a:=263) (c:=262) (md:=vs "law_we0034_01" 2681) (oc:=o262 w.params) (by decide +kernel) ((M _).trans (zEt _)) (A 263 (o263 w.params) rfl (by kernel_rfl)) (A 262 (o262 w.params) rfl (by kernel_rfl)) rfl rfl
  d_law_figures:=zU (a:=270) (c:=269) (md:=vs "law_we0034_01" 2681) (oc:=o269 w.params) (by decide +kernel) ((M _).trans (zBy _)) (A 270 (o270 w.params) rfl (by kernel_rfl)) (A 269 (o269 w.params) rfl (by kernel_rfl)) rfl rfl
  n_i2d:=zDt (a:=76) (c:=75) (md:=vs "cpy313._pylong" 502) (oc:=o75 w.params) (List.mem_cons_self ..) (zAe _ (List.mem_cons_self ..)) (by decide +kernel) ((M _).trans (zDc _)) (hK 76 (o76 w.params) (by kernel_rfl)) (qF rfl) (hK 75 (o75 w.params) (by kernel_rfl)) (qF rfl) rfl rfl rfl rfl rfl rfl rfl rfl hbm rfl rfl rfl
  n_d2i:=zDt (a:=83) (c:=82) (md:=vs "cpy313._pylong" 502) (oc:=o82 w.params) (List.mem_cons_of_mem _ (List.mem_cons_self ..)) (zAe _ (List.mem_cons_of_mem _ (List.mem_cons_self ..))) (by decide +kernel) ((M _).trans (zE1 _)) (hK 83 (o83 w.params) (by kernel_rfl)) (qF rfl) (hK 82 (o82 w.params) (by kernel_rfl)) (qF rfl) rfl rfl rfl rfl rfl rfl rfl rfl hbm rfl rfl rfl
  n_lam:=zDt (a:=275) (c:=274) (md:=vs "law_we0034_01" 2681) (oc:=o274 w.params) (List.mem_cons_of_mem _ (List.mem_cons_of_mem _ (List.mem_cons_self ..))) (zAe _ (List.mem_cons_of_mem _ (List.mem_cons_of_mem _ (List.mem_cons_self ..)))) (by decide +kernel) ((M _).trans (g_law _)) (hK 275 (o275 w.params) (by kernel_rfl)) (qF rfl) (hK 274 (o274 w.params) (by kernel_rfl)) (qF rfl) rfl rfl rfl rfl rfl rfl rfl rfl hbm rfl rfl rfl
  c_nt:=zD0 ((M _).trans (zG2 _))
  c_end:=zD0 ((M _).trans (zFs _))
  c_lim:=zD0 ((M _).trans (zF6 _))
  c_crlf:=zN6 ((M _).trans (g_CRLF _))
  p1:=zJz (a:=102) (tp:=101) ((M _).trans (zE5 _)) (A 102 (o102 w.params) rfl (by kernel_rfl)) rfl rfl rfl (A 101 (o101 w.params) rfl (by kernel_rfl)) (by kernel_rfl)
  p2:=zJz (a:=107) (tp:=106) ((M _).trans (zEd _)) (A 107 (o107 w.params) rfl (by kernel_rfl)) rfl rfl rfl (A 106 (o106 w.params) rfl (by kernel_rfl)) (by kernel_rfl)
  s_b1:=zQe (a:=122) (o:=o122 w.params) (l:=setL) (ep:=29) (t:=(SetTable.mk 127 #[0,1,2,3,4,5,6,7,8,9,10,11,12,13,14,15,16,17,18,19,20,21,22,45,79,96,127] #[] 0 (Bool.not (Params.followText w.params "set-order")) 2 true)) ((M _).trans (zMn _)) (A 122 (o122 w.params) rfl (by kernel_rfl)) ⟨rfl,rfl,rfl⟩ (by kernel_rfl) (by kernel_rfl) (by decide) zPp
  m_b3:=zO0 (a:=133) (es:=bigE 722 (zC 39 b3L)) (by have:=zHp (zC 39 b3L) 722;rwa [zA9 39 b3L (by rw[b_len];decide)] at this) ((M _).trans (zBc _)) (by decide) (A 133 (o133 w.params) rfl (by kernel_rfl))
  m_ex:=zLl (a:=32) (o:=o32 w.params) (l:=exE) (ep:=48) exE_is ((M _).trans (qI _)) (by decide) (A 32 (o32 w.params) rfl (by kernel_rfl)) ⟨rfl,rfl,rfl⟩ (by kernel_rfl) (fun _=>rfl)
  b_len:=uX ((M _).trans (ng_len _)) ((hbi "len" (by decide)).trans bb_len)
  b_chr:=uX ((M _).trans (ng_chr _)) ((hbi "chr" (by decide)).trans bb_chr)
  b_ord:=uX ((M _).trans (ng_ord _)) ((hbi "ord" (by decide)).trans bb_ord)
  b_divmod:=uX ((M _).trans (zKk _)) ((hbi "divmod" (by decide)).trans zLb)
  b_sorted:=uX ((M _).trans (zLy _)) ((hbi "sorted" (by decide)).trans zK0)
  b_range:=uX ((M _).trans (zMt _)) ((hbi "range" (by decide)).trans zMv)
  b_reversed:=uX ((M _).trans (zGw _)) ((hbi "reversed" (by decide)).trans zGi)
 }
end
end Wk
end
section
open PySem PyProof.Rows
set_option maxHeartbeats 400000
set_option autoImplicit false
set_option linter.unusedVariables false
namespace Wk
open Builtin.Str
private theorem vL(x:Str)(w:Nat):∀(cuts:List Nat) (a:Nat),(StrLaws.partsFrom x w a cuts).length=cuts.length+1
 | [],a=>rfl
 | c::r,a=>by show(_::StrLaws.partsFrom x w (c+w) r).length=_;rw[List.length_cons,vL x w r];rfl
private theorem vU(x y:Str):(partsBetween x (occurrences x y 0 x.length (x.length+1)) y.length).length≤x.length+2:=by
 rw[StrLaws.partsBetween_eq,vL]
 have:=StrLaws.occ_length_le x y 0 x.length (x.length+1)
 lia
private theorem QF(x y:Str):(Txt.split x y).length≤x.length+2:=by
 unfold Txt.split
 split
 ·simp
 ·split
  ·simp
  ·exact vU x y
end Wk
end
section
open PySem PyProof.Rows
set_option maxHeartbeats 400000
set_option maxRecDepth 100000
set_option autoImplicit false
set_option linter.unusedVariables false
namespace Wk
variable{prog:Program}{w:World}{W:Wd}{k:Nat}{K:List (Str×NameKind)}{ρ ρ' ρc:Rho}{pos p apos npos spos tpos cpos:Pos}
inductive SlotsOk(s₀:Heap)(X₀ X:Addr→Prop)(h:Heap):List Value→List Slot→Prop where
 | nil:SlotsOk s₀ X₀ X h [] []
 | cons {v:Value} {vs:List Value} {sl:Slot} {sls:List Slot}:uD s₀ X₀ X h sl v→SlotsOk s₀ X₀ X h vs sls→SlotsOk s₀ X₀ X h (v::vs) (sl::sls)
private theorem SlotsOk.fram{s₀:Heap}{X₀ X:Addr→Prop}{h h':Heap}(k:Fram X X h h')(k':∀a vs,X a→s₀.get? a=none→h.PlainList a vs→h'.PlainList a vs):∀{vs:List Value} {sls:List Slot},SlotsOk s₀ X₀ X h vs sls→SlotsOk s₀ X₀ X h' vs sls:=fun x=>by
 induction x with
 | nil=>exact .nil
 | cons a _ ih=>exact .cons (a.fram k k') ih
private theorem SlotsOk.append{s₀:Heap}{X₀ X:Addr→Prop}{h:Heap}:∀{vs ws:List Value} {a b:List Slot},SlotsOk s₀ X₀ X h vs a→SlotsOk s₀ X₀ X h ws b→SlotsOk s₀ X₀ X h (vs++ws) (a++b):=fun x y=>by
 induction x with
 | nil=>exact y
 | cons a _ ih=>exact .cons a ih
private theorem SlotsOk.reverse{s₀:Heap}{X₀ X:Addr→Prop}{h:Heap}:∀{vs:List Value} {sls:List Slot},SlotsOk s₀ X₀ X h vs sls→SlotsOk s₀ X₀ X h vs.reverse sls.reverse:=fun x=>by
 induction x with
 | nil=>exact .nil
 | cons a _ ih=>rw[List.reverse_cons,List.reverse_cons];exact ih.append (.cons a .nil)
private theorem SlotsOk.length{s₀:Heap}{X₀ X:Addr→Prop}{h:Heap}:∀{vs:List Value} {sls:List Slot},SlotsOk s₀ X₀ X h vs sls→vs.length=sls.length:=fun x=>by
 induction x with
 | nil=>rfl
 | cons _ _ ih=>rw[List.length_cons,List.length_cons,ih]
private theorem SlotsOk.c{s₀:Heap}{X₀ X:Addr→Prop}{h:Heap}{vs:List Value}{sl:Slot}{sls:List Slot}(x:SlotsOk s₀ X₀ X h vs (sl::sls)):∃v r,vs=v::r∧uD s₀ X₀ X h sl v∧SlotsOk s₀ X₀ X h r sls:=by cases x with | cons a b=>exact⟨_,_,rfl,a,b⟩
private theorem SlotsOk.n{s₀:Heap}{X₀ X:Addr→Prop}{h:Heap}{vs:List Value}(x:SlotsOk s₀ X₀ X h vs []):vs=[]:=by cases x;rfl
private theorem St.putL{A:Around}{E:Value→Shared→Prop}{s₀ s:Shared}{X₀ X:Addr→Prop}{env:Env}{y:Str}{v:Value}{sl:Slot}{Q:Unit→Shared→Prop}(x:St W s₀ X₀ env ρ X s)(hl:env.kindOf y=some .local)(hsl:uD s₀.heap X₀ X s.heap sl v)
  (ho:∀ds,sl=.own ds→zB7 ρ) (h:∀s',St W s₀ X₀ env (upd ρ y sl) X s'→Grow X s X s'→(∀vs sls,SlotsOk s₀.heap X₀ X s.heap vs sls→SlotsOk s₀.heap X₀ X s'.heap vs sls)→Q () s'):wpAny (model prog w) A (bindName env y v) Q E s:=by
 obtain⟨m,hn,_⟩:=x.vals
 have hp:(env.scope.kind == .class||(env.scope.kind == .module&&env.locals != env.globals))=false:=by rw[x.fk];rfl
 refine bindName_ (wpAny_storeName_local hl hn (fun h' hn' hs=>h _ (x.stored hl hn hn' hs hsl fun ds e z es hz=>absurd hz (ho ds e z es)) (fun b o hb e=>⟨(hs.2 b fun e'=>hb (e'▸x.xl)).trans e,hb⟩) fun vs sls hv=>?_) hp)
 refine hv.fram (fun b o hb e _=>⟨(hs.2 b fun e'=>hb (e'▸x.xl)).trans e,hb⟩) fun a us _ _ hpl=>?_
 have:=wQ hpl hn
 obtain⟨n,hpl⟩:=hpl
 exact⟨n,(hs.2 a this).trans hpl⟩
structure StoO(prog:Program)(w:World)(W:Wd)(K:List (Str×NameKind))(ρ:Rho)(ns:List Str)(sls:List Slot)(ρ':Rho):Prop where
 run:∀A s₀ X₀ env X s vs E,env.scope.names=K→St W s₀ X₀ env ρ X s→SlotsOk s₀.heap X₀ X s.heap vs sls →
  wpAny (model prog w) A (assignInOrder (ns.map fun n=>bindName env n) vs) (fun _ s'=>St W s₀ X₀ env ρ' X s'∧Grow X s X s') E s
private theorem StoO.nil:StoO prog w W K ρ [] [] ρ:=.mk fun A s₀ X₀ env X s vs E hk x h=>by
 obtain rfl:=h.n;exact wpAny_pure ⟨x,.refl⟩
private theorem StoO.cons{y:Str}{ns:List Str}{sl:Slot}{sls:List Slot}(hl:K.lookup y=some .local)(ho:∀ds,sl=.own ds→zB7 ρ)(r:StoO prog w W K (upd ρ y sl) ns sls ρ'):StoO prog w W K ρ (y::ns) (sl::sls) ρ':=.mk fun A s₀ X₀ env X s vs E hk x h=>by
 obtain⟨v,vs,rfl,a,b⟩:=h.c
 show wpAny _ A (do holding _ (bindName env _ _);assignInOrder _ _) _ E s
 refine wpAny_bind (wpAny_holding (x.putL (by rw[←hk] at hl;exact hl) a ho fun s₁ x₁ g f=>?_))
 exact wpAny_mono (r.run A s₀ X₀ env X s₁ _ E hk x₁ (f _ _ b)) (fun _ s₂ ⟨x₂,g2⟩=>⟨x₂,g.trans g2⟩) fun _ _ h=>h
private theorem StoO.v{y:Str}{ns:List Str}{d:PyData}{sls:List Slot}(hl:K.lookup y=some .local)(h:StoO prog w W K (upd ρ y (.v d)) ns sls ρ'):StoO prog w W K ρ (y::ns) (.v d::sls) ρ':=.cons hl (fun _ e=>nomatch e) h
private theorem StoO.own{y:Str}{ns:List Str}{ds:List PyData}{sls:List Slot}(hl:K.lookup y=some .local)(ho:zB7 ρ)(h:StoO prog w W K (upd ρ y (.own ds)) ns sls ρ'):StoO prog w W K ρ (y::ns) (.own ds::sls) ρ':=.cons hl (fun _ _=>ho) h
structure EvsO(prog:Program)(w:World)(W:Wd)(k:Nat)(K:List (Str×NameKind))(ρ:Rho)(pos:Pos)(es:List PySem.Expr)(sls:List Slot):Prop where
 run:∀A s₀ X₀ env X s E,Room k A→env.scope.names=K→St W s₀ X₀ env ρ X s→wpAny (model prog w) A (spliced (backTo pos (starEach es env)))
  (fun vs s'=>∃X',St W s₀ X₀ env ρ X' s'∧W.Ext s s'∧Grow X s X' s'∧(∀b,X b→X' b)∧SlotsOk s₀.heap X₀ X' s'.heap vs sls) E s
private theorem EvsO.nil:EvsO prog w W k K ρ pos [] []:=.mk fun A s₀ X₀ env X s E r hK x₀=>args_nil ⟨X,x₀,.refl x₀.inv,.refl,fun _ h=>h,.nil⟩
private theorem EvsO.v{e:PySem.Expr}{es:List PySem.Expr}{d:PyData}{sls:List Slot}(h:Ev prog w W k K ρ e d)(hs:EvsO prog w W k K ρ pos es sls)
  (he:∀env,starEach (e::es) env=(false,eval e env)::starEach es env:=by intro _;rfl):EvsO prog w W k K ρ pos (e::es) (.v d::sls):=.mk fun A s₀ X₀ env X s E r hK x₀ =>
 args_cons (wpAny_mono (h.run A s₀ X₀ env X s _ r hK x₀) (fun v s₁ ⟨hv,e1⟩=>wpAny_mono (hs.run A s₀ X₀ env X s₁ _ r hK (x₀.step e1)) (fun vs s₂ ⟨X',x',e2,g,i,hvs⟩ =>
  ⟨X',x',e1.trans e2,(Grow.ext e1 x₀.ts).trans g,i,.cons (Rd.frame (fun b o hb ho _=>g b o hb ho) hv) hvs⟩) fun _ _ h=>h) fun _ _ h=>h) (he env)
private theorem EvsO.own{e:PySem.Expr}{es:List PySem.Expr}{ds:List PyData}{sls:List Slot}(h:EvN prog w W k K ρ e ds)(hs:EvsO prog w W k K ρ pos es sls)
  (he:∀env,starEach (e::es) env=(false,eval e env)::starEach es env:=by intro _;rfl):EvsO prog w W k K ρ pos (e::es) (.own ds::sls):=.mk fun A s₀ X₀ env X s E r hK x₀ =>
 args_cons (wpAny_mono (h.run A s₀ X₀ env X s _ r hK x₀) (fun v s₁ ⟨a,us,hv,h0,hp,hr,e1⟩=>by
  have x1:=x₀.enlarge e1 h0 (let ⟨n,hn⟩:=hp;⟨_,hn⟩)
  have g1:Grow X s (fun b=>X b∨b=a) s₁:=fun b o hb ho=>⟨e1.get (fun h=>hb (x₀.ts b h)) ho,fun h=>h.elim hb fun h=>by rw[h,h0] at ho;cases ho⟩
  refine wpAny_mono (hs.run A s₀ X₀ env _ s₁ _ r hK x1) (fun vs s₂ ⟨X',x',e2,g,i,hvs⟩=>?_) fun _ _ h=>h
  subst hv
  refine⟨X',x',e1.trans e2,g1.trans g,fun b hb=>i b (.inl hb),.cons ⟨a,us,rfl,x₀.fresh0 h0,i a (.inr rfl),fun h=>x₀.nX h0 (x₀.x0 a h),?_,hr.frame fun b o hb ho _=>g b o hb ho⟩ hvs⟩
  obtain⟨n,hp⟩:=hp
  exact⟨n,e2.get (x₀.nts (x₀.fresh0 h0)) hp⟩) fun _ _ h=>h) (he env)
private theorem Ex.swapO{elts es:List PySem.Expr}{n n':Nat}{sls:List Slot}{names:List Str}(hw:swappedStores [.Tuple elts n tpos] (.Tuple es n' npos) (envK K)=pure (some names))(h:EvsO prog w W k K ρ npos es sls)(hst:StoO prog w W K ρ names.reverse sls.reverse ρ')
  (hn:names.length=sls.length:=by rfl) (hsz:sls.length≤sizeLine:=by decide) (hs:∀env,swapsWithSole [.Tuple elts n tpos] (.Tuple es n' npos) pos.line env=pure false:=by intro _;rfl) :
  Ex prog w W k K ρ (.Assign [.Tuple elts n tpos] (.Tuple es n' npos) pos) (.next ρ'):=.mk fun A s₀ X₀ env X s E R hk x₀=>by
 refine Assign_Tuple_swapped (wpAny_Tuple_spliced (wpAny_mono (h.run A s₀ X₀ env X s _ R hk x₀) (fun vs s₁ ⟨X',x1,e1,g1,i1,hvs⟩=>⟨by rw[hvs.length];exact hsz,?_⟩) fun _ _ h=>h)) (hs env) (by rw[jU hk x₀.fk];exact hw)
 have hlen:names.length=vs.toArray.size:=by rw[hn,List.size_toArray,hvs.length]
 have e2:W.Ext s₁ {s₁ with heap:=s₁.heap.push {cls:=.type "tuple",data:=.seq vs.toArray}}:=.of_heap (tk:=s₁.toks) e1.inv fun b o e=>Heap.get?_push_of_some _ e
 rw[hlen]
 refine unpackItems_tuple R.1 ⟨_,Heap.get?_push_size _ rfl,rfl,0,rfl⟩ fun h' he=>?_
 have e3:=zCj (W:=W) (tk:=s₁.toks) e2.inv he
 have e23:=e2.trans e3
 have x3:=x1.step e23
 have hvs3:SlotsOk s₀.heap X₀ X' h' vs sls:=hvs.fram (e23.fram x1.ts) fun a us _ h0 ⟨n,hp⟩=>⟨n,e23.get (x1.nts h0) hp⟩
 refine wpAny_mono (hst.run A s₀ X₀ env X' _ _ E hk x3 (show SlotsOk s₀.heap X₀ X' h' vs.reverse sls.reverse from hvs3.reverse)) (fun _ s₄ ⟨x4,g4⟩=>⟨rfl,X',x4,(g1.trans (Grow.ext e23 x1.ts)).trans g4⟩) fun _ _ h=>h
end Wk
end
section
open PySem PyProof.Rows
set_option maxHeartbeats 400000
set_option autoImplicit false
set_option linter.unusedVariables false
namespace Wk
open Builtin.Str
noncomputable def occR(x y:Str):List Nat→Nat→List Nat
 | [],_=>[]
 | i::l,f=>if (f≤i∧i+y.length≤x.length)∧subAt x y i=true then i::occR x y l (i+y.length) else occR x y l f
private theorem zDh(x y:Str)(limit:Nat):∀(l:List Nat) (arr:Array Nat) (f:Nat),arr.size+l.length≤limit→(forIn l (arr,f) (StrLaws.occBody x y x.length limit)).run.fst.toList=arr.toList++occR x y l f
  | [],arr,f,h=>by simp[occR]
  | i :: l, arr, f, h => by
    rw[List.forIn_cons,occR]
    unfold StrLaws.occBody
    have hs:arr.size<limit:=by simp at h;lia
    by_cases hc:(f≤i∧i+y.length≤x.length)∧subAt x y i=true
    · rw[if_pos hc,if_pos ⟨⟨⟨hs,hc.1.1⟩,hc.1.2⟩,hc.2⟩]
      show(forIn l (arr.push i,i+y.length) (StrLaws.occBody x y x.length limit)).run.fst.toList=_
      rw[zDh x y limit l _ _ (by simp at h ⊢;lia)]
      simp
    · rw[if_neg hc,if_neg (fun h=>hc ⟨⟨h.1.1.2,h.1.2⟩,h.2⟩)]
      exact zDh x y limit l arr f (by simp at h;lia)
private theorem occ_is(x y:Str):occurrences x y 0 x.length (x.length+1)=occR x y (List.range' 0 (x.length+1)) 0:=by
 rw[StrLaws.occ_eq,zDh]
 ·simp
 ·simp
noncomputable def crlf:Str:="\r\n"
private theorem zLo(x:Str)(i:Nat):subAt x crlf i=true ↔ (x.cps.toList.drop i).take 2=[13,10]:=by
 rw[StrLaws.subAt_eq]
 show((x.cps.toList.drop i).take 2==[13,10])=true ↔ _
 rw[beq_iff_eq]
private theorem zD5(x:Str):∀(l:List Nat) (pre z:List Nat) (m f:Nat),x.cps.toList=pre++l++z→(∀c∈l,c≠13)→occR x crlf (List.range' pre.length (l.length+m)) f=occR x crlf (List.range' (pre.length+l.length) m) f
  | [],pre,z,m,f,hx,h=>by simp
  | c :: l, pre, z, m, f, hx, h => by
    have hc:=h c List.mem_cons_self
    have e1:(c::l).length+m=(l.length+m)+1:=by simp;lia
    rw[e1,List.range'_succ,occR]
    rw[if_neg (fun hh=>by
      have:=(zLo x _).mp hh.2
      rw[hx,List.append_assoc,List.drop_left] at this
      simp only[List.cons_append,List.take_succ_cons] at this
      have:=(List.cons.inj this).1
      exact hc this)]
    have ih:=zD5 x l (pre++[c]) z m f (by rw[hx];simp) fun d hd=>h d (List.mem_cons_of_mem _ hd)
    rw[List.length_append,List.length_singleton] at ih
    rw[ih];congr 2
    simp;lia
private theorem zJw(x:Str)(pre z:List Nat)(m f:Nat)(hx:x.cps.toList=pre++13::10::z)(hf:f≤pre.length):occR x crlf (List.range' pre.length (2+m)) f=pre.length::occR x crlf (List.range' (pre.length+2) m) (pre.length+2):=by
 have hl:x.cps.toList.length=x.length:=by simp[Str.length]
 have hc2:crlf.length=2:=by decide
 have hlen:pre.length+2≤x.length:=by rw[←hl,hx];simp
 have e1:2+m=(m+1)+1:=by lia
 rw[e1,List.range'_succ,occR]
 rw[if_pos ⟨⟨hf,by lia⟩,(zLo x _).mpr (by rw[hx,List.drop_left];rfl)⟩,List.range'_succ,occR,if_neg (fun h=>by have:=h.1.1;lia)]
 rw[hc2]
private theorem zCi(x:Str):∀(rows:List (List Nat)) (pre z:List Nat),x.cps.toList=pre++rows.flatMap (fun r=>r++[13,10])++z→(∀r∈rows,∀c∈r,c≠13) →
    ∃more,StrLaws.partsFrom x 2 pre.length (occR x crlf (List.range' pre.length (x.length+1-pre.length)) pre.length)=rows.map (fun r=>(⟨r.toArray⟩:Str))++more
  | [],pre,z,hx,h=>⟨_,rfl⟩
  | r :: rows, pre, z, hx, h => by
    have hl:x.cps.toList.length=x.length:=by simp[Str.length]
    have hx1:x.cps.toList=pre++r++([13,10]++rows.flatMap (fun r=>r++[13,10])++z):=by rw[hx];simp
    have hx2:x.cps.toList=(pre++r)++13::10::(rows.flatMap (fun r=>r++[13,10])++z):=by rw[hx];simp
    have hx3:x.cps.toList=(pre++r++[13,10])++rows.flatMap (fun r=>r++[13,10])++z:=by rw[hx];simp
    have hlen:pre.length+r.length+2≤x.length:=by rw[←hl,hx2];simp;lia
    obtain⟨more,ih⟩:=zCi x rows (pre++r++[13,10]) z hx3 fun q hq=>h q (List.mem_cons_of_mem _ hq)
    refine⟨more,?_⟩
    have e1:x.length+1-pre.length=r.length+(2+(x.length+1-(pre.length+r.length+2))):=by lia
    rw[e1,zD5 x r pre _ _ _ hx1 (h r List.mem_cons_self)]
    have e2:=zJw x (pre++r) _ (x.length+1-(pre.length+r.length+2)) pre.length hx2 (by simp)
    rw[List.length_append] at e2
    rw[e2]
    show strSub x pre.length (pre.length+r.length)::StrLaws.partsFrom x 2 (pre.length+r.length+2) _=_
    have e3:(pre++r++[13,10]).length=pre.length+r.length+2:=by simp;lia
    rw[e3] at ih
    rw[ih]
    have e4:strSub x pre.length (pre.length+r.length)=⟨r.toArray⟩:=by
      apply Str.ext'
      apply Array.toList_inj.mp
      rw[StrLaws.strSub_toList,hx1,List.append_assoc,List.drop_left]
      simp
    rw[e4];rfl
private theorem zMf(x:Str):decide (Builtin.Str.strKind x<Builtin.Str.strKind crlf)=false:=by
 have h1:Builtin.Str.strKind crlf=1:=by decide +kernel
 rw[h1]
 unfold Builtin.Str.strKind
 split
 ·rfl
 ·split <;> rfl
private theorem zIq(x:Str)(rows:List (List Nat))(z:List Nat)(hx:x.cps.toList=rows.flatMap (fun r=>r++[13,10])++z)(hr:rows≠[])(h:∀r∈rows,∀c∈r,c≠13) :
    (Txt.split x crlf).take rows.length=rows.map fun r=>(⟨r.toArray⟩:Str):=by
  have hl:x.cps.toList.length=x.length:=by simp[Str.length]
  have hlen:2≤x.length:=by
    rw[←hl,hx]
    cases rows with
    | nil=>exact absurd rfl hr
    | cons r rows=>simp;lia
  obtain⟨more,hm⟩:=zCi x rows [] z (by simpa using hx) h
  simp only[List.length_nil,Nat.sub_zero] at hm
  have hocc:=occ_is x crlf
  have hne:(occurrences x crlf 0 x.length (x.length+1)).isEmpty=false:=by
    cases rows with
    | nil=>exact absurd rfl hr
    | cons r rows =>
      rw[hocc]
      have hx1:x.cps.toList=[]++r++([13,10]++rows.flatMap (fun r=>r++[13,10])++z):=by rw[hx];simp
      have hx2:x.cps.toList=([]++r)++13::10::(rows.flatMap (fun r=>r++[13,10])++z):=by rw[hx];simp
      have hl2:r.length+2≤x.length:=by rw[←hl,hx2];simp
      have e1:x.length+1=r.length+(2+(x.length+1-(r.length+2))):=by lia
      have e2:=zD5 x r [] _ (2+(x.length+1-(r.length+2))) 0 hx1 (h r List.mem_cons_self)
      rw[List.length_nil,←e1,Nat.zero_add] at e2
      rw[e2]
      have e3:=zJw x ([]++r) _ (x.length+1-(r.length+2)) 0 hx2 (Nat.zero_le _)
      rw[List.nil_append] at e3
      rw[e3];rfl
  have hc2:crlf.length=2:=by decide
  unfold Txt.split
  rw[zMf,if_neg (by simp;lia),hne,if_neg (by simp),StrLaws.partsBetween_eq,hc2,hocc,hm]
  rw[List.take_append_of_le_length (by simp)]
  exact List.take_of_length_le (by simp)
end Wk
end
section
open PySem PySem.W PyProof.Rows Mine Wk
set_option maxRecDepth 100000
set_option maxHeartbeats 400000
set_option linter.unusedVariables false
namespace Wk
open Builtin.Int
variable{prog:Program}{w:World}
noncomputable def putD(n x cnt L:Nat)(ns:List Int):List Int:=(List.range ns.length).map fun j=>if L≤j∧j<L+cnt then (dig n x cnt (j-L):Int) else ns.getD j 0
private theorem qC(n x cnt L:Nat)(ns:List Int):(putD n x cnt L ns).length=ns.length:=by simp[putD]
private theorem zIv{f:Nat→Int}{m j:Nat}(h:j<m):((List.range m).map f).getD j 0=f j:=by
 rw[List.getD_eq_getElem?_getD,List.getElem?_map,List.getElem?_range h];rfl
private theorem zFd{f g:Nat→Int}{m:Nat}(h:∀j,j<m→f j=g j):(List.range m).map f=(List.range m).map g :=
 List.map_congr_left fun j hj=>h j (List.mem_range.mp hj)
private theorem zNd(n x a b L:Nat)(ns:List Int)(ha:0<a)(hb:0<b):putD n (x/2^(n*a)) b (L+a) (putD n (x%2^(n*a)) a L ns)=putD n x (a+b) L ns:=by
 unfold putD
 rw[List.length_map,List.length_range]
 refine zFd fun j hj=>?_
 rw[zIv hj]
 by_cases h1:L+a≤j∧j<L+a+b
 ·rw[if_pos h1,if_pos (by lia),zMk n x (by lia)]
  congr 2;lia
 ·rw[if_neg h1]
  by_cases h2:L≤j∧j<L+a
  ·rw[if_pos h2,if_pos (by lia),zP1 n x (cnt:=a+b) (by lia) (by lia)]
  ·rw[if_neg h2,if_neg (by lia)]
private theorem zMm(n x L:Nat)(ns:List Int)(h:L<ns.length):ns.set L (x:Int)=putD n x 1 L ns:=by
 apply List.ext_getElem?
 intro j
 unfold putD
 rw[List.getElem?_set,List.getElem?_map]
 by_cases hj:j<ns.length
 ·rw[List.getElem?_range hj]
  show _=some _
  by_cases e:L=j
  ·subst e
   rw[if_pos rfl,if_pos h]
   show some (x:Int)=some (if L≤L∧L<L+1 then (dig n x 1 (L-L):Int) else ns.getD L 0)
   rw[if_pos (by lia),Nat.sub_self,zQd]
  ·rw[if_neg e]
   show _=some (if L≤j∧j<L+1 then (dig n x 1 (j-L):Int) else ns.getD j 0)
   rw[if_neg (by lia),List.getElem?_eq_getElem hj,List.getD_eq_getElem?_getD,List.getElem?_eq_getElem hj];rfl
 ·rw[List.getElem?_eq_none (by simpa using hj)]
  have:¬ j<ns.length:=hj
  rw[show(List.range ns.length)[j]?=none from List.getElem?_eq_none (by simpa using hj)]
  split
  ·lia
  ·rfl
noncomputable def qM(h:Heap)(D:Addr)(ns:List Int):Prop:=∃vs,h.PlainList D vs∧IntsAre vs.toList ns
structure InA(h:Heap)(F D cA cI cN:Addr)(o:Obj)(fd:FuncData)(n:Nat)(tN:Tok):Prop where
 fn:h.get? F=some o
 code:h.CodeRec fd.code fd.qualname
 lim:h.NoLimit
 a:h.IsCell cA (some (.ref D))
 i:h.IsCell cI (some (.ref F))
 n:h.IsCell cN (some (.int n tN))
noncomputable def InA.cs(F D:Addr)(n:Nat)(tN:Tok):List (Str×Value):=[("a_digits",.ref D),("inner",.ref F),("n",.int n tN)]
private theorem qM.keep{h h':Heap}{D:Addr}{ns:List Int}(x:qM h D ns)(k:∀b o,h.get? b=some o→h'.get? b=some o):qM h' D ns:=by
 obtain⟨vs,⟨m,e⟩,i⟩:=x;exact⟨vs,⟨m,k _ _ e⟩,i⟩
private theorem InA.keep{h h':Heap}{F D cA cI cN:Addr}{o:Obj}{fd fd':FuncData}{n:Nat}{tN:Tok}(x:InA h F D cA cI cN o fd n tN)(ho:o.data=.func fd'){vs:Array Value}(hD:h.PlainList D vs)(k:∀b o,b≠D→h.get? b=some o→h'.get? b=some o):InA h' F D cA cI cN o fd n tN:=by
 obtain⟨m,hD⟩:=hD
 have kk:∀b o,(∀vs n,o.data ≠ .seq vs n)→h.get? b=some o→h'.get? b=some o:=fun b o hn e=>k b o (fun e'=>by rw[e',hD] at e;cases e;exact hn _ _ rfl) e
 refine⟨kk _ _ (fun vs n h=>by rw[ho] at h;cases h) x.fn,?_,?_,?_,?_,?_⟩
 ·obtain⟨c,oc,us,t,h1,h2,h3,h4⟩:=x.code
  exact⟨c,oc,us,t,h1,kk _ _ (fun vs n h=>by rw[h3] at h;cases h) h2,h3,h4⟩
 ·obtain⟨mc,a,r⟩:=x.lim
  exact⟨mc,a.at' fun o e=>by
   obtain⟨o',es,ep,ho',hd',_⟩:=a
   rw[e] at ho';cases ho'
   exact kk _ _ (fun vs n h=>by rw[hd'] at h;cases h) e,r⟩
 all_goals
  first
  | (obtain⟨o',h1,h2⟩:=x.a;exact⟨o',kk _ _ (fun vs n h=>by rw[h2] at h;cases h) h1,h2⟩)
  | (obtain⟨o',h1,h2⟩:=x.i;exact⟨o',kk _ _ (fun vs n h=>by rw[h2] at h;cases h) h1,h2⟩)
  | (obtain⟨o',h1,h2⟩:=x.n;exact⟨o',kk _ _ (fun vs n h=>by rw[h2] at h;cases h) h1,h2⟩)
end Wk
namespace Wk
open Builtin.Int
section
variable{prog:Program}{w:World}{K:List (Str×NameKind)}{pos p apos npos spos tpos:Pos}{μ:List (Str×Int)}{cs:List (Str×Value)}
private theorem FrI.ld{A:Around}{env:Env}{s:Shared}{E:Value→Shared→Prop}{x:Str}{v:Value}{Q:Value→Shared→Prop}(hE:EnvI env K)(hF:FrI env μ cs s.heap)(h:cs.lookup x=some v)(hQ:Q v s)
  (hd:(x==("__debug__":Str))=false:=by rfl) (hc:(x==("__classdict__":Str))=false:=by rfl):wpAny (model prog w) A (eval (.Name x pos) env) Q E s:=by
 obtain⟨hk,c,h1,h2⟩:=hF.2 x _ h
 exact wpAny_Name (wpAny_loadName_free hE.kind hk h1 h2 hQ hc) hd
structure EvsI(prog:Program)(w:World)(K:List (Str×NameKind))(μ:List (Str×Int))(cs:List (Str×Value))(pos:Pos)(es:List PySem.Expr)(is:List Int):Prop where
 run:∀A env s E,EnvI env K→FrI env μ cs s.heap→wpAny (model prog w) A (spliced (backTo pos (starEach es env))) (fun vs s'=>IntsAre vs is∧∃tk,s'={s with toks:=tk}) E s
private theorem EvsI.nil:EvsI prog w K μ cs pos [] []:=.mk fun A env s E hE hF=>args_nil ⟨.nil,s.toks,rfl⟩
private theorem EvsI.cons{e:PySem.Expr}{es:List PySem.Expr}{i:Int}{is:List Int}(h:EvI prog w K μ cs e i)(hs:EvsI prog w K μ cs pos es is)
  (he:∀env,starEach (e::es) env=(false,eval e env)::starEach es env:=by intro _;rfl):EvsI prog w K μ cs pos (e::es) (i::is):=.mk fun A env s E hE hF =>
 args_cons (wpAny_mono (h.run A env s _ hE hF) (fun v s₁ ⟨t,tk,hv,hs₁⟩=>by
  subst hv;subst hs₁
  exact wpAny_mono (hs.run A env {s with toks:=tk} _ hE hF) (fun vs s₂ ⟨hvs,tk2,hs₂⟩=>⟨.cons _ _ hvs,tk2,by rw[hs₂]⟩) fun _ _ h=>h) fun _ _ h=>h) (he env)
private theorem FrI.call{A:Around}{env:Env}{s:Shared}{E:Value→Shared→Prop}{f:Str}{F:Addr}{o:Obj}{fd:FuncData}{e:PySem.Expr}{es:List PySem.Expr}{is:List Int}{Q:Value→Shared→Prop}(hE:EnvI env K)(hF:FrI env μ cs s.heap)(h:cs.lookup f=some (.ref F))(ho:s.heap.get? F=some o)(hd:o.data=.func fd)
  (ha:EvsI prog w K μ cs pos (e::es) is) (hQ:∀vs tk,IntsAre vs is→wpAny (model prog w) A (PySem.call (.ref F) vs) Q E {s with toks:=tk})
  (he:∀env,starEach (e::es) env=(false,eval e env)::starEach es env:=by intro _;rfl) (hdb:(f==("__debug__":Str))=false:=by rfl) (hc:(f==("__classdict__":Str))=false:=by rfl) :
  wpAny (model prog w) A (eval (.Call (.Name f p) (e::es) [] pos) env) Q E s:=by
 show wpAny _ A (do callWith pos (← eval (.Name f p) env) [] (backTo pos (starEach (e::es) env)) (backToKw pos (keywordEach [] env))) _ E s
 refine wpAny_bind (FrI.ld hE hF h ?_ hdb hc)
 refine Calls.callWith_function (o:=o) (fd:=fd) ?_
 have hh:=ha.run A env s E hE hF
 have e1:backTo pos (starEach (e::es) env)=(false,eval e env)::(backTo pos (starEach (e::es) env)).tail:=by
  rw[he];rfl
 rw[e1] at hh ⊢
 exact Calls.evalArgs_plain (wpAny_mono hh (fun vs s₁ ⟨hv,tk,hs⟩=>by subst hs;exact⟨⟨ho,hd⟩,hQ vs tk hv⟩) fun _ _ h=>h)
end
variable{prog:Program}{w:World}
noncomputable abbrev fdI(qual:Str)(cl:List (Str×Addr))(doc pm cv ctv:Value):FuncData:=fnX "inner" qual (sArgs zO) (sBody zO) (sScope zO) cl .none .none doc pm none cv ctv
private theorem IntsAre.set{vs:List Value}{ns:List Int}(h:IntsAre vs ns)(j:Nat)(i:Int)(t:Tok):IntsAre (vs.set j (.int i t)) (ns.set j i):=by
  induction h generalizing j with
  | nil=>exact .nil
  | cons n u r ih =>
    cases j with
    | zero=>exact .cons _ _ r
    | succ j=>exact .cons _ _ (ih j)
private theorem IntsAre.len{vs:List Value}{ns:List Int}(h:IntsAre vs ns):vs.length=ns.length:=by
 induction h with
 | nil=>rfl
 | cons n t _ ih=>simp[ih]
private theorem zHg(L cnt:Nat):((L:Int)+((L+cnt:Nat):Int)).fdiv (2^(1:Int).toNat)=((L+cnt/2:Nat):Int):=by
 show((L:Int)+((L+cnt:Nat):Int)).fdiv ((2:Nat):Int)=_
 rw[←Int.natCast_add,yJ]
 congr 1;lia
private theorem zAo(x m:Nat):(x:Int).fdiv (2^((m:Int)).toNat)=((x/2^m:Nat):Int):=by
 rw[Int.toNat_natCast]
 have:((2:Int)^m)=((2^m:Nat):Int):=by push_cast;rfl
 rw[this,yJ]
private theorem wO(x m:Nat):(x:Int)*2^((m:Int)).toNat=((x*2^m:Nat):Int):=by
 rw[Int.toNat_natCast];push_cast;rfl
private theorem zB{x m:Nat}:intBits (x:Int)≤m ↔ x<2^m:=by
 rw[intBits_le_iff];simp
noncomputable def I2d(prog:Program)(w:World)(F D cA cI cN:Addr)(o:Obj)(fd:FuncData)(n:Nat)(tN:Tok)(cnt dep:Nat):Prop :=
  ∀(x L:Nat) (ns:List Int) (A:Around) (s:Shared) (E:Value→Shared→Prop) (Q:Value→Shared→Prop) (tx tL tR:Tok),A.depth+dep≤990→InA s.heap F D cA cI cN o fd n tN→qM s.heap D ns →
      L+cnt≤ns.length→ns.length*n≤2^24→ns.length≤2^24→∀M,M≤2^24→intBits x≤M →
      (∀h' tk,qM h' D (putD n x cnt L ns)→(∀b o,b≠D→s.heap.get? b=some o→h'.get? b=some o)→Q .none {s with heap:=h',toks:=tk}) →
      wpAny (model prog w) A (call (.ref F) [.int x tx,.int L tL,.int (L+cnt:Nat) tR]) Q E s
private theorem I2d.step{F D cA cI cN:Addr}{o:Obj}{qual:Str}{cl:List (Str×Addr)}{doc pm cv ctv:Value}{n:Nat}{tN:Tok}{cnt dep:Nat}(hd:o.data=.func (fdI qual cl doc pm cv ctv))
  (hA:cl.lookup ("a_digits":Str)=some cA) (hI:cl.lookup ("inner":Str)=some cI) (hN:cl.lookup ("n":Str)=some cN)
  (hc:cnt=1∨(1<cnt∧I2d prog w F D cA cI cN o (fdI qual cl doc pm cv ctv) n tN (cnt/2) dep∧I2d prog w F D cA cI cN o (fdI qual cl doc pm cv ctv) n tN (cnt-cnt/2) dep)) :
  I2d prog w F D cA cI cN o (fdI qual cl doc pm cv ctv) n tN cnt (dep+1):=by
 intro x L ns A s E Q tx tL tR hdep hin hli hL hbits hlen M hM hx hQ
 have hpos:0<cnt:=by lia
 refine zEe (K:=xZ) (names:=["x","L","R"]) (by show A.depth<1000;lia) hin.fn hd rfl hin.code hin.lim xD rfl (by decide) ?_ rfl rfl rfl ?_
 ·intro y hy
  simp only[List.zip_cons_cons,List.zip_nil_left,List.mem_cons,List.not_mem_nil,or_false] at hy
  rcases hy with rfl|rfl|rfl <;> rfl
 intro h₁ env tk hE hloc hcells hglob hbui hns hk E'
 have hin1:InA h₁ F D cA cI cN o (fdI qual cl doc pm cv ctv) n tN:=by
  obtain⟨vs,hv,_⟩:=hli
  exact hin.keep hd hv fun b o _ e=>hk b o e
 have hli1:qM h₁ D ns:=hli.keep hk
 have hF:FrI env [("x",(x:Int)),("L",(L:Int)),("R",((L+cnt:Nat):Int))] (InA.cs F D n tN) h₁:=by
  refine⟨⟨_,hns,xT ⟨tx,rfl⟩ (xT ⟨tL,rfl⟩ (xT ⟨tR,rfl⟩ zHq))⟩,xT ⟨?_,cA,by rw[hcells];exact hA,hin1.a⟩ (xT ⟨?_,cI,by rw[hcells];exact hI,hin1.i⟩ (xT ⟨?_,cN,by rw[hcells];exact hN,hin1.n⟩ zHq))⟩
  all_goals (show env.scope.names.lookup _=_;rw[hE.names];rfl)
 have hfresh:s.heap.get? env.locals=none:=by rw[hloc];exact xH
 refine wpAny_execs_cons (wpAny_If (TrI.eq (a:=(L:Int)+1) (b:=((L+cnt:Nat):Int)) (EvI.bin (EvI.loc rfl rfl) EvI.const BinI.add) (EvI.loc rfl rfl) hE hF fun tk1=>?_))
 rcases hc with hc|⟨h1c,ih1,ih2⟩
 ·subst hc
  rw[if_pos (by rw[beq_iff_eq];lia)]
  refine wpAny_execs_cons (wpAny_Assign_Subscript (wpAny_mono ((EvI.loc (x:="x") (i:=(x:Int)) rfl rfl).run _ env _ _ hE hF) (fun v s₁ ⟨t,tk2,hv,hs⟩=>?_) fun _ _ h=>h))
  subst hv;subst hs
  refine FrI.ld hE hF (v:=.ref D) rfl ?_
  refine wpAny_mono ((EvI.loc (x:="L") (i:=(L:Int)) rfl rfl).run _ env _ _ hE hF) (fun v s₂ hvs'=>?_) fun _ _ h=>h
  obtain⟨t2,tk3,hv,hs⟩:=hvs'
  subst hv;subst hs
  obtain⟨vs,⟨m,hv⟩,hi⟩:=hli1
  have hsz:vs.size=ns.length:=by have:=IntsAre.len hi;simpa using this
  have h24:sizeLine=2^24:=by decide
  refine zB2 (j:=L) hv (fitsIndex_of (by lia) (by lia)) rfl (by lia) (by lia) ?_
  refine wpAny_execs_cons (wpAny_Return_none ?_)
  refine hQ _ _ ⟨vs.setIfInBounds L (.int x t),⟨_,by rw[Heap.get?_update_self _ hv rfl];rfl⟩,?_⟩ fun b o hb e=>?_
  ·rw[←zMm n x L ns (by assumption),Array.toList_setIfInBounds];exact IntsAre.set hi L x t
  ·exact(Heap.get?_update_other _ _ (fun (e:D=b)=>hb e.symm)).trans (hk b o e)
 ·rw[if_neg (by rw[beq_iff_eq];lia)]
  refine wpAny_execs_nil ?_
  have hin':∀h',(∀b o,s.heap.get? b=some o→h'.get? b=some o)→InA h' F D cA cI cN o (fdI qual cl doc pm cv ctv) n tN:=fun h' k=>by
   obtain⟨vs,hv,_⟩:=hli
   exact hin.keep hd hv fun b o _ e=>k b o e
  have hxb:x<2^M:=zB.mp hx
  have hsh:cnt/2*n≤2^24:=Nat.le_trans (Nat.mul_le_mul_right n (by lia)) hbits
  refine wpAny_execs_cons (StI.set (i:=((L+cnt/2:Nat):Int)) (EvI.conv (EvI.bin (EvI.bin (EvI.loc rfl rfl) (EvI.loc rfl rfl) BinI.add) EvI.const (BinI.rsh (by decide))) (zHg L cnt)) rfl hE hF fun h2 tk2 F2 k2=>?_)
  refine wpAny_execs_cons (StI.set (i:=((cnt/2*n:Nat):Int)) (EvI.conv (EvI.bin (EvI.bin (a:=((L+cnt/2:Nat):Int)) (b:=(L:Int)) (EvI.loc rfl rfl) (EvI.loc rfl rfl) BinI.sub) (EvI.free (t:=tN) rfl) (BinI.mul ?_)) ?_) rfl hE F2 fun h3 tk3 F3 k3=>?_)
  ·refine IntMulOk.of_le (m:=64) (n:=64) ?_ ?_ (by decide)
   ·rw[show((L+cnt/2:Nat):Int)-(L:Int)=((cnt/2:Nat):Int) by lia]
    refine zB.mpr ?_
    have:(2:Nat)^24<2^64:=by decide
    lia
   ·refine zB.mpr ?_
    have h1:n≤2^24:=Nat.le_trans (Nat.le_mul_of_pos_left n (by lia)) hbits
    have h2:(2:Nat)^24<2^64:=by decide
    lia
  ·rw[show((L+cnt/2:Nat):Int)-(L:Int)=((cnt/2:Nat):Int) by lia];push_cast;rfl
  have sh2:∀y:Nat,y/2^(cnt/2*n)≤y:=fun y=>Nat.div_le_self _ _
  refine wpAny_execs_cons (StI.set (i:=((x/2^(cnt/2*n):Nat):Int)) (EvI.conv (EvI.bin (a:=(x:Int)) (b:=((cnt/2*n:Nat):Int)) (EvI.loc rfl rfl) (EvI.loc rfl rfl) (BinI.rsh (by lia))) (zAo x _)) rfl hE F3 fun h4 tk4 F4 k4=>?_)
  refine wpAny_execs_cons (StI.set (i:=((x%2^(cnt/2*n):Nat):Int)) (EvI.conv (EvI.bin (a:=(x:Int)) (b:=((x/2^(cnt/2*n)*2^(cnt/2*n):Nat):Int)) (EvI.loc rfl rfl) (EvI.conv (EvI.bin (a:=((x/2^(cnt/2*n):Nat):Int)) (b:=((cnt/2*n:Nat):Int)) (EvI.loc rfl rfl) (EvI.loc rfl rfl) (BinI.lsh (by lia) ?_)) (wO _ _)) BinI.xor) ?_) rfl hE F4 fun h5 tk5 F5 k5=>?_)
  ·have:intBits ((x/2^(cnt/2*n):Nat):Int)≤M:=zB.mpr (Nat.lt_of_le_of_lt (sh2 x) hxb)
   have h3:(2:Int)^27=134217728:=by decide
   have h4:(2:Nat)^24=16777216:=by decide
   lia
  ·rw[zIl,zN8]
  have e5:∀b o,s.heap.get? b=some o→h5.get? b=some o:=fun b o e=>by
   have hb:b≠env.locals:=fun e'=>by rw[e',hfresh] at e;cases e
   exact k5 b o hb (k4 b o hb (k3 b o hb (k2 b o hb (hk b o e))))
  have hin5:=hin' h5 e5
  have hli5:qM h5 D ns:=hli.keep e5
  have hxm:intBits ((x%2^(cnt/2*n):Nat):Int)≤M:=zB.mpr (Nat.lt_of_le_of_lt (Nat.mod_le _ _) hxb)
  have hxd:intBits ((x/2^(cnt/2*n):Nat):Int)≤M:=zB.mpr (Nat.lt_of_le_of_lt (sh2 x) hxb)
  have hint:interactive env=false:=by unfold interactive;rw[hE.kind];rfl
  refine wpAny_execs_cons (wpAny_Expr (FrI.call hE F5 (f:="inner") (F:=F) rfl hin5.fn hd (EvsI.cons (i:=((x%2^(cnt/2*n):Nat):Int)) (EvI.loc rfl rfl) (EvsI.cons (i:=(L:Int)) (EvI.loc rfl rfl) (EvsI.cons (i:=((L+cnt/2:Nat):Int)) (EvI.loc rfl rfl) EvsI.nil))) fun vs tk6 hvs=>?_) hint)
  obtain⟨t1,t2,t3,rfl⟩:=zLn hvs
  refine ih1 (x%2^(cnt/2*n)) L ns _ _ _ _ t1 t2 t3 (by show A.depth+1+dep≤990;lia) hin5 hli5 (by lia) hbits hlen M hM hxm fun h6 tk7 hli6 k6=>?_
  have hDs:∃vs m,h5.get? D=some ⟨.type "list",none,.seq vs m,#[]⟩:=by obtain⟨vs,⟨m,hv⟩,_⟩:=hli5;exact⟨vs,m,hv⟩
  have F6:FrI env _ _ h6:=F5.keep fun b o e hns=>k6 b o (fun e'=>by
   obtain⟨vs,m,hv⟩:=hDs
   rw[e',hv] at e;cases e;exact hns _ _ rfl) e
  have hin6:InA h6 F D cA cI cN o (fdI qual cl doc pm cv ctv) n tN:=by
   obtain⟨vs,hv,_⟩:=hli5
   exact hin5.keep hd hv k6
  refine wpAny_execs_cons (wpAny_Expr (FrI.call hE F6 (f:="inner") (F:=F) rfl hin6.fn hd (EvsI.cons (i:=((x/2^(cnt/2*n):Nat):Int)) (EvI.loc rfl rfl) (EvsI.cons (i:=((L+cnt/2:Nat):Int)) (EvI.loc rfl rfl) (EvsI.cons (i:=((L+cnt:Nat):Int)) (EvI.loc rfl rfl) EvsI.nil))) fun vs tk8 hvs=>?_) hint)
  obtain⟨t4,t5,t6,rfl⟩:=zLn hvs
  have eR:L+cnt=L+cnt/2+(cnt-cnt/2):=by lia
  rw[eR]
  refine ih2 (x/2^(cnt/2*n)) (L+cnt/2) _ _ _ _ _ t4 t5 t6 (by show A.depth+1+dep≤990;lia) hin6 hli6 (by rw[qC];lia) (by rw[qC];exact hbits) (by rw[qC];exact hlen) M hM hxd fun h7 tk9 hli7 k7=>?_
  refine wpAny_execs_nil ?_
  refine hQ h7 tk9 ?_ fun b o hb e=>k7 b o hb (k6 b o hb (e5 b o e))
  have:=zNd n x (cnt/2) (cnt-cnt/2) L ns (by lia) (by lia)
  rw[Nat.mul_comm n (cnt/2),show cnt/2+(cnt-cnt/2)=cnt by lia] at this
  rw[this] at hli7
  exact hli7
private theorem zAq{F D cA cI cN:Addr}{o:Obj}{qual:Str}{cl:List (Str×Addr)}{doc pm cv ctv:Value}{n:Nat}{tN:Tok}(hd:o.data=.func (fdI qual cl doc pm cv ctv))
    (hA:cl.lookup ("a_digits":Str)=some cA) (hI:cl.lookup ("inner":Str)=some cI) (hN:cl.lookup ("n":Str)=some cN):∀(f cnt:Nat),0<cnt→cnt≤2^f→I2d prog w F D cA cI cN o (fdI qual cl doc pm cv ctv) n tN cnt (f+1)
  | 0,cnt,h0,h1=>I2d.step hd hA hI hN (.inl (by rw[Nat.pow_zero] at h1;lia))
  | f + 1, cnt, h0, h1 => by
    by_cases h:cnt=1
    · exact I2d.step hd hA hI hN (.inl h)
    · have h2:(2:Nat)^(f+1)=2*2^f:=by rw[Nat.pow_succ];lia
      exact I2d.step hd hA hI hN (.inr ⟨by lia,zAq hd hA hI hN f _ (by lia) (by lia),zAq hd hA hI hN f _ (by lia) (by lia)⟩)
end Wk
namespace Wk
open Builtin.Int
variable{prog:Program}{w:World}
noncomputable def valN(n:Nat):List Nat→Nat
 | []=>0
 | d::r=>d+2^n*valN n r
private theorem vA(n:Nat):∀a b:List Nat,valN n (a++b)=valN n a+2^(n*a.length)*valN n b
  | [],b=>by simp[valN]
  | d :: a, b => by
    rw[List.cons_append,valN,vA n a b,valN,List.length_cons,Nat.mul_succ,Nat.pow_add,Nat.mul_add,Nat.mul_assoc,Nat.add_assoc,Nat.mul_left_comm]
private theorem zKa(n M:Nat)(hn:0<n):∀a:List Nat,(∀d∈a,d<2^M)→valN n a+2^M≤2^(M+n*a.length)
  | [],h=>by simp[valN]
  | d :: a, h => by
    have ih:=zKa n M hn a fun e he=>h e (List.mem_cons_of_mem _ he)
    have h1:=h d List.mem_cons_self
    rw[valN,List.length_cons,Nat.mul_succ,←Nat.add_assoc,Nat.pow_add]
    have h3:2≤2^n:=by
      calc 2=2^1:=rfl
        _≤2^n:=Nat.pow_le_pow_right (by decide) hn
    have h6:2^n*(valN n a+2^M)≤2^n*2^(M+n*a.length):=Nat.mul_le_mul_left _ ih
    have h7:2*2^M≤2^n*2^M:=Nat.mul_le_mul_right _ h3
    rw[Nat.mul_add] at h6
    rw[Nat.mul_comm (2^(M+n*a.length))]
    lia
private theorem zOy(n M:Nat)(hn:0<n)(a:List Nat)(h:∀d∈a,d<2^M):valN n a<2^(M+n*a.length):=by
 have:=zKa n M hn a h
 have:=Nat.two_pow_pos M
 lia
structure InB(h:Heap)(F D cA cI cN:Addr)(o:Obj)(fd:FuncData)(n:Nat)(tN:Tok):Prop where
 fn:h.get? F=some o
 code:h.CodeRec fd.code fd.qualname
 lim:h.NoLimit
 a:h.IsCell cA (some (.ref D))
 i:h.IsCell cI (some (.ref F))
 n:h.IsCell cN (some (.int n tN))
noncomputable def InB.cs(F D:Addr)(n:Nat)(tN:Tok):List (Str×Value):=[("digits",.ref D),("inner",.ref F),("n",.int n tN)]
private theorem InB.keep{h h':Heap}{F D cA cI cN:Addr}{o:Obj}{fd:FuncData}{n:Nat}{tN:Tok}(x:InB h F D cA cI cN o fd n tN)(k:∀b o,h.get? b=some o→h'.get? b=some o):InB h' F D cA cI cN o fd n tN :=
 ⟨k _ _ x.fn,by obtain⟨c,oc,us,t,h1,h2,h3,h4⟩:=x.code;exact⟨c,oc,us,t,h1,k _ _ h2,h3,h4⟩,x.lim.keeps k,x.a.keeps k,x.i.keeps k,x.n.keeps k⟩
noncomputable abbrev fdJ(qual:Str)(cl:List (Str×Addr))(doc pm cv ctv:Value):FuncData:=fnX "inner" qual (sArgs zN) (sBody zN) (sScope zN) cl .none .none doc pm none cv ctv
noncomputable def seg(ns:List Nat)(L cnt:Nat):List Nat:=(ns.drop L).take cnt
private theorem zP9(ns:List Nat)(L a b:Nat):seg ns L (a+b)=seg ns L a++seg ns (L+a) b:=by
 unfold seg;rw[List.take_add,List.drop_drop]
private theorem zCl(ns:List Nat)(L a:Nat)(h:L+a≤ns.length):(seg ns L a).length=a:=by
 unfold seg;rw[List.length_take,List.length_drop];lia
private theorem zQm{ns:List Nat}{L a d:Nat}(h:d∈seg ns L a):d∈ns:=List.mem_of_mem_drop (List.mem_of_mem_take h)
noncomputable def D2i(prog:Program)(w:World)(F D cA cI cN:Addr)(o:Obj)(fd:FuncData)(n:Nat)(tN:Tok)(ns:List Nat)(cnt dep:Nat):Prop :=
 ∀(L:Nat) (A:Around) (s:Shared) (E:Value→Shared→Prop) (Q:Value→Shared→Prop) (tL tR:Tok),A.depth+dep≤990→InB s.heap F D cA cI cN o fd n tN→qM s.heap D (ns.map fun (d:Nat)=>(d:Int))→L+cnt≤ns.length →
   (∀h' tk t,(∀b o,s.heap.get? b=some o→h'.get? b=some o)→Q (.int (valN n (seg ns L cnt):Nat) t) {s with heap:=h',toks:=tk}) →
   wpAny (model prog w) A (call (.ref F) [.int L tL,.int (L+cnt:Nat) tR]) Q E s
private theorem IntsAre.get{vs:List Value}{ns:List Int}(h:IntsAre vs ns):∀{j:Nat} {i:Int},ns[j]?=some i→∃t,vs[j]?=some (.int i t):=by
  induction h with
  | nil=>intro j i e;simp at e
  | cons n t _ ih =>
    intro j i e
    cases j with
    | zero=>simp at e;subst e;exact⟨t,rfl⟩
    | succ j=>simp at e;obtain⟨u,hu⟩:=ih e;exact⟨u,by simpa using hu⟩
private theorem D2i.step{F D cA cI cN:Addr}{o:Obj}{qual:Str}{cl:List (Str×Addr)}{doc pm cv ctv:Value}{n M:Nat}{tN:Tok}{ns:List Nat}{cnt dep:Nat}(hd:o.data=.func (fdJ qual cl doc pm cv ctv))
  (hA:cl.lookup ("digits":Str)=some cA) (hI:cl.lookup ("inner":Str)=some cI) (hN:cl.lookup ("n":Str)=some cN) (hn:0<n) (hM:M≤2^24) (hbits:ns.length*n≤2^24) (hlen:ns.length≤2^24) (hds:∀d∈ns,d<2^M)
  (hc:cnt=1∨(1<cnt∧D2i prog w F D cA cI cN o (fdJ qual cl doc pm cv ctv) n tN ns (cnt/2) dep∧D2i prog w F D cA cI cN o (fdJ qual cl doc pm cv ctv) n tN ns (cnt-cnt/2) dep)) :
  D2i prog w F D cA cI cN o (fdJ qual cl doc pm cv ctv) n tN ns cnt (dep+1):=by
 intro L A s E Q tL tR hdep hin hli hL hQ
 have hpos:0<cnt:=by lia
 refine zEe (K:=wA) (names:=["L","R"]) (by show A.depth<1000;lia) hin.fn hd rfl hin.code hin.lim xC rfl (by decide) ?_ rfl rfl rfl ?_
 ·intro y hy
  simp only[List.zip_cons_cons,List.zip_nil_left,List.mem_cons,List.not_mem_nil,or_false] at hy
  rcases hy with rfl|rfl <;> rfl
 intro h₁ env tk hE hloc hcells hglob hbui hns hk E'
 have hin1:=hin.keep hk
 have hli1:=hli.keep hk
 have hF:FrI env [("L",(L:Int)),("R",((L+cnt:Nat):Int))] (InB.cs F D n tN) h₁:=by
  refine⟨⟨_,hns,xT ⟨tL,rfl⟩ (xT ⟨tR,rfl⟩ zHq)⟩,xT ⟨?_,cA,by rw[hcells];exact hA,hin1.a⟩ (xT ⟨?_,cI,by rw[hcells];exact hI,hin1.i⟩ (xT ⟨?_,cN,by rw[hcells];exact hN,hin1.n⟩ zHq))⟩
  all_goals (show env.scope.names.lookup _=_;rw[hE.names];rfl)
 have hfresh:s.heap.get? env.locals=none:=by rw[hloc];exact xH
 refine wpAny_execs_cons (wpAny_If (TrI.eq (a:=(L:Int)+1) (b:=((L+cnt:Nat):Int)) (EvI.bin (EvI.loc rfl rfl) EvI.const BinI.add) (EvI.loc rfl rfl) hE hF fun tk1=>?_))
 rcases hc with hc|⟨h1c,ih1,ih2⟩
 ·subst hc
  rw[if_pos (by rw[beq_iff_eq];lia)]
  refine wpAny_execs_cons (wpAny_Return_some (wpAny_Subscript_Name list_getitem_lookup (FrI.ld hE hF (v:=.ref D) rfl ?_)))
  refine wpAny_mono ((EvI.loc (x:="L") (i:=(L:Int)) rfl rfl).run _ env _ _ hE hF) (fun v s₂ hvs'=>?_) fun _ _ h=>h
  obtain⟨t2,tk3,hv,hs⟩:=hvs'
  subst hv;subst hs
  obtain⟨vs,⟨m,hv⟩,hi⟩:=hli1
  have hl:h₁.IsList D vs:=⟨_,hv,rfl,m,rfl⟩
  have hg:(ns.map fun (d:Nat)=>(d:Int))[L]?=some ((ns.getD L 0:Nat):Int):=by
   rw[List.getElem?_map,List.getElem?_eq_getElem (by lia:L<ns.length),List.getD_eq_getElem?_getD,List.getElem?_eq_getElem (by lia:L<ns.length)];rfl
  obtain⟨u,hu⟩:=IntsAre.get hi hg
  refine⟨hl.typeIs,wpAny_getItem_list hl (by lia) (by lia) (x:=.int (ns.getD L 0:Nat) u) (by simpa using hu) ?_⟩
  have e1:valN n (seg ns L 1)=ns.getD L 0:=by
   have hlt:L<ns.length:=by lia
   have h1:seg ns L 1=[ns[L]]:=by unfold seg;rw[List.drop_eq_getElem_cons hlt];rfl
   rw[h1,List.getD_eq_getElem?_getD,List.getElem?_eq_getElem hlt]
   show ns[L]+2^n*0=ns[L]
   rw[Nat.mul_zero];rfl
  rw[←e1]
  exact hQ _ _ _ hk
 ·rw[if_neg (by rw[beq_iff_eq];lia)]
  refine wpAny_execs_nil ?_
  have hsh:cnt/2*n≤2^24:=Nat.le_trans (Nat.mul_le_mul_right n (by lia)) hbits
  refine wpAny_execs_cons (StI.set (i:=((L+cnt/2:Nat):Int)) (EvI.conv (EvI.bin (EvI.bin (EvI.loc rfl rfl) (EvI.loc rfl rfl) BinI.add) EvI.const (BinI.rsh (by decide))) (zHg L cnt)) rfl hE hF fun h2 tk2 F2 k2=>?_)
  refine wpAny_execs_cons (StI.set (i:=((cnt/2*n:Nat):Int)) (EvI.conv (EvI.bin (EvI.bin (a:=((L+cnt/2:Nat):Int)) (b:=(L:Int)) (EvI.loc rfl rfl) (EvI.loc rfl rfl) BinI.sub) (EvI.free (t:=tN) rfl) (BinI.mul ?_)) ?_) rfl hE F2 fun h3 tk3 F3 k3=>?_)
  ·refine IntMulOk.of_le (m:=64) (n:=64) ?_ ?_ (by decide)
   ·rw[show((L+cnt/2:Nat):Int)-(L:Int)=((cnt/2:Nat):Int) by lia]
    refine zB.mpr ?_
    have:(2:Nat)^24<2^64:=by decide
    lia
   ·refine zB.mpr ?_
    have h1:n≤2^24:=Nat.le_trans (Nat.le_mul_of_pos_left n (by lia)) hbits
    have h2:(2:Nat)^24<2^64:=by decide
    lia
  ·rw[show((L+cnt/2:Nat):Int)-(L:Int)=((cnt/2:Nat):Int) by lia];push_cast;rfl
  have e3:∀b o,s.heap.get? b=some o→h3.get? b=some o:=fun b o e=>by
   have hb:b≠env.locals:=fun e'=>by rw[e',hfresh] at e;cases e
   exact k3 b o hb (k2 b o hb (hk b o e))
  have hin3:=hin.keep e3
  have hli3:=hli.keep e3
  have eR:L+cnt=L+cnt/2+(cnt-cnt/2):=by lia
  have hseg:valN n (seg ns L cnt)=valN n (seg ns L (cnt/2))+2^(n*(cnt/2))*valN n (seg ns (L+cnt/2) (cnt-cnt/2)):=by
   have:=zP9 ns L (cnt/2) (cnt-cnt/2)
   rw[show cnt/2+(cnt-cnt/2)=cnt by lia] at this
   rw[this,vA,zCl ns L _ (by lia)]
  have hv2:=zOy n M hn (seg ns (L+cnt/2) (cnt-cnt/2)) fun d hd=>hds d (zQm hd)
  rw[zCl ns _ _ (by lia)] at hv2
  refine wpAny_execs_cons (wpAny_Return_some (wpAny_BinOp (wpAny_BinOp ?_)))
  refine FrI.call hE F3 (f:="inner") (F:=F) rfl hin3.fn hd (EvsI.cons (i:=((L+cnt/2:Nat):Int)) (EvI.loc rfl rfl) (EvsI.cons (i:=((L+cnt:Nat):Int)) (EvI.loc rfl rfl) EvsI.nil)) fun vs tk6 hvs=>?_
  obtain⟨t1,t2,rfl⟩:=zG0 hvs
  rw[eR]
  refine ih2 (L+cnt/2) _ _ _ _ t1 t2 (by show A.depth+1+dep≤990;lia) hin3 hli3 (by lia) fun h6 tk7 t7 k6=>?_
  have F6:FrI env _ _ h6:=F3.keep fun b o e _=>k6 b o e
  refine wpAny_mono ((EvI.loc (x:="shift") (i:=((cnt/2*n:Nat):Int)) rfl rfl).run _ env _ _ hE F6) (fun v s₂ hvs'=>?_) fun _ _ h=>h
  obtain⟨t2,tk3,hv,hs⟩:=hvs'
  subst hv;subst hs
  refine wpAny_mono ((BinI.lsh (a:=((valN n (seg ns (L+cnt/2) (cnt-cnt/2)):Nat):Int)) (b:=((cnt/2*n:Nat):Int)) (by lia) ?_).run _ _ _ _ _) (fun v s₂ ⟨t3,tk4,hv,hs⟩=>?_) fun _ _ h=>h
  ·have:intBits ((valN n (seg ns (L+cnt/2) (cnt-cnt/2)):Nat):Int)≤M+n*(cnt-cnt/2):=zB.mpr hv2
   have h3:(2:Int)^27=134217728:=by decide
   have h4:(2:Nat)^24=16777216:=by decide
   have h5:n*(cnt-cnt/2)≤2^24:=Nat.le_trans (by rw[Nat.mul_comm];exact Nat.mul_le_mul_right n (by lia)) hbits
   lia
  subst hv;subst hs
  refine FrI.call hE F6 (f:="inner") (F:=F) rfl (k6 _ _ hin3.fn) hd (EvsI.cons (i:=(L:Int)) (EvI.loc rfl rfl) (EvsI.cons (i:=((L+cnt/2:Nat):Int)) (EvI.loc rfl rfl) EvsI.nil)) fun vs tk8 hvs=>?_
  obtain⟨t4,t5,rfl⟩:=zG0 hvs
  refine ih1 L _ _ _ _ t4 t5 (by show A.depth+1+dep≤990;lia) (hin3.keep k6) (hli3.keep k6) (by lia) fun h7 tk9 t9 k7=>?_
  refine wpAny_mono (BinI.add.run _ _ _ _ _) (fun v s₂ hvs'=>?_) fun _ _ h=>h
  obtain⟨t10,tk10,hv,hs⟩:=hvs'
  subst hv;subst hs
  have ev:((valN n (seg ns (L+cnt/2) (cnt-cnt/2)):Nat):Int)*2^((cnt/2*n:Nat):Int).toNat+((valN n (seg ns L (cnt/2)):Nat):Int)=((valN n (seg ns L cnt):Nat):Int):=by
   rw[wO,hseg,←Int.natCast_add,Nat.mul_comm (cnt/2) n,Nat.mul_comm (valN n _),Nat.add_comm]
  rw[ev]
  exact hQ _ _ _ fun b o e=>k7 b o (k6 b o (e3 b o e))
private theorem zBm{F D cA cI cN:Addr}{o:Obj}{qual:Str}{cl:List (Str×Addr)}{doc pm cv ctv:Value}{n M:Nat}{tN:Tok}{ns:List Nat}(hd:o.data=.func (fdJ qual cl doc pm cv ctv))
    (hA:cl.lookup ("digits":Str)=some cA) (hI:cl.lookup ("inner":Str)=some cI) (hN:cl.lookup ("n":Str)=some cN) (hn:0<n) (hM:M≤2^24) (hbits:ns.length*n≤2^24) (hlen:ns.length≤2^24) (hds:∀d∈ns,d<2^M) :
    ∀(f cnt:Nat),0<cnt→cnt≤2^f→D2i prog w F D cA cI cN o (fdJ qual cl doc pm cv ctv) n tN ns cnt (f+1)
  | 0,cnt,h0,h1=>D2i.step hd hA hI hN hn hM hbits hlen hds (.inl (by rw[Nat.pow_zero] at h1;lia))
  | f + 1, cnt, h0, h1 => by
    by_cases h:cnt=1
    · exact D2i.step hd hA hI hN hn hM hbits hlen hds (.inl h)
    · have h2:(2:Nat)^(f+1)=2*2^f:=by rw[Nat.pow_succ];lia
      exact D2i.step hd hA hI hN hn hM hbits hlen hds (.inr ⟨by lia,zBm hd hA hI hN hn hM hbits hlen hds f _ (by lia) (by lia),zBm hd hA hI hN hn hM hbits hlen hds f _ (by lia) (by lia)⟩)
end Wk
end
section
open PySem PyProof.Rows
set_option maxHeartbeats 400000
set_option autoImplicit false
set_option linter.unusedVariables false
namespace Wk
private theorem zO9(a b H:Nat)(hb:0<b):a/b=(a/H/b)*H+((a/H%b)*H+a%H)/b∧a%b=((a/H%b)*H+a%H)%b:=by
 have e1:a=b*(a/H/b*H)+((a/H%b)*H+a%H):=by
  have h1:=Nat.div_add_mod a H
  have h2:=Nat.div_add_mod (a/H) b
  generalize a/H/b=q at *
  generalize a/H%b=r at *
  generalize a%H=s at *
  rw[←h2] at h1
  generalize a/H=d at *
  grind
 have e2:=e1
 generalize (a/H%b)*H+a%H=m at *
 generalize a/H/b*H=c at *
 subst e1
 exact⟨by rw[Nat.mul_add_div hb],by rw[Nat.mul_add_mod]⟩
private theorem zN1(a12 a3 b1 b2 N:Int):a12*N+a3=(N-1)*(b1*N+b2)+((a12-b1*N+b1)*N+a3-(N-1)*b2):=by grind
private theorem zNo(a12 a3 b1 b2 N q r:Int)(h:a12=q*b1+r):a12*N+a3=q*(b1*N+b2)+(r*N+a3-q*b2):=by subst h;grind
private theorem zF5(A b:Nat)(q R:Int)(hb:0<b)(h:(A:Int)=q*b+R)(h0:0≤R)(h1:R<b):(q,R)=(((A/b:Nat):Int),((A%b:Nat):Int)):=by
 have e1:(A:Int)/b=q:=by
  rw[h,Int.add_comm,Int.add_mul_ediv_right _ _ (by lia),Int.ediv_eq_zero_of_lt h0 h1,Int.zero_add]
 have e2:(A:Int)%b=R:=by
  have:=Int.mul_ediv_add_emod (A:Int) b
  rw[e1] at this
  have h3:(b:Int)*q=q*b:=Int.mul_comm _ _
  lia
 rw[←e1,←e2];rfl
end Wk
end
section
open PySem PySem.W PyProof.Rows
set_option maxHeartbeats 400000
set_option maxRecDepth 100000
set_option autoImplicit false
set_option linter.unusedVariables false
namespace Wk
variable{prog:Program}{w:World}{W:Wd}{k:Nat}{K:List (Str×NameKind)}{ρ ρ':Rho}{pos p apos:Pos}
private theorem zO1{vs:List Value}{ns:List Int}(h:IntsAre vs ns):vs.length=ns.length:=by
 induction h with
 | nil=>rfl
 | cons n t _ ih=>simp[ih]
private theorem zMw{vs:List Value}{ns:List Int}(h:IntsAre vs ns):∀{j:Nat} {i:Int},ns[j]?=some i→∃t,vs[j]?=some (.int i t):=by
  induction h with
  | nil=>intro j i e;simp at e
  | cons n t _ ih =>
    intro j i e
    cases j with
    | zero=>simp at e;subst e;exact⟨t,rfl⟩
    | succ j=>simp at e;obtain⟨u,hu⟩:=ih e;exact⟨u,by simpa using hu⟩
private theorem Iter.of_walks2{A:Around}{I l:Addr}{n:Nat}{P:Nat→Value→Prop}{S:Nat→Heap→Prop}{ds:List PyData}{Z:Addr→Prop}(V:Walks prog w A I [I,l] [I] n P S)(hn:n=ds.length)(zI:Z I)(zl:Z l)
  (hP:∀i v d,P i v→ds[i]?=some d→∀Y h,Rd Y h v d) (hl:∀i h,S i h→uQ I h):Iter prog w A I Z ds S where
 zI:=zI
 frame:=fun i h h' hS hk=>V.frame i h h' hS fun b hb o e=>by
  rcases List.mem_cons.mp hb with hb|hb
  ·subst hb;exact hk _ o zI e
  ·rw[List.mem_singleton] at hb;subst hb;exact hk _ o zl e
 item:=fun i s E d hd hS=>V.item i s _ _ (by rw[hn];exact(List.getElem?_eq_some_iff.mp hd).1) hS fun v h' tk hv hS' hk=>⟨v,h',tk,rfl,rfl,hP i v d hv hd _ _,hS',fun b o hb e=>hk b o (by simpa using hb) e⟩
 done:=fun s E hS=>V.done s _ _ (by rw[hn];exact hS) fun h' tk hk=>⟨h',tk,rfl,rfl,fun b o hb e=>hk b o (by simpa using hb) e⟩
 live:=hl
 self:=V.self
private theorem Itr.revints{e:PySem.Expr}{ns:List Int}(hK:K.lookup ("reversed":Str)=some .globalImplicit)(hg:W.mg "reversed"=none)(hb:W.mb "reversed"=some (.type "reversed"))(h:Ev prog w W k K ρ e (.list (zA ns)))
  (he:∀env,backTo pos (starEach [e] env)=[(false,eval e env)]:=by intro _;rfl):Itr prog w W k K ρ (.Call (.Name "reversed" p) [e] [] pos) (zA ns.reverse):=.mk fun A s₀ X₀ env X s E R hk x=>by
 refine wpAny_Call_NameR (Calls.Name_function_global x.fk (by rw[←hk] at hK;exact hK) (Calls.loadGlobal_builtin (by rw[x.gl];exact W.inv_ns _ x.inv) hg (by rw[x.bu];exact W.inv_nb _ x.inv) hb ?_))
 rw[he]
 refine PySem.callWith_type rfl (Calls.evalArgs_plain (Calls.spliced_cons (wpAny_mono (h.run A s₀ X₀ env X s E R hk x) (fun v₁ s₁ ⟨hv,e1⟩=>Calls.spliced_nil ?_) fun _ _ e=>e)))
 obtain⟨a,vs,rfl,hx,hl,ha⟩:=Rd.l hv
 have x1:=x.step e1
 have hi:IntsAre vs.toList ns:=ha.ints
 have hsz:vs.size=ns.length:=by
  have:vs.toList.length=ns.length:=zO1 hi
  simpa using this
 have hne:a≠s₁.heap.objs.size:=fun e=>by obtain⟨n,e'⟩:=hl;exact Nat.lt_irrefl _ (e▸Heap.lt_size e')
 refine call_reversed_list hl.isList ?_
 have hI:(s₁.heap.push (revObj a ((vs.size:Int)-1))).get? s₁.heap.objs.size=some (revObj a ((vs.size:Int)-1)):=Heap.get?_push_size _ rfl
 have hit:(s₁.heap.push (revObj a ((vs.size:Int)-1))).IsRevIter s₁.heap.objs.size a ((vs.size:Int)-1):=⟨_,hI,rfl,rfl⟩
 have k2:∀b o,s₁.heap.get? b=some o→(s₁.heap.push (revObj a ((vs.size:Int)-1))).get? b=some o:=fun b o e=>Heap.get?_push_of_some _ e
 refine wpAny_pyIter_revIter hit ⟨_,fun b=>b=s₁.heap.objs.size∨b=a,_,rfl,fun A' hA'=>Iter.of_walks2 (Walks.listRev hA' _ a hne vs) ?_ (.inl rfl) (.inr rfl) ?_ ?_,?_,e1.trans (.of_heap (tk:=s₁.toks) e1.inv k2),wJ e1 xH,fun b hb=>?_⟩
 ·simp[zA,hsz]
 ·intro i v d hv hd Y h
  have hlt:i<ns.length:=by have:=(List.getElem?_eq_some_iff.mp hd).1;simpa [zA] using this
  have hd':(zA ns.reverse)[i]?=some (.int (ns.getD (ns.length-1-i) 0)):=by
   rw[zA,List.getElem?_map,List.getElem?_reverse hlt,List.getD_eq_getElem?_getD,List.getElem?_eq_getElem (by omega:ns.length-1-i<ns.length)];rfl
  rw[hd'] at hd;cases hd
  have hv':vs.toList[ns.length-1-i]?=some v:=by rw[hsz] at hv;simpa using hv
  have hg:ns[ns.length-1-i]?=some (ns.getD (ns.length-1-i) 0):=by
   rw[List.getD_eq_getElem?_getD,List.getElem?_eq_getElem (by omega:ns.length-1-i<ns.length)];rfl
  obtain⟨t,ht⟩:=zMw hi hg
  rw[hv'] at ht;cases ht
  exact .int _ t
 ·rintro i h ⟨_,⟨o,ho,hc,_⟩,_⟩
  exact⟨o,_,ho,hc,by decide⟩
 ·refine⟨Nat.zero_le _,?_,hl.isList.at fun o e=>k2 _ o e⟩
  have e0:(vs.size:Int)-1-((0:Nat):Int)=(vs.size:Int)-1:=by omega
  rw[e0];exact hit
 ·rcases hb with rfl|rfl
  ·exact⟨wT x1.xs,_,hI⟩
  ·obtain⟨n,e⟩:=hl;exact⟨hx,_,k2 _ _ e⟩
end Wk
end
section
open PySem PyProof.Rows
set_option maxHeartbeats 400000
set_option autoImplicit false
set_option linter.unusedVariables false
namespace Wk
variable{prog:Program}{w:World}{W:Wd}{k:Nat}{K:List (Str×NameKind)}{ρ ρ':Rho}{pos p:Pos}
private theorem Ex.ite2{t:PySem.Expr}{a b:List Stmt}(c:Bool)(h:Tr prog w W k K ρ t c)(ha:c=true→Sx prog w W k K ρ a (.next ρ'))(hb:c=false→Sx prog w W k K ρ b (.next ρ')):Ex prog w W k K ρ (.If t a b pos) (.next ρ'):=by
 cases c
 ·exact .ite_f h (hb rfl)
 ·exact .ite_t h (ha rfl)
private theorem Sub.all{ρ:Rho}:∀{r:Rho},(r.map fun p=>ρ.lookup p.1)=(r.map fun p=>some p.2)→Sub r ρ
  | [],_=>Sub.nil
  | _ :: _, h => by
    rw[List.map_cons,List.map_cons] at h
    exact Sub.cons (List.cons.inj h).1 (Sub.all (List.cons.inj h).2)
private theorem it0{d:PyData}{ds:List PyData}:Itm prog w W (.tuple (d::ds)) (.int 0) d:=zB8 (j:=0) (by decide) (by decide) (yQ rfl (Nat.zero_lt_succ _)) rfl
private theorem it1{d e:PyData}{ds:List PyData}:Itm prog w W (.tuple (d::e::ds)) (.int 1) e:=zB8 (j:=1) (by decide) (by decide) (yQ rfl (Nat.succ_lt_succ (Nat.zero_lt_succ _))) rfl
private theorem it2{d e f:PyData}{ds:List PyData}:Itm prog w W (.tuple (d::e::f::ds)) (.int 2) f:=zB8 (j:=2) (by decide) (by decide) (yQ rfl (Nat.succ_lt_succ (Nat.succ_lt_succ (Nat.zero_lt_succ _)))) rfl
end Wk
end
section
open PySem PySem.W PyProof.Rows
set_option maxHeartbeats 400000
set_option autoImplicit false
set_option linter.unusedVariables false
namespace Wk
noncomputable def jC{α:Type}(n:Nat)(lt:Nat→Nat→Bool):KasT α→Option α
 | .ret a=>some a
 | .ask i j k=>if i<n∧j<n∧i≠j then jC n lt (k (lt i j)) else none
private theorem zBl{α:Type}{n:Nat}{lt:Nat→Nat→Bool}{cmp:Nat→Nat→(Bool→Shared→Prop)→Shared→Prop}{s:Shared}{Q:α→Shared→Prop}{a:α}
    (h:∀i j C,i<n→j<n→i≠j→C (lt i j) s→cmp i j C s) (hQ:Q a s):∀t:KasT α,jC n lt t=some a→t.kasWp cmp Q s
  | .ret b,e=>by cases e;exact hQ
  | .ask i j k, e => by
    unfold jC at e
    by_cases hc:i<n∧j<n∧i≠j
    · rw[if_pos hc] at e
      exact h i j _ hc.1 hc.2.1 hc.2.2 (zBl h hQ (k (lt i j)) e)
    · rw[if_neg hc] at e;cases e
noncomputable def zAi(ks:List Int):Option (Array Nat):=jC ks.length (fun i j=>decide (ks.getD i 0<ks.getD j 0)) (kas_sort ks.length)
section
variable{prog:Program}{w:World}{A:Around}{E:Value→Shared→Prop}{s:Shared}
private theorem zJm{a:Addr}{vs out:List Value}{n:Nat}{κ:SortKind}{P:PySem.Fin→Shared→Prop}(ho:s.heap.get? a=some (seqObj "list" vs.toArray n))(h64:vs.length<64)(hout:out.length=vs.length)(hshort:vs.length<2→out=vs)
  (hk:2≤vs.length→∀h':Heap,(∀b o,b≠a→s.heap.get? b=some o→h'.get? b=some o)→∀Q:SortKind→Shared→Prop,Q κ {s with heap:=h'}→wpAny (model prog w) A (keyKind' vs.toArray) Q E {s with heap:=h'})
  (hr:2≤vs.length→∀h':Heap,(∀b o,b≠a→s.heap.get? b=some o→h'.get? b=some o)→∀Q:SortSt→Shared→Prop,(∀st',(arrOf st').map (·.2)=out.toArray→failedOf st'=none→Q st' {s with heap:=h'}) →
   wpAny (model prog w) A ((sortRuns').run (SortSt.mk' κ (vs.toArray.zip vs.toArray) #[] 7 none)) (fun r s'=>Q r.2 s') E {s with heap:=h'})
  (h:P (.done (.ret .none)) {s with heap:=sortedHeap s.heap a vs out.toArray}):wpAny (model prog w) A (Builtin.«list.sort» ⟨[.ref a],[]⟩) P E s:=by
 have ha:a<s.heap.objs.size:=Heap.lt_size ho
 rw[list_sort_plain]
 refine wpAny_bind (listItems_at ho rfl (wpAny_bind (listUpdate_at ho rfl ?_)))
 obtain⟨e1,ho1⟩:∃e1,(s.heap.update a (Obj.mapSeq fun _=>(#[]:Array Value))).get? a=some (seqObj "list" #[] e1):=⟨_,get?_update_seq ho fun _=>#[]⟩
 refine wpAny_bind (seqEpoch_at ho1 rfl (wpAny_bind (wpAny_newTuple (wpAny_bind (wpAny_newList (wpAny_holding ?_))))))
 generalize hH:((s.heap.update a (Obj.mapSeq fun _=>(#[]:Array Value))).push (seqObj "tuple" vs.toArray 0)).push (seqObj "list" #[] 0)=H
 have hs':sortedHeap s.heap a vs out.toArray=H.update a (Obj.mapSeq fun _=>out.toArray):=by rw[←hH];rfl
 have n1:a≠(s.heap.update a (Obj.mapSeq fun _=>(#[]:Array Value))).objs.size:=by rw[Heap.size_update];exact Nat.ne_of_lt ha
 have n2:a≠((s.heap.update a (Obj.mapSeq fun _=>(#[]:Array Value))).push (seqObj "tuple" vs.toArray 0)).objs.size:=by rw[size_push',Heap.size_update];exact Nat.ne_of_lt (Nat.lt_succ_of_lt ha)
 have ho6:=ho1
 rw[←Heap.get?_push_ne _ a (seqObj "tuple" vs.toArray 0) n1,←Heap.get?_push_ne _ a (seqObj "list" #[] 0) n2,hH] at ho6
 have keep:∀b o,b≠a→s.heap.get? b=some o→H.get? b=some o:=fun b o hb e=>by
  rw[←hH]
  exact Heap.get?_push_of_some _ (Heap.get?_push_of_some _ ((Heap.get?_update_ne _ _ _ _ hb).trans e))
 show wpAny (model prog w) A _ P E {s with heap:=H}
 have hsz:vs.toArray.size=vs.length:=by simp
 have fin:∀st':SortSt,(arrOf st').map (·.2)=out.toArray→failedOf st'=none→wpAny (model prog w) A (do
   let touched:=(← seqEpoch a) != e1
   Builtin.List.listUpdate (.ref a) fun _=>(arrOf st').map (·.2)
   if let some e:=failedOf st' then rule "list.sort.comparison-raised";throw e
   if touched then rule "list.sort.modified";raiseError "ValueError" "list modified during sort"
   ret .none) P E {s with heap:=H}:=fun st' g1 g2=>by
  refine wpAny_bind (seqEpoch_at ho6 rfl ?_)
  refine wpAny_bind (listUpdate_at ho6 rfl ?_ (Nat.zero_le _) (by rw[g1,List.size_toArray,hout,sizeLine_eq];omega))
  rw[g2]
  simp only[bne_self_eq_false,Bool.false_eq_true,if_false]
  refine wpAny_pure ?_
  rw[g1,←hs'];exact h
 by_cases h2:vs.length<2
 ·have h2':vs.toArray.size<2:=by rw[hsz];exact h2
  dsimp only
  rw[if_pos h2',if_pos h2']
  refine wpAny_bind (wpAny_pure ?_)
  rw[StateT.run_pure]
  refine wpAny_bind (wpAny_pure ?_)
  refine fin (SortSt.mk' general' (vs.toArray.zip vs.toArray) #[] 7 none) ?_ rfl
  rw[hshort h2]
  show(vs.toArray.zip vs.toArray).map (·.2)=vs.toArray
  apply Array.toList_inj.mp
  simp[List.map_snd_zip]
 ·have h2':¬ vs.toArray.size<2:=by rw[hsz];exact h2
  dsimp only
  rw[if_neg h2',if_neg h2']
  refine wpAny_bind (hk (Nat.not_lt.mp h2) H keep _ ?_)
  refine wpAny_bind (wpAny_mono (hr (Nat.not_lt.mp h2) H keep (fun st' s'=>(arrOf st').map (·.2)=out.toArray∧failedOf st'=none∧s'={s with heap:=H}) (fun st' a1 a2=>⟨a1,a2,rfl⟩)) (fun r s' hr=>?_) fun _ _ x=>x)
  obtain⟨a1,a2,rfl⟩:=hr
  obtain⟨⟨⟩,st'⟩:=r
  exact fin st' a1 a2
private theorem zGc{l:Addr}{vs out:List Value}{κ:SortKind}{Q:Value→Shared→Prop}(hl:s.heap.IsList l vs.toArray)(h64:vs.length<64)(hout:out.length=vs.length)(hshort:vs.length<2→out=vs)
  (hk:2≤vs.length→∀h':Heap,(∀b o,s.heap.get? b=some o→h'.get? b=some o)→∀(Q:SortKind→Shared→Prop) E,Q κ {s with heap:=h'}→wpAny (model prog w) A.in1.in1 (keyKind' vs.toArray) Q E {s with heap:=h'})
  (hr:2≤vs.length→∀h':Heap,(∀b o,s.heap.get? b=some o→h'.get? b=some o)→∀(Q:SortSt→Shared→Prop) E,(∀st',(arrOf st').map (·.2)=out.toArray→failedOf st'=none→Q st' {s with heap:=h'}) →
   wpAny (model prog w) A.in1.in1 ((sortRuns').run (SortSt.mk' κ (vs.toArray.zip vs.toArray) #[] 7 none)) (fun r s'=>Q r.2 s') E {s with heap:=h'})
  (h:Q (.ref (s.heap.objs.size+1)) {s with heap:=sortedAll s.heap vs out.toArray}):wpAny (model prog w) A (call (.builtin "sorted") [.ref l]) Q E s:=by
 refine Calls.call_function_entry kind_sorted plain_sorted entry_sorted (args_sorted1 _) ?_
 unfold Builtin.«sorted»
 refine wpAny_bind (m:=checkCount "sorted" 1 1 _) (wpAny_pure ?_)
 refine wpAny_bind (collect_list hl ?_ (by rw[sizeLine_eq];omega))
 refine wpAny_bind (wpAny_newList ?_ (by rw[sizeLine_eq];omega))
 have hsz:((s.heap.push (seqObj "list" #[] 0)).update s.heap.objs.size (Obj.mapSeq (· ++ vs.toArray))).objs.size=s.heap.objs.size+1:=by rw[Heap.size_update,size_push']
 have hoL:(((s.heap.push (seqObj "list" #[] 0)).update s.heap.objs.size (Obj.mapSeq (· ++ vs.toArray))).push (seqObj "list" vs.toArray 0)).get? (s.heap.objs.size+1)=some (seqObj "list" vs.toArray 0):=by
  rw[←hsz];exact Heap.get?_push_size _ rfl
 have keep:∀b o,s.heap.get? b=some o→b≠s.heap.objs.size+1∧(((s.heap.push (seqObj "list" #[] 0)).update s.heap.objs.size (Obj.mapSeq (· ++ vs.toArray))).push (seqObj "list" vs.toArray 0)).get? b=some o:=fun b o e=>by
  have hlt:=Heap.lt_size e
  exact⟨Nat.ne_of_lt (Nat.lt_succ_of_lt hlt),Heap.get?_push_of_some _ ((Heap.get?_update_ne _ _ _ _ (Nat.ne_of_lt hlt)).trans (Heap.get?_push_of_some _ e))⟩
 show wpAny _ _ _ _ _ {s with heap:=((s.heap.push (seqObj "list" #[] 0)).update s.heap.objs.size (Obj.mapSeq (· ++ vs.toArray))).push (seqObj "list" vs.toArray 0)}
 rw[hsz]
 refine wpAny_bind (wpAny_holding (wpAny_call_entry slot_list_sort ⟨_,hoL,rfl⟩ entry_list_sort (zJm (κ:=κ) (out:=out) hoL h64 hout hshort (fun h2 h' k Q hq=>hk h2 h' (fun b o e=>k b o (keep b o e).1 (keep b o e).2) Q _ hq) (fun h2 h' k Q hq=>hr h2 h' (fun b o e=>k b o (keep b o e).1 (keep b o e).2) Q _ hq) ⟨_,rfl,?_⟩) (args_list_sort _)))
 exact wpAny_pure ⟨_,rfl,h⟩
noncomputable def zKb(h:Heap)(vs:List Value)(ks:List Int):Prop:=∀i:Nat,i<vs.length→∃a xs t,vs[i]?=some (.ref a)∧zNg h a xs∧xs[0]?=some (.int (ks.getD i 0) t)
private theorem zKb.tups{h:Heap}:∀{vs:List Value} {ks:List Int},zKb h vs ks→∃fs:List Value,KatTups h vs fs∧fs.length=vs.length∧∀v∈fs,∃k t,v=.int k t
  | [],ks,_=>⟨[],KatTups.nil,rfl,fun _ h=>nomatch h⟩
  | v :: vs, ks, T => by
    obtain⟨a,xs,t,e,⟨n,ha⟩,h0⟩:=T 0 (Nat.succ_pos _)
    cases e
    obtain⟨fs,h1,h2,h3⟩:=zKb.tups (vs:=vs) (ks:=ks.tail) fun i hi=>by
      obtain⟨a,xs,t,e,ha,h0⟩:=T (i+1) (Nat.succ_lt_succ hi)
      refine⟨a,xs,t,e,ha,?_⟩
      rw[h0];congr 2
      cases ks <;> rfl
    exact⟨_,KatTups.cons ha rfl rfl h0 h1,congrArg Nat.succ h2,fun v hv=>(List.mem_cons.mp hv).elim (fun e=>⟨_,_,e⟩) (h3 v)⟩
end
variable{prog:Program}{w:World}{W:Wd}
private theorem RdAll.pick{X:Addr→Prop}{h:Heap}{vs:List Value}{ds:List PyData}(a:RdAll X h vs ds):∀L:List Nat,(∀i∈L,i<ds.length)→RdAll X h (L.map fun i=>vs.getD i .none) (L.map fun i=>ds.getD i .none)
  | [],_=>.nil
  | i :: L, hL => by
    have hi:=hL i List.mem_cons_self
    obtain⟨v,e1,e2⟩:=a.get (List.getElem?_eq_getElem hi)
    refine .cons ?_ (RdAll.pick a L fun j hj=>hL j (List.mem_cons_of_mem _ hj))
    show Rd X h (vs.getD i .none) (ds.getD i .none)
    rw[List.getD_eq_getElem?_getD,List.getD_eq_getElem?_getD,e1,List.getElem?_eq_getElem hi];exact e2
private theorem zCs{α:Type}(d:α)(L:List α):((List.range L.length).map fun i=>L.getD i d)=L:=by
 refine List.ext_getElem? fun i=>?_
 rw[List.getElem?_map]
 by_cases h:i<L.length
 ·rw[List.getElem?_range h,List.getElem?_eq_getElem h];simp[h]
 ·rw[List.getElem?_eq_none (by simpa using h),List.getElem?_eq_none (by simpa using h)];rfl
private theorem zLm{k:Nat}{ds:List PyData}{ks:List Int}{p:Array Nat}(h64:ds.length<64)(hkl:ks.length=ds.length)(hds:∀i,i<ds.length→∃r,ds[i]?=some (.tuple (.int (ks.getD i 0)::r)))
  (hne:∀i j,i<ks.length→j<ks.length→i≠j→ks.getD i 0≠ks.getD j 0) (hp:2≤ds.length→zAi ks=some p) (hp1:ds.length<2→p.toList=List.range ds.length) (hpl:p.toList.length=ds.length) (hpm:∀i∈p.toList,i<ds.length) :
  Fun prog w W k (.builtin "sorted") [.list ds] (.list (p.toList.map fun i=>ds.getD i .none)):=fun A X s vs E R inv tx xs h=>by
 obtain⟨_,_,rfl,h1,h2⟩:=RdAll.c h
 obtain rfl:=h2.n
 obtain⟨a,vs,rfl,hx,hl,ha⟩:=Rd.l h1
 have hlen:vs.toList.length=ds.length:=ha.length
 have T:∀h':Heap,(∀b o,s.heap.get? b=some o→h'.get? b=some o)→zKb h' vs.toList ks:=fun h' kp i hi=>by
  obtain⟨r,hd⟩:=hds i (hlen▸hi)
  obtain⟨v,e1,e2⟩:=ha.get hd
  obtain⟨b,xs,rfl,_,⟨n,ht⟩,hxs⟩:=Rd.tp e2
  obtain⟨v0,r0,e3,e4,_⟩:=RdAll.c hxs
  obtain⟨t,rfl⟩:=e4.i
  exact⟨b,xs,t,e1,⟨n,kp _ _ ht⟩,by rw[←Array.getElem?_toList,e3];rfl⟩
 have hl':s.heap.IsList a vs.toList.toArray:=by simpa using hl.isList
 have hmap:RdAll X s.heap (p.toList.map fun i=>vs.toList.getD i .none) (p.toList.map fun i=>ds.getD i .none):=ha.pick _ hpm
 refine zGc (κ:=tuples' (Value.type "int" != Value.type "tuple")) (out:=p.toList.map fun i=>vs.toList.getD i .none) hl' (hlen▸h64) ?_ (fun hs=>by rw[hp1 (hlen▸hs),←hlen,zCs]) (fun h2 h' kp Q E' hQ=>?_) (fun h2 h' kp Q E' hQ=>?_) ?_
 ·rw[List.length_map,hpl,hlen]
 ·obtain⟨fs,f1,f2,f3⟩:=zKb.tups (T h' kp)
  exact kat_kind (s:={s with heap:=h'}) f1 (by rw[f2];omega) (fun v hv=>by obtain⟨k,t,rfl⟩:=f3 v hv;exact .now) rfl hQ
 ·have hp':=hp (hlen▸h2)
  refine kat_run (s:={s with heap:=h'}) (κ:=_) (ks:=vs.toList) (vs:=vs.toList) (G:=fun q s'=>q=p∧s'={s with heap:=h'}) rfl h2 (hlen▸h64) (fun q st' s' _ har hf ⟨e1,e2⟩=>?_) (zBl (n:=ks.length) (lt:=fun i j=>decide (ks.getD i 0<ks.getD j 0)) (a:=p) (fun i j C hi hj hij hC=>?_) ⟨rfl,rfl⟩ _ ?_)
  ·subst e1 e2
   refine hQ st' ?_ hf
   rw[kat_snds rfl har]
  ·obtain⟨b,xs,t,e1,⟨n,b1⟩,b2⟩:=T h' kp i (by omega)
   obtain⟨c,ys,u,e2,⟨m,c1⟩,c2⟩:=T h' kp j (by omega)
   unfold kas_ask
   rw[List.getD_eq_getElem?_getD,List.getD_eq_getElem?_getD,e1,e2]
   refine kat_lt (s:={s with heap:=h'}) b1 rfl c1 rfl ?_
   obtain⟨xr,ex⟩:∃r,xs.toList=.int (ks.getD i 0) t::r:=by
    rw[←Array.getElem?_toList] at b2
    cases hx:xs.toList with
    | nil=>rw[hx] at b2;cases b2
    | cons v r=>rw[hx] at b2;cases b2;exact⟨r,rfl⟩
   obtain⟨yr,ey⟩:∃r,ys.toList=.int (ks.getD j 0) u::r:=by
    rw[←Array.getElem?_toList] at c2
    cases hx:ys.toList with
    | nil=>rw[hx] at c2;cases c2
    | cons v r=>rw[hx] at c2;cases c2;exact⟨r,rfl⟩
   rw[ex,ey,List.zip_cons_cons]
   refine kat_cons (wpAny_eqBool_int ?_)
   rw[beq_eq_false_iff_ne.mpr (hne i j hi hj hij)]
   exact kat_no (oneLt_int hC)
  ·unfold zAi at hp'
   rw[show vs.toList.length=ks.length by omega];exact hp'
 ·obtain⟨e,he⟩:=sortedAll_at s.heap vs.toList (p.toList.map fun i=>vs.toList.getD i .none).toArray
  have kp:∀b o,s.heap.get? b=some o→(sortedAll s.heap vs.toList (p.toList.map fun i=>vs.toList.getD i .none).toArray).get? b=some o:=fun b o e=>sortedAll_old e
  refine⟨.list (kQ xs ?_) ⟨e,he⟩ ?_,.of_heap (tk:=s.toks) inv kp⟩
  ·cases e':s.heap.get? (s.heap.objs.size+1) with
   | none=>rfl
   | some o=>exact absurd (Heap.lt_size e') (Nat.not_lt.mpr (Nat.le_succ _))
  ·exact hmap.frame (Fram.of_get kp)
end Wk
end
section
open PySem PySem.W PyProof.Rows
set_option maxHeartbeats 400000
set_option maxRecDepth 100000
set_option autoImplicit false
set_option linter.unusedVariables false
namespace Wk
variable{prog:Program}{w:World}{W:Wd}{k:Nat}{K:List (Str×NameKind)}{ρ ρ':Rho}{pos p apos:Pos}
private theorem zNf{A:Around}{E:Value→Shared→Prop}{s:Shared}{X:Addr→Prop}{F c':Addr}{name qual y:Str}{params:Arguments}{body:PySem.Expr}{scope:Scope}{pm ctv v:Value}{d r:PyData}
  (R:Room (k+1) A) (inv:W.Inv s.heap) (tx:∀b,W.Ts b→X b) (xs:∀b,X b→∃o,s.heap.get? b=some o) (hv:Rd X s.heap v d)
  (ho:s.heap.get? F=some (kla_obj name qual params body scope [] pm c' ctv)) (hcd:s.heap.CodeRec (.ref c') qual)
  (hbind:bindArgs (kla_fn name qual params body scope [] pm (.ref c') ctv) ⟨[v],[]⟩=pure [(y,v)])
  (hy:scope.names.lookup y=some .local) (hnc:∀x∈scope.names,x.2 ≠ .cell) (hco:scope.isCoroutine=false) (hgen:scope.isGenerator=false) (hk:scope.kind=.function)
  (h:Ev prog w W k scope.names [(y,.v d)] body r):wpAny (model prog w) A (call (.ref F) [v]) (fun u s'=>Rd X s'.heap u r∧W.Ext s s') E s:=by
 have hL:∀c,s.heap.objs.size≤c→s.heap.get? c=none:=fun c hc=>by
  cases e:s.heap.get? c with
  | none=>rfl
  | some o=>exact absurd (Heap.lt_size e) (Nat.not_lt.mpr hc)
 refine wpAny_call (kla_callFunE (by have:=R.2.1;show A.depth<1000;lia) ho rfl hco hgen rfl hcd ?_)
 rw[hbind]
 refine wpAny_pure (wpAny_newFunctionEnv hnc (fun x hx=>by rw[List.mem_singleton.mp hx];exact hy) (fun h₁ hns hsb=>?_) hk)
 have kp:∀b o,s.heap.get? b=some o→h₁.get? b=some o:=fun b o e=>(hsb.2 b (Nat.ne_of_lt (Heap.lt_size e))).trans (Heap.get?_push_of_some _ e)
 refine⟨(W.inv_lim _ inv).keeps kp,kla_codeExpr ?_⟩
 generalize hE:newEnv scope s.heap.objs.size mainGlobals [] (qual ++ ".<locals>.") (some F) (.ref c') none builtinsNs=env
 have e1:env.scope=scope:=by rw[←hE];rfl
 have e2:env.locals=s.heap.objs.size:=by rw[←hE];rfl
 have e3:env.cells=[]:=by rw[←hE];rfl
 have R':Room k (A.deeper env):=⟨R.1,by have:=R.2.1;show A.depth+1+k≤990;lia,by have:=R.2.2;show A.units+3+10*k≤9000;lia⟩
 have ex:W.Ext s {s with heap:=h₁,toks:=s.toks+1}:=.of_heap inv kp
 have hns':h₁.Ns env.locals (fun x=>[(y,v)].reverse.lookup x):=by rw[e2];exact hns
 have x0:St W s X env [(y,.v d)] (fun b=>X b∨b=env.locals) {s with heap:=h₁,toks:=s.toks+1}:=by
  refine⟨inv,ex,e1▸hk,by rw[←hE];rfl,by rw[←hE];rfl,e2▸hL _ (Nat.le_refl _),.inr rfl,fun b hb=>.inl hb,tx,fun b hb=>?_,fun z hz=>?_,fun z z' c h1 _=>(by rw[e3] at h1;cases h1),_,hns',fun z sl hz=>?_,fun z z' ds es a hz _ _ _=>?_⟩
  ·rcases hb with hb|rfl
   ·obtain⟨o,e⟩:=xs b hb;exact⟨o,kp b o e⟩
   ·obtain⟨o,_,_,e,_⟩:=hns';exact⟨o,e⟩
  ·have hz':scope.names.lookup z=some .cell:=by rw[←e1];exact hz
   exact absurd rfl (hnc _ (mem_of_lookup hz'))
  ·rw[List.lookup_cons] at hz
   by_cases e:z=y
   ·subst e
    rw[beq_self_eq_true] at hz;cases hz
    refine⟨v,.inl ⟨by show env.scope.names.lookup _=_;rw[e1];exact hy,by simp⟩,hv.frame fun b o hb e _=>⟨kp b o e,?_⟩⟩
    rintro(h|rfl)
    ·exact hb h
    ·rw[e2,hL _ (Nat.le_refl _)] at e;cases e
   ·rw[beq_eq_false_iff_ne.mpr e] at hz;cases hz
  ·rw[List.lookup_cons] at hz
   by_cases e:z=y
   ·subst e
    rw[beq_self_eq_true] at hz;cases hz
   ·rw[beq_eq_false_iff_ne.mpr e] at hz;cases hz
 refine wpAny_mono (h.run _ s X env _ _ _ R' (by rw[e1]) x0) (fun u s₂ ⟨h1,h2⟩=>?_) fun _ _ h=>h
 exact⟨h1.frame (Fram.mono fun b hb=>.inl hb),ex.trans h2⟩
end Wk
namespace Wk
variable{prog:Program}{w:World}{W:Wd}{A:Around}{E:Value→Shared→Prop}
structure Perm1(ks:List Int)(p:Array Nat)(n:Nat):Prop where
 len:ks.length=n
 go:2≤n→zAi ks=some p
 small:n<2→p.toList=List.range n
 pl:p.toList.length=n
 pm:∀i∈p.toList,i<n
private theorem zJ9{s:Shared}{a F:Addr}{vs:List Value}{ks:List Int}{p:Array Nat}{n:Nat}{P:PySem.Fin→Shared→Prop}(inv:W.Inv s.heap)(hnB:¬ W.B a)(ho:s.heap.get? a=some (seqObj "list" vs.toArray n))(h64:vs.length<64)(hp:Perm1 ks p vs.length)
  (hcall:∀i v,vs[i]?=some v→∀s1:Shared,W.Inv s1.heap→(∀b o,b≠a→¬ W.Ts b→s.heap.get? b=some o→s1.heap.get? b=some o)→∀E',wpAny (model prog w) A (call (.ref F) [v]) (fun r s2=>(∃t,r=.int (ks.getD i 0) t)∧W.Ext s1 s2) E' s1)
  (h:∀h' tk e,W.Inv h'→(∀b o,b≠a→¬ W.Ts b→s.heap.get? b=some o→h'.get? b=some o)→h'.get? a=some (seqObj "list" (p.toList.map fun i=>vs.getD i Value.none).toArray e)→P (.done (.ret .none)) {s with heap:=h',toks:=tk}) :
  wpAny (model prog w) A (ksk_tree a (.ref F) false) P E s:=by
 have ha:a<s.heap.objs.size:=Heap.lt_size ho
 obtain⟨e1,ho1⟩:∃e1,(s.heap.update a (Obj.mapSeq fun _=>(#[]:Array Value))).get? a=some (seqObj "list" #[] e1):=⟨_,get?_update_seq ho fun _=>#[]⟩
 unfold ksk_tree
 refine wpAny_bind (listItems_at ho rfl ?_)
 refine wpAny_bind (listUpdate_at ho rfl ?_ (by rw[List.size_toArray,sizeLine_eq];omega) (Nat.zero_le _))
 refine wpAny_bind (seqEpoch_at ho1 rfl ?_)
 refine wpAny_bind (wpAny_newTuple ?_ (by show vs.length≤_;rw[sizeLine_eq];omega))
 refine wpAny_bind (wpAny_newList ?_ (Nat.zero_le _))
 refine wpAny_holding ?_
 have hkS:((s.heap.update a (Obj.mapSeq fun _=>(#[]:Array Value))).push (seqObj "tuple" vs.toArray 0)).objs.size=s.heap.objs.size+1:=by rw[size_push',Heap.size_update]
 have hk0:(((s.heap.update a (Obj.mapSeq fun _=>(#[]:Array Value))).push (seqObj "tuple" vs.toArray 0)).push (seqObj "list" #[] 0)).get? (s.heap.objs.size+1)=some (seqObj "list" #[] 0):=by rw[←hkS];exact Heap.get?_push_size _ rfl
 have hHa:(((s.heap.update a (Obj.mapSeq fun _=>(#[]:Array Value))).push (seqObj "tuple" vs.toArray 0)).push (seqObj "list" #[] 0)).get? a=some (seqObj "list" #[] e1):=Heap.get?_push_of_some _ (Heap.get?_push_of_some _ ho1)
 have keepH:∀b o,b≠a→s.heap.get? b=some o→(((s.heap.update a (Obj.mapSeq fun _=>(#[]:Array Value))).push (seqObj "tuple" vs.toArray 0)).push (seqObj "list" #[] 0)).get? b=some o:=fun b o hb e =>
  Heap.get?_push_of_some _ (Heap.get?_push_of_some _ ((Heap.get?_update_ne _ _ _ _ hb).trans e))
 show wpAny (model prog w) A (ksk_rest a (.ref F) false vs.toArray e1 (.ref ((s.heap.update a (Obj.mapSeq fun _=>(#[]:Array Value))).push (seqObj "tuple" vs.toArray 0)).objs.size)) P E {s with heap:=((s.heap.update a (Obj.mapSeq fun _=>(#[]:Array Value))).push (seqObj "tuple" vs.toArray 0)).push (seqObj "list" #[] 0)}
 rw[hkS]
 clear hkS ho1
 generalize (((s.heap.update a (Obj.mapSeq fun _=>(#[]:Array Value))).push (seqObj "tuple" vs.toArray 0)).push (seqObj "list" #[] 0))=H at *
 have hkS0:∀o,s.heap.get? (s.heap.objs.size+1)≠some o:=fun o e=>absurd (Heap.lt_size e) (Nat.not_lt.mpr (Nat.le_succ _))
 generalize hK:s.heap.objs.size+1=kS at *
 have hka:a≠kS:=by lia
 have hkB:¬ W.B kS:=fun hb=>by obtain⟨o,e⟩:=W.inv_B _ _ inv hb;exact hkS0 o e
 have hnc:∀(h1 h2:Heap) (z:Addr) vs e,¬ W.B z→W.Inv h1→h1.get? z=some (seqObj "list" vs e)→(∀b o,b≠z→h1.get? b=some o→h2.get? b=some o)→W.Inv h2:=fun h1 h2 z vs e hz i hg k=>W.stable _ _ i fun b o e hb=>k b o (fun e'=>by
  subst e'
  rcases hb with hb|⟨hb,_⟩
  ·exact hz hb
  ·rw[hg] at e;cases e;rcases hb with hb|hb <;> exact absurd hb (by unfold seqObj;simp)) e
 have invH:W.Inv H:=hnc _ _ a _ _ hnB inv ho keepH
 have tail:∀(st:SortSt) (s':Shared) (keys:Array Value) (e:Nat),keys.size=vs.length→s'.heap.get? kS=some (seqObj "list" keys e)→W.Inv s'.heap→(∃h' tk,s'={s with heap:=h',toks:=tk})→(∀b o,b≠kS→¬ W.Ts b→H.get? b=some o→s'.heap.get? b=some o) →
   (arrOf st).map (·.2)=(p.toList.map fun i=>vs.getD i Value.none).toArray→failedOf st=none→wpAny (model prog w) A (ksk_tail a false e1 (.ref kS) st) P E s':=by
  intro st s' keys e hsz hk hi hs hkeep har hf
  obtain⟨h',tk,rfl⟩:=hs
  have hta:¬ W.Ts a:=fun h=>hnB (W.low _ h)
  have n1:(h'.update kS (Obj.mapSeq fun _=>(#[]:Array Value))).get? a=some (seqObj "list" #[] e1):=(Heap.get?_update_ne _ _ _ _ hka).trans (hkeep a _ hka hta hHa)
  have i1:W.Inv (h'.update kS (Obj.mapSeq fun _=>(#[]:Array Value))):=hnc _ _ kS _ _ hkB hi hk fun b o hb e=>(Heap.get?_update_ne _ _ _ _ hb).trans e
  unfold ksk_tail
  try dsimp only
  rw[har]
  refine wpAny_bind (listUpdate_at hk rfl ?_ (by rw[hsz,sizeLine_eq];omega) (Nat.zero_le _))
  refine wpAny_bind (wpAny_letGo ?_)
  refine wpAny_bind (seqEpoch_at n1 rfl ?_)
  have hl:(p.toList.map fun i=>vs.getD i Value.none).toArray.size≤64:=by rw[List.size_toArray,List.length_map,hp.pl];omega
  refine wpAny_bind (listUpdate_at n1 rfl ?_ (Nat.zero_le _) (by show(p.toList.map fun i=>vs.getD i Value.none).toArray.size≤_;rw[sizeLine_eq];omega))
  rw[hf]
  simp only[bne_self_eq_false,Bool.false_eq_true,if_false]
  obtain⟨c2,hc2⟩:∃c2,((h'.update kS (Obj.mapSeq fun _=>(#[]:Array Value))).update a (Obj.mapSeq fun _=>(p.toList.map fun i=>vs.getD i Value.none).toArray)).get? a=some (seqObj "list" (p.toList.map fun i=>vs.getD i Value.none).toArray c2):=⟨_,get?_update_seq n1 fun _=>_⟩
  refine wpAny_pure (h _ _ c2 (hnc _ _ a _ _ hnB i1 n1 fun b o hb e=>(Heap.get?_update_ne _ _ _ _ hb).trans e) (fun b o hb ht e=>?_) hc2)
  have hbk:b≠kS:=fun e'=>hkS0 o (e'▸e)
  exact(Heap.get?_update_ne _ _ _ _ hb).trans ((Heap.get?_update_ne _ _ _ _ hbk).trans (hkeep b o hbk ht (keepH b o hb e)))
 unfold ksk_rest
 refine wpAny_bind (wpAny_rule ?_)
 rw[List.forIn_toArray]
 refine wpAny_bind (ksk_fold (fun j s'=>∃keys e,IntsAre keys (ks.take j)∧s'.heap.get? kS=some (seqObj "list" keys.toArray e)∧W.Inv s'.heap∧(∃h' tk,s'={s with heap:=h',toks:=tk})∧(∀b o,b≠kS→¬ W.Ts b→H.get? b=some o→s'.heap.get? b=some o)) vs 0 _ ⟨[],0,.nil,hk0,invH,⟨H,s.toks,rfl⟩,fun b o _ _ e=>e⟩ (fun j x s' hx hI=>?_) fun s' hI=>?_)
 ·obtain⟨keys,e,g1,g2,g3,⟨h',tk,rfl⟩,g5⟩:=hI
  have hj:j<vs.length:=(List.getElem?_eq_some_iff.mp hx).1
  rw[Nat.zero_add] at g1 ⊢
  have hkl:keys.length=j:=by have:=IntsAre.length g1;rw[List.length_take] at this;have:=hp.len;omega
  refine wpAny_bind (wpAny_attempt (wpAny_mono (hcall j x hx _ g3 (fun b o hb ht e=>g5 b o (fun e'=>hkS0 o (e'▸e)) ht (keepH b o hb e)) (fun _ _=>False)) (fun k s'' hk=>?_) fun _ _ hF=>hF.elim))
  obtain⟨⟨t,rfl⟩,⟨h'',tk',rfl,k2,i2⟩⟩:=hk
  have nk:=k2 _ _ (fun h=>hkB (W.low _ h)) g2
  have ea:keys.toArray.push (Value.int (ks.getD j 0) t)=(keys++[Value.int (ks.getD j 0) t]).toArray:=by simp
  obtain⟨c2,hc2⟩:∃c2,(h''.update kS (Obj.mapSeq (·.push (Value.int (ks.getD j 0) t)))).get? kS=some (seqObj "list" (keys++[Value.int (ks.getD j 0) t]).toArray c2):=⟨_,by rw[←ea];exact get?_update_seq nk (·.push _)⟩
  try dsimp only
  refine wpAny_bind (listUpdate_at nk rfl ?_ (by rw[List.size_toArray,sizeLine_eq];omega) (Nat.le_trans (Nat.le_of_eq (Array.size_push ..)) (by rw[List.size_toArray,sizeLine_eq];omega)))
  refine wpAny_pure ⟨rfl,_,c2,?_,hc2,hnc _ _ kS _ _ hkB i2 nk fun b o hb e=>(Heap.get?_update_ne _ _ _ _ hb).trans e,⟨_,_,rfl⟩,fun b o hb ht e=>(Heap.get?_update_ne _ _ _ _ hb).trans (k2 b o ht (g5 b o hb ht e))⟩
  have e3:ks.take (j+1)=ks.take j++[ks.getD j 0]:=by
   have hj':j<ks.length:=by rw[hp.len];exact hj
   rw[List.take_succ_eq_append_getElem hj',List.getD_eq_getElem?_getD,List.getElem?_eq_getElem hj'];rfl
  rw[e3]
  exact ksk_snoc g1
 ·obtain⟨keys,e,g1,g2,g3,g4,g5⟩:=hI
  rw[Nat.zero_add,List.take_of_length_le (by rw[hp.len];exact Nat.le_refl _)] at g1
  have hkl:keys.length=vs.length:=by rw[←hp.len];exact IntsAre.length g1
  try dsimp only
  refine wpAny_bind (listItems_at g2 rfl ?_)
  unfold ksk_end
  try dsimp only
  rw[if_neg Bool.false_ne_true,if_neg Bool.false_ne_true]
  by_cases h2:vs.toArray.size<2
  ·rw[if_pos h2,if_pos h2]
   refine wpAny_bind (wpAny_pure ?_)
   rw[StateT.run_pure]
   refine wpAny_bind (wpAny_pure ?_)
   try dsimp only
   refine tail _ s' keys.toArray e (by rw[List.size_toArray];exact hkl) g2 g3 g4 g5 ?_ rfl
   rw[hp.small (by rw[List.size_toArray] at h2;exact h2),zCs]
   show(keys.toArray.zip vs.toArray).map (·.2)=vs.toArray
   apply Array.toList_inj.mp
   simp[List.map_snd_zip,hkl]
  ·rw[if_neg h2,if_neg h2]
   rw[List.size_toArray] at h2
   rw[ksk_kind (keys:=keys.toArray) (kz:=ks) g1 (by rw[List.size_toArray];omega)]
   refine wpAny_bind (wpAny_pure ?_)
   refine wpAny_bind (wpAny_mono (kat_run (κ:=oneType') (ks:=keys) (vs:=vs) (G:=fun q s''=>q=p∧s''=s') (Q:=fun st' s''=>(arrOf st').map (·.2)=(p.toList.map fun i=>vs.getD i Value.none).toArray∧failedOf st'=none∧s''=s') hkl (by omega) h64 (fun q st' s'' _ har hf ⟨e1,e2⟩=>?_) (zBl (n:=ks.length) (lt:=fun i j=>decide (ks.getD i 0<ks.getD j 0)) (a:=p) (fun i j C hi hj hij hC=>?_) ⟨rfl,rfl⟩ _ ?_)) ?_ fun _ _ x=>x)
   ·subst e1 e2
    exact⟨by rw[kat_snds hkl har],hf,rfl⟩
   ·unfold kas_ask
    have hi':i<keys.length:=by rw[hkl,←hp.len];exact hi
    have hj':j<keys.length:=by rw[hkl,←hp.len];exact hj
    obtain⟨t,et⟩:=g1.int_at i _ (List.getElem?_eq_getElem hi')
    obtain⟨u,eu⟩:=g1.int_at j _ (List.getElem?_eq_getElem hj')
    rw[List.getD_eq_getElem?_getD,List.getD_eq_getElem?_getD,List.getElem?_eq_getElem hi',List.getElem?_eq_getElem hj',Option.getD_some,Option.getD_some,et,eu]
    exact kat_lt_int hC
   ·have:=hp.go (by omega)
    unfold zAi at this
    rw[←hp.len];exact this
   ·rintro⟨⟨⟩,st'⟩ s'' ⟨a1,a2,rfl⟩
    try dsimp only
    exact tail st' s'' keys.toArray e (by rw[List.size_toArray];exact hkl) g2 g3 g4 g5 a1 a2
private theorem zQf{s:Shared}{l F:Addr}{vs:List Value}{ks:List Int}{p:Array Nat}{Q:Value→Shared→Prop}(inv:W.Inv s.heap)(hl:s.heap.IsList l vs.toArray)(h64:vs.length<64)(hp:Perm1 ks p vs.length)
  (hcall:∀i v,vs[i]?=some v→∀s1:Shared,W.Inv s1.heap→(∀b o,¬ W.Ts b→s.heap.get? b=some o→s1.heap.get? b=some o)→∀E',wpAny (model prog w) A.in1.in1 (call (.ref F) [v]) (fun r s2=>(∃t,r=.int (ks.getD i 0) t)∧W.Ext s1 s2) E' s1)
  (h:∀D s' e,W.Ext s s'→s.heap.get? D=none→s'.heap.get? D=some (seqObj "list" (p.toList.map fun i=>vs.getD i Value.none).toArray e)→Q (.ref D) s') :
  wpAny (model prog w) A (call (.builtin "sorted") [.ref l] [(Str.ofString "key",.ref F)]) Q E s:=by
 refine call_function_entry_kw kind_sorted plain_sorted entry_sorted (ksk_s1 _ _) ?_
 unfold Builtin.«sorted»
 refine wpAny_bind (m:=checkCount "sorted" 1 1 _) (wpAny_pure ?_)
 refine wpAny_bind (collect_list hl ?_ (by rw[sizeLine_eq];omega))
 refine wpAny_bind (wpAny_newList ?_ (by rw[sizeLine_eq];omega))
 have hsz:((s.heap.push (seqObj "list" #[] 0)).update s.heap.objs.size (Obj.mapSeq (· ++ vs.toArray))).objs.size=s.heap.objs.size+1:=by rw[Heap.size_update,size_push']
 have hoL:(((s.heap.push (seqObj "list" #[] 0)).update s.heap.objs.size (Obj.mapSeq (· ++ vs.toArray))).push (seqObj "list" vs.toArray 0)).get? (s.heap.objs.size+1)=some (seqObj "list" vs.toArray 0):=by
  rw[←hsz];exact Heap.get?_push_size _ rfl
 have keep:∀b o,s.heap.get? b=some o→b≠s.heap.objs.size+1∧(((s.heap.push (seqObj "list" #[] 0)).update s.heap.objs.size (Obj.mapSeq (· ++ vs.toArray))).push (seqObj "list" vs.toArray 0)).get? b=some o:=fun b o e=>by
  have hlt:=Heap.lt_size e
  exact⟨Nat.ne_of_lt (Nat.lt_succ_of_lt hlt),Heap.get?_push_of_some _ ((Heap.get?_update_ne _ _ _ _ (Nat.ne_of_lt hlt)).trans (Heap.get?_push_of_some _ e))⟩
 have hD0:s.heap.get? (s.heap.objs.size+1)=none:=by
  cases e:s.heap.get? (s.heap.objs.size+1) with
  | none=>rfl
  | some o=>exact absurd (Heap.lt_size e) (Nat.not_lt.mpr (Nat.le_succ _))
 show wpAny _ _ _ _ _ {s with heap:=((s.heap.push (seqObj "list" #[] 0)).update s.heap.objs.size (Obj.mapSeq (· ++ vs.toArray))).push (seqObj "list" vs.toArray 0)}
 rw[hsz]
 have invH:W.Inv (((s.heap.push (seqObj "list" #[] 0)).update s.heap.objs.size (Obj.mapSeq (· ++ vs.toArray))).push (seqObj "list" vs.toArray 0)):=W.stable _ _ inv fun b o e _=>(keep b o e).2
 refine wpAny_bind (wpAny_holding (wpAny_call_entry_kw slot_list_sort ⟨_,hoL,rfl⟩ entry_list_sort ?body (ksk_l1 _ _)))
 case body =>
  rw[ksk_t1]
  refine zJ9 (W:=W) (ks:=ks) (p:=p) invH (fun hb=>?_) hoL h64 hp (fun i v hv s1 i1 k1 E'=>hcall i v hv s1 i1 (fun b o ht e=>k1 b o (keep b o e).1 ht (keep b o e).2) E') fun h' tk e i' k' ho'=>⟨_,rfl,?_⟩
  ·obtain⟨o,e⟩:=W.inv_B _ _ inv hb
   rw[hD0] at e;cases e
  ·exact wpAny_pure ⟨_,rfl,h _ _ e ⟨h',tk,rfl,fun b o ht e=>k' b o (keep b o e).1 ht (keep b o e).2,i'⟩ hD0 ho'⟩
end Wk
namespace Wk
variable{prog:Program}{w:World}{W:Wd}{k:Nat}{K:List (Str×NameKind)}{ρ ρ':Rho}
section
variable{A:Around}{E:Value→Shared→Prop}{s:Shared}{name qual:Str}{params:Arguments}{body:PySem.Expr}{scope:Scope}{env:Env}{c P:Addr}{ps:Array Value}{firstLine:Nat}{mg:Str→Option Value}{pos:Pos}{Q:Value→Shared→Prop}
private theorem mkLam(hcl:closureFor scope env=pure [])(hge0:env.globals=mainGlobals)(hg:s.heap.Ns mainGlobals mg)(hcode:env.code=.ref c)(C:CodeHd s.heap c P)(hP:s.heap.get? P=some (tabObj ps))(ht:TriplesOk ps.toList)
  (hnf:codeAmong pos ps.toList=none) (hgP:mainGlobals≠P) (hb:s.heap.BuiltinsAt mg P)
  (h:∀c' ctv h' tk,Heap.ExtBut P s.heap h'→h'.CodeRec (.ref c') qual→(∃o,h'.get? c'=some o∧o.cls=.type "code")→h'.get? P=some (tabObj (ps ++ #[rawInt pos.line,rawInt pos.col,.ref c'])) →
   Q (.ref h'.objs.size) {s with heap:=h'.push (kla_obj name qual params body scope [] ((mg "__name__").getD .none) c' ctv),toks:=tk}) :
  wpAny (model prog w) A (makeFunction name qual params (.expr body) scope env [] [] [] pos firstLine) Q E s:=by
 rw[makeFunction_eq]
 simp only[List.zip_nil_right,List.filterMap_nil,List.isEmpty_nil,if_true,pure_bind]
 obtain⟨bm,ob,hbm,hne0,_,hneP,hbo,hcls,hdict,hdata⟩:=hb
 unfold makeTail
 rw[hcl,hge0]
 refine wpAny_bind (wpAny_pure ?_)
 simp only[List.isEmpty_nil,if_true]
 refine wpAny_bind (wpAny_pure ?_)
 refine wpAny_bind (wpAny_functionCodeX hcode (C.code hP ht) (C.tab hP) hnf fun c' h' tk hx hge hlt _ hrec htb hnew=>?_)
 obtain⟨P',_,_,⟨o',vs',n1,n2,_⟩,_⟩:=hnew
 refine wpAny_bind (wpAny_builtinsFor (hg.extBut hx hgP) hbm hne0 (hx _ _ hneP hbo) hcls hdict hdata ?_)
 refine wpAny_bind (wpAny_nsGet (hg.extBut hx hgP) ?_)
 exact wpAny_bind (wpAny_pure (wpAny_newObj_type (h c' .none h' tk hx hrec ⟨o',n1,n2⟩ htb.2) (by size_fits)))
end
private theorem St.lam{A:Around}{E:Value→Shared→Prop}{s₀ s:Shared}{X₀ X:Addr→Prop}{env:Env}{params:Arguments}{body:PySem.Expr}{scope:Scope}{lpos:Pos}{c P:Addr}{q:Tab}{Q:Value→Shared→Prop}(x:St W s₀ X₀ env ρ X s)(N:Nest W c P q)(hcode:env.code=.ref c)(hqual:env.qual++("<lambda>":Str)=q.qual)
  (hline:q.line=lpos.line) (hcol:q.col=lpos.col) (hcl:closureFor scope env=pure []) (hdef:defaultsOf params env=([],[]))
  (hQ:∀F c' ctv s',W.Ext s s'→s'.heap.get? F=some (kla_obj "<lambda>" q.qual params body scope [] ((W.mg "__name__").getD .none) c' ctv)→s'.heap.CodeRec (.ref c') q.qual→¬ W.Ts F→(∃oc,s'.heap.get? c'=some oc∧oc.cls=.type "code")→Q (.ref F) s') :
  wpAny (model prog w) A (eval (.Lambda params body scope lpos) env) Q E s:=by
 refine kla_eval hdef ?_
 rw[hqual]
 obtain⟨ps,hP,hps⟩:=N.ok _ x.inv
 rw[N.hP] at hP
 have fin:∀(h':Heap) (tk:Tok) (c':Addr) (ctv:Value),(∀b o,b≠P→s.heap.get? b=some o→h'.get? b=some o)→h'.CodeRec (.ref c') q.qual→(∃oc,h'.get? c'=some oc∧oc.cls=.type "code")→zEi h' q →
   Q (.ref h'.objs.size) {s with heap:=h'.push (kla_obj "<lambda>" q.qual params body scope [] ((W.mg "__name__").getD .none) c' ctv),toks:=tk}:=by
  intro h' tk c' ctv kx hrec hcc htab
  have kx':∀b o,b≠P→s.heap.get? b=some o→(h'.push (kla_obj "<lambda>" q.qual params body scope [] ((W.mg "__name__").getD .none) c' ctv)).get? b=some o:=fun b o hb e=>Heap.get?_push_of_some _ (kx b o hb e)
  have inv':=N.inv _ _ x.inv kx' (htab.keep fun b o e _=>Heap.get?_push_of_some _ e)
  refine hQ h'.objs.size c' ctv _ ⟨_,_,rfl,fun b o hb e=>kx' b o (fun e'=>hb (e'▸N.ts)) e,inv'⟩ (Heap.get?_push_size _ rfl) ?_ (fun ht=>?_) ?_
  ·obtain⟨cc,oc,vs,t,r1,r2,r3,r4⟩:=hrec
   exact⟨cc,oc,vs,t,r1,Heap.get?_push_of_some _ r2,r3,r4⟩
  ·obtain⟨o',h1,h2⟩:=W.inv_Ts _ _ inv' ht
   rw[Heap.get?_push_size _ rfl] at h1;cases h1;cases h2
  ·obtain⟨oc,r1,r2⟩:=hcc
   exact⟨oc,Heap.get?_push_of_some _ r1,r2⟩
 rcases hps with rfl|⟨c',o',vs,t,rfl,hc',hcls,hdat,hv1⟩
 ·refine mkLam hcl x.gl (W.inv_ns _ x.inv) hcode (N.hd _ x.inv) hP trivial rfl N.gP (N.bu _ x.inv) fun c' ctv h' tk hx hrec hcls hP'=>?_
  refine fin h' tk c' ctv hx hrec hcls ?_
  obtain⟨cc,oc,vs,t,r1,r2,r3,r4⟩:=hrec
  cases r1
  obtain⟨ob,ho,hcc⟩:=hcls
  have e:=ho.symm.trans r2
  injection e with e
  subst e
  exact⟨_,N.hP▸hP',.inr ⟨c',ob,vs,t,by rw[hline,hcol];rfl,ho,hcc,r3,r4⟩⟩
 ·refine kla_makeFunctionHit (cv:=.ref c') hcl x.gl (W.inv_ns _ x.inv) hcode (N.hd _ x.inv) hP (by trivial) ?_ (N.bu _ x.inv) fun ctv h' tk kx _=>?_
  ·rw[hline,hcol];exact codeAmong_snoc (c:=.ref c') [] trivial rfl
  ·refine fin h' tk c' ctv (fun b o _ e=>kx b o e) ⟨c',o',vs,t,rfl,kx _ _ hc',hdat,hv1⟩ ⟨o',kx _ _ hc',hcls⟩ ?_
   exact⟨_,kx _ _ (N.hP▸hP),.inr ⟨c',o',vs,t,rfl,kx _ _ hc',hcls,hdat,hv1⟩⟩
private theorem St.sortK{A:Around}{E:Value→Shared→Prop}{s₀ s:Shared}{X₀ X:Addr→Prop}{env:Env}{y z:Str}{params:Arguments}{body:PySem.Expr}{scope:Scope}{lpos kp cpos p1 p2 p3 pos:Pos}{c P:Addr}{q:Tab}{ds:List PyData}{ks:List Int}{pm:Array Nat}{Q:Flow→Shared→Prop}(x:St W s₀ X₀ env ρ X s)(hk:env.scope.names=K)(R:Room (k+3) A)(N:Nest W c P q)(hcode:env.code=.ref c)(hqual:env.qual++("<lambda>":Str)=q.qual)
  (hline:q.line=lpos.line) (hcol:q.col=lpos.col) (hcl:closureFor scope env=pure []) (hdef:defaultsOf params env=([],[]))
  (hy:ρ.lookup y=some (.v (.list ds))) (hl:K.lookup y=some .local) (h64:ds.length<64) (hpm:Perm1 ks pm ds.length) (hb:BuiG W "sorted" (.builtin "sorted")) (hK:K.lookup ("sorted":Str)=some .globalImplicit)
  (hbind:∀m c' ctv v,bindArgs (kla_fn "<lambda>" q.qual params body scope [] m (.ref c') ctv) ⟨[v],[]⟩=pure [(z,v)])
  (hz:scope.names.lookup z=some .local) (hnc:∀x∈scope.names,x.2 ≠ .cell) (hco:scope.isCoroutine=false) (hgen:scope.isGenerator=false) (hkd:scope.kind=.function)
  (hel:∀i d,ds[i]?=some d→Ev prog w W k scope.names [(z,.v d)] body (.int (ks.getD i 0)))
  (hQ:∀s',St W s₀ X₀ env (upd ρ y (.v (.list (pm.toList.map fun i=>ds.getD i .none)))) X s'→Grow X s X s'→Q .next s')
  (hs:swapsWith (.Call (.Name "sorted" p2) [.Name y p3] [⟨some "key",.Lambda params body scope lpos,kp⟩] cpos) (some (.Name y p1)) pos.line env=pure false:=by rfl) (hd:(y==("__debug__":Str))=false:=by rfl) :
  wpAny (model prog w) A (exec (.Assign [.Name y p1] (.Call (.Name "sorted" p2) [.Name y p3] [⟨some "key",.Lambda params body scope lpos,kp⟩] cpos) pos) env) Q E s:=by
 refine wpAny_Assign_Name (wpAny_Call_Name_kw (Calls.Name_function_global x.fk (by rw[←hk] at hK;exact hK) (Calls.loadGlobal_builtin (by rw[x.gl];exact W.inv_ns _ x.inv) hb.1 (by rw[x.bu];exact W.inv_nb _ x.inv) hb.2 ?_) rfl)) hs
 refine callWith_kw (e:=.Name y p3) (rest:=[]) ?_
 refine wpAny_mono ((Evs.one (pos:=cpos) (Ev.name (k:=k+3) hy hd)).run A s₀ X₀ env X s _ R hk x) (fun vs s₁ ⟨hv,e1⟩=>?_) fun _ _ h=>h
 refine kws_cons ?_
 have x₁:=x.step e1
 refine x₁.lam N hcode hqual hline hcol hcl hdef fun F c' ctv s₂ e2 hF hrec hFt hcc=>?_
 refine kws_nil ?_
 have x₂:=x₁.step e2
 obtain⟨v,r,rfl,hv1,hv2⟩:=hv.c
 obtain rfl:=hv2.n
 obtain⟨l,us,rfl,hx,hls,hus⟩:=Rd.l (hv1.frame (e2.fram x₁.ts))
 have hlen:us.toList.length=ds.length:=hus.length
 have hl':s₂.heap.IsList l us.toList.toArray:=by simpa using hls.isList
 refine zQf (W:=W) (ks:=ks) (p:=pm) x₂.inv hl' (by rw[hlen];exact h64) (by rw[hlen];exact hpm) (fun i v hvi s₃ i3 k3 E'=>?_) fun D s₃ e e3 hD0 hD=>?_
 ·obtain⟨d,hd1,hd2⟩:=hus.got hvi
  have ext3:Fram X X s₂.heap s₃.heap:=fun b o hb ho _=>⟨k3 b o (fun h=>hb (x₂.ts b h)) ho,hb⟩
  have xs3:∀b,X b→∃o,s₃.heap.get? b=some o:=fun b hb=>by
   obtain⟨o,ho⟩:=x₂.xs b hb
   by_cases ht:W.Ts b
   ·obtain⟨o',h1,_⟩:=W.inv_Ts _ _ i3 ht;exact⟨o',h1⟩
   ·exact⟨o,k3 b o ht ho⟩
  have hrec3:s₃.heap.CodeRec (.ref c') q.qual:=by
   obtain⟨oc,g1,g2⟩:=hcc
   obtain⟨cc,oc',vs,t,r1,r2,r3,r4⟩:=hrec
   cases r1
   rw[g1] at r2;cases r2
   refine⟨c',oc,vs,t,rfl,k3 c' oc (fun ht=>?_) g1,r3,r4⟩
   obtain⟨o',h1,h2⟩:=W.inv_Ts _ _ x₂.inv ht
   rw[g1] at h1;cases h1;rw[g2] at h2;cases h2
  have R3:Room (k+1) A.in1.in1:=(R.in1).in1
  refine wpAny_mono (zNf (W:=W) (X:=X) R3 i3 x₂.ts xs3 (hd2.frame ext3) (k3 F _ hFt hF) hrec3 (hbind _ _ _ _) hz hnc hco hgen hkd (hel i d hd1)) (fun r s₄ ⟨h1,h2⟩=>⟨h1.i,h2⟩) fun _ _ h=>h
 ·have x₃:=x₂.step e3
  have hr:Rd X s₃.heap (.ref D) (.list (pm.toList.map fun i=>ds.getD i .none)):=.list (kQ x₂.xs hD0) ⟨e,hD⟩ (by
   have:=hus.pick pm.toList (fun i hi=>hpm.pm i hi)
   exact this.frame (e3.fram x₂.ts))
  refine x₃.put (by rw[hk];exact .inl hl) hr fun s₄ x₄ g=>hQ s₄ x₄ ((Grow.ext ((e1.trans e2).trans e3) x.ts).trans g)
end Wk
end
section
open PySem PySem.W PyProof.Rows Mine Wk
section
open PySem PySem.W PyProof.Rows Mine Wk
set_option maxRecDepth 100000
set_option maxHeartbeats 400000
set_option linter.unusedVariables false
namespace Wk
variable{prog:Program}{w:World}{W:Wd}
private theorem wW(G:Gl prog w W)(x:Int):FunG prog w W 11 "ISTERMINAL" [.int x] (.bool (decide (x<256))):=by
 have:=G.c_nt
 refine FunG.of (names:=["x"]) G.d_ISTERMINAL zBi (fun _ _ _=>uC fun _=>rfl) (by decide) (by decide) ?_
 refine Sx.ret ?_
 exact Ex.ret (Ev.cmpX _ _ (Ev.name rfl) (Ev.conG (by assumption) rfl) wC)
private theorem xA(G:Gl prog w W)(x:Int):FunG prog w W 11 "ISNONTERMINAL" [.int x] (.bool (decide (x≥256))):=by
 have:=G.c_nt
 refine FunG.of (names:=["x"]) G.d_ISNONTERMINAL jB (fun _ _ _=>uC fun _=>rfl) (by decide) (by decide) ?_
 refine Sx.ret ?_
 exact Ex.ret (Ev.cmpX _ _ (Ev.name rfl) (Ev.conG (by assumption) rfl) zOp)
private theorem zG4(G:Gl prog w W)(x:Int):FunG prog w W 11 "ISEOF" [.int x] (.bool (x==0)):=by
 have:=G.c_end
 refine FunG.of (names:=["x"]) G.d_ISEOF zIz (fun _ _ _=>uC fun _=>rfl) (by decide) (by decide) ?_
 refine Sx.ret ?_
 exact Ex.ret (Ev.cmpX _ _ (Ev.name rfl) (Ev.conG (by assumption) rfl) kE)
private theorem zAa(G:Gl prog w W){x:Str}(hx:x.length≤1048576):FunG prog w W 11 "quotedata" [.str x] (.str (wG x)):=by
 have:=G.c_crlf
 refine FunG.of (names:=["data"]) G.d_quotedata zBv (fun _ _ _=>uC fun _=>rfl) (by decide) (by decide) ?_
 refine Sx.ret ?_
 refine Ex.ret ?_
 refine Ev.dots G.p1 rfl (Ev.conv Ev.cstr rfl) ?_ ?_
 ·refine Ev.norm G.p2 rfl (Ev.conv (Ev.conG (by assumption) rfl) rfl) (Ev.name rfl) hx
 ·have:=QQ x;lia
private theorem zB1(G:Gl prog w W)(c:Nat):FunG prog w W 11 "in_table_b1" [.str ⟨#[c]⟩] (.bool (inB1 c)):=by
 refine FunG.of (names:=["code"]) G.d_in_table_b1 QV (fun _ _ _=>uC fun _=>rfl) (by decide) (by decide) ?_
 refine Sx.ret ?_
 refine Ex.ret ?_
 refine Ev.cmpG ?_ rfl (G.s_b1.in _)
 refine Ev.buiX _ G.b_ord rfl (Evs.cons (Ev.name rfl) Evs.nil) zDz
noncomputable def lowC(c:Nat):Str:=Txt.lower ⟨#[c]⟩
noncomputable def mapC(c:Nat):Str:=match b3L.lookup (c:Int) with | some r=>r | none=>lowC c
private theorem zEv(G:Gl prog w W)(c:Nat)(hl:Builtin.Str.tooLong (lowC c).length=false):FunG prog w W 11 "map_table_b3" [.str ⟨#[c]⟩] (.str (mapC c)):=by
  refine FunG.of (names:=["code"]) G.d_map_table_b3 jZ (fun _ _ _=>uC fun _=>rfl) (by decide) (by decide) ?_
  refine Sx.cons (Ex.setX _ (Ev.getI G.m_b3 rfl (Ev.buiX _ G.b_ord rfl (Evs.cons (Ev.name rfl) Evs.nil) zDz)) (.inl rfl)) ?_
  show Sx _ _ _ _ _ _ _ (.ret (.str (match b3L.lookup (c:Int) with | some r=>r | none=>lowC c)))
  cases h:b3L.lookup (c:Int) with
  | some r =>
    refine Sx.ifret (Tr.cmpX _ _ (Ev.name rfl) Ev.cnone (Cmp.conv jH rfl)) ?_
    refine Sx.ret (Ex.ret (Ev.conv (Ev.name rfl) rfl))
  | none =>
    refine Sx.ifskip (Tr.cmpX _ _ (Ev.name rfl) Ev.cnone (Cmp.conv jH rfl)) Sx.nil ?_
    refine Sx.ret (Ex.ret (Ev.meth0X _ (Ev.name rfl) (zM0 hl)))
noncomputable def xV:List Int:=[173,847,6150,6155,6156,6157,8203,8204,8205,8288,65279]
noncomputable def yA(k:Nat):Nat:=if k%27<11 then (xV.getD (k%11) 0).toNat else 65013+k%27
private theorem jJ(k:Nat):inB1 (yA k)=true:=by
 have h:∀a,a<27→∀b,b<11→inB1 ((if a<11 then (xV.getD b 0).toNat else 65013+a:Nat):Int)=true:=by decide +kernel
 exact h _ (Nat.mod_lt _ (by decide)) _ (Nat.mod_lt _ (by decide))
private theorem zMh(k:Nat):yA k≤1114111:=by
 have h:∀a,a<27→∀b,b<11→(if a<11 then (xV.getD b 0).toNat else 65013+a:Nat)≤1114111:=by decide +kernel
 exact h _ (Nat.mod_lt _ (by decide)) _ (Nat.mod_lt _ (by decide))
private theorem zOt(G:Gl prog w W)(k:Nat):FunG prog w W 32 "_law_unseen" [.int k] (.str ⟨#[yA k]⟩):=by
 have e27:((k:Int).fmod 27)=((k%27:Nat):Int):=zP k 27
 have e11:((k:Int).fmod 11)=((k%11:Nat):Int):=zP k 11
 have hu:(yA k:Int)=bif decide ((k:Int).fmod 27<11) then xV.getD (k%11) 0 else 65013+(k:Int).fmod 27:=by
  rw[e27];unfold yA
  by_cases h:k%27<11
  ·rw[if_pos h]
   have:decide (((k%27:Nat):Int)<11)=true:=by simpa using (by lia)
   rw[this]
   have h:∀b,b<11→((xV.getD b 0).toNat:Int)=xV.getD b 0:=by decide +kernel
   exact h _ (Nat.mod_lt _ (by decide))
  ·rw[if_neg h]
   have:decide (((k%27:Nat):Int)<11)=false:=by simpa using (by lia)
   rw[this];rfl
 refine FunG.of (names:=["k"]) G.d_law_unseen zAw (fun _ _ _=>uC fun _=>rfl) (by decide) (by decide) ?_
 refine Sx.consX (upd (yI ["k"] [.int k]) "sign" (.v (.str ⟨#[yA k]⟩))) (Ex.setX (.str ⟨#[yA k]⟩) (Ev.chrX _ (yA k) G.b_chr rfl (Ev.convX (bif decide ((k:Int).fmod 27<11) then .int (xV.getD (k%11) 0) else .int (65013+(k:Int).fmod 27))
  (Ev.iteX (decide ((k:Int).fmod 27<11)) _ _ (Tr.cmpX _ _ (Ev.bin (Ev.name rfl) Ev.cint (yM (by decide))) Ev.cint wC) (fun h=>?_) (fun h=>by exact Ev.bin Ev.cint (Ev.bin (Ev.name rfl) Ev.cint (yM (by decide))) zH)) ?_) rfl (zMh k) (fun _=>rfl) (fun _=>rfl)) (.inl rfl) (fun _=>rfl)) ?_
 ·refine Ev.itemX (.list (zA xV)) (.int ((k:Int).fmod 11)) (Ev.conv (Ev.list (Evs.cons Ev.cint (Evs.cons Ev.cint (Evs.cons Ev.cint (Evs.cons Ev.cint (Evs.cons Ev.cint (Evs.cons Ev.cint (Evs.cons Ev.cint (Evs.cons Ev.cint (Evs.cons Ev.cint (Evs.cons Ev.cint (Evs.cons Ev.cint Evs.nil))))))))))) (Nat.le_of_ble_eq_true rfl)) rfl) (Ev.bin (Ev.name rfl) Ev.cint (yM (by decide))) (yR e11 (Nat.mod_lt _ (by decide)) (by decide)) (fun _ _=>rfl)
 ·rw[hu];cases decide ((k:Int).fmod 27<11) <;> rfl
 refine Sx.retX (.str ⟨#[yA k]⟩) (Ev.ite_t (Tr.cmpX (.bool (inB1 (yA k))) (.bool true) ?_ Ev.cbool (Cmp.conv zGm ?_) rfl) (Ev.name rfl))
 ·refine Ev.fnX [.str ⟨#[yA k]⟩] rfl (Evs.cons (Ev.name rfl) Evs.nil) ((zB1 G (yA k)).at rfl) (fun _=>rfl) rfl
 ·rw[jJ];rfl
end Wk
namespace Wk
variable{prog:Program}{w:World}{W:Wd}
private theorem zJy(G:Gl prog w W)(c:Int)(hc:0<c):FunG prog w W 31 "_law_sides" [.int c] (.bool true):=by
 refine FunG.of (names:=["cell"]) G.d_law_sides zBx (fun _ _ _=>uC fun _=>rfl) (by decide) (by decide) ?_
 refine Sx.cons (Ex.swap (ds:=[.int (255-c),.int (256+c)]) rfl (Ev.tuple (Evs.cons (Ev.bin Ev.cint (Ev.name rfl) zR) (Evs.cons (Ev.bin Ev.cint (Ev.name rfl) zH) Evs.nil)) (Nat.le_of_ble_eq_true rfl)) (StoN.cons (.inl rfl) (StoN.cons (.inl rfl) StoN.nil))) ?_
 refine Sx.cons (Ex.setX (.list [.bool (decide (255-c<256)),.bool (decide (255-c≥256)),.bool (decide (256+c<256)),.bool (decide (256+c≥256)),.bool (c==0),.bool (-c==0)])
  (Ev.list (Evs.cons (Ev.fnX [.int (255-c)] rfl (Evs.one (Ev.name rfl)) ((wW G _).at rfl)) (Evs.cons (Ev.fnX [.int (255-c)] rfl (Evs.one (Ev.name rfl)) ((xA G _).at rfl)) (Evs.cons (Ev.fnX [.int (256+c)] rfl (Evs.one (Ev.name rfl)) ((wW G _).at rfl)) (Evs.cons (Ev.fnX [.int (256+c)] rfl (Evs.one (Ev.name rfl)) ((xA G _).at rfl)) (Evs.two (Ev.fnX [.int c] rfl (Evs.one (Ev.name rfl)) ((zG4 G _).at rfl)) (Ev.fnX [.int (-c)] rfl (Evs.one (Ev.neg (Ev.name rfl))) ((zG4 G _).at rfl))))))) (Nat.le_of_ble_eq_true rfl)) (.inl rfl)) ?_
 refine Sx.retX _ (Ev.convX _ (Ev.cmpX (.list [.bool (decide (255-c<256)),.bool (decide (255-c≥256)),.bool (decide (256+c<256)),.bool (decide (256+c≥256)),.bool (c==0),.bool (-c==0)]) (.list [.bool true,.bool false,.bool false,.bool true,.bool false,.bool false]) (Ev.name rfl) (Ev.list (Evs.cons Ev.cbool (Evs.cons Ev.cbool (Evs.cons Ev.cbool (Evs.cons Ev.cbool (Evs.cons Ev.cbool (Evs.cons Ev.cbool Evs.nil)))))) (Nat.le_of_ble_eq_true rfl)) (zK2 rfl rfl)) ?_)
 simp[PyData.eqv,PyData.eqvAll]
 lia
noncomputable def zBs:List Int:=[0,1,2,4,7,8,9,10,11,12]
noncomputable def jP(l r:Nat):Nat:=if r<2 then l-32*r else 119711+52*(zBs.getD (r-2) 0).toNat+l
noncomputable def QD(l k:Nat):Nat:=jP l (k%12)
private theorem typed(G:Gl prog w W)(l k:Nat)(hl:32≤l)(hl2:l≤200):FunG prog w W 31 "_law_typed" [.str ⟨#[l]⟩,.int k] (.str ⟨#[QD l k]⟩):=by
 have e12:((k:Int).fmod 12)=((k%12:Nat):Int):=zP k 12
 have h12:k%12<12:=Nat.mod_lt _ (by decide)
 have hm:∀b,b<10→(((zBs.getD b 0).toNat:Nat):Int)=zBs.getD b 0∧(zBs.getD b 0).toNat≤12:=by decide +kernel
 refine FunG.of (names:=["letter","k"]) G.d_law_typed zC4 (fun _ _ _=>zAu fun _ _=>rfl) (by decide) (by decide) ?_
 unfold QD
 generalize k%12=r at e12 h12 ⊢
 by_cases h:r<2
 ·have ht:decide ((k:Int).fmod 12<2)=true:=by rw[e12];simpa using (by lia)
  refine Sx.ifretX (decide ((k:Int).fmod 12<2)) ht (Tr.cmpX _ _ (Ev.bin (Ev.name rfl) Ev.cint (yM (by decide))) Ev.cint wC) ?_
  refine Sx.retX (.str ⟨#[jP l r]⟩) ?_
  refine Ev.chrX ((l:Int)-32*(k:Int).fmod 12) (jP l r) G.b_chr rfl ?_ ?_ ?_ (fun _=>rfl) (fun _=>rfl)
  ·refine Ev.binX (.int l) (.int (32*(k:Int).fmod 12)) ?_ (Ev.bin Ev.cint (Ev.bin (Ev.name rfl) Ev.cint (yM (by decide))) (yO (.of_left (by decide)))) zR
   refine Ev.ordX l G.b_ord rfl (Ev.name rfl) (fun _=>rfl) (fun _=>rfl)
  ·unfold jP;rw[if_pos h,e12];lia
  ·unfold jP;rw[if_pos h];lia
 ·have ht:decide ((k:Int).fmod 12<2)=false:=by rw[e12];simpa using (by lia)
  refine Sx.ifskipX (decide ((k:Int).fmod 12<2)) ht (Tr.cmpX _ _ (Ev.bin (Ev.name rfl) Ev.cint (yM (by decide))) Ev.cint wC) ?_
  obtain⟨hm1,hm2⟩:=hm (r-2) (by lia)
  refine Sx.retX (.str ⟨#[jP l r]⟩) ?_
  refine Ev.chrX (119711+52*zBs.getD (r-2) 0+(l:Int)) (jP l r) G.b_chr rfl ?_ ?_ ?_ (fun _=>rfl) (fun _=>rfl)
  ·refine Ev.binX (.int (119711+52*zBs.getD (r-2) 0)) (.int l) ?_ ?_ zH
   ·refine Ev.binX (.int 119711) (.int (52*zBs.getD (r-2) 0)) Ev.cint ?_ zH
    refine Ev.binX (.int 52) (.int (zBs.getD (r-2) 0)) Ev.cint ?_ (yO (.of_left (by decide)))
    refine Ev.itemX (.list (zA zBs)) (.int ((k:Int).fmod 12-2)) (Ev.conv (Ev.list (Evs.cons Ev.cint (Evs.cons Ev.cint (Evs.cons Ev.cint (Evs.cons Ev.cint (Evs.cons Ev.cint (Evs.cons Ev.cint (Evs.cons Ev.cint (Evs.cons Ev.cint (Evs.cons Ev.cint (Evs.cons Ev.cint Evs.nil)))))))))) (Nat.le_of_ble_eq_true rfl)) rfl) (Ev.bin (Ev.bin (Ev.name rfl) Ev.cint (yM (by decide))) Ev.cint zR) (yR (by rw[e12];lia) (show r-2<10 by lia) (by decide)) (fun _ _=>rfl)
   ·refine Ev.ordX l G.b_ord rfl (Ev.name rfl) (fun _=>rfl) (fun _=>rfl)
  ·unfold jP;rw[if_neg h];lia
  ·unfold jP;rw[if_neg h];lia
end Wk
namespace Wk
variable{prog:Program}{w:World}{W:Wd}
noncomputable def zE6:List Int:=[172,174,846,848,6149,6151,6154,6158,8202,8206,8287,8289,65023,65040,65278,65280,11,12,28,29,30,133,8232,8233]
noncomputable def zA7(b:Nat):List Int:=zE6++[5112,119834+52*(b:Int)]
noncomputable def yC(a b:Nat):Nat:=((zA7 b).getD a 0).toNat
noncomputable def zF(k:Nat):Nat:=yC (k%26) (k/26%13)
private theorem zFw:∀a,a<26→∀b,b<13→(zA7 b).getD a 0=(yC a b:Nat)∧yC a b≤1114111:=by decide +kernel
private theorem zFq(G:Gl prog w W)(k:Nat):FunG prog w W 31 "_law_strange" [.int k] (.str ⟨#[zF k]⟩):=by
 have e26:((k:Int).fmod 26)=((k%26:Nat):Int):=zP k 26
 have d26:((k:Int).fdiv 26)=((k/26:Nat):Int):=yJ k 26
 have e13:(((k:Int).fdiv 26).fmod 13)=((k/26%13:Nat):Int):=by rw[d26];exact zP _ 13
 have hk:=zFw (k%26) (Nat.mod_lt _ (by decide)) (k/26%13) (Nat.mod_lt _ (by decide))
 refine FunG.of (names:=["k"]) G.d_law_strange QW (fun _ _ _=>uC fun _=>rfl) (by decide) (by decide) ?_
 refine Sx.consX (upd (yI ["k"] [.int k]) "codes" (.v (.list (zA zE6)))) (Ex.setX (.list (zA zE6)) (Ev.conv (Ev.list (Evs.cons Ev.cint (Evs.cons Ev.cint (Evs.cons Ev.cint (Evs.cons Ev.cint (Evs.cons Ev.cint (Evs.cons Ev.cint (Evs.cons Ev.cint (Evs.cons Ev.cint (Evs.cons Ev.cint (Evs.cons Ev.cint (Evs.cons Ev.cint (Evs.cons Ev.cint (Evs.cons Ev.cint (Evs.cons Ev.cint (Evs.cons Ev.cint (Evs.cons Ev.cint (Evs.cons Ev.cint (Evs.cons Ev.cint (Evs.cons Ev.cint (Evs.cons Ev.cint (Evs.cons Ev.cint (Evs.cons Ev.cint (Evs.cons Ev.cint (Evs.cons Ev.cint Evs.nil)))))))))))))))))))))))) (Nat.le_of_ble_eq_true rfl)) rfl) (.inl rfl)) ?_
 refine Sx.retX (.str ⟨#[zF k]⟩) ?_
 refine Ev.chrX ((zA7 (k/26%13)).getD (k%26) 0) (zF k) G.b_chr rfl ?_ hk.1 hk.2
 refine Ev.itemX (.list (zA (zA7 (k/26%13)))) (.int ((k:Int).fmod 26)) ?_ (Ev.bin (Ev.name rfl) Ev.cint (yM (by decide))) (yR e26 (show k%26<26 from Nat.mod_lt _ (by decide)) (show 26<2^62 by decide))
 refine Ev.convX (.list (zA zE6++[.int 5112,.int (119834+52*((k:Int).fdiv 26).fmod 13)])) ?_ (by rw[e13];rfl)
 refine Ev.binX (.list (zA zE6)) (.list [.int 5112,.int (119834+52*((k:Int).fdiv 26).fmod 13)]) (Ev.name rfl) (Ev.list (Evs.cons Ev.cint (Evs.cons (Ev.bin Ev.cint (Ev.bin Ev.cint (Ev.bin (Ev.bin (Ev.name rfl) Ev.cint (vH (by decide) (PyProof.noPylong_of_log2 (by decide +kernel)))) Ev.cint (yM (by decide))) (yO (.of_left (by decide)))) zH) Evs.nil)) (Nat.le_of_ble_eq_true rfl)) (zL2 (Nat.le_of_ble_eq_true rfl))
noncomputable def zL(ns:List Int):Nat→List Int
 | 0=>[172,100,1000]
 | i+1=>(zL ns i).set (i%3) ((zL ns i).getD (i%3) 0+(ns.getD i 0).fmod 1000000)
private theorem xB(ns:List Int):∀i,(zL ns i).length=3
 | 0=>rfl
 | i+1=>by rw[zL,List.length_set];exact xB ns i
private theorem zF2{L:List Int}{j:Nat}(h:j<L.length):(zA L)[j]?=some (.int (L.getD j 0)):=by
 rw[zA,List.getElem?_map,List.getElem?_eq_getElem h,List.getD_eq_getElem?_getD,List.getElem?_eq_getElem h];rfl
private theorem zJd(G:Gl prog w W)(ns:List Int)(hn:ns.length≤63):FunG prog w W 31 "_law_cells" [.list (zA ns)] (.list (zA (zL ns ns.length))):=by
 refine FunG.of (names:=["script"]) G.d_law_cells zC3 (fun _ _ _=>uC fun _=>rfl) (by decide) (by decide) ?_
 refine Sx.consX (upd (yI ["script"] [.list (zA ns)]) "cells" (.own (zA (zL ns 0)))) (Ex.ownX _ (EvN.conv (EvN.list (ds:=[.int 172,.int 100,.int 1000]) (Evs.cons Ev.cint (Evs.cons Ev.cint (Evs.cons Ev.cint Evs.nil))) (by decide)) rfl) rfl) ?_
 have hl:(zK 0 (ns.length:Int).toNat).length=ns.length:=by rw[zD];omega
 refine Sx.consX ([("script",.v (.list (zA ns))),("cells",.own (zA (zL ns ns.length)))]) ?_ ?_
 ·refine(Ex.loop (ds:=zK 0 (ns.length:Int).toNat) (fun i=>[("script",.v (.list (zA ns))),("cells",.own (zA (zL ns i)))]) (Sub.cons rfl (Sub.cons rfl Sub.nil)) ?_ ?_).conv (by rw[hl])
  ·refine Itr.range1 rfl G.b_range.1 G.b_range.2 (Ev.buiX [.list (zA ns)] G.b_len rfl (Evs.cons (Ev.name rfl) Evs.nil) (Fun.conv (yX (by simp[zA];omega)) (by simp[zA]))) (by omega) (by omega)
  ·intro i d hd
   have hi:i<ns.length:=by have:=(List.getElem?_eq_some_iff.mp hd).1;omega
   have hd':=zQ hd
   rw[Int.zero_add] at hd'
   subst hd'
   refine⟨_,_,Tgt.local rfl,Sx.one ?_⟩
   have e4:((i:Int).fmod 3)=((i%3:Nat):Int):=zP i 3
   have h4:i%3<(zL ns i).length:=by rw[xB];exact Nat.mod_lt _ (by decide)
   refine(Ex.augsub (j:=i%3) (z:=(i:Int).fmod 3) (a:=.int ((zL ns i).getD (i%3) 0)) (b:=.int ((ns.getD i 0).fmod 1000000)) (d:=.int ((zL ns i).getD (i%3) 0+(ns.getD i 0).fmod 1000000)) (ds:=zA (zL ns i)) rfl (Ev.bin (Ev.name rfl) Ev.cint (yM (by decide))) e4 (zF2 h4) ?_ qE (by simp[zA,xB];decide)).weakR (ρ₂:=[("script",.v (.list (zA ns))),("cells",.own (zA (zL ns (i+1))))]) ?_
   ·refine Ev.binX (.int (ns.getD i 0)) (.int 1000000) ?_ Ev.cint (yM (by decide))
    refine Ev.itemX (.list (zA ns)) (.int i) (Ev.name rfl) (Ev.name rfl) (yR rfl hi (by omega))
   ·refine Sub.cons rfl (Sub.cons ?_ Sub.nil)
    have:zA (zL ns (i+1))=(zA (zL ns i)).set (i%3) (.int ((zL ns i).getD (i%3) 0+(ns.getD i 0).fmod 1000000)):=by rw[zL,zA,zA,List.map_set]
    rw[this];rfl
 ·refine Sx.freeze (y:="cells") rfl ?_
  refine Sx.retX _ (Ev.name rfl)
end Wk
namespace Wk
variable{prog:Program}{w:World}{W:Wd}
noncomputable def zBz:List Str:=["","\n","\r","\r\n"]
noncomputable def zCb(a b:Nat):Str:=zBz.getD a "" ++ repS ".\n.\r.\r\n" 3 ++ "\r\r\n\r\n\n\n\r\r." ++ zBz.getD b ""
noncomputable def nlS(b:Bool):Str:=bif b then "\r\n" else ""
noncomputable def zNi(a b:Nat):Str:=nlS (decide (a>0))++repS "..\r\n" 9++repS "\r\n" 7 ++ ".." ++ nlS (decide (b>0))
private theorem zLj:∀a,a<4→∀b,b<4→(wG (zCb a b)==zNi a b)=true∧(zBz.getD a "").length≤2∧(zCb a b).length≤100:=by decide +kernel
private theorem zOi(n:Nat):decide ((n:Int)>0)=decide (n>0):=by
 rcases n with _|n
 ·rfl
 ·have:((n+1:Nat):Int)>0:=by lia
  simp
private theorem zKe(b:Bool):(bif b then PyData.str "\r\n" else PyData.str "")=.str (nlS b):=by cases b <;> rfl
private theorem zJs(b:Bool):(nlS b).length≤2:=by cases b <;> decide
private theorem zN9(G:Gl prog w W)(k:Nat):FunG prog w W 31 "_law_ends" [.int k] (.bool true):=by
 have e4:((k:Int).fmod 4)=((k%4:Nat):Int):=zP k 4
 have d4:((k:Int).fdiv 4)=((k/4:Nat):Int):=yJ k 4
 have e44:(((k:Int).fdiv 4).fmod 4)=((k/4%4:Nat):Int):=by rw[d4];exact zP _ 4
 have h1:k%4<4:=Nat.mod_lt _ (by decide)
 have h2:k/4%4<4:=Nat.mod_lt _ (by decide)
 generalize ha:k%4=a at *
 generalize hb:k/4%4=b at *
 obtain⟨ok,la,lt⟩:=zLj a h1 b h2
 have lb:=(zLj b h2 a h1).2.1
 have h24:sizeLine=16777216:=by decide
 have g1:decide ((k:Int).fmod 4>0)=decide (a>0):=by rw[e4];exact zOi a
 have g2:decide (((k:Int).fdiv 4).fmod 4>0)=decide (b>0):=by rw[e44];exact zOi b
 refine FunG.of (names:=["k"]) G.d_law_ends zD3 (fun _ _ _=>uC fun _=>rfl) (by decide) (by decide) ?_
 refine Sx.cons (Ex.setX (.list (yH zBz)) (Ev.conv (Ev.list (Evs.cons Ev.cstr (Evs.cons Ev.cstr (Evs.cons Ev.cstr (Evs.cons Ev.cstr Evs.nil)))) (Nat.le_of_ble_eq_true rfl)) rfl) (.inl rfl)) ?_
 refine Sx.cons (Ex.setX (.str (zCb a b)) ?_ (.inl rfl)) ?_
 ·refine Ev.binX (.str (zBz.getD a "" ++ repS ".\n.\r.\r\n" 3 ++ "\r\r\n\r\n\n\n\r\r.")) (.str (zBz.getD b "")) ?_ ?_ (uI ?_)
  ·refine Ev.binX (.str (zBz.getD a "" ++ repS ".\n.\r.\r\n" 3)) (.str "\r\r\n\r\n\n\n\r\r.") ?_ (Ev.conv Ev.cstr rfl) (uI ?_)
   ·refine Ev.binX (.str (zBz.getD a "")) (.str (repS ".\n.\r.\r\n" 3)) ?_ ?_ (uI ?_)
    ·refine Ev.itemX (.list (yH zBz)) (.int ((k:Int).fmod 4)) (Ev.name rfl) (Ev.bin (Ev.name rfl) Ev.cint (yM (by decide))) (zA5 e4 h1 (by decide))
    ·refine Ev.binX (.str ".\n.\r.\r\n") (.int (3:Nat)) (Ev.conv Ev.cstr rfl) (Ev.conv Ev.cint rfl) (QO (by decide) (by decide))
    ·rw[zG];have:(".\n.\r.\r\n":Str).length=7:=by decide
     lia
   ·rw[Str.length_append,zG];have:(".\n.\r.\r\n":Str).length=7:=by decide
    have:("\r\r\n\r\n\n\n\r\r.":Str).length=10:=by decide
    lia
  ·refine Ev.itemX (.list (yH zBz)) (.int (((k:Int).fdiv 4).fmod 4)) (Ev.name rfl) (Ev.bin (Ev.bin (Ev.name rfl) Ev.cint (vH (by decide) (PyProof.noPylong_of_log2 (by decide +kernel)))) Ev.cint (yM (by decide))) (zA5 e44 h2 (by decide))
  ·rw[←Str.length_append];exact Nat.le_trans lt (by rw[h24];decide)
 refine Sx.cons (Ex.setX (.str (zNi a b)) ?_ (.inl rfl)) ?_
 ·have l1:=zJs (decide (a>0))
  have l2:=zJs (decide (b>0))
  have l3:("..\r\n":Str).length=4:=by decide
  have l4:("\r\n":Str).length=2:=by decide
  have l5:("..":Str).length=2:=by decide
  refine Ev.binX (.str (nlS (decide (a>0))++repS "..\r\n" 9++repS "\r\n" 7 ++ "..")) (.str (nlS (decide (b>0)))) ?_ ?_ (uI ?_)
  ·refine Ev.binX (.str (nlS (decide (a>0))++repS "..\r\n" 9++repS "\r\n" 7)) (.str "..") ?_ (Ev.conv Ev.cstr rfl) (uI ?_)
   ·refine Ev.binX (.str (nlS (decide (a>0))++repS "..\r\n" 9)) (.str (repS "\r\n" 7)) ?_ ?_ (uI ?_)
    ·refine Ev.binX (.str (nlS (decide (a>0)))) (.str (repS "..\r\n" 9)) ?_ ?_ (uI ?_)
     ·refine Ev.convX _ (Ev.iteX (decide (a>0)) (.str "\r\n") (.str "") (Tr.convX (decide ((k:Int).fmod 4>0)) (Tr.cmpX _ _ (Ev.bin (Ev.name rfl) Ev.cint (yM (by decide))) Ev.cint zKm) g1) (fun _=>by exact Ev.conv Ev.cstr rfl) (fun _=>by exact Ev.conv Ev.cstr rfl)) (zKe _)
     ·refine Ev.binX (.str "..\r\n") (.int (9:Nat)) (Ev.conv Ev.cstr rfl) (Ev.conv Ev.cint rfl) (QO (by decide) (by decide))
     ·simp only[Str.length_append,zG,l3,l4,l5];lia
    ·refine Ev.binX (.str "\r\n") (.int (7:Nat)) (Ev.conv Ev.cstr rfl) (Ev.conv Ev.cint rfl) (QO (by decide) (by decide))
    ·simp only[Str.length_append,zG,l3,l4,l5];lia
   ·simp only[Str.length_append,zG,l3,l4,l5];lia
  ·refine Ev.convX _ (Ev.iteX (decide (b>0)) (.str "\r\n") (.str "") (Tr.convX (decide (((k:Int).fdiv 4).fmod 4>0)) (Tr.cmpX _ _ (Ev.bin (Ev.bin (Ev.name rfl) Ev.cint (vH (by decide) (PyProof.noPylong_of_log2 (by decide +kernel)))) Ev.cint (yM (by decide))) Ev.cint zKm) g2) (fun _=>by exact Ev.conv Ev.cstr rfl) (fun _=>by exact Ev.conv Ev.cstr rfl)) (zKe _)
  ·simp only[Str.length_append,zG,l3,l4,l5];lia
 refine Sx.retX _ (Ev.convX (.bool (wG (zCb a b)==zNi a b)) (Ev.cmpX (.str (wG (zCb a b))) (.str (zNi a b)) ?_ (Ev.name rfl) zQa) (by rw[ok]))
 refine Ev.fnX [.str (zCb a b)] rfl (Evs.cons (Ev.name rfl) Evs.nil) ((zAa G (by lia)).at rfl)
noncomputable def c0(y:Str):Nat:=y.cps.getD 0 0
noncomputable def zEm(c:Nat):Bool:=c==46||c==13||c==10
noncomputable def vN(c:Nat):Str:=bif zEm c then ⟨#[c]⟩ else mapC c
noncomputable def prepF(d:PyData):List PyData:=match d with | .str y=>bif inB1 (c0 y) then [] else [.str (vN (c0 y))] | _=>[]
noncomputable def zBw(x:Str):List Str:=(x.cps.toList.filter fun (c:Nat)=>!inB1 c).map vN
noncomputable def QX(x:Str):Str:=Txt.join "" (zBw x)
private theorem zEw(x:Str):(wB x).flatMap prepF=yH (zBw x):=by
  unfold wB zBw yH
  generalize x.cps.toList=l
  induction l with
  | nil=>rfl
  | cons c l ih =>
    rw[List.map_cons,List.flatMap_cons,ih,List.filter_cons]
    show(bif inB1 c then ([]:List PyData) else [.str (vN c)])++_=_
    cases inB1 c <;> rfl
private theorem zKd{x:Str}{i:Nat}{d:PyData}(h:(wB x)[i]?=some d):∃c,c∈x.cps.toList∧d=.str ⟨#[c]⟩:=by
 rw[wB,List.getElem?_map] at h
 cases e:x.cps.toList[i]? with
 | none=>rw[e] at h;cases h
 | some c=>rw[e] at h;cases h;exact⟨c,List.mem_of_getElem? e,rfl⟩
private theorem zNt(c:Nat):Txt.contains ".\r\n" ⟨#[c]⟩=zEm c:=by
 show(!(Builtin.Str.occurrences ".\r\n" ⟨#[c]⟩ 0 (".\r\n":Str).length 1).isEmpty)=_
 rw[StrLaws.found_one]
 show decide (c∈[46,13,10])=_
 rw[Bool.eq_iff_iff,decide_eq_true_eq]
 unfold zEm
 simp only[List.mem_cons,List.not_mem_nil,or_false,Bool.or_eq_true,beq_iff_eq]
 lia
private theorem zEl(G:Gl prog w W)(x:Str)(hx:x.length≤16777216)(hl:∀c∈x.cps.toList,inB1 c=false→Builtin.Str.tooLong (lowC c).length=false)(hj:PySem.JoinOk "" (zBw x)=true):FunG prog w W 42 "_law_prepared" [.str x] (.str (QX x)):=by
 refine FunG.of (names:=["text"]) G.d_law_prepared kO (fun _ _ _=>uC fun _=>rfl) (by decide) (by decide) ?_
 refine Sx.retX _ (Ev.meth1X (.str "") (.list (yH (zBw x))) (Ev.conv Ev.cstr rfl) (EvN.ev (EvN.conv (EvN.comp (ds:=wB x) [] (Itr.str (Ev.name rfl)) ⟨by decide,rfl,by decide,by decide⟩ Caps.nil (CL.of prepF rfl (fun _ _=>nofun) ?_) ?_) (zEw x))) (zE0 hj))
 ·intro i d hd
  obtain⟨c,hc,rfl⟩:=zKd hd
  refine⟨_,!inB1 c,Tgt.local rfl,Ifs.one (Tr.convX (inB1 c==false) (Tr.cmpX (.bool (inB1 c)) (.bool false) ?_ Ev.cbool zGm) (by cases inB1 c <;> rfl)),Sub.nil,fun hb=>?_,fun hb=>?_⟩
  ·exact Ev.fnX [.str ⟨#[c]⟩] rfl (Evs.cons (Ev.name rfl) Evs.nil) ((zB1 G c).at rfl)
  ·have h:prepF (.str ⟨#[c]⟩)=[.str (vN c)]:=by
    show(bif inB1 c then ([]:List PyData) else [.str (vN c)])=_
    rw[Bool.not_eq_true'] at hb;rw[hb];rfl
   rw[h]
   refine Emit.last rfl (fun y ds e=>by rw[yE] at e;split at e <;> cases e) ?_
   refine Ev.convX _ (Ev.iteX (zEm c) (.str ⟨#[c]⟩) (.str (mapC c)) (Tr.convX (Txt.contains ".\r\n" ⟨#[c]⟩) (Tr.cmpX (.str ⟨#[c]⟩) (.str ".\r\n") (Ev.name rfl) (Ev.conv Ev.cstr rfl) zNz) (zNt c)) (fun _=>by exact Ev.name rfl) (fun _=>?_)) (by unfold vN;cases zEm c <;> rfl)
   exact Ev.fnX [.str ⟨#[c]⟩] rfl (Evs.cons (Ev.name rfl) Evs.nil) ((zEv G c (hl c hc (by rw[Bool.not_eq_true'] at hb;exact hb))).at rfl)
  ·show(bif inB1 c then ([]:List PyData) else [.str (vN c)])=_
   rw[Bool.not_eq_false'] at hb;rw[hb];rfl
 ·rw[zEw]
  have h1:(yH (zBw x)).length≤x.length:=by
   unfold yH zBw
   rw[List.length_map,List.length_map]
   exact List.length_filter_le _ _
  have h24:sizeLine=16777216:=by decide
  lia
end Wk
namespace Wk
section
variable{prog:Program}{w:World}{W:Wd}{k:Nat}{K:List (Str×NameKind)}{ρ:Rho}{pos:Pos}
noncomputable def xW{σ:Type}(t:σ→Bool)(f:σ→σ):Nat→σ→σ
 | 0,s=>s
 | n+1,s=>bif t s then xW t f n (f s) else s
noncomputable def QS{σ:Type}(f:σ→σ):Nat→σ→σ
 | 0,s=>s
 | i+1,s=>f (QS f i s)
private theorem qR{σ:Type}(f:σ→σ)(s:σ):∀i,QS f i (f s)=QS f (i+1) s
 | 0=>rfl
 | i+1=>by show f (QS f i (f s))=f (QS f (i+1) s);rw[qR f s i]
private theorem zBa{σ:Type}{t:σ→Bool}{f:σ→σ}{m:σ→Nat}{I:σ→Prop}(hb:∀s,I s→t s=true→I (f s)∧m (f s)<m s) :
    ∀n s,I s→m s≤n→∃n',(∀i,i<n'→t (QS f i s)=true∧I (QS f i s))∧t (QS f n' s)=false∧I (QS f n' s)∧xW t f n s=QS f n' s
  | n, s, hI, hm => by
    cases ht:t s with
    | false=>exact⟨0,fun i h=>absurd h (Nat.not_lt_zero _),ht,hI,by cases n <;> simp[xW,QS,ht]⟩
    | true =>
      obtain⟨h1,h2⟩:=hb s hI ht
      match n,hm with
      | 0,hm=>omega
      | n + 1, hm =>
        obtain⟨n',a,b,c,d⟩:=zBa hb n (f s) h1 (by omega)
        refine⟨n'+1,fun i hi=>?_,by rw[←qR];exact b,by rw[←qR];exact c,by rw[←qR,←d,xW,ht];rfl⟩
        match i with
        | 0=>exact⟨ht,hI⟩
        | i+1=>rw[←qR];exact a i (by omega)
private theorem Ex.whileS{σ:Type}{test:PySem.Expr}{body:List Stmt}(R:σ→Rho)(t:σ→Bool)(f:σ→σ)(m:σ→Nat)(I:σ→Prop)(s0:σ)(hI:I s0)(ht:∀s,I s→Tr prog w W k K (R s) test (t s))
  (hb:∀s,I s→t s=true→Sx prog w W k K (R s) body (.next (R (f s)))) (hm:∀s,I s→t s=true→I (f s)∧m (f s)<m s):Ex prog w W k K (R s0) (.While test body [] pos) (.next (R (xW t f (m s0) s0))):=by
 obtain⟨n',a,b,c,d⟩:=zBa hm (m s0) s0 hI (Nat.le_refl _)
 rw[d]
 exact Ex.while (n:=n') (fun i=>R (QS f i s0)) rfl (fun i hi=>(a i hi).1▸ht _ (a i hi).2) (fun i hi=>hb _ (a i hi).2 (a i hi).1) (b▸ht _ c)
end
variable{prog:Program}{w:World}{W:Wd}
noncomputable def exIn(y:Str):Bool:=(exL.lookup y).isSome
noncomputable def slP(x:Str)(p s:Nat):Str:=Txt.slice x (some (p:Int)) (some ((p:Int)+s))
noncomputable def vO(x:Str)(p:Nat):Nat:=bif exIn (slP x p 3) then 3 else bif exIn (slP x p 2) then 2 else 1
noncomputable def jL(x:Str)(p:Nat):Int:=(exL.lookup (slP x p (vO x p))).getD ((x.cps.getD p 0:Nat)+158)
noncomputable def zFu(x:Str):Nat→Nat→List Int
 | 0,_=>[]
 | f+1,p=>bif decide (p<x.length) then jL x p::zFu x f (p+vO x p) else []
noncomputable def zGa(x:Str):List Int:=zFu x x.length 0
private theorem zLu(x:Str)(p:Nat):1≤vO x p:=by unfold vO;cases exIn (slP x p 3) <;> cases exIn (slP x p 2) <;> decide
private theorem zCf(x:Str):∀n r p,(xW (fun s:List Int×Nat=>decide (s.2<x.length)) (fun s=>(s.1++[jL x s.2],s.2+vO x s.2)) n (r,p)).1=r++zFu x n p
  | 0,r,p=>by simp[xW,zFu]
  | n + 1, r, p => by
    rw[xW,zFu]
    cases decide (p<x.length) with
    | false=>simp
    | true=>simp only[cond_true];rw[zCf x n];simp
private theorem zIs(x:Str)(p:Nat):xW (fun s=>decide (s>1) && !exIn (slP x p s)) (fun s=>s-1) 3 3=vO x p:=by
 unfold vO
 cases h3:exIn (slP x p 3) <;> cases h2:exIn (slP x p 2) <;> simp[xW,h3,h2]
private theorem zI0(G:Gl prog w W)(x:Str)(hx:x.length≤16777216):FunG prog w W 31 "_law_read" [.str x] (.list (zA (zGa x))):=by
 have h24:sizeLine=16777216:=by decide
 have hx':x.length≤sizeLine:=by rw[h24];exact hx
 refine FunG.of (names:=["text"]) G.d_law_read zDq (fun _ _ _=>uC fun _=>rfl) (by decide) (by decide) ?_
 refine Sx.cons (Ex.ownX [] (EvN.list Evs.nil (by decide)) rfl) ?_
 refine Sx.cons (Ex.setX (.int (0:Nat)) (Ev.conv Ev.cint rfl) (.inl rfl)) ?_
 refine Sx.consX [("text",.v (.str x)),("row",.own (zA (zGa x)))] ?_ (Sx.freeze (y:="row") rfl (Sx.retX _ (Ev.name rfl)))
 let R:List Int×Nat→Rho:=fun s=>[("text",.v (.str x)),("row",.own (zA s.1)),("place",.v (.int (s.2:Nat)))]
 refine Ex.weakR (ρ₁:=R (xW (fun s:List Int×Nat=>decide (s.2<x.length)) (fun s=>(s.1++[jL x s.2],s.2+vO x s.2)) x.length ([],0))) ?_ (Sub.cons rfl (Sub.cons ?_ Sub.nil))
 ·refine Ex.weakL (ρ₁:=R ([],0)) ?_ (Sub.cons rfl (Sub.cons rfl (Sub.cons rfl Sub.nil)))
  refine Ex.whileS R _ _ (fun s=>x.length-s.2) (fun s=>s.1.length≤s.2) ([],0) (Nat.le_refl _) ?_ ?_ ?_
  ·intro s hs
   refine Tr.convX (decide ((s.2:Int)<(x.length:Nat))) (Tr.cmpX (.int s.2) (.int (x.length:Nat)) (Ev.name rfl) ?_ wC) (by simp)
   exact Ev.buiX [.str x] G.b_len rfl (Evs.cons (Ev.name rfl) Evs.nil) (zI6 (by omega))
  ·rintro⟨r,p⟩ hs ht
   have hp:p<x.length:=of_decide_eq_true ht
   have hc:(x.cps)[p]?=some (x.cps.getD p 0):=by
    have hp':p<x.cps.size:=hp
    simp[hp']
   have hr:r.length≤p:=hs
   refine Sx.cons (Ex.setX (.int (3:Nat)) (Ev.conv Ev.cint rfl) (.inl rfl)) ?_
   let R2:Nat→Rho:=fun s=>[("text",.v (.str x)),("row",.own (zA r)),("place",.v (.int (p:Nat))),("size",.v (.int (s:Nat)))]
   refine Sx.cons (ρ':=R2 (vO x p)) ?_ ?_
   ·rw[←zIs x p]
    refine Ex.whileS R2 _ _ (fun s=>s) (fun s=>s≤3) 3 (Nat.le_refl _) ?_ ?_ ?_
    ·intro s hs
     refine Tr.convX (decide ((s:Int)>1)&&(!exIn (slP x p s)&&true)) (Tr.and ?_ fun _=>Tr.and ?_ fun _=>Tr.and_nil) ?_
     ·exact Tr.cmpX _ _ (Ev.name rfl) Ev.cint zKm
     ·refine Tr.convX (!((exL.lookup (slP x p s)).map PyData.int).isSome) (Tr.cmpG ?_ rfl (DicG.notInS G.m_ex (slP x p s))) (by simp[exIn])
      exact Ev.slices (Ev.name rfl) (Prt.some (Ev.name rfl)) (Prt.some (Ev.bin (Ev.name rfl) (Ev.name rfl) zH)) hx'
     ·rw[Bool.and_true];congr 1
      have:((s:Int)>1) ↔ s>1:=by omega
      simp[this]
    ·intro s hs ht
     refine(Sx.one (Ex.augP (a:=.int s) (b:=.int 1) rfl (.inl rfl) Ev.cint zM2)).weakR (Sub.cons rfl (Sub.cons rfl (Sub.cons rfl (Sub.cons ?_ Sub.nil))))
     rw[Bool.and_eq_true] at ht
     have h1:s>1:=of_decide_eq_true ht.1
     show some (Slot.v (.int ((s:Int)-1)))=some (Slot.v (.int ((s-1:Nat):Int)))
     congr 3;omega
    ·intro s hs ht
     rw[Bool.and_eq_true] at ht
     have h1:s>1:=of_decide_eq_true ht.1
     constructor <;> omega
   ·refine Sx.cons (Ex.append (ds:=zA r) (d:=.int (jL x p)) rfl (Ev.convX (((exL.lookup (slP x p (vO x p))).map PyData.int).getD (.int ((x.cps.getD p 0:Nat)+158))) ?_ ?_) ?_) ?_
    ·refine Ev.getS G.m_ex rfl ?_ ?_
     ·exact Ev.slices (Ev.name rfl) (Prt.some (Ev.name rfl)) (Prt.some (Ev.bin (Ev.name rfl) (Ev.name rfl) zH)) hx'
     ·refine Ev.binX (.int (x.cps.getD p 0:Nat)) (.int 158) (Ev.ordX _ G.b_ord rfl ?_) Ev.cint zH
      exact Ev.itemX (.str x) (.int p) (Ev.name rfl) (Ev.name rfl) (zAr p _ rfl hc (by omega))
    ·unfold jL;cases exL.lookup (slP x p (vO x p)) <;> rfl
    ·unfold zA;rw[List.length_map];omega
    ·refine(Sx.one (Ex.augP (a:=.int p) (b:=.int (vO x p)) rfl (.inl rfl) (Ev.name rfl) qE)).weakR (Sub.cons rfl (Sub.cons ?_ (Sub.cons ?_ Sub.nil)))
     ·show some (Slot.own (zA r++[.int (jL x p)]))=some (Slot.own (zA (r++[jL x p])))
      unfold zA;simp
     ·show some (Slot.v (.int ((p:Int)+(vO x p:Nat))))=some (Slot.v (.int ((p+vO x p:Nat):Int)))
      congr 3
  ·rintro⟨r,p⟩ hs ht
   have hp:p<x.length:=of_decide_eq_true ht
   have h1:=zLu x p
   have hr:r.length≤p:=hs
   refine⟨?_,?_⟩
   ·show(r++[jL x p]).length≤p+vO x p
    simp;omega
   ·show x.length-(p+vO x p)<x.length-p
    omega
 ·show some (Slot.own _)=some (Slot.own _)
  rw[zCf];rfl
end Wk
namespace Wk
variable{prog:Program}{w:World}{W:Wd}
noncomputable def okC(c:Nat):Bool:=inB1 c||(decide ((lowC c).length≤100)&&decide ((vN c).length≤100))
private theorem zC6(k:Nat):okC (yA k)=true:=by unfold okC;rw[jJ];rfl
private theorem zEu:∀a,a<25→∀b,b<13→yC a b=yC a 0:=by decide +kernel
private theorem zDg:∀a,a<25→(vN (yC a 0)=⟨#[yC a 0]⟩∧(lowC (yC a 0)).length≤100)∧inB1 (yC a 0)=false:=by decide +kernel
private theorem zDb:∀b,b<13→(vN (yC 25 b)=⟨#[yC 25 b]⟩∧(lowC (yC 25 b)).length≤100)∧inB1 (yC 25 b)=false:=by decide +kernel
private theorem wM(k:Nat):(vN (zF k)=⟨#[zF k]⟩∧(lowC (zF k)).length≤100)∧inB1 (zF k)=false:=by
 unfold zF
 have ha:k%26<26:=Nat.mod_lt _ (by decide)
 have hb:k/26%13<13:=Nat.mod_lt _ (by decide)
 by_cases h:k%26<25
 ·rw[zEu _ h _ hb];exact zDg _ h
 ·have:k%26=25:=by lia
  rw[this];exact zDb _ hb
private theorem zHs{c:Nat}{y:Str}(h1:vN c=y)(h2:(lowC c).length≤100)(h3:y.length≤100):okC c=true:=by
 unfold okC;rw[h1];simp[h2,h3]
private theorem zG5(k:Nat):okC (zF k)=true:=zHs (wM k).1.1 (wM k).1.2 (show 1≤100 by decide)
noncomputable def QG(l a:Nat):Nat:=if a<2 then l-32*a else 119711+52*(zBs.getD (a-2) 0).toNat+l
private theorem zFn(l k:Nat):QD l k=QG l (k%12):=rfl
noncomputable def yK:List Nat:=[104,112,114,115,116,109,119,98]
private theorem kI:∀l∈yK,∀a,a<12→(vN (QG l a)=⟨#[l]⟩∧(lowC (QG l a)).length≤100)∧inB1 (QG l a)=false:=by decide +kernel
private theorem zLf{l:Nat}(h:l∈yK)(k:Nat):okC (QD l k)=true:=by
 rw[zFn];have:=kI l h (k%12) (Nat.mod_lt _ (by decide));exact zHs this.1.1 this.1.2 (show 1≤100 by decide)
private theorem wH:okC 46=true∧okC 13=true∧okC 10=true:=by decide +kernel
noncomputable def kM(x:Str):Prop:=∀c∈x.cps.toList,okC c=true
private theorem kM.append{x y:Str}(a:kM x)(b:kM y):kM (x++y):=fun c h=>by
 rw[Str.cps_append,Array.toList_append,List.mem_append] at h
 exact h.elim (a c) (b c)
private theorem vX:∀(n:Nat) (l:List Nat),l.length≤n→∀c∈yF l,c=13∨c=10∨c∈l
  | _,[],_,c,hc=>by cases hc
  | 0,_::_,h,c,hc=>by simp at h
  | n + 1, d :: r, h, c, hc => by
    have hr:r.length≤n:=by simpa using h
    unfold yF at hc
    split at hc
    · simp only[List.mem_cons] at hc
      rcases hc with hc|hc|hc
      · exact .inl hc
      · exact .inr (.inl hc)
      · rcases vX n r hr c hc with h|h|h
        · exact .inl h
        · exact .inr (.inl h)
        · exact .inr (.inr (List.mem_cons_of_mem _ h))
    · split at hc
      · split at hc
        · rename_i _ r'
          simp only[List.mem_cons] at hc
          rcases hc with hc|hc|hc
          · exact .inl hc
          · exact .inr (.inl hc)
          · rcases vX n r' (by simp at hr;lia) c hc with h|h|h
            · exact .inl h
            · exact .inr (.inl h)
            · exact .inr (.inr (List.mem_cons_of_mem _ (List.mem_cons_of_mem _ h)))
        · simp only[List.mem_cons] at hc
          rcases hc with hc|hc|hc
          · exact .inl hc
          · exact .inr (.inl hc)
          · rcases vX n _ hr c hc with h|h|h
            · exact .inl h
            · exact .inr (.inl h)
            · exact .inr (.inr (List.mem_cons_of_mem _ h))
      · rcases List.mem_cons.mp hc with hc|hc
        · exact .inr (.inr (hc▸List.mem_cons_self))
        · rcases vX n r hr c hc with h|h|h
          · exact .inl h
          · exact .inr (.inl h)
          · exact .inr (.inr (List.mem_cons_of_mem _ h))
private theorem zAg:∀(l:List Nat) (b:Bool),∀c∈xE b l,c=46∨c∈l
  | [],_,c,hc=>by cases hc
  | d :: r, b, c, hc => by
    unfold xE at hc
    split at hc
    · simp only[List.mem_cons] at hc
      rcases hc with hc|hc|hc
      · exact .inl hc
      · exact .inl hc
      · exact(zAg r _ c hc).imp id (List.mem_cons_of_mem _)
    · rcases List.mem_cons.mp hc with hc|hc
      · exact .inr (hc▸List.mem_cons_self)
      · exact(zAg r _ c hc).imp id (List.mem_cons_of_mem _)
private theorem kM.quote{x:Str}(h:kM x):kM (wG x):=fun c hc=>by
 rw[show(wG x).cps.toList=xE true (yF x.cps.toList) from rfl] at hc
 rcases zAg _ _ c hc with hc|hc
 ·rw[hc];exact wH.1
 ·rcases vX _ _ (Nat.le_refl _) c hc with hc|hc|hc
  ·rw[hc];exact wH.2.1
  ·rw[hc];exact wH.2.2
  ·exact h c hc
private theorem zPl{x:Str}(h:kM x):(xO (zBw x)).length≤100*x.length:=by
  show _≤100*x.cps.size
  rw[←Array.length_toList]
  unfold xO zBw kM at *
  revert h
  generalize x.cps.toList=l
  intro h
  induction l with
  | nil=>simp
  | cons c l ih =>
    have ih:=ih fun d hd=>h d (List.mem_cons_of_mem _ hd)
    have hc:=h c List.mem_cons_self
    unfold okC at hc
    rw[List.filter_cons]
    split
    · rename_i hb
      rw[Bool.not_eq_true'] at hb
      rw[hb,Bool.false_or,Bool.and_eq_true,decide_eq_true_eq,decide_eq_true_eq] at hc
      have h2:(vN c).cps.toList.length≤100:=by rw[Array.length_toList];exact hc.2
      simp only[List.map_cons,List.flatten_cons,List.length_append,List.length_cons] at ih ⊢;lia
    · simp only[List.length_cons] at ih ⊢;lia
private theorem jO(G:Gl prog w W)(x:Str)(hx:x.length≤100000)(h:kM x):FunG prog w W 42 "_law_prepared" [.str x] (.str (QX x)):=by
 refine zEl G x (by lia) (fun c h1 h2=>?_) ?_
 ·have hc:=And.intro h1 h2
  have:=h c hc.1
  unfold okC at this
  rw[hc.2,Bool.false_or,Bool.and_eq_true,decide_eq_true_eq] at this
  unfold Builtin.Str.tooLong
  have h24:sizeLine=16777216:=by decide
  have:=this.1
  simp;lia
 ·have:=zPl h
  exact vF (by lia)
private theorem zT{x:Str}{d:PyData}{ρ:Rho}(h:zB7 ρ):zB7 ((x,.v d)::ρ):=fun y ds e=>by
 rw[List.lookup_cons] at e
 split at e
 ·cases e
 ·exact h y ds e
private theorem yN{x:Str}{d:PyData}{ρ:Rho}(h:zB7 ρ):zB7 (upd ρ x (.v d)):=fun y ds e=>by
 rw[yE] at e
 split at e
 ·cases e
 ·exact h y ds e
private theorem zJ:zB7 []:=fun y ds e=>by cases e
noncomputable def endL:List Str:=["\n","\r","\r\n"]
noncomputable def xX(D:List Nat):List PyData:=zA (D.map fun (n:Nat)=>(n:Int))
private theorem zLd(D:List Nat)(k:Nat):(D.map fun (n:Nat)=>(n:Int)).getD k 0=(D.getD k 0:Nat):=by
 rw[List.getD_eq_getElem?_getD,List.getElem?_map,List.getD_eq_getElem?_getD];cases D[k]? <;> rfl
end Wk
namespace Wk
noncomputable def zOf(l:List Nat):Prop:=∀c∈l,c≠10∧c≠13
private theorem zA6(c:Nat)(r:List Nat):yF (c::r)=if c==10 then 13::10::yF r else if c==13 then (match r with | 10::r'=>13::10::yF r' | r=>13::10::yF r) else c::yF r:=by
 conv=>lhs;rw[yF.eq_def]
 all_goals rfl
private theorem zAl:∀(x r:List Nat),zOf x→yF (x++r)=x++yF r
  | [],r,h=>rfl
  | c :: x, r, h => by
    obtain⟨h1,h2⟩:=h c List.mem_cons_self
    rw[List.cons_append,zA6]
    rw[if_neg (by simpa using h1),if_neg (by simpa using h2),zAl x r fun d hd=>h d (List.mem_cons_of_mem _ hd)];rfl
private theorem zFm(e r:List Nat)(he:e=[10]∨e=[13]∨e=[13,10])(hr:r.head? ≠ some 10):yF (e++r)=13::10::yF r:=by
  rcases he with rfl|rfl|rfl
  · show yF (10::r)=_
    rw[zA6];rfl
  · show yF (13::r)=_
    rw[zA6,if_neg (by decide),if_pos (by decide)]
    cases r with
    | nil=>rfl
    | cons c r =>
      have hc:c≠10:=by simpa using hr
      split
      · rename_i h;cases h;exact absurd rfl hc
      · rfl
  · show yF (13::10::r)=_
    rw[zA6,if_neg (by decide),if_pos (by decide)]
    rfl
private theorem zBf:∀(x r:List Nat),(∀c∈x,c≠10)→xE false (x++13::10::r)=x++13::10::xE true r
  | [],r,h=>rfl
  | c :: x, r, h => by
    have h1:=h c List.mem_cons_self
    rw[List.cons_append,xE]
    have e:(c==10)=false:=by simpa using h1
    rw[if_neg (by simp),e,zBf x r fun d hd=>h d (List.mem_cons_of_mem _ hd)];rfl
noncomputable def wE(l:List Nat):List Nat:=(l.filter fun (c:Nat)=>!inB1 c).flatMap fun c=>(vN c).cps.toList
private theorem zX(a b:List Nat):wE (a++b)=wE a++wE b:=by unfold wE;rw[List.filter_append,List.flatMap_append]
private theorem zKg(x:Str):(QX x).cps.toList=wE x.cps.toList:=by
 have e:("":Str)=Str.empty:=rfl
 unfold QX;rw[e,vV]
 unfold xO zBw wE
 rw[List.map_map,List.flatMap];rfl
private theorem qS{c:Nat}{y:Str}(h1:vN c=y)(h2:inB1 (c:Nat)=false):wE [c]=y.cps.toList:=by
 unfold wE;rw[List.filter_cons,h2];simp[h1]
private theorem zI3{c:Nat}(h:inB1 (c:Nat)=true):wE [c]=[]:=by unfold wE;rw[List.filter_cons,h];simp
private theorem zH3:wE [46]=[46]:=by decide +kernel
private theorem zBd:wE [13,10]=[13,10]:=by decide +kernel
private theorem uL:∀d,wE (List.replicate d 46)=List.replicate d 46
 | 0=>rfl
 | d+1=>by rw[List.replicate_succ,←List.singleton_append,zX,zH3,uL d]
private theorem uK(d:Nat):(repS "." d).cps.toList=List.replicate d 46:=by
 show(List.replicate d [46]).flatten=_
 induction d with
 | zero=>rfl
 | succ d ih=>rw[List.replicate_succ,List.flatten_cons,ih];rfl
end Wk
namespace Wk
noncomputable def End3(e:List Nat):Prop:=e=[10]∨e=[13]∨e=[13,10]
noncomputable def quo(x:List Nat):List Nat:=(if x.head?=some 46 then [46] else [])++x
private theorem zJn{x e r:List Nat}(hx:zOf x)(h0:x≠[])(he:End3 e)(hr:r.head? ≠ some 10) :
    xE true (yF (x++e++r))=quo x++[13,10]++xE true (yF r):=by
  rw[List.append_assoc,zAl _ _ hx,zFm e r he hr]
  cases x with
  | nil=>exact absurd rfl h0
  | cons c y =>
    have hc:=(hx c List.mem_cons_self).1
    have hy:∀d∈y,d≠10:=fun d hd=>(hx d (List.mem_cons_of_mem _ hd)).1
    unfold quo
    have e1:(c==10)=false:=by simpa using hc
    by_cases h:c=46
    · subst h
      rw[List.cons_append,xE,if_pos (by decide),zBf _ _ hy];simp
    · rw[List.cons_append,xE,if_neg (by simpa using h),e1,zBf _ _ hy];simp[h]
structure RowQ(p:List Nat×List Nat):Prop where
 n:zOf p.1
 z:p.1≠[]
 e:End3 p.2
private theorem jV:∀(L:List (List Nat×List Nat)) (r:List Nat),(∀p∈L,RowQ p)→r.head? ≠ some 10 →
    xE true (yF (L.flatMap (fun p=>p.1++p.2)++r))=L.flatMap (fun p=>quo p.1++[13,10])++xE true (yF r)
  | [],r,h,hr=>rfl
  | p :: L, r, h, hr => by
    have hp:=h p List.mem_cons_self
    have ih:=jV L r (fun q hq=>h q (List.mem_cons_of_mem _ hq)) hr
    rw[List.flatMap_cons,List.append_assoc,zJn hp.n hp.z hp.e,ih,List.flatMap_cons,List.append_assoc,List.append_assoc]
    · simp only[List.append_assoc]
    · cases L with
      | nil=>simpa using hr
      | cons q L =>
        have hq:=h q (List.mem_cons_of_mem _ List.mem_cons_self)
        rw[List.flatMap_cons]
        obtain⟨x,e⟩:=q
        cases x with
        | nil=>exact absurd rfl hq.z
        | cons c y =>
          have:=(hq.n c List.mem_cons_self).1
          simpa using this
private theorem zIn(s:Nat)(h1:s≠10)(h2:s≠13)(h3:s≠46):xE true (yF [13,s,46,10,46])=[13,10,s,46,13,10,46,46]:=by
 have e1:yF [13,s,46,10,46]=[13,10,s,46,13,10,46]:=by
  have:=zFm [13] [s,46,10,46] (.inr (.inl rfl)) (by simpa using h1)
  rw[show([13,s,46,10,46]:List Nat)=[13]++[s,46,10,46] from rfl,this]
  rw[show([s,46,10,46]:List Nat)=[s,46]++[10,46] from rfl,zAl _ _ (fun c hc=>by
   simp only[List.mem_cons,List.not_mem_nil,or_false] at hc
   rcases hc with rfl|rfl
   ·exact⟨h1,h2⟩
   ·decide)]
  have e2:yF [10,46]=[13,10,46]:=by decide +kernel
  rw[e2];rfl
 rw[e1]
 have e3:(s==46)=false:=by simpa using h3
 have e4:(s==10)=false:=by simpa using h1
 simp[xE,e3,e4]
private theorem zK1(s:Nat)(hp:vN s=⟨#[s]⟩)(hb:inB1 (s:Nat)=false):wE [13,10,s,46,13,10,46,46]=[13,10,s,46,13,10,46,46]:=by
 rw[show([13,10,s,46,13,10,46,46]:List Nat)=[13,10]++[s]++[46]++[13,10]++[46]++[46] from rfl,zX,zX,zX,zX,zX,zBd,zH3,qS hp hb]
private theorem kW{α:Type}(f g:α→List Nat):∀(L:List α),(∀p∈L,wE (f p)=g p)→wE (L.flatMap f)=L.flatMap g
 | [],_=>rfl
 | p::L,h=>by rw[List.flatMap_cons,List.flatMap_cons,zX,h p List.mem_cons_self,kW f g L fun q hq=>h q (List.mem_cons_of_mem _ hq)]
private theorem zKt:∀a,a<27→∀b,b<11→(if a<11 then (xV.getD b 0).toNat else 65013+a:Nat)≠10∧(if a<11 then (xV.getD b 0).toNat else 65013+a:Nat)≠13∧(if a<11 then (xV.getD b 0).toNat else 65013+a:Nat)≠46:=by decide +kernel
private theorem zCq(k:Nat):yA k≠10∧yA k≠13∧yA k≠46:=zKt _ (Nat.mod_lt _ (by decide)) _ (Nat.mod_lt _ (by decide))
private theorem zGn:∀a,a<26→∀b,b<13→yC a b≠10∧yC a b≠13∧yC a b≠46:=by decide +kernel
private theorem zGr(k:Nat):zF k≠10∧zF k≠13∧zF k≠46:=zGn _ (Nat.mod_lt _ (by decide)) _ (Nat.mod_lt _ (by decide))
private theorem zEj:∀l∈yK,∀a,a<12→QG l a≠10∧QG l a≠13∧QG l a≠46:=by decide +kernel
noncomputable def ltN(w:Nat):Nat:=yK.getD w 0
private theorem vZ:∀w,w<8→ltN w∈yK∧("hprstmwb":Str).cps[w]?=some (ltN w)∧(98≤ltN w∧ltN w≤200)∧ltN w≠13∧ltN w≠10∧ltN w≠46:=by decide +kernel
noncomputable def djN(j:Nat):Nat:=3*(j/2)+1+j%2
private theorem zHy:∀w,w<8→0<djN w∧djN w≤11:=by decide
noncomputable def sT(l:List Nat):Str:=⟨l.toArray⟩
private theorem zQ4(x:Str):x=sT x.cps.toList:=rfl
private theorem rep_sT(d:Nat):repS "." d=sT (List.replicate d 46):=by rw[zQ4 (repS "." d),uK]
end Wk
namespace Wk
open Builtin.Int
variable{prog:Program}{w:World}{W:Wd}
private theorem FunG.ofE{k:Nat}{K:List (Str×NameKind)}{f:Str}{st inn:Stmt}{qual:Str}{names:List Str}{ds:List PyData}{d:PyData}(D:zLs W f st inn qual)(hK:(sScope st).names=K)
  (hb:∀pm cd doc (vs:List Value),vs.length=ds.length→bindArgs (Calls.docDef (sName st) (sArgs st) (sBody st) (sScope st) pm cd doc) ⟨vs,[]⟩=pure (names.zip vs)) (hn:names.Nodup)
  (hkn:∀x∈names,K.lookup x=some .local∨K.lookup x=some .cell)
  (h:∀c P q,Nest W c P q→q.qual=qual→q.line=(sPos inn).line→q.col=(sPos inn).col→∀A s₀ X₀ env X s E,Room k A→env.scope=sScope st→env.code=.ref c→env.qual=sName st++(".<locals>.":Str)→St W s₀ X₀ env (yI names ds) X s→wpAny (model prog w) A (execs (sBody st) env) (Post W s₀ X₀ env X s (.ret d)) E s) :
  FunG prog w W (k+1) f ds d:=by
 obtain⟨a,c,P,q,h1,h2,h3,h4,h5,h6⟩:=D
 obtain⟨o,pm,doc,ho,hget,hcd⟩:=h2.here
 exact⟨a,h1,⟨o,_,ho,hget⟩,Fun.of_defE h2 hb hn (by rw[hK];exact hkn) (h c P q h3 h4 h5 h6)⟩
private theorem zOm{s₀ s:Shared}{X₀ X:Addr→Prop}{env:Env}{ρ:Rho}(x:St W s₀ X₀ env ρ X s){F:Addr}{s':Shared}(hF:s.heap.get? F=none)(inv:W.Inv s.heap):¬ W.Ts F:=fun h=>by
 obtain⟨o,e,_⟩:=W.inv_Ts _ _ inv h
 rw[hF] at e;cases e
private theorem zOc(N:Nat):List.replicate N (PyData.int 0)=zA (List.replicate N 0):=by unfold zA;rw[List.map_replicate]
private theorem QJ{k:Nat}{K:List (Str×NameKind)}{A:Around}{E:Value→Shared→Prop}{s₀ s:Shared}{X₀ X:Addr→Prop}{env:Env}{ρ:Rho}{F:Addr}{o:Obj}{fd:FuncData}{e:PySem.Expr}{es:List PySem.Expr}{pos:Pos}{ds:List PyData}{Q:Value→Shared→Prop}(R:Room k A)(hk:env.scope.names=K)(x:St W s₀ X₀ env ρ X s)
  (ha:Evs prog w W k K ρ pos (e::es) ds) (hQ:∀vs s',RdAll X s'.heap vs ds→W.Ext s s'→(s'.heap.get? F=some o∧o.data=.func fd)∧wpAny (model prog w) A (PySem.call (.ref F) vs) Q E s')
  (he:∀env,starEach (e::es) env=(false,eval e env)::starEach es env:=by intro _;rfl) :
  wpAny (model prog w) A (evalArgs (.ref F) true (backTo pos (starEach (e::es) env)) []) (fun x s₁=>(s₁.heap.get? F=some o∧o.data=.func fd)∧wpAny (model prog w) A (PySem.call (.ref F) ([]++x.pos) x.kw) Q E s₁) E s:=by
 have hh:=ha.run A s₀ X₀ env X s E R hk x
 have e1:backTo pos (starEach (e::es) env)=(false,eval e env)::(backTo pos (starEach (e::es) env)).tail:=by
  rw[he];rfl
 rw[e1] at hh ⊢
 exact Calls.evalArgs_plain (wpAny_mono hh (fun vs s₁ ⟨hv,e2⟩=>hQ vs s₁ hv e2) fun _ _ h=>h)
noncomputable def wU(n a:Nat):List Int:=(List.range ((intBits a+n-1)/n)).map fun i=>(dig n a ((intBits a+n-1)/n) i:Int)
private theorem zMy:∀y∈xZ,y.2=.free→xM.lookup y.1=some .cell:=by decide
private theorem zMx(n a N:Nat):putD n a N 0 (List.replicate N 0)=(List.range N).map fun i=>(dig n a N i:Int):=by
 unfold putD
 rw[List.length_replicate]
 refine zFd fun j hj=>?_
 rw[if_pos (by lia),Nat.sub_zero]
private theorem IntsAre.of_rep{X:Addr→Prop}{h:Heap}{vs:List Value}{ds:List PyData}{ns:List Int}(r:RdAll X h vs ds)(e:ds=zA ns):IntsAre vs ns:=(e▸r).ints
private theorem QA(G:Gl prog w W)(a n:Nat)(hn:0<n)(hN:(intBits a+n-1)/n≤2^20)(ha:intBits a≤2^23)(hn2:n≤2^23):FunG prog w W 41 "_int2digits" [.int a,.int n] (.list (zA (wU n a))):=by
 have h24:sizeLine=16777216:=by decide
 refine FunG.ofE (names:=["a","n"]) G.n_i2d uF (fun _ _ _=>zAu fun _ _=>rfl) (by decide) (by decide) ?_
 intro c P q N hq hline hcol A s₀ X₀ env X s E R hsc hcode hqual x
 have hK:env.scope.names=xM:=by rw[hsc];exact uF
 generalize hNd:(intBits (a:Int)+n-1)/n=Nd at hN
 have hbits:Nd*n≤2^24:=by
  have:Nd*n≤intBits (a:Int)+n-1:=by rw[←hNd];exact Nat.div_mul_le_self _ _
  have h2:(2:Nat)^24=2*2^23:=by decide
  lia
 have hdv:((intBits (a:Int):Int)+n-1).fdiv n=(Nd:Int):=by
  have e1:((intBits (a:Int):Int)+n-1)=((intBits (a:Int)+n-1:Nat):Int):=by lia
  rw[e1,yJ,hNd]
 refine wpAny_execs_cons (wpAny_mono ((Ex.ownC (ds:=List.replicate Nd (.int 0)) (EvN.conv (EvN.mul (xs:=[.int 0]) (b:=(Nd:Int)) ?_ ?_ (by lia) (by lia) (by show 1*_≤_;lia)) ?_) rfl).run A s₀ X₀ env X s _ R hK x) (fun f s₁ hf=>?_) fun _ _ h=>h)
 ·exact Ev.list (Evs.cons Ev.cint Evs.nil) (by decide)
 ·refine Ev.convX (.int (((intBits (a:Int):Int)+n-1).fdiv n)) ?_ (by rw[hdv])
  refine Ev.binX (.int ((intBits (a:Int):Int)+n-1)) (.int n) (Ev.binX (.int ((intBits (a:Int):Int)+n)) (.int 1) (Ev.binX (.int (intBits (a:Int))) (.int n) ?_ (Ev.name rfl) zH) Ev.cint zR) (Ev.name rfl) (vH (by lia) (PyProof.noPylong_small (by lia)))
  exact Ev.meth0X (.int a) (Ev.name rfl) zDk
 ·rw[Int.toNat_natCast];simp
 obtain⟨rfl,X1,x1,g1⟩:=hf
 have hcell:∀y,xM.lookup y=some .cell→∃c,env.cells.lookup y=some c:=fun y hy=>by
  obtain⟨c,_,h,_⟩:=x1.ce y (by show env.scope.names.lookup y=_;rw[hK];exact hy)
  exact⟨c,h⟩
 have hfree:∀y∈(sScope zO).names,y.2=.free→∃c,env.cells.lookup y.1=some c:=fun y hy hf=>by
  rw[xD] at hy
  exact hcell _ (zMy y hy hf)
 have hclos:xG env.cells (sScope zO).names []=(("n":Str),(env.cells.lookup ("n":Str)).getD 0)::[(("inner":Str),(env.cells.lookup ("inner":Str)).getD 0),(("a_digits":Str),(env.cells.lookup ("a_digits":Str)).getD 0)]:=by
  rw[xD];rfl
 have hqn:qualnameIn env "inner" "inner"=q.qual:=by
  rw[hq];unfold qualnameIn
  rw[hqual]
  have:(env.kindOf ("inner":Str)==some NameKind.globalExplicit)=false:=by
   show(env.scope.names.lookup _==_)=false
   rw[hK];rfl
  rw[this];rfl
 refine wpAny_execs_cons (x1.nest N hcode hqn hline hcol hfree hclos (by show env.scope.names.lookup _=_;rw[hK];rfl) rfl rfl rfl rfl fun s2 F o doc cv ctv hF hd hrec hcls x2 g2 hci hF0=>?_)
 have hdig:putD n a Nd 0 (List.replicate Nd 0)=wU n a:=by
  rw[zMx];unfold wU;rw[hNd]
 have K2:∀{o:Out} {sts:List Stmt} {ρ:Rho} {X':Addr→Prop} {s':Shared},Sx prog w W 40 xM ρ sts o→St W s₀ X₀ env ρ X' s'→Grow X s X' s'→wpAny (model prog w) A (execs sts env) (Post W s₀ X₀ env X s o) E s':=fun h x' g' =>
  wpAny_mono (h.run A s₀ X₀ env _ _ E R hK x') (fun f s₃ hf=>hf.grow g') fun _ _ h=>h
 have g12:=g1.trans g2
 by_cases ha0:a=0
 ·subst ha0
  have hNd0:Nd=0:=by
   rw[←hNd]
   have:intBits ((0:Nat):Int)=0:=by decide
   rw[this]
   exact Nat.div_eq_of_lt (by lia)
  subst hNd0
  refine K2 (ρ:=upd (upd (yI ["a","n"] [.int (0:Nat),.int n]) "a_digits" (.own [])) "inner" .opq) ?_ x2 g12
  refine Sx.ifskipX ((((0:Nat):Int)) != 0) (by decide) (Tr.val (Ev.name rfl) qG) (Sx.freeze (y:="a_digits") rfl (Sx.retX _ (Ev.convX (.list []) (Ev.name rfl) ?_)))
  unfold wU;rw[hNd];rfl
 have hne:((a:Int) != 0)=true:=by simpa using (by omega)
 have hNd1:0<Nd:=by
  have h1:1≤intBits (a:Int):=by
   by_cases h:intBits (a:Int)≤0
   ·have:=zB.mp h
    simp at this;lia
   ·lia
  rw[←hNd]
  exact Nat.div_pos (by lia) hn
 refine wpAny_execs_cons (wpAny_If (wpAny_mono ((Tr.val (k:=40) (b:=((a:Int) != 0)) (Ev.name (d:=.int a) rfl) qG).run A s₀ X₀ env X1 s2 _ R hK x2) (fun b s3 ⟨hb,e3⟩=>?_) fun _ _ h=>h))
 rw[hne] at hb;subst hb
 have x3:=x2.step e3
 have hFts:=zOm (s':=s2) x1 hF0 x1.inv
 obtain⟨ci,hci1,hci2⟩:=hci
 have hcits:¬ W.Ts ci:=by
  obtain⟨ci',_,h1,_,h3,_⟩:=x2.ce "inner" (by show env.scope.names.lookup _=_;rw[hK];rfl)
  rw[hci1] at h1;cases h1
  exact x2.nts h3
 rw[if_pos rfl]
 have hint:interactive env=false:=by unfold interactive;rw[x.fk];rfl
 obtain⟨m3,hns3,_⟩:=x3.vals
 have hcell3:s3.heap.IsCell ci (some (.ref F)):=by obtain⟨o',h1,h2⟩:=hci2;exact⟨o',e3.get hcits h1,h2⟩
 refine wpAny_execs_cons (wpAny_Expr ?_ hint)
 show wpAny _ A (do callWith _ (← eval (.Name "inner" _) env) [] (backTo _ (starEach _ env)) (backToKw _ (keywordEach [] env))) _ E s3
 refine wpAny_bind (x3.ldOwn hns3 (y:="inner") (v:=.ref F) (.inr ⟨by show env.scope.names.lookup _=_;rw[hK];rfl,ci,hci1,hcell3⟩) ?_)
 refine Calls.callWith_function (o:=o) (fd:=fdI q.qual (((("n":Str),(env.cells.lookup ("n":Str)).getD 0)::[(("inner":Str),(env.cells.lookup ("inner":Str)).getD 0),(("a_digits":Str),(env.cells.lookup ("a_digits":Str)).getD 0)])) doc ((W.mg "__name__").getD .none) cv ctv) ?_
 refine QJ (ds:=[.int a,.int (0:Nat),.int (0+Nd:Nat)]) R hK x3 (Evs.cons (Ev.name rfl) (Evs.cons (Ev.conv Ev.cint rfl) (Evs.cons (Ev.thaw (y:="a_digits") rfl (Ev.convX (.int (List.replicate Nd (PyData.int 0)).length) ?_ ?_)) Evs.nil))) fun vs s4 hvs e4=>?_
 ·exact Ev.buiX [.list (List.replicate Nd (.int 0))] G.b_len rfl (Evs.cons (Ev.name rfl) Evs.nil) (yX (by rw[List.length_replicate];lia))
 ·rw[List.length_replicate,Nat.zero_add]
 have x4:=x3.step e4
 have F4:s4.heap.get? F=some o:=e4.get hFts (e3.get hFts hF)
 refine⟨⟨F4,hd⟩,?_⟩
 obtain⟨t1,t2,t3,rfl⟩:=RdAll.i3 hvs
 obtain⟨m4,D,vs4,hns4,hh4,h04,hX4,hX04,hp4,hr4⟩:=x4.own (y:="a_digits") rfl
 obtain⟨m5,vn,hns5,hhn,hvn⟩:=x4.slotx (y:="n") (sl:=.v (.int n)) rfl
 have kA:env.kindOf ("a_digits":Str)=some .cell:=by show env.scope.names.lookup _=_;rw[hK];rfl
 have kN:env.kindOf ("n":Str)=some .cell:=by show env.scope.names.lookup _=_;rw[hK];rfl
 rcases hh4 with⟨hh4,_⟩|⟨_,cA,hA1,hA2⟩
 ·rw[kA] at hh4;cases hh4
 rcases hhn with⟨hhn,_⟩|⟨_,cN,hN1,hN2⟩
 ·rw[kN] at hhn;cases hhn
 have hvn':Rd X1 s4.heap vn (.int n):=hvn
 obtain⟨tN,rfl⟩:=Rd.i hvn'
 obtain⟨f,hf1,hf2⟩:∃f,Nd≤2^f∧f≤20:=⟨20,hN,Nat.le_refl _⟩
 have hin:InA s4.heap F D cA ci cN o (fdI q.qual (((("n":Str),(env.cells.lookup ("n":Str)).getD 0)::[(("inner":Str),(env.cells.lookup ("inner":Str)).getD 0),(("a_digits":Str),(env.cells.lookup ("a_digits":Str)).getD 0)])) doc ((W.mg "__name__").getD .none) cv ctv) n tN:=by
  refine⟨F4,?_,W.inv_lim _ x4.inv,hA2,?_,hN2⟩
  ·obtain⟨cc,oc,rfl,r2,r3⟩:=hcls
   obtain⟨cc',oc',us,t,r1',r2',r3',r4'⟩:=hrec
   cases r1'
   rw[r2] at r2';cases r2'
   have hts:¬ W.Ts cc:=fun h=>by
    obtain⟨o',q1,q2⟩:=W.inv_Ts _ _ x2.inv h
    rw[r2] at q1;cases q1;rw[r3] at q2;cases q2
   exact⟨cc,oc,us,t,rfl,e4.get hts (e3.get hts r2),r3',r4'⟩
  ·obtain⟨o',h1,h2⟩:=hcell3;exact⟨o',e4.get hcits h1,h2⟩
 have cA':(env.cells.lookup ("a_digits":Str)).getD 0=cA:=by rw[hA1];rfl
 have cI':(env.cells.lookup ("inner":Str)).getD 0=ci:=by rw[hci1];rfl
 have cN':(env.cells.lookup ("n":Str)).getD 0=cN:=by rw[hN1];rfl
 have hints:qM s4.heap D (List.replicate Nd 0):=⟨vs4,hp4,IntsAre.of_rep hr4 (zOc Nd)⟩
 refine zAq hd (cA:=cA) (cI:=ci) (cN:=cN) (by rw[cA'];rfl) (by rw[cI'];rfl) (by rw[cN'];rfl) f Nd hNd1 hf1 a 0 (List.replicate Nd 0) A s4 _ _ t1 t2 t3 (by have:=R.2.1;lia) hin hints (by rw[List.length_replicate];lia) (by rw[List.length_replicate];exact hbits) (by rw[List.length_replicate];lia) _ (Nat.le_trans (Nat.pow_le_pow_right (by decide) (by decide:23≤24)) (Nat.le_refl _)) ha fun h' tk hli k'=>?_
 rw[hdig] at hli
 obtain⟨vs',hp',hi'⟩:=hli
 have x5:St W s₀ X₀ env (upd (upd (upd (yI ["a","n"] [.int a,.int n]) "a_digits" (.own (List.replicate Nd (.int 0)))) "inner" .opq) "a_digits" (.own (zA (wU n a)))) X1 {s4 with heap:=h',toks:=tk} :=
  x4.mutateE (y:="a_digits") (ds':=zA (wU n a)) rfl hns4 (.inr ⟨kA,cA,hA1,hA2⟩) h04 hX4 hX04 hp4 hp' k' (Wk.IntsAre.rd hi')
 have g5:Grow X s X1 {s4 with heap:=h',toks:=tk}:=g12.trans ((Grow.ext e3 x2.ts).trans ((Grow.ext e4 x3.ts).trans fun b o hb e=>⟨k' b o (fun e'=>hb (e'▸hX4)) e,hb⟩))
 refine wpAny_execs_nil ?_
 exact K2 (Sx.freeze (y:="a_digits") rfl (Sx.retX _ (Ev.name rfl))) x5 g5
end Wk
namespace Wk
open Builtin.Int
variable{prog:Program}{w:World}{W:Wd}
private theorem zN7:∀y∈wA,y.2=.free→xL.lookup y.1=some .cell:=by decide
noncomputable def yP(ns:List Nat):List Int:=ns.map fun (d:Nat)=>(d:Int)
private theorem zP0(ns:List Nat):seg ns 0 ns.length=ns:=by unfold seg;simp
private theorem zIj(G:Gl prog w W)(ns:List Nat)(n M:Nat)(hn:0<n)(hlen:ns.length≤2^20)(hbits:ns.length*n≤2^24)(hM:M≤2^23)(hds:∀d∈ns,d<2^M):FunG prog w W 41 "_digits2int" [.list (zA (yP ns)),.int n] (.int (valN n ns:Nat)):=by
  have h24:sizeLine=16777216:=by decide
  refine FunG.ofE (names:=["digits","n"]) G.n_d2i uB (fun _ _ _=>zAu fun _ _=>rfl) (by decide) (by decide) ?_
  intro c P q N hq hline hcol A s₀ X₀ env X s E R hsc hcode hqual x
  have hK:env.scope.names=xL:=by rw[hsc];exact uB
  have hcell:∀y,xL.lookup y=some .cell→∃c,env.cells.lookup y=some c:=fun y hy=>by
    obtain⟨c,_,h,_⟩:=x.ce y (by show env.scope.names.lookup y=_;rw[hK];exact hy)
    exact⟨c,h⟩
  have hfree:∀y∈(sScope zN).names,y.2=.free→∃c,env.cells.lookup y.1=some c:=fun y hy hf=>by
    rw[xC] at hy
    exact hcell _ (zN7 y hy hf)
  have hclos:xG env.cells (sScope zN).names []=(("n":Str),(env.cells.lookup ("n":Str)).getD 0)::[(("inner":Str),(env.cells.lookup ("inner":Str)).getD 0),(("digits":Str),(env.cells.lookup ("digits":Str)).getD 0)]:=by
    rw[xC];rfl
  have hqn:qualnameIn env "inner" "inner"=q.qual:=by
    rw[hq];unfold qualnameIn
    rw[hqual]
    have:(env.kindOf ("inner":Str)==some NameKind.globalExplicit)=false:=by
      show(env.scope.names.lookup _==_)=false
      rw[hK];rfl
    rw[this];rfl
  refine wpAny_execs_cons (x.nest N hcode hqn hline hcol hfree hclos (by show env.scope.names.lookup _=_;rw[hK];rfl) rfl rfl rfl rfl fun s2 F o doc cv ctv hF hd hrec hcls x2 g2 hci hF0=>?_)
  cases ns with
  | nil =>
    refine wpAny_mono ((Sx.retX (k:=40) (K:=xL) (.int ((valN n []:Nat):Int)) (Ev.ite_f (Tr.convX (!([]:List PyData).isEmpty) (Tr.val (Ev.name rfl) (zHx (by decide))) rfl) (Ev.conv Ev.cint rfl))).run A s₀ X₀ env _ _ E R hK x2) (fun f s₃ hf=>hf.grow g2) fun _ _ h=>h
  | cons d0 ns0 =>
  generalize hns:d0::ns0=ns at *
  have hpos:0<ns.length:=by rw[←hns];simp
  have hne:(!(zA (yP ns)).isEmpty)=true:=by rw[←hns];rfl
  refine wpAny_execs_cons (wpAny_Return_some (IfExp_ (wpAny_mono ((Tr.val (k:=40) (b:=(!(zA (yP ns)).isEmpty)) (Ev.name (d:=.list (zA (yP ns))) rfl) (zHx ?_)).run A s₀ X₀ env X s2 _ R hK x2) (fun b s3 ⟨hb,e3⟩=>?_) fun _ _ h=>h)))
  · unfold zA yP;rw[List.length_map,List.length_map];lia
  rw[hne] at hb;subst hb
  have x3:=x2.step e3
  have hFts:=zOm (s':=s2) x hF0 x.inv
  obtain⟨ci,hci1,hci2⟩:=hci
  have hcits:¬ W.Ts ci:=by
    obtain⟨ci',_,h1,_,h3,_⟩:=x2.ce "inner" (by show env.scope.names.lookup _=_;rw[hK];rfl)
    rw[hci1] at h1;cases h1
    exact x2.nts h3
  obtain⟨m3,hns3,_⟩:=x3.vals
  have hcell3:s3.heap.IsCell ci (some (.ref F)):=by obtain⟨o',h1,h2⟩:=hci2;exact⟨o',e3.get hcits h1,h2⟩
  show wpAny _ A (do callWith _ (← eval (.Name "inner" _) env) [] (backTo _ (starEach _ env)) (backToKw _ (keywordEach [] env))) _ E s3
  refine wpAny_bind (x3.ldOwn hns3 (y:="inner") (v:=.ref F) (.inr ⟨by show env.scope.names.lookup _=_;rw[hK];rfl,ci,hci1,hcell3⟩) ?_)
  refine Calls.callWith_function (o:=o) (fd:=fdJ q.qual (((("n":Str),(env.cells.lookup ("n":Str)).getD 0)::[(("inner":Str),(env.cells.lookup ("inner":Str)).getD 0),(("digits":Str),(env.cells.lookup ("digits":Str)).getD 0)])) doc ((W.mg "__name__").getD .none) cv ctv) ?_
  refine QJ (ds:=[.int (0:Nat),.int (0+ns.length:Nat)]) R hK x3 (Evs.cons (Ev.conv Ev.cint rfl) (Evs.cons (Ev.convX (.int (zA (yP ns)).length) ?_ ?_) Evs.nil)) fun vs s4 hvs e4=>?_
  · exact Ev.buiX [.list (zA (yP ns))] G.b_len rfl (Evs.cons (Ev.name rfl) Evs.nil) (yX (by unfold zA yP;rw[List.length_map,List.length_map];lia))
  · unfold zA yP;rw[List.length_map,List.length_map,Nat.zero_add]
  have x4:=x3.step e4
  have F4:s4.heap.get? F=some o:=e4.get hFts (e3.get hFts hF)
  refine⟨⟨F4,hd⟩,?_⟩
  obtain⟨t2,t3,rfl⟩:=RdAll.i2 hvs
  obtain⟨m4,vd,hns4,hhd,hvd⟩:=x4.slotx (y:="digits") (sl:=.v (.list (zA (yP ns)))) rfl
  obtain⟨m5,vn,hns5,hhn,hvn⟩:=x4.slotx (y:="n") (sl:=.v (.int n)) rfl
  have kA:env.kindOf ("digits":Str)=some .cell:=by show env.scope.names.lookup _=_;rw[hK];rfl
  have kN:env.kindOf ("n":Str)=some .cell:=by show env.scope.names.lookup _=_;rw[hK];rfl
  rcases hhd with⟨hhd,_⟩|⟨_,cA,hA1,hA2⟩
  · rw[kA] at hhd;cases hhd
  rcases hhn with⟨hhn,_⟩|⟨_,cN,hN1,hN2⟩
  · rw[kN] at hhn;cases hhn
  have hvn':Rd X s4.heap vn (.int n):=hvn
  obtain⟨tN,rfl⟩:=Rd.i hvn'
  have hvd':Rd X s4.heap vd (.list (zA (yP ns))):=hvd
  cases hvd' with | @list D vsD _ hx hl ha =>
  have hin:InB s4.heap F D cA ci cN o (fdJ q.qual (((("n":Str),(env.cells.lookup ("n":Str)).getD 0)::[(("inner":Str),(env.cells.lookup ("inner":Str)).getD 0),(("digits":Str),(env.cells.lookup ("digits":Str)).getD 0)])) doc ((W.mg "__name__").getD .none) cv ctv) n tN:=by
    refine⟨F4,?_,W.inv_lim _ x4.inv,hA2,?_,hN2⟩
    · obtain⟨cc,oc,rfl,r2,r3⟩:=hcls
      obtain⟨cc',oc',us,t,r1',r2',r3',r4'⟩:=hrec
      cases r1'
      rw[r2] at r2';cases r2'
      have hts:¬ W.Ts cc:=fun h=>by
        obtain⟨o',q1,q2⟩:=W.inv_Ts _ _ x2.inv h
        rw[r2] at q1;cases q1;rw[r3] at q2;cases q2
      exact⟨cc,oc,us,t,rfl,e4.get hts (e3.get hts r2),r3',r4'⟩
    · obtain⟨o',h1,h2⟩:=hcell3;exact⟨o',e4.get hcits h1,h2⟩
  have cA':(env.cells.lookup ("digits":Str)).getD 0=cA:=by rw[hA1];rfl
  have cI':(env.cells.lookup ("inner":Str)).getD 0=ci:=by rw[hci1];rfl
  have cN':(env.cells.lookup ("n":Str)).getD 0=cN:=by rw[hN1];rfl
  refine zBm (M:=M) (ns:=ns) hd (cA:=cA) (cI:=ci) (cN:=cN) (by rw[cA'];rfl) (by rw[cI'];rfl) (by rw[cN'];rfl) hn (by lia) hbits (by lia) hds 20 ns.length hpos hlen 0 A s4 _ _ t2 t3 (by have:=R.2.1;lia) hin ⟨vsD,hl,ha.ints⟩ (by lia) fun h' tk t k'=>?_
  rw[zP0]
  refine⟨_,rfl,.int _ t,x4.ext.trans (.of_heap x4.inv k')⟩
end Wk
namespace Wk
open Builtin.Int
private theorem zL6(A b:Nat)(hb:0<b):∀(n:Nat) (q R:Int),(A:Int)=q*b+R→R<b→(-R).toNat≤n→xW (fun s:Int×Int=>decide (s.2<0)) (fun s=>(s.1-1,s.2+b)) n (q,R)=(((A/b:Nat):Int),((A%b:Nat):Int))
  | 0,q,R,h,h1,hn=>zF5 A b q R hb h (by lia) h1
  | n + 1, q, R, h, h1, hn => by
    by_cases h0:R<0
    · have:decide (R<0)=true:=by simpa using h0
      rw[xW,this,cond_true]
      refine zL6 A b hb n (q-1) (R+b) ?_ (by lia) (by lia)
      rw[h];grind
    · have:decide (R<0)=false:=by simpa using h0
      rw[xW,this,cond_false]
      exact zF5 A b q R hb h (by lia) h1
variable{prog:Program}{w:World}{W:Wd}
noncomputable def zQk(prog:Program)(w:World)(W:Wd)(L:Nat):Prop:=∀(a b n:Nat),2^(n-1)≤b→b<2^n→0<n→n≤4000*2^L→n≤2^20→a<b*2^n →
 FunG prog w W (60*L+40) "_div2n1n" [.int a,.int b,.int n] (.tuple [.int (a/b:Nat),.int (a%b:Nat)])
private theorem zCr(G:Gl prog w W)(k a12 a3 b b1 b2 n:Nat)(q0 r0:Nat)(hb:b=b1*2^n+b2)(hb0:0<b)(hb2:b2<2^n)(h3:a3<2^n)(hn:n≤2^20)(hr:intBits r0≤2^22)(hq:intBits q0≤2^22)
  (hA:((a12*2^n+a3:Nat):Int)=(q0:Int)*b+((r0:Int)*2^n+a3-q0*b2)) (hlt:((r0:Int)*2^n+a3-q0*b2)<b) :
  Sx prog w W (k+10) zAb [("a3",.v (.int a3)),("b",.v (.int b)),("b2",.v (.int b2)),("n",.v (.int n)),("q",.v (.int q0)),("r",.v (.int r0))] ((sBody uJ).drop 1) (.ret (.tuple [.int ((a12*2^n+a3)/b:Nat),.int ((a12*2^n+a3)%b:Nat)])):=by
 have hor:Builtin.bitOr (((r0*2^n:Nat):Int)) (a3:Int)=((r0*2^n+a3:Nat):Int):=by rw[zB0,zL3 _ _ _ h3]
 have hp:(((r0*2^n+a3:Nat):Int))-(q0:Int)*b2=(r0:Int)*2^n+a3-q0*b2:=by push_cast;rfl
 refine Sx.cons (Ex.setX (.int ((r0:Int)*2^n+a3-q0*b2)) ?_ (.inl rfl)) ?_
 ·refine Ev.convX (.int ((((r0*2^n+a3:Nat):Int))-(q0:Int)*b2)) ?_ (by rw[hp])
  refine Ev.binX (.int ((r0*2^n+a3:Nat):Int)) (.int ((q0:Int)*b2)) ?_ ?_ zR
  ·refine Ev.convX (.int (Builtin.bitOr (((r0*2^n:Nat):Int)) (a3:Int))) ?_ (by rw[hor])
   refine Ev.binX (.int ((r0*2^n:Nat):Int)) (.int a3) ?_ (Ev.name rfl) op_or
   refine Ev.convX (.int ((r0:Int)*2^((n:Int)).toNat)) (Ev.binX (.int r0) (.int n) (Ev.name rfl) (Ev.name rfl) (wD (by lia) ?_)) (by rw[wO])
   have h27:(2:Int)^27=134217728:=by decide
   have h22:(2:Nat)^22=4194304:=by decide
   have h20:(2:Nat)^20=1048576:=by decide
   lia
  ·refine Ev.binX (.int q0) (.int b2) (Ev.name rfl) (Ev.name rfl) (yO (.of_le (m:=2^22) (n:=2^20) hq ?_ (by decide)))
   exact Nat.le_trans (zB.mpr hb2) hn
 let R:Int×Int→Rho:=fun s=>[("b",.v (.int b)),("q",.v (.int s.1)),("r",.v (.int s.2))]
 refine Sx.cons (ρ':=R (xW (fun s:Int×Int=>decide (s.2<0)) (fun s=>(s.1-1,s.2+b)) (-((r0:Int)*2^n+a3-q0*b2)).toNat ((q0:Int),(r0:Int)*2^n+a3-q0*b2))) ?_ ?_
 ·refine Ex.weakL (ρ₁:=R ((q0:Int),(r0:Int)*2^n+a3-q0*b2)) ?_ (Sub.cons rfl (Sub.cons rfl (Sub.cons rfl Sub.nil)))
  refine Ex.whileS R _ _ (fun s=>(-s.2).toNat) (fun _=>True) _ trivial ?_ ?_ ?_
  ·rintro⟨q,r⟩ _
   exact Tr.cmpX (.int r) (.int 0) (Ev.name rfl) Ev.cint wC
  ·rintro⟨q,r⟩ _ ht
   refine Sx.cons (Ex.augP (a:=.int q) (b:=.int 1) rfl (.inl rfl) Ev.cint zM2) ?_
   exact(Sx.one (Ex.augP (a:=.int r) (b:=.int b) rfl (.inl rfl) (Ev.name rfl) qE)).weakR (Sub.cons rfl (Sub.cons rfl (Sub.cons rfl Sub.nil)))
  ·rintro⟨q,r⟩ _ ht
   have:r<0:=of_decide_eq_true ht
   refine⟨trivial,?_⟩
   show(-(r+(b:Int))).toNat<(-r).toNat
   lia
 ·rw[zL6 (a12*2^n+a3) b hb0 _ _ _ hA hlt (Nat.le_refl _)]
  exact Sx.retX _ (Ev.tuple (Evs.two (Ev.name rfl) (Ev.name rfl)) (Nat.le_of_ble_eq_true rfl))
private theorem div32(G:Gl prog w W)(L:Nat)(ih:zQk prog w W L)(a12 a3 b b1 b2 n:Nat)(hb:b=b1*2^n+b2)(hb2:b2<2^n)(hb1:2^(n-1)≤b1)(hb1':b1<2^n)(ha:a12<b)(h3:a3<2^n)(hn0:0<n)(hn:n≤4000*2^L)(hn2:n≤2^20) :
  FunG prog w W (60*L+70) "_div3n2n" [.int a12,.int a3,.int b,.int b1,.int b2,.int n] (.tuple [.int ((a12*2^n+a3)/b:Nat),.int ((a12*2^n+a3)%b:Nat)]):=by
 have hN:=Nat.two_pow_pos n
 have h20:(2:Nat)^20=1048576:=by decide
 have h22:(2:Nat)^22=4194304:=by decide
 have h27:(2:Int)^27=134217728:=by decide
 have hb1p:0<b1:=Nat.lt_of_lt_of_le (Nat.two_pow_pos _) hb1
 have hb0:0<b:=by rw[hb];exact Nat.lt_of_lt_of_le (Nat.mul_pos hb1p hN) (Nat.le_add_right _ _)
 have hbi1:intBits (b1:Int)≤2^20:=Nat.le_trans (zB.mpr hb1') hn2
 refine FunG.of (k:=60*L+69) (names:=["a12","a3","b","b1","b2","n"]) G.d_div3n2n zFl (fun _ _ _=>lens6 fun _ _ _ _ _ _=>rfl) (by decide) (by decide) ?_
 have t1:Tr prog w W (60*L+59+10) zAb (yI ["a12","a3","b","b1","b2","n"] [.int a12,.int a3,.int b,.int b1,.int b2,.int n]) (stTest ((sBody uJ).getD 0 default)) (((a12/2^n:Nat):Int)==(b1:Int)):=by
  refine Tr.cmpX (.int (a12/2^n:Nat)) (.int b1) ?_ (Ev.name rfl) kE
  refine Ev.convX _ (Ev.binX (.int a12) (.int n) (Ev.name rfl) (Ev.name rfl) (jD (Int.natCast_nonneg _))) (by rw[zAo])
 by_cases hq:a12/2^n=b1
 ·have hle:b1*2^n≤a12:=by rw[←hq];exact Nat.div_mul_le_self _ _
  have hr0:a12-b1*2^n+b1≤b1+b2-1:=by lia
  have hN1:2^n-1<2^n:=Nat.sub_lt hN Nat.one_pos
  have hR:=zCr (prog:=prog) (w:=w) G (60*L+59) a12 a3 b b1 b2 n (2^n-1) (a12-b1*2^n+b1) hb hb0 hb2 h3 hn2 ?_ ?_ ?_ ?_
  refine Sx.iftake (ρ':=upd (upd (yI ["a12","a3","b","b1","b2","n"] [.int a12,.int a3,.int b,.int b1,.int b2,.int n]) "r" (.v (.int (a12-b1*2^n+b1:Nat)))) "q" (.v (.int (2^n-1:Nat)))) (Tr.convX _ t1 (by rw[hq];simp)) ?_ (Sx.weakL hR (Sub.cons rfl (Sub.cons rfl (Sub.cons rfl (Sub.cons rfl (Sub.cons rfl (Sub.cons rfl Sub.nil)))))))
  ·refine Sx.one (Ex.swap (ds:=[.int (2^n-1:Nat),.int (a12-b1*2^n+b1:Nat)]) rfl (Ev.tuple (Evs.two ?_ ?_) (Nat.le_of_ble_eq_true rfl)) (StoN.cons (.inl rfl) (StoN.cons (.inl rfl) StoN.nil)))
   ·refine Ev.convX (.int ((1:Int)*2^((n:Int)).toNat-1)) (Ev.binX (.int ((1:Int)*2^((n:Int)).toNat)) (.int 1) (Ev.binX (.int 1) (.int n) Ev.cint (Ev.name rfl) (wD (Int.natCast_nonneg _) ?_)) Ev.cint zR) ?_
    ·have:intBits (1:Int)=1:=by decide
     lia
    ·have:=wO 1 n
     rw[show((1:Int))=((1:Nat):Int) from rfl,this,Nat.one_mul]
     congr 1;exact(Int.ofNat_sub hN).symm
   ·refine Ev.convX (.int ((a12:Int)-(b1*2^n:Nat)+b1)) (Ev.binX (.int ((a12:Int)-(b1*2^n:Nat))) (.int b1) (Ev.binX (.int a12) (.int (b1*2^n:Nat)) (Ev.name rfl) ?_ zR) (Ev.name rfl) zH) ?_
    ·refine Ev.convX _ (Ev.binX (.int b1) (.int n) (Ev.name rfl) (Ev.name rfl) (wD (Int.natCast_nonneg _) (by lia))) (by rw[wO])
    ·congr 1;lia
  ·refine Nat.le_trans (zB (m:=n+1).mpr ?_) (by lia)
   have:2^(n+1)=2*2^n:=by rw[Nat.pow_succ,Nat.mul_comm]
   lia
  ·exact Nat.le_trans (zB (m:=n).mpr hN1) (Nat.le_trans hn2 (by decide))
  ·have e1:((2^n-1:Nat):Int)=((2^n:Nat):Int)-1:=Int.ofNat_sub hN
   have e2:((a12-b1*2^n+b1:Nat):Int)=(a12:Int)-((b1:Int)*((2^n:Nat):Int))+b1:=by
    have:((b1*2^n:Nat):Int)=(b1:Int)*((2^n:Nat):Int):=by push_cast;rfl
    lia
   have e3:(2:Int)^n=((2^n:Nat):Int):=by push_cast;rfl
   rw[e1,e2,e3,hb]
   push_cast
   have:=zN1 (a12:Int) a3 b1 b2 (2^n)
   exact this
  ·have e1:((2^n-1:Nat):Int)=((2^n:Nat):Int)-1:=Int.ofNat_sub hN
   have e3:(2:Int)^n=((2^n:Nat):Int):=by push_cast;rfl
   rw[e1,e3,hb]
   have h6:((a12-b1*2^n+b1:Nat):Int)≤(b1:Int)+b2-1:=by lia
   have h7:=Int.mul_le_mul_of_nonneg_right h6 (Int.natCast_nonneg (2^n))
   have h8:(a3:Int)<((2^n:Nat):Int):=Int.ofNat_lt.mpr h3
   push_cast at h7 h8 ⊢
   generalize ((2:Int)^n)=N at *
   have h9:((b1:Int)+b2-1)*N=b1*N+b2*N-N:=by grind
   have h10:(N-1)*(b2:Int)=b2*N-b2:=by grind
   rw[h9] at h7
   rw[h10]
   lia
 ·have hlt:a12/2^n<b1:=by
   refine Nat.lt_of_le_of_ne (Nat.le_of_lt_succ ((Nat.div_lt_iff_lt_mul hN).mpr ?_)) hq
   rw[Nat.succ_mul]
   exact Nat.lt_trans (hb▸ha) (Nat.add_lt_add_left hb2 _)
  have ha1:a12<b1*2^n:=(Nat.div_lt_iff_lt_mul hN).mp hlt
  have hq2:a12/b1<2^n:=(Nat.div_lt_iff_lt_mul hb1p).mpr (by rw[Nat.mul_comm];exact ha1)
  have hr2:a12%b1<b1:=Nat.mod_lt _ hb1p
  have hdm:=Nat.div_add_mod a12 b1
  have hR:=zCr (prog:=prog) (w:=w) G (60*L+59) a12 a3 b b1 b2 n (a12/b1) (a12%b1) hb hb0 hb2 h3 hn2 ?_ ?_ ?_ ?_
  refine Sx.ifskip (ρ':=upd (upd (yI ["a12","a3","b","b1","b2","n"] [.int a12,.int a3,.int b,.int b1,.int b2,.int n]) "q" (.v (.int (a12/b1:Nat)))) "r" (.v (.int (a12%b1:Nat)))) (Tr.convX _ t1 (by rw[beq_eq_false_iff_ne];intro h;exact hq (by exact_mod_cast h))) ?_ (Sx.weakL hR (Sub.cons rfl (Sub.cons rfl (Sub.cons rfl (Sub.cons rfl (Sub.cons rfl (Sub.cons rfl Sub.nil)))))))
  ·refine Sx.one (Ex.setT (ds:=[]) (x:=.tuple [.int (a12/b1:Nat),.int (a12%b1:Nat)]) (Ev.fnX [.int a12,.int b1,.int n] rfl (Evs.cons (Ev.name rfl) (Evs.cons (Ev.name rfl) (Evs.cons (Ev.name rfl) Evs.nil))) ((ih a12 b1 n hb1 hb1' hn0 hn hn2 ha1).mono (Nat.add_le_add_left (by decide) _))) (Tgt.tuple zW (Tgts.cons (Tgt.local rfl) (Tgts.cons (Tgt.local rfl) Tgts.nil))))
  ·exact Nat.le_trans (zB (m:=n).mpr (Nat.lt_trans hr2 hb1')) (Nat.le_trans hn2 (by decide))
  ·exact Nat.le_trans (zB (m:=n).mpr hq2) (Nat.le_trans hn2 (by decide))
  ·rw[hb]
   have e3:(2:Int)^n=((2^n:Nat):Int):=by push_cast;rfl
   have e4:(a12:Int)=((a12/b1:Nat):Int)*b1+((a12%b1:Nat):Int):=by
    have:((b1*(a12/b1)+a12%b1:Nat):Int)=a12:=by rw[hdm]
    rw[←this];push_cast;rw[Int.mul_comm]
   have:=zNo (a12:Int) a3 b1 b2 ((2^n:Nat):Int) _ _ e4
   rw[e3]
   push_cast at this ⊢
   exact this
  ·rw[hb]
   have h6:((a12%b1:Nat):Int)≤(b1:Int)-1:=Int.le_sub_one_of_lt (Int.ofNat_lt.mpr hr2)
   have h7:=Int.mul_le_mul_of_nonneg_right h6 (Int.natCast_nonneg (2^n))
   have h8:(a3:Int)<((2^n:Nat):Int):=Int.ofNat_lt.mpr h3
   have h11:(0:Int)≤((a12/b1:Nat):Int)*b2:=by
    exact Int.mul_nonneg (Int.natCast_nonneg _) (Int.natCast_nonneg _)
   have e3:(2:Int)^n=((2^n:Nat):Int):=by push_cast;rfl
   rw[e3]
   have h12:((b1*2^n+b2:Nat):Int)=(b1:Int)*((2^n:Nat):Int)+b2:=by push_cast;rfl
   rw[h12]
   generalize ((2^n:Nat):Int)=N at *
   generalize ((a12%b1:Nat):Int)=r at *
   generalize ((a12/b1:Nat):Int)*b2=m at *
   have h9:((b1:Int)-1)*N=b1*N-N:=by grind
   rw[h9] at h7
   lia
end Wk
namespace Wk
open Builtin.Int
private theorem zKc(a b n:Nat)(hn:0<n)(hb:2^(n-1)≤b)(ha:a<2^(n+4000)):Builtin.divisionGoesByPylong (a:Int) (b:Int)=false:=by
 have hb0:b≠0:=by have:=Nat.two_pow_pos (n-1);lia
 have h1:n-1≤b.log2:=(Nat.le_log2 hb0).mpr hb
 unfold Builtin.divisionGoesByPylong
 have e1:((b:Int)==0)=false:=by simpa using hb0
 simp only[e1,Int.natAbs_natCast,Bool.false_eq_true,if_false,Bool.and_eq_false_iff,decide_eq_false_iff_not]
 right
 by_cases h0:a=0
 ·subst h0;simp
 ·have e2:((a:Int)==0)=false:=by simpa using h0
  rw[e2]
  have h2:a.log2<n+4000:=(Nat.log2_lt h0).mpr ha
  simp only[Bool.false_eq_true,if_false]
  lia
variable{prog:Program}{w:World}{W:Wd}
private theorem zNe(x h:Nat):Builtin.bitAnd (x:Int) ((2^h-1:Nat):Int)=((x%2^h:Nat):Int):=by rw[kD,Nat.and_two_pow_sub_one_eq_mod]
private theorem zIb(G:Gl prog w W)(L:Nat)(ih:zQk prog w W L)(a b p a' b' h:Nat)(hp:p=0∨p=1)(ha':a'=a*2^p)(hb':b'=b*2^p)(hh0:0<h)(hh:h≤4000*2^L)(hh2:h≤2^19)
  (hb1:2^(2*h-1)≤b') (hb2:b'<2^(2*h)) (hab:a'<b'*2^(2*h)) :
  Sx prog w W (60*L+99) yV [("a",.v (.int a')),("b",.v (.int b')),("n",.v (.int (2*h:Nat))),("pad",.v (.int p))] ((sBody wV).drop 3) (.ret (.tuple [.int (a/b:Nat),.int (a%b:Nat)])):=by
 have hN:=Nat.two_pow_pos h
 have h19:(2:Nat)^19=524288:=by decide
 have h27:(2:Int)^27=134217728:=by decide
 have hNN:(2:Nat)^(2*h)=2^h*2^h:=by rw[←Nat.pow_add];congr 1;lia
 have hb0:0<b':=Nat.lt_of_lt_of_le (Nat.two_pow_pos _) hb1
 have hbb:b'=b'/2^h*2^h+b'%2^h:=by have:=Nat.div_add_mod b' (2^h);rw[Nat.mul_comm] at this;exact this.symm
 have hbl:b'%2^h<2^h:=Nat.mod_lt _ hN
 have hbh:b'/2^h<2^h:=(Nat.div_lt_iff_lt_mul hN).mpr (by rw[←hNN];exact hb2)
 have hbh1:2^(h-1)≤b'/2^h:=by
  rw[Nat.le_div_iff_mul_le hN,←Nat.pow_add]
  have:h-1+h=2*h-1:=by lia
  rw[this];exact hb1
 have ha12:a'/2^(2*h)<b':=(Nat.div_lt_iff_lt_mul (Nat.two_pow_pos _)).mpr hab
 have hdd:a'/2^h/2^h=a'/2^(2*h):=by rw[Nat.div_div_eq_div_mul,hNN]
 have hA1:a'/2^(2*h)*2^h+a'/2^h%2^h=a'/2^h:=by
  rw[←hdd]
  have:=Nat.div_add_mod (a'/2^h) (2^h)
  rw[Nat.mul_comm] at this;exact this
 obtain⟨hs1,hs2⟩:=zO9 a' b' (2^h) hb0
 have hr1:a'/2^h%b'<b':=Nat.mod_lt _ hb0
 have hm:a'%2^h<2^h:=Nat.mod_lt _ hN
 have hq2:(a'/2^h%b'*2^h+a'%2^h)/b'<2^h:=by
  refine(Nat.div_lt_iff_lt_mul hb0).mpr ?_
  have:(a'/2^h%b'+1)*2^h≤b'*2^h:=Nat.mul_le_mul_right _ hr1
  rw[Nat.add_mul] at this
  rw[Nat.mul_comm (2^h) b']
  lia
 have hq1:a'/2^h/b'<2^h:=by
  refine(Nat.div_lt_iff_lt_mul hb0).mpr ((Nat.div_lt_iff_lt_mul hN).mpr ?_)
  rw[Nat.mul_comm (2^h) b',Nat.mul_assoc,←hNN];exact hab
 have hquo:a'/b'=a/b:=by rw[ha',hb',Nat.mul_div_mul_right _ _ (Nat.two_pow_pos _)]
 have hrem:a'%b'=a%b*2^p:=by rw[ha',hb',Nat.mul_mod_mul_right]
 refine Sx.cons (Ex.setX (.int h) (Ev.convX _ (Ev.binX (.int (2*h:Nat)) (.int 1) (Ev.name rfl) Ev.cint (jD (by decide))) ?_) (.inl rfl)) ?_
 ·have:=zAo (2*h) 1
  rw[show((1:Int))=((1:Nat):Int) from rfl,this]
  congr 2;lia
 refine Sx.cons (Ex.setX (.int (2^h-1:Nat)) (Ev.convX (.int ((1:Int)*2^((h:Int)).toNat-1)) (Ev.binX (.int ((1:Int)*2^((h:Int)).toNat)) (.int 1) (Ev.binX (.int 1) (.int h) Ev.cint (Ev.name rfl) (wD (Int.natCast_nonneg _) ?_)) Ev.cint zR) ?_) (.inl rfl)) ?_
 ·have:intBits (1:Int)=1:=by decide
  lia
 ·have:=wO 1 h
  rw[show((1:Int))=((1:Nat):Int) from rfl,this,Nat.one_mul]
  congr 1;lia
 have evsh:∀{ρ:Rho} {x m:Nat} {e1 e2:PySem.Expr} {pos:Pos} {k:Nat},Ev prog w W k yV ρ e1 (.int x)→Ev prog w W k yV ρ e2 (.int m)→Ev prog w W k yV ρ (.BinOp e1 .RShift e2 pos) (.int (x/2^m:Nat)):=fun h1 h2 =>
  Ev.convX _ (Ev.bin h1 h2 (jD (Int.natCast_nonneg _))) (by rw[zAo])
 have evmk:∀{ρ:Rho} {x:Nat} {e1 e2:PySem.Expr} {pos:Pos} {k:Nat},Ev prog w W k yV ρ e1 (.int x)→Ev prog w W k yV ρ e2 (.int (2^h-1:Nat))→Ev prog w W k yV ρ (.BinOp e1 .BitAnd e2 pos) (.int (x%2^h:Nat)):=fun h1 h2 =>
  Ev.convX _ (Ev.bin h1 h2 zLw) (by rw[zNe])
 refine Sx.cons (Ex.swap (ds:=[.int (b'/2^h:Nat),.int (b'%2^h:Nat)]) rfl (Ev.tuple (Evs.two (evsh (Ev.name rfl) (Ev.name rfl)) (evmk (Ev.name rfl) (Ev.name rfl))) (Nat.le_of_ble_eq_true rfl)) (StoN.cons (.inl rfl) (StoN.cons (.inl rfl) StoN.nil))) ?_
 have f1:=div32 G L ih (a'/2^(2*h)) (a'/2^h%2^h) b' (b'/2^h) (b'%2^h) h hbb hbl hbh1 hbh ha12 (Nat.mod_lt _ hN) hh0 hh (by lia)
 rw[hA1] at f1
 refine Sx.cons (Ex.setT (ds:=[]) (x:=.tuple [.int (a'/2^h/b':Nat),.int (a'/2^h%b':Nat)]) (Ev.fnX [.int (a'/2^(2*h):Nat),.int (a'/2^h%2^h:Nat),.int b',.int (b'/2^h:Nat),.int (b'%2^h:Nat),.int h] rfl
  (Evs.cons (evsh (Ev.name rfl) (Ev.name rfl)) (Evs.cons (evmk (evsh (Ev.name rfl) (Ev.name rfl)) (Ev.name rfl)) (Evs.cons (Ev.name rfl) (Evs.cons (Ev.name rfl) (Evs.cons (Ev.name rfl) (Evs.cons (Ev.name rfl) Evs.nil)))))) (f1.mono (by lia))) (Tgt.tuple zW (Tgts.cons (Tgt.local rfl) (Tgts.cons (Tgt.local rfl) Tgts.nil)))) ?_
 have f2:=div32 G L ih (a'/2^h%b') (a'%2^h) b' (b'/2^h) (b'%2^h) h hbb hbl hbh1 hbh hr1 hm hh0 hh (by lia)
 rw[←hs2] at f2
 refine Sx.cons (Ex.setT (ds:=[]) (x:=.tuple [.int ((a'/2^h%b'*2^h+a'%2^h)/b':Nat),.int (a'%b':Nat)]) (Ev.fnX [.int (a'/2^h%b':Nat),.int (a'%2^h:Nat),.int b',.int (b'/2^h:Nat),.int (b'%2^h:Nat),.int h] rfl
  (Evs.cons (Ev.name rfl) (Evs.cons (evmk (Ev.name rfl) (Ev.name rfl)) (Evs.cons (Ev.name rfl) (Evs.cons (Ev.name rfl) (Evs.cons (Ev.name rfl) (Evs.cons (Ev.name rfl) Evs.nil)))))) (f2.mono (by lia))) (Tgt.tuple zW (Tgts.cons (Tgt.local rfl) (Tgts.cons (Tgt.local rfl) Tgts.nil)))) ?_
 have fin:∀ ρ:Rho,ρ.lookup ("q1":Str)=some (.v (.int (a'/2^h/b':Nat)))→ρ.lookup ("q2":Str)=some (.v (.int ((a'/2^h%b'*2^h+a'%2^h)/b':Nat)))→ρ.lookup ("half_n":Str)=some (.v (.int h))→ρ.lookup ("r":Str)=some (.v (.int (a%b:Nat))) →
   Sx prog w W (60*L+99) yV ρ ((sBody wV).drop 9) (.ret (.tuple [.int (a/b:Nat),.int (a%b:Nat)])):=fun ρ l1 l2 l3 l4=>by
  refine Sx.retX _ (Ev.tuple (Evs.two (Ev.convX (.int (Builtin.bitOr ((a'/2^h/b'*2^h:Nat):Int) (((a'/2^h%b'*2^h+a'%2^h)/b':Nat):Int))) ?_ ?_) (Ev.name l4)) (Nat.le_of_ble_eq_true rfl))
  ·refine Ev.binX (.int (a'/2^h/b'*2^h:Nat)) (.int ((a'/2^h%b'*2^h+a'%2^h)/b':Nat)) (Ev.convX _ (Ev.binX (.int (a'/2^h/b':Nat)) (.int h) (Ev.name l1) (Ev.name l3) (wD (Int.natCast_nonneg _) ?_)) (by rw[wO])) (Ev.name l2) op_or
   have:intBits ((a'/2^h/b':Nat):Int)≤h:=zB.mpr hq1
   lia
  ·rw[zB0,zL3 _ _ _ hq2,←hs1,hquo]
 rcases hp with hp|hp
 ·subst hp
  rw[Nat.pow_zero,Nat.mul_one] at hrem
  refine Sx.ifskip (Tr.convX _ (Tr.val (Ev.name rfl) qG) rfl) Sx.nil (fin _ rfl rfl rfl ?_)
  rw[←hrem];rfl
 ·subst hp
  refine Sx.cons (Ex.ite_t (Tr.convX _ (Tr.val (Ev.name rfl) qG) rfl) (Sx.one (Ex.augP (a:=.int (a'%b':Nat)) (b:=.int 1) rfl (.inl rfl) Ev.cint (zIe (by decide))))) ?_
  refine fin _ rfl rfl rfl ?_
  have:=zAo (a'%b') 1
  have h1:(((a'%b':Nat):Int)).fdiv (2^((1:Int)).toNat)=((a%b:Nat):Int):=by
   rw[show((1:Int))=((1:Nat):Int) from rfl,this,hrem,Nat.mul_div_cancel _ (Nat.two_pow_pos _)]
  rw[←h1];rfl
private theorem div21(G:Gl prog w W):∀L,zQk prog w W L:=by
  have h20:(2:Nat)^20=1048576:=by decide
  have hlim:=G.c_lim
  have test:∀(L a b n:Nat),Tr prog w W (60*L+29+10) yV (yI ["a","b","n"] [.int a,.int b,.int n]) ((stTest ((sBody wV).getD 0 default))) (decide ((intBits (a:Int):Int)-n≤4000)):=by
    intro L a b n
    refine Tr.cmpX (.int ((intBits (a:Int):Int)-n)) (.int 4000) (Ev.binX (.int (intBits (a:Int))) (.int n) (Ev.meth0X (.int a) (Ev.name rfl) zDk) (Ev.name rfl) zR) (Ev.conG (by assumption) rfl) cmp_le
  have base:∀(L a b n:Nat),2^(n-1)≤b→0<n→intBits (a:Int)≤n+4000→FunG prog w W (60*L+40) "_div2n1n" [.int a,.int b,.int n] (.tuple [.int (a/b:Nat),.int (a%b:Nat)]):=by
    intro L a b n hb hn ha
    have hb0:b≠0:=by have:=Nat.two_pow_pos (n-1);lia
    refine FunG.of (k:=60*L+39) (names:=["a","b","n"]) G.d_div2n1n QN (fun _ _ _=>zP2 fun _ _ _=>rfl) (by decide) (by decide) ?_
    refine Sx.ifretX (decide ((intBits (a:Int):Int)-n≤4000)) (by simp;lia) (test L a b n) ?_
    refine Sx.retX _ (Ev.convX _ (Ev.buiX [.int a,.int b] G.b_divmod rfl (Evs.cons (Ev.name rfl) (Evs.cons (Ev.name rfl) Evs.nil)) (zCu (by lia) (zKc a b n hn hb (zB.mp ha)))) ?_)
    rw[yJ,zP]
  intro L
  induction L with
  | zero =>
    intro a b n hb1 hb2 hn hn1 hn2 hab
    refine base 0 a b n hb1 hn (Nat.le_trans (zB (m:=n+n).mpr ?_) (by rw[Nat.pow_zero] at hn1;lia))
    rw[Nat.pow_add]
    exact Nat.lt_of_lt_of_le hab (Nat.mul_le_mul_right _ (Nat.le_of_lt hb2))
  | succ L ih =>
    intro a b n hb1 hb2 hn hn1 hn2 hab
    by_cases hbase:intBits (a:Int)≤n+4000
    · exact base (L+1) a b n hb1 hn hbase
    have hpow:(2:Nat)^(L+1)=2*2^L:=by rw[Nat.pow_succ];lia
    have hp:n%2=0∨n%2=1:=by lia
    have hne:n≤8000*2^L:=by lia
    obtain⟨h,hh⟩:∃h,n+n%2=2*h:=⟨(n+n%2)/2,by lia⟩
    have haL:intBits (a:Int)≤n+n:=by
      refine zB.mpr ?_
      rw[Nat.pow_add]
      exact Nat.lt_of_lt_of_le hab (Nat.mul_le_mul_right _ (Nat.le_of_lt hb2))
    have h27:(2:Int)^27=134217728:=by decide
    have h19:(2:Nat)^19=524288:=by decide
    have hR:=zIb G L ih a b (n%2) (a*2^(n%2)) (b*2^(n%2)) h hp rfl rfl (by lia) (by lia) (by lia) ?_ ?_ ?_
    · refine FunG.of (k:=60*(L+1)+39) (names:=["a","b","n"]) G.d_div2n1n QN (fun _ _ _=>zP2 fun _ _ _=>rfl) (by decide) (by decide) ?_
      refine Sx.ifskipX (decide ((intBits (a:Int):Int)-n≤4000)) (by simp;lia) (test (L+1) a b n) ?_
      refine Sx.cons (Ex.setX (.int (n%2:Nat)) (Ev.convX _ (Ev.binX (.int n) (.int (1:Nat)) (Ev.name rfl) (Ev.conv Ev.cint rfl) zLw) (by rw[kD,Nat.and_one_is_mod])) (.inl rfl)) ?_
      rcases hp with hp|hp
      · rw[hp] at hR hh ⊢
        rw[Nat.pow_zero,Nat.mul_one,Nat.mul_one] at hR
        rw[Nat.add_zero] at hh
        rw[←hh] at hR
        refine Sx.ifskip (Tr.convX _ (Tr.val (Ev.name rfl) qG) rfl) Sx.nil (Sx.weakL hR (Sub.cons rfl (Sub.cons rfl (Sub.cons rfl (Sub.cons rfl Sub.nil)))))
      · rw[hp] at hR hh ⊢
        rw[←hh] at hR
        have e1:∀x:Nat,((x:Int)*2^((1:Int)).toNat)=((x*2^1:Nat):Int):=fun x=>wO x 1
        refine Sx.cons (Ex.ite_t (Tr.convX _ (Tr.val (Ev.name rfl) qG) rfl) (Sx.cons (Ex.augP (a:=.int a) (b:=.int 1) rfl (.inl rfl) Ev.cint (zCg (by decide) (by lia))) (Sx.cons (Ex.augP (a:=.int b) (b:=.int 1) rfl (.inl rfl) Ev.cint (zCg (by decide) ?_)) (Sx.one (Ex.augP (a:=.int n) (b:=.int 1) rfl (.inl rfl) Ev.cint qE))))) (Sx.weakL hR (Sub.cons ?_ (Sub.cons ?_ (Sub.cons rfl (Sub.cons rfl Sub.nil)))))
        · have:intBits (b:Int)≤n:=zB.mpr hb2
          lia
        · rw[←e1];rfl
        · rw[←e1];rfl
    · have e1:2*h-1=n-1+n%2:=by lia
      rw[e1,Nat.pow_add]
      exact Nat.mul_le_mul_right _ hb1
    · rw[←hh,Nat.pow_add]
      exact Nat.mul_lt_mul_of_pos_right hb2 (Nat.two_pow_pos _)
    · rw[←hh,Nat.pow_add]
      calc a*2^(n%2)<b*2^n*2^(n%2):=Nat.mul_lt_mul_of_pos_right hab (Nat.two_pow_pos _)
        _=b*(2^n*2^(n%2)):=by rw[Nat.mul_assoc]
        _≤b*2^(n%2)*(2^n*2^(n%2)):=Nat.mul_le_mul_right _ (Nat.le_mul_of_pos_right _ (Nat.two_pow_pos _))
end Wk
namespace Wk
open Builtin.Int
noncomputable def dsN(n a N:Nat):List Nat:=(List.range N).map (dig n a N)
private theorem zHb(n a:Nat):∀m,valN n ((List.range m).map fun i=>a/2^(n*i)%2^n)=a%2^(n*m)
  | 0=>by simp[valN,Nat.mod_one]
  | m + 1 => by
    rw[List.range_succ,List.map_append,vA,zHb n a m,List.length_map,List.length_range]
    show _+2^(n*m)*(a/2^(n*m)%2^n+2^n*0)=_
    rw[Nat.mul_zero,Nat.add_zero,Nat.mul_succ,Nat.pow_add,Nat.mod_mul]
private theorem zMu(n a N:Nat)(h:a<2^(n*N)):valN n (dsN n a N)=a:=by
  cases N with
  | zero=>simp at h;subst h;rfl
  | succ m =>
    unfold dsN
    rw[List.range_succ,List.map_append]
    have e1:(List.range m).map (dig n a (m+1))=(List.range m).map fun i=>a/2^(n*i)%2^n:=List.map_congr_left fun i hi=>by
      have:=List.mem_range.mp hi
      unfold dig;rw[if_pos (by lia)]
    have e2:dig n a (m+1) m=a/2^(n*m):=by unfold dig;rw[if_neg (by lia)]
    rw[e1,vA,zHb,List.length_map,List.length_range]
    show _+2^(n*m)*(dig n a (m+1) m+2^n*0)=_
    rw[e2,Nat.mul_zero,Nat.add_zero,Nat.mod_add_div]
private theorem dig_lt(n a N i:Nat)(h:a<2^(n*N))(hi:i<N):dig n a N i<2^n:=by
 unfold dig
 split
 ·exact Nat.mod_lt _ (Nat.two_pow_pos _)
 ·have:N=i+1:=by lia
  subst this
  rw[Nat.div_lt_iff_lt_mul (Nat.two_pow_pos _),←Nat.pow_add]
  have:n+n*i=n*(i+1):=by rw[Nat.mul_succ];lia
  rw[this];exact h
section
variable(n b:Nat)(D:Nat→Nat)
noncomputable def remI:Nat→Nat
 | 0=>0
 | i+1=>(remI i*2^n+D i)%b
noncomputable def quoI(i:Nat):Nat:=(remI n b D i*2^n+D i)/b
private theorem zQp(hb:0<b):∀i,remI n b D i<b
 | 0=>hb
 | i+1=>Nat.mod_lt _ hb
private theorem zHz(hb:0<b):∀i,valN n (((List.range i).map (quoI n b D)).reverse)*b+remI n b D i=valN n (((List.range i).map D).reverse)
  | 0=>by simp[valN,remI]
  | i + 1 => by
    have ih:=zHz hb i
    rw[List.range_succ,List.map_append,List.map_append,List.reverse_append,List.reverse_append]
    show(quoI n b D i+2^n*valN n ((List.range i).map (quoI n b D)).reverse)*b+(remI n b D i*2^n+D i)%b=D i+2^n*valN n ((List.range i).map D).reverse
    rw[←ih]
    have h1:=Nat.div_add_mod (remI n b D i*2^n+D i) b
    unfold quoI
    generalize (remI n b D i*2^n+D i)/b=q at *
    generalize (remI n b D i*2^n+D i)%b=r at *
    generalize valN n ((List.range i).map _).reverse=v at *
    generalize remI n b D i=s at *
    grind
end
variable{prog:Program}{w:World}{W:Wd}
private theorem zJj(l:List Nat):zA (yP l)=l.map fun (d:Nat)=>PyData.int (d:Int):=by unfold zA yP;rw[List.map_map];rfl
private theorem zFe(l:List Nat):(yP l).reverse=yP l.reverse:=by unfold yP;rw[List.map_reverse]
private theorem mul_ge{x n:Nat}(hx:0<x)(hn:0<n):x+n-1≤n*x:=by
 obtain⟨y,rfl⟩:=Nat.exists_eq_add_of_le' hn
 obtain⟨z,rfl⟩:=Nat.exists_eq_add_of_le' hx
 rw[Nat.succ_mul]
 exact Nat.le_trans (Nat.le_of_eq (Nat.add_comm _ y)) (Nat.add_le_add_right (Nat.le_mul_of_pos_right y hx) _)
private theorem zIp(G:Gl prog w W)(L a b:Nat)(hb:0<b)(hn:intBits (b:Int)≤4000*2^L)(hn2:intBits (b:Int)≤2^18)(ha:intBits (a:Int)≤2^18) :
  FunG prog w W (60*L+61) "_divmod_pos" [.int a,.int b] (.tuple [.int (a/b:Nat),.int (a%b:Nat)]):=by
 have h18:(2:Nat)^18=262144:=by decide
 have h20:(2:Nat)^20=1048576:=by decide
 have h23:(2:Nat)^23=8388608:=by decide
 have h24:(2:Nat)^24=16777216:=by decide
 have h27:(2:Int)^27=134217728:=by decide
 have h24':sizeLine=16777216:=by decide
 generalize hnb:intBits (b:Int)=n at hn hn2
 have hblt:b<2^n:=by rw[←hnb];exact zB.mp (Nat.le_refl _)
 have hn0:0<n:=by
  rcases Nat.eq_zero_or_pos n with h|h
  ·rw[h] at hblt;simp at hblt;lia
  ·exact h
 have hble:2^(n-1)≤b:=by
  rcases Nat.lt_or_ge b (2^(n-1)) with h|h
  ·have:=(zB (m:=n-1)).mpr h
   lia
  ·exact h
 have halt:a<2^(intBits (a:Int)):=zB.mp (Nat.le_refl _)
 generalize hN:(intBits (a:Int)+n-1)/n=N
 have hNn:intBits (a:Int)≤n*N:=by
  have h1:=Nat.div_add_mod (intBits (a:Int)+n-1) n
  have h2:=Nat.mod_lt (intBits (a:Int)+n-1) hn0
  rw[hN] at h1
  lia
 have hNle:N≤2^18:=by
  have:N≤intBits (a:Int):=by
   rw[←hN]
   rcases Nat.eq_zero_or_pos (intBits (a:Int)) with h|h
   ·rw[h,Nat.div_eq_of_lt (by lia)];decide
   ·refine Nat.div_le_of_le_mul ?_
    exact mul_ge h hn0
  exact Nat.le_trans this ha
 have hNn2:N*n≤2^19:=by
  have:N*n≤intBits (a:Int)+n-1:=by rw[←hN];exact Nat.div_mul_le_self _ _
  exact Nat.le_trans this (Nat.le_trans (Nat.sub_le _ 1) (Nat.le_trans (Nat.add_le_add ha hn2) (show 2^18+2^18≤2^19 by decide)))
 have haN:a<2^(n*N):=Nat.lt_of_lt_of_le halt (Nat.pow_le_pow_right (by decide) hNn)
 have hdig:wU n a=yP (dsN n a N):=by
  unfold wU yP dsN;rw[hN,List.map_map];rfl
 let D:Nat→Nat:=fun i=>dig n a N (N-1-i)
 have hDlt:∀i,i<N→D i<2^n:=fun i hi=>dig_lt n a N _ haN (by lia)
 have hrev:(dsN n a N).reverse=(List.range N).map D:=by
  unfold dsN
  apply List.ext_getElem?
  intro i
  by_cases hi:i<N
  ·rw[List.getElem?_reverse (by simpa using hi),List.length_map,List.length_range,List.getElem?_map,List.getElem?_map,List.getElem?_range hi,List.getElem?_range (by lia)];rfl
  ·rw[List.getElem?_eq_none (by simpa using hi),List.getElem?_eq_none (by simpa using hi)]
 have hval:valN n (((List.range N).map D).reverse)=a:=by rw[←hrev,List.reverse_reverse];exact zMu n a N haN
 have hinv:=zHz n b D hb N
 rw[hval] at hinv
 have hrl:=zQp n b D hb
 have hx:∀i,i<N→remI n b D i*2^n+D i<b*2^n:=fun i hi=>by
  have h1:(remI n b D i+1)*2^n≤b*2^n:=Nat.mul_le_mul_right _ (hrl i)
  have h2:=hDlt i hi
  rw[Nat.add_mul] at h1
  lia
 have hqlt:∀i,i<N→quoI n b D i<2^n:=fun i hi=>by
  unfold quoI
  rw[Nat.div_lt_iff_lt_mul hb,Nat.mul_comm (2^n) b];exact hx i hi
 have hQ:valN n (((List.range N).map (quoI n b D)).reverse)=a/b∧remI n b D N=a%b:=by
  have hr:=hrl N
  generalize valN n (((List.range N).map (quoI n b D)).reverse)=v at *
  generalize remI n b D N=r at *
  subst hinv
  constructor
  ·rw[Nat.mul_comm v b,Nat.mul_add_div hb,Nat.div_eq_of_lt hr];lia
  ·rw[Nat.mul_comm v b,Nat.mul_add_mod,Nat.mod_eq_of_lt hr]
 refine FunG.of (k:=60*L+60) (names:=["a","b"]) G.d_divmod_pos zB5 (fun _ _ _=>zAu fun _ _=>rfl) (by decide) (by decide) ?_
 refine Sx.cons (Ex.setX (.int n) (Ev.convX _ (Ev.meth0X (.int b) (Ev.name rfl) zDk) (by rw[hnb])) (.inl rfl)) ?_
 refine Sx.cons (Ex.setX (.list (zA (yP (dsN n a N)))) (Ev.convX (.list (zA (wU n a))) (Ev.fnX [.int a,.int n] rfl (Evs.cons (Ev.name rfl) (Evs.cons (Ev.name rfl) Evs.nil)) ((QA G a n hn0 (by rw[hN];lia) (by lia) (by lia)).mono (by lia))) (by rw[hdig])) (.inl rfl)) ?_
 refine Sx.cons (Ex.setX (.int (0:Nat)) (Ev.conv Ev.cint rfl) (.inl rfl)) ?_
 refine Sx.cons (Ex.ownX [] (EvN.list Evs.nil (by decide)) rfl) ?_
 let Rl:Nat→Rho:=fun i=>[("b",.v (.int b)),("n",.v (.int n)),("r",.v (.int (remI n b D i:Nat))),("q_digits",.own (zA (yP ((List.range i).map (quoI n b D)))))]
 have hlen:(zA (yP (dsN n a N)).reverse).length=N:=by unfold zA yP dsN;simp
 refine Sx.consX (Rl N) (Ex.conv (Ex.loop (ds:=zA (yP (dsN n a N)).reverse) Rl (Sub.cons rfl (Sub.cons rfl (Sub.cons rfl (Sub.cons rfl Sub.nil)))) (Itr.revints rfl G.b_reversed.1 G.b_reversed.2 (Ev.name rfl)) ?_) (by rw[hlen])) ?_
 ·intro i d hd
  have hi:i<N:=by have:=(List.getElem?_eq_some_iff.mp hd).1;lia
  have hdi:d=.int (D i:Nat):=by
   rw[zFe,hrev,zJj,List.map_map,List.getElem?_map,List.getElem?_range hi] at hd
   cases hd;rfl
  subst hdi
  have f:=div21 G L (remI n b D i*2^n+D i) b n hble hblt hn0 hn (by lia) (hx i hi)
  refine⟨_,_,Tgt.local rfl,?_⟩
  refine Sx.cons (Ex.setT (ds:=[]) (x:=.tuple [.int (quoI n b D i:Nat),.int (remI n b D (i+1):Nat)]) (Ev.fnX [.int (remI n b D i*2^n+D i:Nat),.int b,.int n] rfl (Evs.cons ?_ (Evs.cons (Ev.name rfl) (Evs.cons (Ev.name rfl) Evs.nil))) (f.mono (by lia))) (Tgt.tuple zW (Tgts.cons (Tgt.local rfl) (Tgts.cons (Tgt.local rfl) Tgts.nil)))) ?_
  ·refine Ev.convX (.int (((remI n b D i*2^n:Nat):Int)+(D i:Nat))) (Ev.binX (.int (remI n b D i*2^n:Nat)) (.int (D i:Nat)) (Ev.convX _ (Ev.binX (.int (remI n b D i:Nat)) (.int n) (Ev.name rfl) (Ev.name rfl) (wD (Int.natCast_nonneg _) ?_)) (by rw[wO])) (Ev.name rfl) zH) (by rw[←Int.natCast_add])
   have:intBits ((remI n b D i:Nat):Int)≤n:=zB.mpr (Nat.lt_trans (hrl i) hblt)
   lia
  ·refine(Sx.one (Ex.append (ds:=zA (yP ((List.range i).map (quoI n b D)))) (d:=.int (quoI n b D i:Nat)) rfl (Ev.name rfl) ?_)).weakR (Sub.cons rfl (Sub.cons rfl (Sub.cons rfl (Sub.cons ?_ Sub.nil))))
   ·unfold zA yP;rw[List.length_map,List.length_map,List.length_map,List.length_range];lia
   ·show some (Slot.own (zA (yP ((List.range i).map (quoI n b D)))++[.int (quoI n b D i:Nat)]))=some (Slot.own (zA (yP ((List.range (i+1)).map (quoI n b D)))))
    rw[List.range_succ,List.map_append];unfold zA yP;simp
 ·have hql:(zA (yP ((List.range N).map (quoI n b D)))).length=N:=by unfold zA yP;simp
  refine Sx.cons (Ex.reverse (y:="q_digits") rfl (by rw[hql];lia)) ?_
  refine Sx.freeze (y:="q_digits") rfl ?_
  have hd:=zIj G (((List.range N).map (quoI n b D)).reverse) n n hn0 (by rw[List.length_reverse,List.length_map,List.length_range];lia) (by rw[List.length_reverse,List.length_map,List.length_range];lia) (by lia) (fun d hd=>by
   rw[List.mem_reverse,List.mem_map] at hd
   obtain⟨i,hi,rfl⟩:=hd
   exact hqlt i (List.mem_range.mp hi))
  rw[hQ.1] at hd
  refine Sx.cons (Ex.setX (.int (a/b:Nat)) (Ev.fnX [.list (zA (yP ((List.range N).map (quoI n b D)).reverse)),.int n] rfl (Evs.two (Ev.convX _ (Ev.name rfl) ?_) (Ev.name rfl)) (hd.mono (by lia))) (.inl rfl)) ?_
  ·rw[←zFe];unfold zA;rw[List.map_reverse]
  ·refine Sx.retX _ (Ev.tuple (Evs.two (Ev.name rfl) (Ev.convX (.int (remI n b D N:Nat)) (Ev.name rfl) (by rw[hQ.2]))) (Nat.le_of_ble_eq_true rfl))
end Wk
namespace Wk
open Builtin.Int
private theorem zN3(m b:Nat)(hb:0<b):(-(m:Int)-1).fdiv b=-((m/b:Nat):Int)-1∧(-(m:Int)-1).fmod b=b+(-((m%b:Nat):Int)-1):=by
 have h1:=Nat.div_add_mod m b
 have h2:=Nat.mod_lt m hb
 have hu:(-(m:Int)-1)/(b:Int)=-((m/b:Nat):Int)-1∧(-(m:Int)-1)%(b:Int)=b+(-((m%b:Nat):Int)-1):=by
  rw[Int.ediv_emod_unique (by lia)]
  refine⟨?_,by lia,by lia⟩
  have:(m:Int)=(b:Int)*((m/b:Nat):Int)+((m%b:Nat):Int):=by
   have:((b*(m/b)+m%b:Nat):Int)=m:=by rw[h1]
   rw[←this];push_cast;rfl
  generalize ((m/b:Nat):Int)=q at *
  generalize ((m%b:Nat):Int)=r at *
  rw[this]
  grind
 rw[Int.fdiv_eq_ediv_of_nonneg _ (by lia),Int.fmod_eq_emod_of_nonneg _ (by lia)]
 exact hu
private theorem zEq(a b:Int):-((-a).fmod (-b))=a.fmod b:=by
 rw[Int.fmod_def,Int.fmod_def,Int.neg_fdiv_neg]
 grind
variable{prog:Program}{w:World}{W:Wd}
private theorem xK(x:Int):intBits (-x)=intBits x:=by
 apply Nat.le_antisymm
 ·exact intBits_neg_le (Nat.le_refl _)
 ·have:=intBits_neg_le (x:=-x) (Nat.le_refl _)
  rwa [Int.neg_neg] at this
private theorem zEp(G:Gl prog w W)(L a b:Nat)(hb:0<b)(hn:intBits (b:Int)≤4000*2^L)(hn2:intBits (b:Int)≤2^18)(ha:intBits (a:Int)≤2^18) :
  FunG prog w W (60*L+80) "int_divmod" [.int a,.int b] (.tuple [.int ((a:Int).fdiv b),.int ((a:Int).fmod b)]):=by
 refine FunG.of (k:=60*L+79) (names:=["a","b"]) G.d_int_divmod xY (fun _ _ _=>zAu fun _ _=>rfl) (by decide) (by decide) ?_
 refine Sx.ret (Ex.ite_f (Tr.convX ((b:Int)==0) (Tr.cmpX (.int b) (.int 0) (Ev.name rfl) Ev.cint kE) ?_) (Sx.ret (Ex.ite_f (Tr.convX (decide ((b:Int)<0)) (Tr.cmpX (.int b) (.int 0) (Ev.name rfl) Ev.cint wC) ?_) (Sx.ret (Ex.ite_f (Tr.convX (decide ((a:Int)<0)) (Tr.cmpX (.int a) (.int 0) (Ev.name rfl) Ev.cint wC) ?_) (Sx.retX _ ?_))))))
 ·simpa using (by lia)
 ·simpa using (by lia)
 ·simpa using (by lia)
 ·rw[yJ,zP]
  exact Ev.fnX [.int a,.int b] rfl (Evs.cons (Ev.name rfl) (Evs.cons (Ev.name rfl) Evs.nil)) ((zIp G L a b hb hn hn2 ha).mono (by lia))
private theorem zKw(G:Gl prog w W)(L m b:Nat)(hb:0<b)(hn:intBits (b:Int)≤4000*2^L)(hn2:intBits (b:Int)≤2^18)(ha:intBits (m:Int)≤2^18) :
  FunG prog w W (60*L+100) "int_divmod" [.int (-(m:Int)-1),.int b] (.tuple [.int ((-(m:Int)-1).fdiv b),.int ((-(m:Int)-1).fmod b)]):=by
 obtain⟨f1,f2⟩:=zN3 m b hb
 refine FunG.of (k:=60*L+99) (names:=["a","b"]) G.d_int_divmod xY (fun _ _ _=>zAu fun _ _=>rfl) (by decide) (by decide) ?_
 refine Sx.ret (Ex.ite_f (Tr.convX ((b:Int)==0) (Tr.cmpX (.int b) (.int 0) (Ev.name rfl) Ev.cint kE) ?_) (Sx.ret (Ex.ite_f (Tr.convX (decide ((b:Int)<0)) (Tr.cmpX (.int b) (.int 0) (Ev.name rfl) Ev.cint wC) ?_) (Sx.ret (Ex.ite_t (Tr.convX (decide ((-(m:Int)-1)<0)) (Tr.cmpX (.int (-(m:Int)-1)) (.int 0) (Ev.name rfl) Ev.cint wC) ?_) ?_)))))
 ·simpa using (by lia)
 ·simpa using (by lia)
 ·simpa using (by lia)
 ·refine Sx.cons (Ex.setT (ds:=[]) (x:=.tuple [.int ((m:Int).fdiv b),.int ((m:Int).fmod b)]) (Ev.fnX [.int m,.int b] rfl (Evs.two (Ev.convX (.int (-(-(m:Int)-1)-1)) (Ev.inv (Ev.name rfl)) ?_) (Ev.name rfl)) ((zEp G L m b hb hn hn2 ha).mono (by lia))) (Tgt.tuple zW (Tgts.cons (Tgt.local rfl) (Tgts.cons (Tgt.local rfl) Tgts.nil)))) ?_
  ·congr 1;lia
  ·refine Sx.retX _ (Ev.convX (.tuple [.int (-((m:Int).fdiv b)-1),.int ((b:Int)+(-((m:Int).fmod b)-1))]) (Ev.tuple (Evs.two (Ev.inv (Ev.name rfl)) (Ev.binX (.int b) (.int (-((m:Int).fmod b)-1)) (Ev.name rfl) (Ev.inv (Ev.name rfl)) zH)) (Nat.le_of_ble_eq_true rfl)) ?_)
   rw[f1,f2,yJ,zP]
private theorem zHe(G:Gl prog w W)(L:Nat)(a:Int)(b:Nat)(hb:0<b)(hn:intBits (b:Int)≤4000*2^L)(hn2:intBits (b:Int)≤2^18)(ha:intBits a≤2^18) :
  FunG prog w W (60*L+100) "int_divmod" [.int a,.int b] (.tuple [.int (a.fdiv b),.int (a.fmod b)]):=by
 by_cases h:0≤a
 ·obtain⟨m,rfl⟩:=Int.eq_ofNat_of_zero_le h
  exact(zEp G L m b hb hn hn2 ha).mono (by lia)
 ·obtain⟨m,rfl⟩:=Int.eq_negSucc_of_lt_zero (Int.not_le.mp h)
  have e:Int.negSucc m=-(m:Int)-1:=by rw[Int.negSucc_eq,Int.neg_add];rfl
  rw[e]
  exact zKw G L m b hb hn hn2 (intBits_le_of_natAbs (show(m:Int).natAbs≤(Int.negSucc m).natAbs from Nat.le_succ m) ha)
private theorem kX(G:Gl prog w W)(L:Nat)(a b:Int)(hb:b≠0)(hn:intBits b≤4000*2^L)(hn2:intBits b≤2^18)(ha:intBits a≤2^18) :
  FunG prog w W (60*L+120) "int_divmod" [.int a,.int b] (.tuple [.int (a.fdiv b),.int (a.fmod b)]):=by
 by_cases h:0<b
 ·obtain⟨m,rfl⟩:∃m:Nat,b=m:=⟨b.toNat,by lia⟩
  exact(zHe G L a m (by lia) hn hn2 ha).mono (by lia)
 ·obtain⟨m,hm⟩:∃m:Nat,-b=m:=⟨(-b).toNat,by lia⟩
  have hbm:intBits (m:Int)=intBits b:=by rw[←hm,xK]
  have f:=zHe G L (-a) m (by lia) (by rw[hbm];exact hn) (by rw[hbm];exact hn2) (by rw[xK];exact ha)
  rw[←hm,Int.neg_fdiv_neg] at f
  refine FunG.of (k:=60*L+119) (names:=["a","b"]) G.d_int_divmod xY (fun _ _ _=>zAu fun _ _=>rfl) (by decide) (by decide) ?_
  refine Sx.ret (Ex.ite_f (Tr.convX (b==0) (Tr.cmpX (.int b) (.int 0) (Ev.name rfl) Ev.cint kE) (by simpa using hb)) (Sx.ret (Ex.ite_t (Tr.convX (decide (b<0)) (Tr.cmpX (.int b) (.int 0) (Ev.name rfl) Ev.cint wC) (by simpa using (by lia))) ?_)))
  refine Sx.cons (Ex.setT (ds:=[]) (x:=.tuple [.int (a.fdiv b),.int ((-a).fmod (-b))]) (Ev.fnX [.int (-a),.int (-b)] rfl (Evs.two (Ev.neg (Ev.name rfl)) (Ev.neg (Ev.name rfl))) (f.mono (by lia))) (Tgt.tuple zW (Tgts.cons (Tgt.local rfl) (Tgts.cons (Tgt.local rfl) Tgts.nil)))) ?_
  refine Sx.retX _ (Ev.convX (.tuple [.int (a.fdiv b),.int (-((-a).fmod (-b)))]) (Ev.tuple (Evs.two (Ev.name rfl) (Ev.neg (Ev.name rfl))) (Nat.le_of_ble_eq_true rfl)) (by rw[zEq]))
end Wk
namespace Wk
open Builtin.Int
private theorem zP8(U L unit far rest:Nat)(hL:0<L)(hu:0<unit)(hr:rest<unit):((U+far*L)*unit+rest)/(L*unit)=far+U/L∧((U+far*L)*unit+rest)%(L*unit)=(U%L)*unit+rest:=by
 have hB:0<L*unit:=Nat.mul_pos hL hu
 have h1:=Nat.div_add_mod U L
 have h2:=Nat.mod_lt U hL
 have h3:(U%L)*unit+rest<L*unit:=by
  have:(U%L+1)*unit≤L*unit:=Nat.mul_le_mul_right _ h2
  rw[Nat.add_mul] at this
  lia
 have h4:(U+far*L)*unit+rest=(L*unit)*(far+U/L)+((U%L)*unit+rest):=by
  generalize U/L=q at *
  generalize U%L=r at *
  subst h1
  grind
 rw[h4]
 constructor
 ·rw[Nat.mul_add_div hB,Nat.div_eq_of_lt h3,Nat.add_zero]
 ·rw[Nat.mul_add_mod,Nat.mod_eq_of_lt h3]
private theorem zDa{a b q r:Int}(h:a=b*q+r)(h0:0≤r)(h1:r<b):a.fdiv b=q∧a.fmod b=r:=by
 have hb:0<b:=by lia
 have hu:a/b=q∧a%b=r:=by
  rw[Int.ediv_emod_unique hb]
  exact⟨by rw[h];lia,h0,h1⟩
 rw[Int.fdiv_eq_ediv_of_nonneg _ (by lia),Int.fmod_eq_emod_of_nonneg _ (by lia)]
 exact hu
private theorem qK{a b q r:Int}(h:a=b*q+r)(h0:r≤0)(h1:b<r):a.fdiv b=q∧a.fmod b=r:=by
 have h':=zDa (a:=-a) (b:=-b) (q:=q) (r:=-r) (by rw[h];grind) (by lia) (by lia)
 rw[Int.neg_fdiv_neg] at h'
 refine⟨h'.1,?_⟩
 have:=zEq a b
 rw[h'.2] at this
 lia
variable{prog:Program}{w:World}{W:Wd}
private theorem qH{a n m:Nat}(ha:1<a)(hn:0<n)(hm:intBits (a:Int)≤m)(hs:m*n≤100000):Op2 prog w W .Pow (.int a) (.int n) (.int (a^n:Nat)):=by
 have hb:bitsLine≥200000:=by decide
 have h:=op_pow (prog:=prog) (w:=w) (W:=W) (a:=(a:Int)) (b:=(n:Int)) (by lia) (by lia) (by
  have h1:intBits (a:Int)*n≤m*n:=Nat.mul_le_mul_right _ hm
  have h2:((intBits (a:Int):Nat):Int)*(n:Int)≤100000:=by
   have:((intBits (a:Int)*n:Nat):Int)=((intBits (a:Int):Nat):Int)*(n:Int):=by push_cast;rfl
   lia
  unfold Builtin.Int.intTooBig
  simp;lia)
 rw[Int.toNat_natCast] at h
 have e:((a:Int)^n)=((a^n:Nat):Int):=by push_cast;rfl
 rw[e] at h;exact h
private theorem yD{a m:Nat}(h:a<2^m):intBits (a:Int)≤m:=zB.mpr h
private theorem wK{a b:Nat}(ha:a<2^20000)(hb:b<2^20000):IntMulOk (a:Int) (b:Int):=.of_le (m:=20000) (n:=20000) (yD ha) (yD hb) (by decide)
private theorem jQ{a m:Nat}(h:a<2^m)(hm:m≤20000):a<2^20000:=Nat.lt_of_lt_of_le h (Nat.pow_le_pow_right (by decide) hm)
private theorem zAd(a b:Int):SeqAt.shaped (.tuple [.int a,.int b])=true:=rfl
private theorem zO6(a b c d:Int):PyData.eqv (.tuple [.int a,.int b]) (.tuple [.int c,.int d])=((a==c)&&(b==d)):=by
 simp[PyData.eqv,PyData.eqvAll]
private theorem zCe(G:Gl prog w W){ρ:Rho}{k:Nat}{K:List (Str×NameKind)}{e1 e2 e3 e4:PySem.Expr}{a b q r:Int}{p pos pos2 pos3:Pos}{n:Nat}(hK:K.lookup ("int_divmod":Str)=some .globalImplicit)(h1:Ev prog w W (k+240) K ρ e1 (.int a))(h2:Ev prog w W (k+240) K ρ e2 (.int b))(h3:Ev prog w W (k+240) K ρ e3 (.int q))(h4:Ev prog w W (k+240) K ρ e4 (.int r))
  (hb:b≠0) (hbb:intBits b≤16000) (hab:intBits a≤200000) (hq:a.fdiv b=q∧a.fmod b=r)
  (he:∀env,starEach [e1,e2] env=(false,eval e1 env)::starEach [e2] env) (he2:∀env,starEach [e2] env=(false,eval e2 env)::starEach [] env)
  (he3:∀env,starEach [e3,e4] env=(false,eval e3 env)::starEach [e4] env) (he4:∀env,starEach [e4] env=(false,eval e4 env)::starEach [] env) :
  Tr prog w W (k+240) K ρ (.Compare (.Call (.Name "int_divmod" p) [e1,e2] [] pos) [.NotEq] [.Tuple [e3,e4] n pos2] pos3) false:=by
 have hd:=kX (prog:=prog) (w:=w) G 2 a b hb (Nat.le_trans hbb (by decide)) (Nat.le_trans hbb (by decide)) (Nat.le_trans hab (by decide))
 rw[hq.1,hq.2] at hd
 exact Tr.convX (!PyData.eqv (.tuple [.int q,.int r]) (.tuple [.int q,.int r])) (Tr.cmpX (k:=k+230) (.tuple [.int q,.int r]) (.tuple [.int q,.int r]) (Ev.fnX [.int a,.int b] hK (Evs.two h1 h2 he he2) (hd.mono (by lia)) he) (Ev.tuple (Evs.two h3 h4 he3 he4) (Nat.le_of_ble_eq_true rfl)) (jK (zAd q r) (zAd q r))) (by rw[zO6];simp)
private theorem zPw{ρ:Rho}{k:Nat}{K:List (Str×NameKind)}{e:PySem.Expr}{m:Nat}{p pos:Pos}{n:Nat}(hm:m≤100000)(h:Ev prog w W k K ρ e (.int m)):Ev prog w W k K ρ (.BinOp (.Constant (.int 1) n p) .LShift e pos) (.int (2^m:Nat)):=by
 have h27:(2:Int)^27=134217728:=by decide
 refine Ev.convX (.int ((1:Int)*2^((m:Int)).toNat)) (Ev.binX (.int 1) (.int m) Ev.cint h (wD (by lia) ?_)) ?_
 ·have:intBits (1:Int)=1:=by decide
  lia
 ·have:=wO 1 m
  rw[show((1:Int))=((1:Nat):Int) from rfl,this,Nat.one_mul]
private theorem kL{a b m:Nat}(h1:a<2^m)(h2:b<2^m):a+b<2^(m+1):=by rw[Nat.pow_succ,Nat.mul_two];exact Nat.add_lt_add h1 h2
private theorem zIk{a b m n:Nat}(h1:a<2^m)(h2:b<2^n):a*b<2^(m+n):=by rw[Nat.pow_add];exact Nat.mul_lt_mul'' h1 h2
private theorem zEy{a m n:Nat}(h:a<2^m)(hm:m≤n):a<2^n:=Nat.lt_of_lt_of_le h (Nat.pow_le_pow_right (by decide) hm)
private theorem zNa{u c p q:Nat}(h1:p≤u)(h2:c<q)(h3:q<p):(u-1-c<u∧0<u-1-c)∧(u:Int)-1-c=((u-1-c:Nat):Int):=by lia
private theorem lt63{n:Nat}(h:n≤1000):(n:Int)<2^63:=by lia
private theorem in62{n:Nat}(h:n≤1000):-(2^62)≤(n:Int)∧(n:Int)<2^62:=by lia
private theorem nzi{n:Nat}(h:0<n):(n:Int)≠0:=Int.ofNat_ne_zero.mpr (Nat.ne_of_gt h)
private theorem zGp{prog:Program}{w:World}{W:Wd}{n:Nat}(h:n≤1000):Op2 prog w W .Mult (.str ".") (.int n) (.str (repS "." n)) :=
 QO (by rw[show(".":Str).length=1 from by decide,Nat.one_mul];exact Nat.le_trans h (by decide)) (Nat.lt_of_le_of_lt h (by decide))
private theorem zDo{a b:Nat}(h:a≤10000)(h':b≤10000):a+b≤sizeLine:=Nat.le_trans (Nat.add_le_add h h') (by decide)
private theorem kB{n m:Nat}(h:n≤m):(repS "." n).length≤m:=by rw[zG,show(".":Str).length=1 from by decide,Nat.mul_one];exact h
private theorem zHl(c:Nat):(⟨#[c]⟩:Str).length≤10000:=Nat.le_of_ble_eq_true rfl
private theorem zFk{x y:Str}{a b:Nat}(hx:x.length≤a)(hy:y.length≤b):(x++y).length≤a+b:=by rw[Str.length_append];exact Nat.add_le_add hx hy
private theorem zNu(a b:Nat):((a+b:Nat):Int)-a=b:=by lia
private theorem vW{a:Nat}(h:0<a):((a:Nat):Int)-1=((a-1:Nat):Int):=by lia
private theorem zL5{a b:Nat}(h:b≤a):((a:Nat):Int)-(b:Nat)=((a-b:Nat):Int):=by lia
private theorem qP{A:Around}{env:Env}{E:Value→Shared→Prop}{a b:List Stmt}{Q:Flow→Shared→Prop}{s:Shared}(h:wpAny (model prog w) A (execs a env) (fun f s'=>match f with | .next=>wpAny (model prog w) A (execs b env) Q E s' | f=>Q f s') E s) :
    wpAny (model prog w) A (execs (a++b) env) Q E s:=by
  have key:∀(Γ:Ctx) (Q:Flow→Pos→Shared→Prop) (E':Value→Pos→Shared→Prop) (a:List Stmt) (p:Pos) (s:Shared),Sem.wp (model prog w) Γ (execs a env) (fun f p' s'=>match f with | .next=>Sem.wp (model prog w) Γ (execs b env) Q E' p' s' | f=>Q f p' s') E' p s →
      Sem.wp (model prog w) Γ (execs (a++b) env) Q E' p s:=by
    intro Γ Q E' a
    induction a with
    | nil=>intro p s h;exact h
    | cons st rest ih =>
      intro p s h
      rw[List.cons_append,execs_cons,Sem.wp_bind']
      rw[execs_cons,Sem.wp_bind'] at h
      refine Sem.wp_mono _ Γ _ (fun f p' s' hf=>?_) (fun _ _ _ h=>h) _ _ h
      cases f <;> first | exact ih _ _ hf | exact hf
  refine fun Γ p hΓ=>key Γ _ _ a p s (Sem.wp_mono _ Γ _ (fun f p' s' hf=>?_) (fun _ _ _ h=>h) _ _ (h Γ p hΓ))
  cases f <;> first | exact hf Γ p' hΓ | exact hf
end Wk
namespace Wk
variable{prog:Program}{w:World}{W:Wd}
section
variable(S:List Nat)(c1 c2 k:Nat)
noncomputable def jF:Nat:=S.getD ((k+c1)%S.length) 0
noncomputable def xF:Nat:=c1/8+5*k
noncomputable def endF:Str:=endL.getD ((k+c2)%3) ""
noncomputable def rowB:Str:=⟨#[yA (xF c1 k)]⟩++repS "." (xF c1 k%djN (jF S c1 k))++⟨#[yA (xF c1 k/7)]⟩++repS "." (djN (jF S c1 k)-xF c1 k%djN (jF S c1 k))
noncomputable def rowE:Str:=⟨#[QD (ltN (jF S c1 k)) (xF c1 k)]⟩++endF c2 k
noncomputable def rowT:Str:=repS "." (djN (jF S c1 k))++⟨#[ltN (jF S c1 k)]⟩ ++ "\r\n"
end
noncomputable def xN(S:List Nat)(c1 c2:Nat):Nat→Str
 | 0=>""
 | k+1=>xN S c1 c2 k++rowB S c1 k++rowE S c1 c2 k
noncomputable def yZ(S:List Nat)(c1:Nat):Nat→Str
 | 0=>""
 | k+1=>yZ S c1 k++rowT S c1 k
private theorem zA2(k:Nat):(endL.getD (k%3) "").length≤2:=by
 have h:∀a,a<3→(endL.getD a "").length≤2:=by decide +kernel
 exact h _ (Nat.mod_lt _ (by decide))
private theorem jW(k:Nat):End3 (endL.getD (k%3) "").cps.toList:=by
 have h:∀a,a<3→(endL.getD a "").cps.toList=[10]∨(endL.getD a "").cps.toList=[13]∨(endL.getD a "").cps.toList=[13,10]:=by decide +kernel
 exact h _ (Nat.mod_lt _ (by decide))
private theorem zJl{S:List Nat}(c1 k:Nat)(h0:0<S.length)(hj:∀j∈S,j<8):jF S c1 k<8:=by
 have h:(k+c1)%S.length<S.length:=Nat.mod_lt _ h0
 unfold jF
 rw[List.getD_eq_getElem?_getD,List.getElem?_eq_getElem h]
 exact hj _ (List.getElem_mem h)
private theorem xP(c:Nat):(⟨#[c]⟩:Str).length=1:=rfl
private theorem zHh{S:List Nat}{c1 k:Nat}(h:djN (jF S c1 k)≤11)(h0:0<djN (jF S c1 k)):(rowB S c1 k).length≤13:=by
 have l1:(".":Str).length=1:=by decide
 have hm:xF c1 k%djN (jF S c1 k)<djN (jF S c1 k):=Nat.mod_lt _ h0
 unfold rowB
 simp only[Str.length_append,zG,l1,xP];lia
private theorem zHk(S:List Nat)(c1 c2 k:Nat):(rowE S c1 c2 k).length≤3:=by
 unfold rowE endF
 rw[Str.length_append,xP]
 have:=zA2 (k+c2);lia
private theorem zH1{S:List Nat}{c1 k:Nat}(h:djN (jF S c1 k)≤11):(rowT S c1 k).length≤14:=by
 have l1:(".":Str).length=1:=by decide
 have l2:("\r\n":Str).length=2:=by decide
 unfold rowT
 simp only[Str.length_append,zG,l1,l2,xP];lia
private theorem jG{S:List Nat}(c1 c2:Nat)(h0:0<S.length)(hj:∀j∈S,j<8):∀k,(xN S c1 c2 k).length≤16*k∧(yZ S c1 k).length≤14*k
  | 0=>⟨Nat.le_refl 0,Nat.le_refl 0⟩
  | k + 1 => by
    obtain⟨i1,i2⟩:=jG c1 c2 h0 hj k
    obtain⟨d1,d2⟩:=zHy _ (zJl c1 k h0 hj)
    have a:=zHh d2 d1
    have b:=zHk S c1 c2 k
    have c:=zH1 d2
    unfold xN yZ
    rw[Str.length_append,Str.length_append,Str.length_append]
    lia
private theorem zM6(G:Gl prog w W)(C0:List Int)(S:List Nat)(c1 c2:Nat)(hC:C0.length=3)(h1:C0.getD 1 0=(c1:Nat))(h2:C0.getD 2 0=(c2:Nat))(h0:0<S.length)(h8:S.length≤8)(hj:∀j∈S,j<8) :
  FunG prog w W 52 "_law_first" [.list (zA C0),.list (xX S)] (.tuple [.str (xN S c1 c2 S.length),.str (yZ S c1 S.length)]):=by
 have h24:sizeLine=16777216:=by decide
 have l1:(".":Str).length=1:=by decide
 have l5:("\r\n":Str).length=2:=by decide
 have hSl:(xX S).length=S.length:=by unfold xX zA;rw[List.length_map,List.length_map]
 have ev:∀{ρ:Rho} {p p' pos:Pos} {k:Nat} (j:Nat),j<3→ρ.lookup ("cells":Str)=some (.v (.list (zA C0)))→Ev prog w W k xU ρ (.Subscript (.Name "cells" p) (.Constant (.int (j:Nat)) 0 p') pos) (.int (C0.getD j 0)):=fun j hj hρ =>
  Ev.itemX (.list (zA C0)) (.int j) (Ev.name hρ) Ev.cint (yR rfl (hC▸hj) (hC▸by decide))
 have el:∀{ρ:Rho} {p p' pos:Pos} {k:Nat},ρ.lookup ("chosen":Str)=some (.v (.list (xX S)))→Ev prog w W k xU ρ (.Call (.Name "len" p) [.Name "chosen" p'] [] pos) (.int (S.length:Nat)):=fun hρ =>
  Ev.convX _ (Ev.buiX [.list (xX S)] G.b_len rfl (Evs.one (Ev.name hρ)) (yX (by rw[hSl];exact lt63 (Nat.le_trans h8 (by decide))))) (by rw[hSl])
 refine FunG.of (names:=["cells","chosen"]) G.d_law_first zBr (fun _ _ _=>zAu fun _ _=>rfl) (by decide) (by decide) ?_
 refine Sx.cons (Ex.setT (ds:=[]) (x:=.tuple [.str "",.str ""]) (Ev.tuple (Evs.cons Ev.cstr (Evs.cons Ev.cstr Evs.nil)) (Nat.le_of_ble_eq_true rfl)) (Tgt.tuple zW (Tgts.cons (Tgt.local rfl) (Tgts.cons (Tgt.local rfl) Tgts.nil)))) ?_
 let Rl:Str→Str→Rho:=fun a b=>[("cells",.v (.list (zA C0))),("chosen",.v (.list (xX S))),("typed",.v (.str a)),("told",.v (.str b))]
 refine Sx.consX (Rl (xN S c1 c2 S.length) (yZ S c1 S.length)) (Ex.conv (Ex.loop (ds:=zK 0 ((S.length:Nat):Int).toNat) (fun k=>Rl (xN S c1 c2 k) (yZ S c1 k)) (Sub.all (by kernel_rfl)) (Itr.range1 rfl G.b_range.1 G.b_range.2 (el rfl) (in62 (Nat.le_trans h8 (by decide))).1 (in62 (Nat.le_trans h8 (by decide))).2) ?_) (by rw[zD,Int.toNat_natCast])) ?_
 rotate_left
 ·exact Sx.retX _ (Ev.tuple (Evs.two (Ev.name rfl) (Ev.name rfl)) (Nat.le_of_ble_eq_true rfl))
 intro i d hd
 have hi:i<S.length:=by have:=(List.getElem?_eq_some_iff.mp hd).1;rwa [zD,Int.toNat_natCast] at this
 have hd':=zQ hd
 rw[Int.zero_add] at hd'
 subst hd'
 obtain⟨b1,b2⟩:=jG c1 c2 h0 hj i
 have e1:xN S c1 c2 (i+1)=xN S c1 c2 i++rowB S c1 i++rowE S c1 c2 i:=rfl
 have e2:yZ S c1 (i+1)=yZ S c1 i++rowT S c1 i:=rfl
 have hw:=zJl c1 i h0 hj
 have ew:((i:Int)+c1).fmod (S.length:Nat)=(((i+c1)%S.length:Nat):Int):=zP (i+c1) S.length
 have hm:(i+c1)%S.length<S.length:=Nat.mod_lt _ h0
 have ej:S.getD ((i+c1)%S.length) 0=jF S c1 i:=rfl
 have rB:rowB S c1 i=⟨#[yA (xF c1 i)]⟩++repS "." (xF c1 i%djN (jF S c1 i))++⟨#[yA (xF c1 i/7)]⟩++repS "." (djN (jF S c1 i)-xF c1 i%djN (jF S c1 i)):=rfl
 have rE:rowE S c1 c2 i=⟨#[QD (ltN (jF S c1 i)) (xF c1 i)]⟩++endL.getD ((i+c2)%3) "":=rfl
 have rT:rowT S c1 i=repS "." (djN (jF S c1 i))++⟨#[ltN (jF S c1 i)]⟩ ++ "\r\n":=rfl
 have ex:c1/8+5*i=xF c1 i:=rfl
 obtain⟨d1,d2⟩:=zHy _ hw
 have bB:=zHh d2 d1
 have bE:=zHk S c1 c2 i
 have bT:=zH1 d2
 generalize xN S c1 c2 (i+1)=T' at *
 generalize yZ S c1 (i+1)=O' at *
 generalize xN S c1 c2 i=T at *
 generalize yZ S c1 i=O at *
 generalize rowB S c1 i=RB at *
 generalize rowE S c1 c2 i=RE at *
 generalize rowT S c1 i=RT at *
 generalize jF S c1 i=j at *
 generalize xF c1 i=x at *
 obtain⟨g1,g2,⟨g3,g4⟩,_⟩:=vZ _ hw
 have hsz:(3:Int)*((j:Nat):Int).fdiv 2+1+((j:Nat):Int).fmod 2=((djN j:Nat):Int):=by
  rw[show((j:Nat):Int).fdiv 2=((j/2:Nat):Int) from yJ j 2,show((j:Nat):Int).fmod 2=((j%2:Nat):Int) from zP j 2];unfold djN;lia
 have hfm:((x:Nat):Int).fmod ((djN j:Nat):Int)=((x%djN j:Nat):Int):=zP x (djN j)
 have hf7:((x:Nat):Int).fdiv 7=((x/7:Nat):Int):=yJ x 7
 have hxl:x%djN j<djN j:=Nat.mod_lt _ d1
 have hfx:((c1:Nat):Int).fdiv 8+5*(i:Int)=((x:Nat):Int):=by rw[show((c1:Nat):Int).fdiv 8=((c1/8:Nat):Int) from yJ c1 8,←ex];rfl
 generalize djN j=z at *
 have hi8:i≤8:=Nat.le_trans (Nat.le_of_lt hi) h8
 have hT:T.length≤128:=Nat.le_trans b1 (Nat.mul_le_mul_left 16 hi8)
 have hO:O.length≤128:=Nat.le_trans b2 (Nat.le_trans (Nat.mul_le_mul_left 14 hi8) (by decide))
 have hz1:z≤1000:=Nat.le_trans d2 (by decide)
 have hxz:x%z≤1000:=Nat.le_trans (Nat.le_of_lt hxl) (Nat.le_trans d2 (by decide))
 have hxz9:x%z≤10000:=Nat.le_trans hxz (by decide)
 have hzx:z-x%z≤10000:=Nat.le_trans (Nat.sub_le ..) (Nat.le_trans d2 (by decide))
 refine⟨_,_,Tgt.local rfl,?_⟩
 let R1:Str→Str→Rho:=fun a b=>[("cells",.v (.list (zA C0))),("chosen",.v (.list (xX S))),("typed",.v (.str a)),("told",.v (.str b)),("k",.v (.int (i:Nat))),("j",.v (.int (j:Nat))),("size",.v (.int (z:Nat))),("x",.v (.int (x:Nat)))]
 refine Sx.consX (("j",Slot.v (.int (j:Nat)))::("k",Slot.v (.int (i:Nat)))::[("cells",.v (.list (zA C0))),("chosen",.v (.list (xX S))),("typed",.v (.str T)),("told",.v (.str O))]) (Ex.weakR (Ex.setX (.int (j:Nat)) (Ev.convX _ (Ev.itemX (.list (xX S)) (.int (((i:Nat):Int)+c1 |>.fmod (S.length:Nat))) (Ev.name rfl) (Ev.binX (.int ((i:Nat)+(c1:Int))) (.int (S.length:Nat)) (Ev.binX (.int (i:Nat)) (.int c1) (Ev.name rfl) (Ev.convX _ (ev 1 (by decide) rfl) (by rw[h1])) zH) (el rfl) (yM (nzi h0))) (yR (j:=(i+c1)%S.length) ew (by rw[List.length_map];exact hm) (by rw[List.length_map];exact Nat.lt_of_le_of_lt h8 (by decide)))) (by rw[zLd,ej])) (.inl rfl)) (Sub.all (by kernel_rfl))) ?_
 refine Sx.consX (R1 T O) (Ex.weakR (Ex.swap (ds:=[.int (z:Nat),.int (x:Nat)]) rfl (Ev.tuple (Evs.two ?_ ?_) (Nat.le_of_ble_eq_true rfl)) (StoN.cons (.inl rfl) (StoN.cons (.inl rfl) StoN.nil))) (Sub.all (by kernel_rfl))) ?_
 ·refine Ev.convX _ (Ev.binX (.int (3*((j:Nat):Int).fdiv 2+1)) (.int (((j:Nat):Int).fmod 2)) (Ev.binX (.int (3*((j:Nat):Int).fdiv 2)) (.int 1) (Ev.binX (.int 3) (.int (((j:Nat):Int).fdiv 2)) Ev.cint (Ev.binX (.int (j:Nat)) (.int 2) (Ev.name rfl) Ev.cint (vH (by decide) (PyProof.noPylong_of_log2 (by decide +kernel)))) (yO (.of_left (by decide)))) Ev.cint zH) (Ev.binX (.int (j:Nat)) (.int 2) (Ev.name rfl) Ev.cint (yM (by decide))) zH) (by rw[hsz])
 ·refine Ev.convX _ (Ev.binX (.int (((c1:Nat):Int).fdiv 8)) (.int (5*((i:Nat):Int))) (Ev.binX (.int c1) (.int 8) (Ev.convX _ (ev 1 (by decide) rfl) (by rw[h1])) Ev.cint (vH (by decide) (PyProof.noPylong_of_log2 (by decide +kernel)))) (Ev.binX (.int 5) (.int (i:Nat)) Ev.cint (Ev.name rfl) (yO (.of_left (by decide)))) zH) (by rw[hfx])
 have lt':∀{a b:Str} {p p' pos:Pos} {k n:Nat},Ev prog w W k xU (R1 a b) (.Subscript (.Constant (.str "hprstmwb") n p) (.Name "j" p') pos) (.str ⟨#[ltN j]⟩):=fun {a b p p' pos k n} =>
  Ev.itemX (.str "hprstmwb") (.int (j:Nat)) Ev.cstr (Ev.name rfl) (zAr j _ rfl g2 (by decide))
 have mo:∀{a b:Str} {p p' pos:Pos} {k:Nat},Ev prog w W k xU (R1 a b) (.BinOp (.Name "x" p) .Mod (.Name "size" p') pos) (.int (x%z:Nat)):=fun {a b p p' pos k} =>
  Ev.convX _ (Ev.binX (.int (x:Nat)) (.int (z:Nat)) (Ev.name rfl) (Ev.name rfl) (yM (nzi d1))) (by rw[hfm])
 refine Sx.consX (R1 (T++RB) O) (Ex.conv (Ex.augP (a:=.str T) (b:=.str RB) rfl (.inl rfl) ?_ (qU (zDo (Nat.le_trans hT (by decide)) (Nat.le_trans bB (by decide))))) rfl) ?_
 ·rw[rB]
  refine Ev.cat _ _ (Ev.cat _ _ (Ev.cat _ _ ?_ ?_ ?_) ?_ ?_) ?_ ?_
  ·exact Ev.fnX [.int (x:Nat)] rfl (Evs.one (Ev.name rfl)) ((zOt G x).at rfl)
  ·exact Ev.binX (.str ".") (.int (x%z:Nat)) Ev.cstr mo (zGp hxz)
  ·exact zDo (zHl _) (kB hxz9)
  ·exact Ev.fnX [.int (x/7:Nat)] rfl (Evs.one (Ev.convX _ (Ev.binX (.int (x:Nat)) (.int 7) (Ev.name rfl) Ev.cint (vH (by decide) (PyProof.noPylong_of_log2 (by decide +kernel)))) (by rw[hf7]))) ((zOt G (x/7)).at rfl)
  ·exact zDo (Nat.le_trans (zFk (a:=1) (b:=1000) (Nat.le_refl _) (kB hxz)) (by decide)) (zHl _)
  ·exact Ev.binX (.str ".") (.int (z-x%z:Nat)) Ev.cstr (Ev.convX (.int (((z:Nat):Int)-(x%z:Nat))) (Ev.binX (.int (z:Nat)) (.int (x%z:Nat)) (Ev.name rfl) mo zR) (by rw[zL5 (Nat.le_of_lt hxl)])) (zGp (Nat.le_trans (Nat.sub_le ..) hz1))
  ·exact zDo (Nat.le_trans (zFk (a:=1001) (b:=1) (zFk (a:=1) (b:=1000) (Nat.le_refl _) (kB hxz)) (Nat.le_refl _)) (by decide)) (kB hzx)
 refine Sx.consX (R1 T' O) (Ex.conv (Ex.augP (a:=.str (T++RB)) (b:=.str RE) rfl (.inl rfl) ?_ (qU (zDo (Nat.le_trans (zFk hT bB) (by decide)) (Nat.le_trans bE (by decide))))) (by rw[e1];rfl)) ?_
 ·rw[rE]
  refine Ev.cat _ _ ?_ ?_ (zDo (zHl _) (Nat.le_trans (zA2 (i+c2)) (by decide)))
  ·exact Ev.fnX [.str ⟨#[ltN j]⟩,.int (x:Nat)] rfl (Evs.two lt' (Ev.name rfl)) ((typed G _ _ (Nat.le_trans (by decide) g3) g4).at rfl)
  ·have e3:((i:Int)+c2).fmod 3=(((i+c2)%3:Nat):Int):=zP (i+c2) 3
   refine Ev.itemX (.list (yH endL)) (.int (((i:Int)+c2).fmod 3)) (Ev.conv (Ev.list (Evs.cons Ev.cstr (Evs.cons Ev.cstr (Evs.cons Ev.cstr Evs.nil))) (Nat.le_of_ble_eq_true rfl)) rfl) ?_ (zA5 e3 (Nat.mod_lt _ (by decide)) (by decide))
   exact Ev.binX (.int ((i:Int)+c2)) (.int 3) (Ev.binX (.int (i:Nat)) (.int c2) (Ev.name rfl) (Ev.convX _ (ev 2 (by decide) rfl) (by rw[h2])) zH) Ev.cint (yM (by decide))
 refine Sx.consX (R1 T' O') (Ex.conv (Ex.augP (a:=.str O) (b:=.str RT) rfl (.inl rfl) ?_ (qU (zDo (Nat.le_trans hO (by decide)) (Nat.le_trans bT (by decide))))) (by rw[e2];rfl)) (Sx.nil.weakR (Sub.all (by kernel_rfl)))
 rw[rT]
 refine Ev.cat _ _ (Ev.cat _ _ ?_ lt' (zDo (kB (Nat.le_trans hz1 (by decide))) (zHl _))) (Ev.conv Ev.cstr rfl) (zDo (Nat.le_trans (zFk (kB hz1) (Nat.le_refl 1)) (by decide)) (by decide))
 exact Ev.binX (.str ".") (.int (z:Nat)) Ev.cstr (Ev.name rfl) (zGp hz1)
end Wk
namespace Wk
variable{prog:Program}{w:World}{W:Wd}
noncomputable abbrev Ent:=Nat×Bool×Nat×Nat
noncomputable def kK:List Int:=[13259,13274,8360,64261,8482,13245,13277]
noncomputable def sgF(c2:Nat)(b:Bool)(j k:Nat):Nat:=bif b then (kK.getD j 0).toNat else QD (ltN j) (c2+5*k)
noncomputable def entD(c2:Nat)(e:Ent):PyData:=.list [.int (e.1:Nat),.str ⟨#[sgF c2 e.2.1 e.2.2.1 e.2.2.2]⟩,.bool e.2.1]
noncomputable def rowJ(j:Nat):PyData:=.tuple [.int (djN j:Nat),.int (djN j%3:Nat),.str ⟨#[ltN j]⟩]
noncomputable def qD(R:List Nat)(k:Nat):Bool:=decide (k+1<R.length)&&decide (djN (R.getD (k+1) 0)<djN (R.getD k 0)+3)
noncomputable def zLx(R:List Nat)(s:Nat×List Ent):Nat×List Ent :=
 bif qD R s.1 then (s.1+2,s.2++[(djN (R.getD s.1 0)+djN (R.getD (s.1+1) 0),true,R.getD s.1 0,s.1)]) else (s.1+1,s.2++[(djN (R.getD s.1 0),false,R.getD s.1 0,s.1)])
noncomputable def joS(R:List Nat):Nat→Nat×List Ent
 | 0=>(0,[])
 | n+1=>zLx R (joS R n)
noncomputable def joR(C0:List Int)(c2:Nat)(R:List Nat)(s:Nat×List Ent):Rho:=[("rows",.v (.list (R.map rowJ))),("cells",.v (.list (zA C0))),("entries",.own (s.2.map (entD c2))),("k",.v (.int (s.1:Nat)))]
noncomputable def joBody:List Stmt:=sBody ((sBody xS).getD 2 default)
private theorem jE{ds:List PyData}{k:Nat}{d:PyData}(hd:ds[k]?=some d)(h:ds.length≤100):Itm prog w W (.list ds) (.int (k:Nat)) d:=by
 have hk:=(List.getElem?_eq_some_iff.mp hd).1
 exact uN (j:=k) (by lia) (by lia) (yQ rfl hk) hd
private theorem zCh{α:Type}(f:α→PyData){R:List α}{k:Nat}(a:α)(hk:k<R.length):(R.map f)[k]?=some (f (R.getD k a)):=by
 rw[List.getElem?_map,List.getD_eq_getElem?_getD,List.getElem?_eq_getElem hk];rfl
private theorem zPj:∀j,j<7→(0<kK.getD j 0∧kK.getD j 0≤1114111):=by decide +kernel
private theorem occ_ok:∀j,j<8→Builtin.Str.occurrences ("hprstmwb":Str) ⟨#[ltN j]⟩ 0 8 1=[j]:=by decide +kernel
private theorem zQ7(G:Gl prog w W){C0:List Int}{c2:Nat}{R:List Nat}(hC:C0.length=3)(h2:C0.getD 2 0=(c2:Nat))(h8:R.length≤8)(hj:∀j∈R,j<8){k n:Nat}{E:List Ent}(hk:k<R.length)(hn:qD R k=true→R.getD k 0<7)(hE:E.length≤8) :
  Sx prog w W (n+52) zS (joR C0 c2 R (k,E)) joBody (.next (joR C0 c2 R (zLx R (k,E)))):=by
 have h24:sizeLine=16777216:=by decide
 have gj:∀k,k<R.length→R.getD k 0<8:=fun k hk=>by
  rw[List.getD_eq_getElem?_getD,List.getElem?_eq_getElem hk];exact hj _ (List.getElem_mem hk)
 have jk:=gj k hk
 have er:∀{ρ:Rho} {e:PySem.Expr} {p pos:Pos} {q n:Nat},q<R.length→ρ.lookup ("rows":Str)=some (.v (.list (R.map rowJ)))→Ev prog w W n zS ρ e (.int (q:Nat))→(∀o i,subscripted e false o i=operate [o,i] (getItem o i))→Ev prog w W n zS ρ (.Subscript (.Name "rows" p) e pos) (rowJ (R.getD q 0)):=fun hq hρ he hs =>
  Ev.itemX (.list (R.map rowJ)) (.int _) (Ev.name hρ) he (jE (zCh rowJ 0 hq) (by rw[List.length_map];lia)) (hs:=hs)
 have e0:∀{ρ:Rho} {e:PySem.Expr} {p p' pos pos':Pos} {q n m:Nat},q<R.length→ρ.lookup ("rows":Str)=some (.v (.list (R.map rowJ)))→Ev prog w W n zS ρ e (.int (q:Nat))→(∀o i,subscripted e false o i=operate [o,i] (getItem o i))→Ev prog w W n zS ρ (.Subscript (.Subscript (.Name "rows" p) e pos) (.Constant (.int 0) m p') pos') (.int (djN (R.getD q 0):Nat)):=fun hq hρ he hs =>
  Ev.itemX (rowJ _) (.int 0) (er hq hρ he hs) Ev.cint it0
 have e2:∀{ρ:Rho} {e:PySem.Expr} {p p' pos pos':Pos} {q n m:Nat},q<R.length→ρ.lookup ("rows":Str)=some (.v (.list (R.map rowJ)))→Ev prog w W n zS ρ e (.int (q:Nat))→(∀o i,subscripted e false o i=operate [o,i] (getItem o i))→Ev prog w W n zS ρ (.Subscript (.Subscript (.Name "rows" p) e pos) (.Constant (.int 2) m p') pos') (.str ⟨#[ltN (R.getD q 0)]⟩):=fun hq hρ he hs =>
  Ev.itemX (rowJ _) (.int 2) (er hq hρ he hs) Ev.cint it2
 obtain⟨gap,hgap⟩:∃gap:Int,gap=bif decide (k+1<R.length) then ((djN (R.getD (k+1) 0):Nat):Int)-(djN (R.getD k 0):Nat) else 3:=⟨_,rfl⟩
 have hnear:qD R k=decide (gap<3):=by
  unfold qD
  rw[hgap]
  by_cases h:k+1<R.length
  ·rw[decide_eq_true h,Bool.true_and,cond_true,Bool.eq_iff_iff,decide_eq_true_eq,decide_eq_true_eq];lia
  ·rw[decide_eq_false h];rfl
 let R1:Rho:=[("rows",.v (.list (R.map rowJ))),("cells",.v (.list (zA C0))),("entries",.own (E.map (entD c2))),("k",.v (.int (k:Nat))),("gap",.v (.int gap))]
 let R2:Rho:=[("rows",.v (.list (R.map rowJ))),("cells",.v (.list (zA C0))),("entries",.own (E.map (entD c2))),("k",.v (.int (k:Nat))),("gap",.v (.int gap)),("near",.v (.bool (qD R k)))]
 have ek1:∀{p p' pos:Pos} {n m q:Nat} {ρ:Rho},ρ.lookup ("k":Str)=some (.v (.int (k:Nat)))→Ev prog w W n zS ρ (.BinOp (.Name "k" p) .Add (.Constant (.int 1) m p') pos) (.int (k+1:Nat)):=fun h =>
  Ev.binX (.int (k:Nat)) (.int 1) (Ev.name h) Ev.cint zH
 refine Sx.consX R1 (Ex.weakR (Ex.setX (.int gap) (Ev.convX _ (Ev.iteX (decide (k+1<R.length)) (.int (((djN (R.getD (k+1) 0):Nat):Int)-(djN (R.getD k 0):Nat))) (.int 3) (Tr.convX (decide (((k+1:Nat):Int)<(R.length:Nat))) (Tr.cmpX (k:=n+42) (.int (k+1:Nat)) (.int (R.length:Nat)) (ek1 (q:=0) rfl) (Ev.convX _ (Ev.buiX [.list (R.map rowJ)] G.b_len rfl (Evs.one (Ev.name rfl)) (yX (by rw[List.length_map];lia))) (by rw[List.length_map])) wC) ?_) (fun h=>?_) (fun _=>Ev.cint)) (by rw[hgap];cases decide (k+1<R.length) <;> rfl)) (.inl rfl)) (Sub.all (by kernel_rfl))) ?_
 ·rw[Bool.eq_iff_iff,decide_eq_true_eq,decide_eq_true_eq];lia
 ·exact Ev.binX (.int (djN (R.getD (k+1) 0):Nat)) (.int (djN (R.getD k 0):Nat)) (e0 (of_decide_eq_true h) rfl (ek1 (q:=0) rfl) (fun _ _=>rfl)) (e0 hk rfl (Ev.name rfl) (fun _ _=>rfl)) zR
 have eg:∀{p p' pos:Pos} {n m:Nat} {ρ:Rho},ρ.lookup ("gap":Str)=some (.v (.int gap))→Ev prog w W n zS ρ (.BinOp (.Constant (.int 253) m p') .Add (.Name "gap" p) pos) (.int (253+gap)):=fun h =>
  Ev.binX (.int 253) (.int gap) Ev.cint (Ev.name h) zH
 have v1:decide (253+gap<256)=qD R k:=by rw[hnear,Bool.eq_iff_iff,decide_eq_true_eq,decide_eq_true_eq];lia
 have v2:decide (253+gap≥256)=!qD R k:=by rw[hnear,←decide_not,Bool.eq_iff_iff,decide_eq_true_eq,decide_eq_true_eq];lia
 refine Sx.consX R2 (Ex.weakR (Ex.setX (.bool (qD R k)) (Ev.convX _ (Ev.fnX [.int (253+gap)] rfl (Evs.one (eg rfl)) ((wW G _).mono (by lia))) (by rw[v1])) (.inl rfl)) (Sub.all (by kernel_rfl))) ?_
 refine Sx.ifskipX _ ?_ (Tr.or (Tr.cmpX (k:=n+42) (.bool (qD R k)) (.bool (decide (gap<3))) (Ev.name rfl) (Ev.cmpX (k:=n+42) (.int gap) (.int 3) (Ev.name rfl) Ev.cint wC) zA4) fun _=>Tr.or (Tr.cmpX (k:=n+42) (.bool (decide (253+gap≥256))) (.bool (qD R k)) (Ev.fnX [.int (253+gap)] rfl (Evs.one (eg rfl)) ((xA G _).mono (by lia))) (Ev.name rfl) zGm) fun _=>Tr.or_nil) ?_
 ·rw[v2,hnear];cases decide (gap<3) <;> rfl
 have hs:zLx R (k,E)=bif qD R k then (k+2,E++[(djN (R.getD k 0)+djN (R.getD (k+1) 0),true,R.getD k 0,k)]) else (k+1,E++[(djN (R.getD k 0),false,R.getD k 0,k)]):=rfl
 rw[hs]
 refine Sx.one (Ex.ite2 (qD R k) (Tr.val (Ev.name rfl) wL) (fun hb=>?_) (fun hb=>?_))
 ·have hj7:=hn hb
  have hk1:k+1<R.length:=by
   unfold qD at hb;rw[Bool.and_eq_true,decide_eq_true_eq] at hb;exact hb.1
  rw[hb,cond_true]
  obtain⟨g1,g2⟩:=zPj _ hj7
  refine Sx.consX (upd R2 "sign" (.v (.str ⟨#[sgF c2 true (R.getD k 0) k]⟩))) (Ex.setX (.str ⟨#[sgF c2 true (R.getD k 0) k]⟩) ?_ (.inl rfl)) ?_
  ·refine Ev.chrX (kK.getD (R.getD k 0) 0) _ G.b_chr rfl (Ev.itemX (.list (zA kK)) (.int (R.getD k 0:Nat)) (Ev.conv (Ev.list (Evs.cons Ev.cint (Evs.cons Ev.cint (Evs.cons Ev.cint (Evs.cons Ev.cint (Evs.cons Ev.cint (Evs.cons Ev.cint (Evs.cons Ev.cint Evs.nil))))))) (Nat.le_of_ble_eq_true rfl)) rfl) (Ev.meth1X (.str "hprstmwb") (.str ⟨#[ltN (R.getD k 0)]⟩) Ev.cstr (e2 hk rfl (Ev.name rfl) (fun _ _=>rfl)) (zL9 (rest:=[]) (occ_ok _ jk))) (yR rfl hj7 (by decide))) ?_ ?_
   ·show _=(((kK.getD (R.getD k 0) 0).toNat:Nat):Int)
    lia
   ·show(kK.getD (R.getD k 0) 0).toNat≤_
    lia
  refine Sx.cons (Ex.append (ds:=E.map (entD c2)) (d:=entD c2 (djN (R.getD k 0)+djN (R.getD (k+1) 0),true,R.getD k 0,k)) rfl (Ev.list (Evs.cons (Ev.binX (.int (djN (R.getD k 0):Nat)) (.int (djN (R.getD (k+1) 0):Nat)) (e0 hk rfl (Ev.name rfl) (fun _ _=>rfl)) (e0 hk1 rfl (ek1 (q:=0) rfl) (fun _ _=>rfl)) zH) (Evs.two (Ev.name rfl) Ev.cbool)) (Nat.le_of_ble_eq_true rfl)) (by rw[List.length_map];lia)) ?_
  refine Sx.one (Ex.weakR (Ex.augP (a:=.int (k:Nat)) (b:=.int 2) rfl (.inl rfl) Ev.cint qE) (Sub.cons rfl (Sub.cons rfl (Sub.cons ?_ (Sub.cons rfl Sub.nil)))))
  show some (Slot.own _)=some (Slot.own _)
  rw[List.map_append];rfl
 ·rw[hb,cond_false]
  obtain⟨_,_,⟨g3,g4⟩,_⟩:=vZ _ jk
  refine Sx.cons (Ex.append (ds:=E.map (entD c2)) (d:=entD c2 (djN (R.getD k 0),false,R.getD k 0,k)) rfl (Ev.list (Evs.cons (e0 hk rfl (Ev.name rfl) (fun _ _=>rfl)) (Evs.two (Ev.fnX [.str ⟨#[ltN (R.getD k 0)]⟩,.int (c2+5*k:Nat)] rfl (Evs.two (e2 hk rfl (Ev.name rfl) (fun _ _=>rfl)) (Ev.binX (.int c2) (.int (5*k:Nat)) (Ev.convX _ (Ev.itemX (.list (zA C0)) (.int 2) (Ev.name rfl) Ev.cint (yR (j:=2) rfl (by lia) (by lia))) (by rw[h2])) (Ev.binX (.int 5) (.int (k:Nat)) Ev.cint (Ev.name rfl) (yO (.of_left (by decide)))) zH)) ((typed G _ _ (by lia) g4).mono (by lia))) Ev.cbool)) (Nat.le_of_ble_eq_true rfl)) (by rw[List.length_map];lia)) ?_
  refine Sx.one (Ex.weakR (Ex.augP (a:=.int (k:Nat)) (b:=.int 1) rfl (.inl rfl) Ev.cint qE) (Sub.cons rfl (Sub.cons rfl (Sub.cons ?_ (Sub.cons rfl Sub.nil)))))
  show some (Slot.own _)=some (Slot.own _)
  rw[List.map_append];rfl
structure JoOk(R:List Nat)(n:Nat):Prop where
 go:∀i,i<n→(joS R i).1<R.length∧(joS R i).2.length≤8∧(qD R (joS R i).1=true→R.getD (joS R i).1 0<7)
 stop:R.length≤(joS R n).1
private theorem zIw(G:Gl prog w W){C0:List Int}{c2:Nat}{R:List Nat}(hC:C0.length=3)(h2:C0.getD 2 0=(c2:Nat))(h8:R.length≤8)(hj:∀j∈R,j<8){n:Nat}(h:JoOk R n) :
  FunG prog w W 54 "_law_joined" [.list (R.map rowJ),.list (zA C0)] (.list ((joS R n).2.map (entD c2))):=by
 refine FunG.of (names:=["rows","cells"]) G.d_law_joined zBe (fun _ _ _=>zAu fun _ _=>rfl) (by decide) (by decide) ?_
 have tr:∀{s:Nat×List Ent} (b:Bool),b=decide (s.1<R.length)→Tr prog w W 53 zS (joR C0 c2 R s) (stTest ((sBody xS).getD 2 default)) b:=fun {s} b hb=>by
  refine Tr.convX (decide (((s.1:Nat):Int)<(R.length:Nat))) (Tr.cmpX (k:=43) (.int (s.1:Nat)) (.int (R.length:Nat)) (Ev.name rfl) (Ev.convX _ (Ev.buiX [.list (R.map rowJ)] G.b_len rfl (Evs.one (Ev.name rfl)) (yX (by rw[List.length_map];lia))) (by rw[List.length_map])) wC) ?_
  rw[hb,Bool.eq_iff_iff,decide_eq_true_eq,decide_eq_true_eq];lia
 refine Sx.cons (Ex.ownX [] (EvN.list Evs.nil (Nat.le_of_ble_eq_true rfl)) rfl) ?_
 refine Sx.consX (joR C0 c2 R (joS R 0)) (Ex.weakR (Ex.setX (.int 0) Ev.cint (.inl rfl)) (Sub.all (by kernel_rfl))) ?_
 refine Sx.consX (joR C0 c2 R (joS R n)) (Ex.while (n:=n) (fun i=>joR C0 c2 R (joS R i)) rfl (fun i hi=>?_) (fun i hi=>?_) ?_) ?_
 ·exact tr true (decide_eq_true (h.go i hi).1).symm
 ·obtain⟨a,b,c⟩:=h.go i hi
  have:=zQ7 (n:=1) G hC h2 h8 hj (k:=(joS R i).1) (E:=(joS R i).2) a c b
  exact this
 ·exact tr false (decide_eq_false (by have:=h.stop;lia)).symm
 ·refine Sx.freeze (y:="entries") rfl ?_
  exact Sx.retX _ (Ev.name rfl)
end Wk
namespace Wk
noncomputable def zM(n:Nat):List Nat:=(List.range 8).filter fun j=>Builtin.bitAnd (((n:Nat):Int).fdiv (2^j)) 1 != 0
noncomputable def perF(ks:List Int):Array Nat:=bif decide (ks.length<2) then (List.range ks.length).toArray else (zAi ks).getD #[]
noncomputable def perB(ks:List Int):Bool:=(decide (ks.length<2)||(zAi ks).isSome)&&(perF ks).toList.length==ks.length&&(perF ks).toList.all fun i=>decide (i<ks.length)
noncomputable def vQ(S:List Nat)(r:Nat):List Int:=(List.range S.length).map fun k=>(djN (S.getD ((k+r)%S.length) 0):Int)
noncomputable def zQ9(n:Nat):Bool:=!(zM n).isEmpty&&decide ((zM n).length≤8)&&(zM n).all fun j=>decide (j<8)
private theorem zK8:∀n,n<255→zQ9 (n+1)=true:=by decide +kernel
noncomputable def patR(n r i:Nat):Nat:=(i+r)%n
noncomputable def patB(n r:Nat):Bool:=(jC n (fun i j=>decide (patR n r i<patR n r j)) (kas_sort n)).elim false fun p=>(p.toList.map (patR n r))==List.range n&&p.toList.all fun i=>decide (i<n)
private theorem pat_ok:∀n,n<9→∀r,r<n→2≤n→patB n r=true:=by decide +kernel
noncomputable def patNe(n r:Nat):Bool:=(List.range n).all fun i=>(List.range n).all fun j=>i==j||patR n r i != patR n r j
private theorem zPu:∀n,n<9→∀r,r<n→patNe n r=true:=by decide +kernel
private theorem pat_ne(n:Nat)(hn:n<9)(r:Nat)(hr:r<n)(i:Nat)(hi:i<n)(j:Nat)(hj:j<n)(h:i≠j):patR n r i≠patR n r j:=by
 have:=List.all_eq_true.mp (List.all_eq_true.mp (zPu n hn r hr) i (List.mem_range.mpr hi)) j (List.mem_range.mpr hj)
 rw[Bool.or_eq_true,beq_iff_eq,bne_iff_ne] at this
 exact this.resolve_left h
private theorem asc_ok:∀n,n<255→((zM (n+1)).map djN).Pairwise (· < ·):=by decide +kernel
private theorem QP{α:Type}{n:Nat}{lt lt':Nat→Nat→Bool}(h:∀i j,i<n→j<n→lt i j=lt' i j):∀t:KasT α,jC n lt t=jC n lt' t
  | .ret a=>rfl
  | .ask i j k => by
    unfold jC
    by_cases hc:i<n∧j<n∧i≠j
    · rw[if_pos hc,if_pos hc,h i j hc.1 hc.2.1];exact QP h _
    · rw[if_neg hc,if_neg hc]
private theorem zEs(S:List Nat):(List.range S.length).map (fun i=>S.getD i 0)=S:=by
 refine List.ext_getElem (by rw[List.length_map,List.length_range]) fun i h1 h2=>?_
 rw[List.getElem_map,List.getElem_range,List.getD_eq_getElem?_getD,List.getElem?_eq_getElem h2];rfl
structure RotOk(S:List Nat)(r:Nat)(p:Array Nat):Prop where
 go:2≤S.length→zAi (vQ S r)=some p
 small:S.length<2→p.toList=List.range S.length
 pl:p.toList.length=S.length
 pm:∀i∈p.toList,i<S.length
 out:(p.toList.map fun i=>S.getD ((i+r)%S.length) 0)=S
 ne:∀i j,i<S.length→j<S.length→i≠j→(vQ S r).getD i 0≠(vQ S r).getD j 0
private theorem rot_is{S:List Nat}(h8:S.length≤8)(hs:(S.map djN).Pairwise (· < ·)){r:Nat}(hr:r<S.length):∃p,RotOk S r p:=by
  have hn:S.length<9:=Nat.lt_succ_of_le h8
  have h0:0<S.length:=Nat.lt_of_le_of_lt (Nat.zero_le r) hr
  have hl:(vQ S r).length=S.length:=by unfold vQ;rw[List.length_map,List.length_range]
  have hk:∀i,i<S.length→(vQ S r).getD i 0=(djN (S.getD (patR S.length r i) 0):Int):=fun i hi=>by
    unfold vQ
    rw[List.getD_eq_getElem?_getD,List.getElem?_map,List.getElem?_range hi];rfl
  have hd:∀a b,a<b→b<S.length→djN (S.getD a 0)<djN (S.getD b 0):=fun a b hab hb=>by
    have:=List.pairwise_iff_getElem.mp hs a b (by rw[List.length_map];exact Nat.lt_trans hab hb) (by rw[List.length_map];exact hb) hab
    rw[List.getElem_map,List.getElem_map] at this
    rwa [List.getD_eq_getElem?_getD,List.getD_eq_getElem?_getD,List.getElem?_eq_getElem (Nat.lt_trans hab hb),List.getElem?_eq_getElem hb]
  have hp:∀i,patR S.length r i<S.length:=fun i=>Nat.mod_lt _ h0
  have hlt:∀i j,i<S.length→j<S.length→decide ((vQ S r).getD i 0<(vQ S r).getD j 0)=decide (patR S.length r i<patR S.length r j):=fun i j hi hj=>by
    rw[hk i hi,hk j hj]
    rcases Nat.lt_trichotomy (patR S.length r i) (patR S.length r j) with h|h|h
    · rw[decide_eq_true h,decide_eq_true (Int.ofNat_lt.mpr (hd _ _ h (hp j)))]
    · rw[h,decide_eq_false (Int.lt_irrefl _),decide_eq_false (Nat.lt_irrefl _)]
    · rw[decide_eq_false (Nat.lt_asymm h),decide_eq_false (fun h'=>Nat.lt_asymm (hd _ _ h (hp i)) (Int.ofNat_lt.mp h'))]
  have hne:∀i j,i<S.length→j<S.length→i≠j→(vQ S r).getD i 0≠(vQ S r).getD j 0:=fun i j hi hj hij e=>by
    have hq:=pat_ne _ hn r hr i hi j hj hij
    have h1:=hlt i j hi hj
    have h2:=hlt j i hj hi
    rw[e,decide_eq_false (Int.lt_irrefl _)] at h1 h2
    rcases Nat.lt_or_gt_of_ne hq with h|h
    · rw[decide_eq_true h] at h1;cases h1
    · rw[decide_eq_true h] at h2;cases h2
  by_cases h2:2≤S.length
  · have hb:=pat_ok _ hn r hr h2
    unfold patB at hb
    have e:zAi (vQ S r)=jC S.length (fun i j=>decide (patR S.length r i<patR S.length r j)) (kas_sort S.length):=by
      unfold zAi;rw[hl];exact QP hlt _
    rw[←e] at hb
    cases hq:zAi (vQ S r) with
    | none=>rw[hq] at hb;cases hb
    | some p =>
      rw[hq] at hb
      have hb:(p.toList.map (patR S.length r)==List.range S.length&&p.toList.all fun i=>decide (i<S.length))=true:=hb
      rw[Bool.and_eq_true,beq_iff_eq,List.all_eq_true] at hb
      refine⟨p,fun _=>hq,fun h=>absurd h2 (Nat.not_le.mpr h),?_,fun i hi=>of_decide_eq_true (hb.2 i hi),?_,hne⟩
      · rw[←List.length_map (f:=patR S.length r),hb.1,List.length_range]
      · have:(p.toList.map fun i=>S.getD ((i+r)%S.length) 0)=(p.toList.map (patR S.length r)).map fun i=>S.getD i 0:=by rw[List.map_map];rfl
        rw[this,hb.1,zEs]
  · have h1:S.length=1:=by lia
    refine⟨(List.range S.length).toArray,fun h=>absurd h h2,fun _=>rfl,List.length_range,fun i hi=>List.mem_range.mp hi,?_,hne⟩
    have:∀i∈List.range S.length,S.getD ((i+r)%S.length) 0=S.getD i 0:=fun i hi=>by
      have hi:=List.mem_range.mp hi
      rw[h1] at hi hr ⊢
      rw[show i=0 by lia,show r=0 by lia]
    show(List.range S.length).map _=S
    rw[List.map_congr_left this,zEs]
noncomputable def jN(R:List Nat):Nat:=((List.range 9).find? fun i=>decide (R.length≤(joS R i).1)).getD 9
noncomputable def entF(n:Nat):List Ent:=(joS (zM n) (jN (zM n))).2
noncomputable def joB(R:List Nat):Bool:=((List.range (jN R)).all fun i=>decide ((joS R i).1<R.length)&&decide ((joS R i).2.length≤8)&&(!qD R (joS R i).1||decide (R.getD (joS R i).1 0<7)))&&decide (R.length≤(joS R (jN R)).1)
private theorem jo_ok:∀n,n<255→joB (zM (n+1))=true:=by decide +kernel
noncomputable def nilE:Ent:=(0,false,0,0)
noncomputable def wF(E:List Ent):List Ent:=(List.range E.length).map fun k=>((E.getD k nilE).1-3*k,(E.getD k nilE).2)
noncomputable def entB(E:List Ent):Bool:=!E.isEmpty&&decide (E.length≤4)&&(List.range E.length).all fun k=>decide (3*k≤(E.getD k nilE).1)&&decide ((E.getD k nilE).1≤21)&&((E.getD k nilE).1%3==0)==(E.getD k nilE).2.1&&decide ((E.getD k nilE).2.2.1<bif (E.getD k nilE).2.1 then 7 else 8)
private theorem ent_ok:∀n,n<255→entB (entF (n+1))=true:=by decide +kernel
noncomputable def kG(E:List Ent):List Int:=E.map fun e=>(e.1:Int)
private theorem zGx:∀n,n<255→perB (kG (wF (entF (n+1))))=true:=by decide +kernel
noncomputable def zNl(L:List Ent)(p:Array Nat):List Ent:=p.toList.map fun i=>L.getD i nilE
noncomputable def zG6(L:List Ent):List Ent:=zNl L (perF (kG L))
noncomputable def zLh(k:Nat)(L:List Ent):List Ent:=L.take k++(L.drop k).map fun e=>(e.1+1,e.2)
noncomputable def zBn(k:Nat)(L:List Ent):Nat→List Ent
 | 0=>L
 | t+1=>zLh k (zBn k L t)
noncomputable def zAt(L:List Ent):Nat→List Ent
 | 0=>L
 | i+1=>zBn (1+i) (zAt L i) 3
noncomputable def kP(e:Ent):Bool:=decide (0<e.1)&&decide (e.1≤40)&&decide (e.2.2.1<bif e.2.1 then 7 else 8)
noncomputable def zOe(L:List Ent):Bool:=(List.range (L.length-1)).all fun i=>(List.range 3).all fun t=>(zBn (1+i) (zAt L i) t).length==L.length&&((zBn (1+i) (zAt L i) t).drop (1+i)).all kP
private theorem zPt:∀n,n<255→zOe (zG6 (wF (entF (n+1))))=true:=by decide +kernel
noncomputable def zGd(n:Nat):List Ent:=zAt (zG6 (wF (entF n))) ((zG6 (wF (entF n))).length-1)
noncomputable def zKl(a b:Nat):Bool:=decide (256≤(bif a%3==0&&b%3==0 then 250 else 253)+a-b)
noncomputable def lastB(L:List Ent):Bool:=L.all kP&&decide (L.length≤4) && !L.isEmpty&&(List.range (L.length-1)).all fun i=>decide ((L.getD i nilE).1≤(L.getD (1+i) nilE).1)&&zKl (L.getD (1+i) nilE).1 (L.getD i nilE).1
private theorem zPk:∀n,n<255→lastB (zGd (n+1))=true:=by decide +kernel
noncomputable def zY(e:Ent):List Nat:=bif e.2.1 then [ltN e.2.2.1,ltN (e.2.2.1+1)] else [ltN e.2.2.1]
noncomputable abbrev Way:=List (Int×List Nat)×List (Int×List Nat)×List (Int×Nat)
noncomputable def bkL(L:List Ent)(b:Bool):List (Int×List Nat):=(List.range L.length).flatMap fun k=>bif ((L.getD k nilE).1%3==0)==b then [(((L.getD k nilE).1:Int)-3*k,zY (L.getD k nilE))] else []
noncomputable def nilW:Int×List Nat:=(0,[])
noncomputable def bkGo(k:Nat)(s:Way):Bool:=!s.2.1.isEmpty&&(s.1.isEmpty||decide (253+(((s.2.1.getD 0 nilW).1+3*k).fdiv 2+1)-(s.1.getD 0 nilW).1-3*k<256))
noncomputable def zCx(k:Nat)(s:Way):Way :=
 bif bkGo k s then (s.1,s.2.1.drop 1,s.2.2++[(((s.2.1.getD 0 nilW).1+3*k).fdiv 2-1+((s.2.1.getD 0 nilW).1+3*k).fmod 2,(s.2.1.getD 0 nilW).2.getD 0 0),(((s.2.1.getD 0 nilW).1+3*k).fdiv 2+1,(s.2.1.getD 0 nilW).2.getD 1 0)])
 else (s.1.drop 1,s.2.1,s.2.2++[((s.1.getD 0 nilW).1+3*k,(s.1.getD 0 nilW).2.getD 0 0)])
noncomputable def bkS(L:List Ent):Nat→Way
 | 0=>(bkL L false,bkL L true,[])
 | k+1=>zCx k (bkS L k)
noncomputable def bkB(L:List Ent):Bool:=(List.range L.length).all fun k=>decide ((bkS L k).1.length≤4)&&decide ((bkS L k).2.1.length≤4)&&decide ((bkS L k).2.2.length≤8)&&((bkS L k).2.1.isEmpty||(decide (0≤((bkS L k).2.1.getD 0 nilW).1)&&decide (((bkS L k).2.1.getD 0 nilW).1≤40)&&((bkS L k).2.1.getD 0 nilW).2.length==2))&&(bkGo k (bkS L k)||(!(bkS L k).1.isEmpty&&((bkS L k).1.getD 0 nilW).2.length==1))
private theorem zPy:∀n,n<255→bkB (zGd (n+1))=true:=by decide +kernel
private theorem zP3:∀n,n<255→(bkS (zGd (n+1)) (zGd (n+1)).length).2.2=(zM (n+1)).map fun j=>((djN j:Int),ltN j):=by decide +kernel
end Wk
namespace Wk
open Builtin.Int
variable{prog:Program}{w:World}{W:Wd}
private theorem len2{α:Type}{l:List α}(h:l.length=2):∃a b,l=[a,b]:=by
  cases l with
  | nil=>cases h
  | cons a l =>
    obtain⟨b,rfl⟩:=List.length_eq_one_iff.mp (Nat.succ.inj h)
    exact⟨a,b,rfl⟩
private theorem len3{α:Type}{l:List α}(h:l.length=3):∃a b c,l=[a,b,c]:=by
  cases l with
  | nil=>cases h
  | cons a l =>
    obtain⟨b,c,rfl⟩:=len2 (Nat.succ.inj h)
    exact⟨a,b,c,rfl⟩
private theorem zCv{α:Type}(f:α→PyData)(l:List α)(hf:∀a∈l,(f a).canLay0=true∧(f a).depth≤2):SeqAt.shaped (.list (l.map f))=true:=by
  unfold SeqAt.shaped
  have h:PyData.canLayAll0 (l.map f)=true∧PyData.depthAll (l.map f)≤2:=by
    induction l with
    | nil=>exact⟨rfl,Nat.zero_le _⟩
    | cons a l ih =>
      have ih:=ih fun b hb=>hf b (List.mem_cons_of_mem _ hb)
      have hf:=hf a List.mem_cons_self
      rw[List.map_cons]
      simp only[PyData.canLayAll0,PyData.depthAll,hf.1,ih.1,Bool.and_self,true_and]
      have:=hf.2
      have:=ih.2
      lia
  simp only[PyData.canLay0,PyData.depth,h.1,Bool.true_and]
  have:=h.2
  exact decide_eq_true (by lia)
private theorem zLv(L:List PyData):PyData.eqv (.list L) (.list [])=L.isEmpty:=by cases L <;> rfl
noncomputable def wayD(x:Int×List Nat):PyData:=.tuple [.int x.1,.str (sT x.2)]
noncomputable def outD(x:Int×Nat):PyData:=.tuple [.int x.1,.str ⟨#[x.2]⟩]
noncomputable def Sm(l:List (Int×List Nat)):Prop:=∀x∈l,∀c∈x.2,c<1114112
private theorem sT_ok{l:List Nat}(h:∀c∈l,c<1114112):PyData.strOk (sT l)=true:=by
 show Array.all l.toArray _=true
 rw[List.all_toArray,List.all_eq_true]
 exact fun c hc=>decide_eq_true (h c hc)
private theorem zCw{l:List (Int×List Nat)}(h:Sm l):SeqAt.shaped (.list (l.map wayD))=true:=zCv wayD l fun x hx=>by
 have:=sT_ok (h x hx)
 simp[wayD,PyData.canLay0,PyData.canLayAll0,PyData.depth,PyData.depthAll,this]
private theorem zIt{l:List (Int×Nat)}(h:∀x∈l,x.2<1114112):SeqAt.shaped (.list (l.map outD))=true:=zCv outD l fun x hx=>by
 have:=sT_ok (l:=[x.2]) (fun c hc=>by rw[List.mem_singleton.mp hc];exact h x hx)
 have:PyData.strOk ⟨#[x.2]⟩=true:=this
 simp[outD,PyData.canLay0,PyData.canLayAll0,PyData.depth,PyData.depthAll,this]
private theorem zOh(x:PyData)(l:List PyData):uR (x::l) (some 1) none=l:=by
 unfold uR
 simp only[Option.elim]
 rw[show(1:Int)=((1:Nat):Int) from rfl,zA3,List.length_cons,Nat.min_eq_left (Nat.le_add_left 1 _)]
 simp
private theorem fdm{a b q r:Int}(h:a=q*b+r)(h0:0≤r)(h1:r<b):a.fdiv b=q∧a.fmod b=r:=by
 have hb:0<b:=by lia
 rw[Int.fdiv_eq_ediv_of_nonneg _ (by lia),Int.fmod_eq_emod_of_nonneg _ (by lia)]
 exact(Int.ediv_emod_unique hb).mpr ⟨by rw[h,Int.mul_comm b q];lia,h0,h1⟩
private theorem zN0{s unit far c:Nat}(hc:c<unit):(((s:Int)+2*(far:Int))*unit+c).fdiv (2*unit)=(far:Int)+(s:Int).fdiv 2∧(((s:Int)+2*(far:Int))*unit+c).fmod (2*unit)=(s:Int).fmod 2*unit+c:=by
 have e1:(s:Int).fdiv 2=((s/2:Nat):Int):=yJ s 2
 have e2:(s:Int).fmod 2=((s%2:Nat):Int):=zP s 2
 rw[e1,e2]
 have hd:=Nat.div_add_mod s 2
 have hm:s%2<2:=Nat.mod_lt _ (by decide)
 generalize s/2=q at *
 generalize s%2=r at *
 have hru:r*unit≤1*unit:=Nat.mul_le_mul_right unit (by lia)
 rw[←Int.natCast_mul]
 refine fdm ?_ (by lia) (by lia)
 rw[←hd]
 have:(((2*q+r:Nat):Int)+2*(far:Int))*unit=((far:Int)+(q:Nat))*(2*unit)+((r*unit:Nat):Int):=by
  rw[Int.natCast_mul,Int.natCast_add,Int.natCast_mul]
  simp only[Int.add_mul]
  rw[show((2:Nat):Int)*(q:Int)*(unit:Int)=(q:Int)*(2*unit) by rw[Int.mul_comm ((2:Nat):Int) q,Int.mul_assoc];rfl,show 2*(far:Int)*(unit:Int)=(far:Int)*(2*unit) by rw[Int.mul_comm 2 (far:Int),Int.mul_assoc]]
  lia
 lia
private theorem zQ0{r unit c:Int}(hu:0<unit):(r*unit+c-c).fdiv unit=r∧(r*unit+c-c).fmod unit=0:=fdm (by lia) (by lia) hu
noncomputable def rowL(e:Ent):PyData:=.tuple [.int (e.1:Nat),.int (e.1%3:Nat),.str ⟨(zY e).toArray⟩]
noncomputable def bkR(C0:List Int)(L:List Ent)(unit far:Nat)(s:Way)(r:Rho):Rho:=(("rows":Str),Slot.v (.list (L.map rowL)))::(("cells":Str),.v (.list (zA C0)))::(("unit":Str),.v (.int (unit:Nat)))::(("far":Str),.v (.int (far:Nat)))::(("alone":Str),.v (.list (s.1.map wayD)))::(("solid":Str),.v (.list (s.2.1.map wayD)))::(("back":Str),.own (s.2.2.map outD))::r
noncomputable def zHr:List Stmt:=sBody ((sBody qB).getD 3 default)
noncomputable def sElse:Stmt→List Stmt
 | .If _ _ c _=>c
 | _=>[]
noncomputable def sThen:Stmt→List Stmt
 | .If _ a _ _=>a
 | _=>[]
private theorem zKr(G:Gl prog w W){C0:List Int}{L:List Ent}{unit far k n:Nat}{x:Int×List Nat}{al so:List (Int×List Nat)}{bk:List (Int×Nat)}{r:Rho}(hx:x.2.length=1)(hal:al.length≤8)(hbk:bk.length≤8) :
  Sx prog w W (n+250) yB (bkR C0 L unit far (x::al,so,bk) (("k",.v (.int (k:Nat)))::r)) (sElse (zHr.getD 1 default)) (.next (bkR C0 L unit far (al,so,bk++[(x.1+3*k,x.2.getD 0 0)]) (("k",.v (.int (k:Nat)))::r))):=by
 have h24:sizeLine=16777216:=by decide
 obtain⟨a,l⟩:=x
 obtain⟨c,rfl⟩:=List.length_eq_one_iff.mp hx
 have e0:∀{p p' pos:Pos} {n m:Nat},Ev prog w W n yB (bkR C0 L unit far ((a,[c])::al,so,bk) (("k",.v (.int (k:Nat)))::r)) (.Subscript (.Name "alone" p) (.Constant (.int 0) m p') pos) (wayD (a,[c])):=fun {p p' pos n m} =>
  Ev.itemX (.list (((a,[c])::al).map wayD)) (.int 0) (Ev.name rfl) Ev.cint (jE (k:=0) rfl (by rw[List.length_map,List.length_cons];lia))
 refine Sx.cons (Ex.append (ds:=bk.map outD) (d:=outD (a+3*k,c)) rfl (Ev.tuple (Evs.two (Ev.binX (.int a) (.int (3*(k:Nat))) (Ev.itemX (wayD (a,[c])) (.int 0) e0 Ev.cint it0) (Ev.binX (.int 3) (.int (k:Nat)) Ev.cint (Ev.name rfl) (yO (.of_left (by decide)))) zH) (Ev.itemX (wayD (a,[c])) (.int 1) e0 Ev.cint it1)) (Nat.le_of_ble_eq_true rfl)) (by rw[List.length_map];lia)) ?_
 refine Sx.one (Ex.conv (Ex.setX (.list (al.map wayD)) (Ev.convX _ (Ev.slicel (lo:=some 1) (hi:=none) (ds:=((a,[c])::al).map wayD) (Ev.name rfl) (Prt.some Ev.cint) Prt.none (by rw[List.length_map,List.length_cons];lia)) (by rw[List.map_cons,zOh])) (.inl rfl)) ?_)
 show Out.next (_::_)=Out.next (_::_)
 rw[show(bk++[(a+3*(k:Int),[c].getD 0 0)]).map outD=bk.map outD++[outD (a+3*k,c)] by rw[List.map_append];rfl]
 rfl
private theorem bk_then(G:Gl prog w W){C0:List Int}{L:List Ent}{unit far n:Nat}{x:Int×List Nat}{al so:List (Int×List Nat)}{bk:List (Int×Nat)}{lo hi:Int}{r:Rho}(hx:x.2.length=2)(hso:so.length≤8)(hbk:bk.length≤8)(h1:(bkR C0 L unit far (al,x::so,bk) r).lookup ("low":Str)=some (.v (.int lo)))(h2:(bkR C0 L unit far (al,x::so,bk) r).lookup ("high":Str)=some (.v (.int hi))) :
  Sx prog w W (n+250) yB (bkR C0 L unit far (al,x::so,bk) r) (sThen (zHr.getD 1 default)) (.next (bkR C0 L unit far (al,so,bk++[(lo,x.2.getD 0 0),(hi,x.2.getD 1 0)]) r)):=by
 have h24:sizeLine=16777216:=by decide
 obtain⟨a,l⟩:=x
 obtain⟨c,d,rfl⟩:=len2 hx
 have e0:∀{p p' pos:Pos} {n m:Nat},Ev prog w W n yB (bkR C0 L unit far (al,(a,[c,d])::so,bk) r) (.Subscript (.Name "solid" p) (.Constant (.int 0) m p') pos) (wayD (a,[c,d])):=fun {p p' pos n m} =>
  Ev.itemX (.list (((a,[c,d])::so).map wayD)) (.int 0) (Ev.name rfl) Ev.cint (jE (k:=0) rfl (by rw[List.length_map,List.length_cons];lia))
 have e1:∀{p p' p2 pos pos':Pos} {n m m2:Nat},Ev prog w W n yB (bkR C0 L unit far (al,(a,[c,d])::so,bk) r) (.Subscript (.Subscript (.Name "solid" p) (.Constant (.int 0) m p') pos) (.Constant (.int 1) m2 p2) pos') (.str (sT [c,d])):=fun {p p' p2 pos pos' n m m2} =>
  Ev.itemX (wayD (a,[c,d])) (.int 1) e0 Ev.cint it1
 refine Sx.cons (Ex.extend (ds:=bk.map outD) (es:=[outD (lo,c),outD (hi,d)]) rfl (Ev.list (Evs.two (Ev.tuple (Evs.two (Ev.name h1) (Ev.itemX (.str (sT [c,d])) (.int 0) e1 Ev.cint (zAr 0 c rfl rfl (Nat.le_of_ble_eq_true rfl)))) (Nat.le_of_ble_eq_true rfl)) (Ev.tuple (Evs.two (Ev.name h2) (Ev.itemX (.str (sT [c,d])) (.int 1) e1 Ev.cint (zAr 1 d rfl rfl (Nat.le_of_ble_eq_true rfl)))) (Nat.le_of_ble_eq_true rfl))) (Nat.le_of_ble_eq_true rfl)) (by rw[List.length_map];show bk.length+2≤_;lia)) ?_
 refine Sx.one (Ex.conv (Ex.setX (.list (so.map wayD)) (Ev.convX _ (Ev.slicel (lo:=some 1) (hi:=none) (ds:=((a,[c,d])::so).map wayD) (Ev.name rfl) (Prt.some Ev.cint) Prt.none (by rw[List.length_map,List.length_cons];lia)) (by rw[List.map_cons,zOh])) (.inl rfl)) ?_)
 show Out.next (_::_)=Out.next (_::_)
 rw[show(bk++[(lo,[c,d].getD 0 0),(hi,[c,d].getD 1 0)]).map outD=bk.map outD++[outD (lo,c),outD (hi,d)] by rw[List.map_append];rfl]
 rfl
end Wk
namespace Wk
open Builtin.Int
variable{prog:Program}{w:World}{W:Wd}
private theorem bk_div(G:Gl prog w W){C0:List Int}{L:List Ent}{c1 unit far k n:Nat}{a:Int}{cd:List Nat}{al so:List (Int×List Nat)}{bk:List (Int×Nat)}(hC:C0.length=3)(h1:C0.getD 1 0=(c1:Nat))(hu:c1<unit)(hU:unit<2^1500)(hF:far<2^3300)(ha0:0≤a)(ha:a≤40)(hk:k≤4)(hso:so.length≤8) :
  Sx prog w W (n+250) yB (bkR C0 L unit far (al,(a,cd)::so,bk) [("k",.v (.int (k:Nat)))]) (sThen (zHr.getD 0 default)) (.next (bkR C0 L unit far (al,(a,cd)::so,bk) [("k",.v (.int (k:Nat))),("part",.v (.int ((far:Int)+(a+3*k).fdiv 2))),("left",.v (.int ((a+3*k).fmod 2*unit+c1))),("odd",.v (.int ((a+3*k).fmod 2))),("over",.v (.int 0)),("low",.v (.int ((a+3*k).fdiv 2-1+(a+3*k).fmod 2))),("high",.v (.int ((a+3*k).fdiv 2+1)))])):=by
 have h24:sizeLine=16777216:=by decide
 obtain⟨s,hs⟩:∃s:Nat,a+3*(k:Int)=s:=⟨(a+3*(k:Int)).toNat,by lia⟩
 have hs2:s≤52:=by lia
 rw[hs]
 obtain⟨d1,d2⟩:=zN0 (s:=s) (far:=far) hu
 have hsf:s+2*far<2^3302:=by
  have h1:(2:Nat)^3302=2^3301*2:=Nat.pow_succ ..
  have h4:(2:Nat)^3301=2^3300*2:=Nat.pow_succ ..
  have h2:(2:Nat)^10≤2^3300:=Nat.pow_le_pow_right (by decide) (by decide)
  have h3:(2:Nat)^10=1024:=by decide
  lia
 have hN:(s+2*far)*unit+c1<2^5000:=by
  have h1:=Nat.mul_lt_mul'' hsf hU
  rw[←Nat.pow_add] at h1
  have h2:(2:Nat)^4803=2^4802*2:=Nat.pow_succ ..
  have h3:(2:Nat)^4803≤2^5000:=Nat.pow_le_pow_right (by decide) (by decide)
  have h4:(2:Nat)^1500≤2^4802:=Nat.pow_le_pow_right (by decide) (by decide)
  have h5:(2:Nat)^(3302+1500)=2^4802:=rfl
  lia
 have h2u:2*unit<2^1501:=by
  have h1:(2:Nat)^1501=2^1500*2:=Nat.pow_succ ..
  lia
 have hdm:=kX (prog:=prog) (w:=w) G 0 (((s+2*far)*unit+c1:Nat):Int) ((2*unit:Nat):Int) (by lia) (Nat.le_trans (yD h2u) (by decide)) (Nat.le_trans (yD h2u) (by decide)) (Nat.le_trans (yD hN) (by decide))
 have en:(((s+2*far)*unit+c1:Nat):Int)=((s:Int)+2*(far:Int))*unit+c1:=by push_cast;rfl
 have e2:((2*unit:Nat):Int)=2*(unit:Int):=by push_cast;rfl
 rw[en,e2,d1,d2] at hdm
 have hm0:0≤(s:Int).fmod 2∧(s:Int).fmod 2≤1:=by rw[show(s:Int).fmod 2=((s%2:Nat):Int) from zP s 2];have:=Nat.mod_lt s (show 0<2 by decide);lia
 obtain⟨o1,o2⟩:=zQ0 (r:=(s:Int).fmod 2) (unit:=(unit:Int)) (c:=(c1:Int)) (by lia)
 generalize (s:Int).fmod 2=m at *
 generalize (s:Int).fdiv 2=h at *
 have ec:∀{ρ:Rho} {p p' pos:Pos} {n m:Nat},ρ.lookup ("cells":Str)=some (.v (.list (zA C0)))→Ev prog w W n yB ρ (.Subscript (.Name "cells" p) (.Constant (.int 1) m p') pos) (.int (c1:Nat)):=fun hρ =>
  Ev.convX _ (Ev.itemX (.list (zA C0)) (.int (1:Nat)) (Ev.name hρ) Ev.cint (yR (j:=1) rfl (by lia) (by lia))) (by rw[h1])
 refine Sx.cons (Ex.setT (ds:=[]) (x:=.tuple [.int ((far:Int)+h),.int (m*unit+c1)]) (Ev.fnX [.int (((s:Int)+2*(far:Int))*unit+c1),.int (2*(unit:Int))] rfl (Evs.two (Ev.binX (.int (((s:Int)+2*(far:Int))*unit)) (.int c1) (Ev.binX (.int ((s:Int)+2*(far:Int))) (.int unit) (Ev.binX (.int s) (.int (2*(far:Int))) (Ev.convX (.int (a+3*(k:Int))) (Ev.binX (.int a) (.int (3*(k:Int))) (Ev.itemX (wayD (a,cd)) (.int 0) (Ev.itemX (.list (((a,cd)::so).map wayD)) (.int 0) (Ev.name rfl) Ev.cint (jE (k:=0) rfl (by rw[List.length_map,List.length_cons];lia))) Ev.cint it0) (Ev.binX (.int 3) (.int (k:Nat)) Ev.cint (Ev.name rfl) (yO (.of_left (by decide)))) zH) (by rw[hs])) (Ev.binX (.int 2) (.int far) Ev.cint (Ev.name rfl) (yO (.of_left (by decide)))) zH) (Ev.name rfl) (yO ?_)) (ec rfl) zH) (Ev.binX (.int 2) (.int unit) Ev.cint (Ev.name rfl) (yO (.of_left (by decide))))) (hdm.mono (by lia))) (Tgt.tuple zW (Tgts.cons (Tgt.local rfl) (Tgts.cons (Tgt.local rfl) Tgts.nil)))) ?_
 ·have:=wK (jQ hsf (by decide)) (jQ hU (by decide))
  rw[show(((s+2*far:Nat)):Int)=(s:Int)+2*(far:Int) by push_cast;rfl] at this
  exact this
 refine Sx.cons (Ex.setT (ds:=[]) (x:=.tuple [.int m,.int 0]) (Ev.convX _ (Ev.buiX [.int (m*unit+c1-c1),.int unit] G.b_divmod rfl (Evs.two (Ev.binX (.int (m*unit+c1)) (.int c1) (Ev.name (by kernel_rfl)) (ec (by kernel_rfl)) zR) (Ev.name (by kernel_rfl))) (zCu (by lia) (PyProof.noPylong_of_log2 ?_))) (by rw[o1,o2])) (Tgt.tuple zW (Tgts.cons (Tgt.local rfl) (Tgts.cons (Tgt.local rfl) Tgts.nil)))) ?_
 ·rw[Int.natAbs_natCast]
  exact Nat.lt_of_lt_of_le ((Nat.log2_lt (by lia)).mpr hU) (by decide)
 refine Sx.cons (Ex.swap (ds:=[.int (h-1+m),.int (h+1)]) rfl (Ev.tuple (Evs.two (Ev.convX (.int ((far:Int)+h-far-1+m)) (Ev.bin (Ev.bin (Ev.bin (Ev.name (by kernel_rfl)) (Ev.name (by kernel_rfl)) zR) Ev.cint zR) (Ev.name (by kernel_rfl)) zH) (by congr 1;lia)) (Ev.convX (.int ((far:Int)+h-far+1)) (Ev.bin (Ev.bin (Ev.name (by kernel_rfl)) (Ev.name (by kernel_rfl)) zR) Ev.cint zH) (by congr 1;lia))) (Nat.le_of_ble_eq_true rfl)) (StoN.cons (.inl rfl) (StoN.cons (.inl rfl) StoN.nil))) ?_
 refine Sx.ifskipX _ ?_ (Tr.cmpX (k:=n+240) (.int 0) (.int 0) (Ev.name (by kernel_rfl)) Ev.cint zFt) ?_
 ·rfl
 exact Sx.weakR Sx.nil (Sub.all (by kernel_rfl))
private theorem zQl(G:Gl prog w W){C0:List Int}{L:List Ent}{c1 unit far k n:Nat}(hC:C0.length=3)(h1:C0.getD 1 0=(c1:Nat))(hu:c1<unit)(hU:unit<2^1500)(hF:far<2^3300)(hk:k≤4){s:Way}(m1:Sm s.1)(m2:Sm s.2.1)(l1:s.1.length≤4)(l2:s.2.1.length≤4)(l3:s.2.2.length≤8)
    (ho:s.2.1=[]∨(0≤(s.2.1.getD 0 nilW).1∧(s.2.1.getD 0 nilW).1≤40∧(s.2.1.getD 0 nilW).2.length=2)) (hg:bkGo k s=true∨(s.1≠[]∧(s.1.getD 0 nilW).2.length=1)) :
    ∃r,Sx prog w W (n+250) yB (bkR C0 L unit far s [("k",.v (.int (k:Nat)))]) zHr (.next (bkR C0 L unit far (zCx k s) (("k",.v (.int (k:Nat)))::r))):=by
  have h24:sizeLine=16777216:=by decide
  obtain⟨al,so,bk⟩:=s
  have ev1:∀{r:Rho} {p p' pos:Pos},Tr prog w W (n+250) yB (bkR C0 L unit far (al,so,bk) (("k",.v (.int (k:Nat)))::r)) (.Compare (.Name "solid" p) [.NotEq] [.List [] p'] pos) (!so.isEmpty):=fun {r p p' pos} =>
    Tr.convX _ (Tr.cmpX (k:=n+240) (.list (so.map wayD)) (.list []) (Ev.name rfl) (Ev.list Evs.nil (Nat.le_of_ble_eq_true rfl)) (jK (zCw m2) rfl)) (by rw[zLv];cases so <;> rfl)
  cases so with
  | nil =>
    have hb:bkGo k (al,[],bk)=false:=rfl
    rcases hg with hg|⟨ha,hl⟩
    · rw[hb] at hg;cases hg
    cases al with
    | nil=>exact absurd rfl ha
    | cons x al =>
      refine⟨[],Sx.ifskipX _ ?_ ev1 (Sx.one (Ex.ite_f (Tr.and_f ?_) ?_))⟩
      · rfl
      · exact Tr.convX _ ev1 rfl
      · have:=zKr (n:=n) (L:=L) (C0:=C0) (unit:=unit) (far:=far) (k:=k) G (so:=[]) (bk:=bk) (r:=[]) hl (Nat.le_trans (Nat.le_of_succ_le l1) (by decide)) l3
        exact this
  | cons x so =>
    obtain⟨a,cd⟩:=x
    rcases ho with ho|⟨ha0,ha1,hcd⟩
    · cases ho
    have hcd:cd.length=2:=hcd
    have ha0:0≤a:=ha0
    have ha1:a≤40:=ha1
    have hso:so.length≤8:=Nat.le_trans (Nat.le_of_succ_le l2) (by decide)
    have hdv:=bk_div (n:=n) (L:=L) (al:=al) (so:=so) (bk:=bk) (cd:=cd) G hC h1 hu hU hF ha0 ha1 hk hso
    obtain⟨low,hlow⟩:∃x,x=(a+3*(k:Int)).fdiv 2-1+(a+3*(k:Int)).fmod 2:=⟨_,rfl⟩
    obtain⟨high,hhigh⟩:∃x,x=(a+3*(k:Int)).fdiv 2+1:=⟨_,rfl⟩
    have hst:zCx k (al,(a,cd)::so,bk)=bif bkGo k (al,(a,cd)::so,bk) then (al,so,bk++[(low,cd.getD 0 0),(high,cd.getD 1 0)]) else (al.drop 1,(a,cd)::so,bk++[((al.getD 0 nilW).1+3*k,(al.getD 0 nilW).2.getD 0 0)]):=by rw[hlow,hhigh];rfl
    have hgo:bkGo k (al,(a,cd)::so,bk)=(al.isEmpty||decide (253+high-(al.getD 0 nilW).1-3*k<256)):=by rw[hhigh];rfl
    rw[←hlow,←hhigh] at hdv
    rw[hst]
    generalize (a+3*(k:Int)).fdiv 2=hh at hdv
    generalize (a+3*(k:Int)).fmod 2=mm at hdv
    refine⟨[("part",.v (.int ((far:Int)+hh))),("left",.v (.int (mm*unit+c1))),("odd",.v (.int mm)),("over",.v (.int 0)),("low",.v (.int low)),("high",.v (.int high))],Sx.cons (Ex.ite_t (Tr.convX _ ev1 rfl) hdv) (Sx.one (Ex.ite2 (bkGo k (al,(a,cd)::so,bk)) ?_ (fun hb=>?_) (fun hb=>?_)))⟩
    · refine Tr.convX (true&&((al.isEmpty||(decide (253+high-(al.getD 0 nilW).1-3*k<256)||false))&&true)) (Tr.and (Tr.convX _ ev1 rfl) fun _=>Tr.and (Tr.or (Tr.convX _ (Tr.cmpX (k:=n+240) (.list (al.map wayD)) (.list []) (Ev.name rfl) (Ev.list Evs.nil (Nat.le_of_ble_eq_true rfl)) (zK2 (zCw m1) rfl)) (by rw[zLv];cases al <;> rfl)) fun he=>Tr.or (Tr.val (Ev.fnX [.int (253+high-(al.getD 0 nilW).1-3*k)] rfl (Evs.one ?_) ((wW G _).mono (by lia))) wL) fun _=>Tr.or_nil) fun _=>Tr.and_nil) (by rw[hgo,Bool.true_and,Bool.and_true,Bool.or_false])
      cases al with
      | nil=>cases he
      | cons y al =>
        refine Ev.binX (.int (253+high-y.1)) (.int (3*(k:Int))) (Ev.binX (.int (253+high)) (.int y.1) (Ev.binX (.int 253) (.int high) Ev.cint (Ev.name rfl) zH) (Ev.itemX (wayD y) (.int 0) (Ev.itemX (.list ((y::al).map wayD)) (.int 0) (Ev.name rfl) Ev.cint (jE (k:=0) rfl (by rw[List.length_map];exact Nat.le_trans l1 (by decide)))) Ev.cint it0) zR) (Ev.binX (.int 3) (.int (k:Nat)) Ev.cint (Ev.name rfl) (yO (.of_left (by decide)))) zR
    · rw[hb,cond_true]
      exact bk_then (n:=n) G (x:=(a,cd)) hcd hso l3 rfl rfl
    · rw[hb,cond_false]
      cases al with
      | nil=>rw[hgo] at hb;cases hb
      | cons y al =>
        rcases hg with hg|⟨_,hl⟩
        · rw[hb] at hg;cases hg
        exact zKr (n:=n) G hl (Nat.le_trans (Nat.le_of_succ_le l1) (by decide)) l3
end Wk
namespace Wk
open Builtin.Int
variable{prog:Program}{w:World}{W:Wd}
@[irreducible] noncomputable def QR:Nat:=2^1500-1
private theorem zJ0:2^1000≤QR∧QR<2^1500:=by unfold QR;decide +kernel
@[irreducible] noncomputable def farB:Nat:=3^2000
private theorem zM9:farB<2^3200:=by unfold farB;decide +kernel
noncomputable def bkF(L:List Ent)(b:Bool)(d:PyData):List PyData:=match d with | .int k=>bif ((L.getD k.toNat nilE).1%3==0)==b then [wayD (((L.getD k.toNat nilE).1:Int)-3*(k.toNat:Nat),zY (L.getD k.toNat nilE))] else [] | _=>[]
private theorem zDx(L:List Ent)(b:Bool):(zK 0 ((L.length:Nat):Int).toNat).flatMap (bkF L b)=(bkL L b).map wayD:=by
 rw[Int.toNat_natCast]
 unfold zK bkL
 rw[List.map_flatMap,List.flatMap_map]
 congr 1
 funext i
 show(bif ((L.getD ((0:Int)+(i:Int)).toNat nilE).1%3==0)==b then _ else _)=_
 rw[Int.zero_add,Int.toNat_natCast]
 cases ((L.getD i nilE).1%3==0)==b <;> rfl
private theorem zL0(L:List Ent)(b:Bool):(bkL L b).length≤L.length:=by
  unfold bkL
  rw[List.length_flatMap]
  have h:∀l:List Nat,(l.map fun k=>(bif ((L.getD k nilE).1%3==0)==b then [(((L.getD k nilE).1:Int)-3*k,zY (L.getD k nilE))] else []).length).sum≤l.length:=fun l=>by
    induction l with
    | nil=>exact Nat.le_refl 0
    | cons k l ih =>
      rw[List.map_cons,List.sum_cons,List.length_cons]
      have:(bif ((L.getD k nilE).1%3==0)==b then [(((L.getD k nilE).1:Int)-3*k,zY (L.getD k nilE))] else []).length≤1:=by
        cases ((L.getD k nilE).1%3==0)==b
        · exact Nat.zero_le 1
        · exact Nat.le_refl 1
      lia
  have:=h (List.range L.length)
  rwa [List.length_range] at this
private theorem zKv(w:Nat):ltN w<1114112:=by
 by_cases h:w<8
 ·have:=(vZ w h).2.2.1.2;lia
 ·unfold ltN;rw[List.getD_eq_getElem?_getD,List.getElem?_eq_none (by rw[show yK.length=8 from by decide];lia)];decide
private theorem zJ6(e:Ent):∀c∈zY e,c<1114112:=fun c hc=>by
 unfold zY at hc
 cases hb:e.2.1 <;> rw[hb] at hc <;> simp only[cond_true,cond_false,List.mem_cons,List.not_mem_nil,or_false] at hc
 ·rw[hc];exact zKv _
 ·rcases hc with hc|hc <;> rw[hc] <;> exact zKv _
private theorem zOq(L:List Ent)(b:Bool):Sm (bkL L b):=fun x hx c hc=>by
 unfold bkL at hx
 obtain⟨k,_,hk⟩:=List.mem_flatMap.mp hx
 cases hb:((L.getD k nilE).1%3==0)==b <;> rw[hb] at hk
 ·cases hk
 ·rw[cond_true,List.mem_singleton] at hk;subst hk;exact zJ6 _ c hc
private theorem zKs(L:List Ent):∀k,Sm (bkS L k).1∧Sm (bkS L k).2.1
  | 0=>⟨zOq L _,zOq L _⟩
  | k + 1 => by
    obtain⟨a,b⟩:=zKs L k
    show Sm (zCx k (bkS L k)).1∧Sm (zCx k (bkS L k)).2.1
    unfold zCx
    cases bkGo k (bkS L k)
    · exact⟨fun x hx=>a x (List.mem_of_mem_drop hx),b⟩
    · exact⟨a,fun x hx=>b x (List.mem_of_mem_drop hx)⟩
private theorem bkB_at{L:List Ent}(h:bkB L=true){k:Nat}(hk:k<L.length):(bkS L k).1.length≤4∧(bkS L k).2.1.length≤4∧(bkS L k).2.2.length≤8∧((bkS L k).2.1=[]∨(0≤((bkS L k).2.1.getD 0 nilW).1∧((bkS L k).2.1.getD 0 nilW).1≤40∧((bkS L k).2.1.getD 0 nilW).2.length=2))∧(bkGo k (bkS L k)=true∨((bkS L k).1≠[]∧((bkS L k).1.getD 0 nilW).2.length=1)):=by
 have h:=List.all_eq_true.mp h k (List.mem_range.mpr hk)
 simp only[Bool.and_eq_true,Bool.or_eq_true,decide_eq_true_eq,beq_iff_eq,Bool.not_eq_true',List.isEmpty_iff,List.isEmpty_eq_false_iff] at h
 obtain⟨⟨⟨⟨a,b⟩,c⟩,d⟩,e⟩:=h
 refine⟨a,b,c,?_,e⟩
 rcases d with d|⟨⟨d,e⟩,f⟩
 ·exact .inl d
 ·exact .inr ⟨d,e,f⟩
private theorem zNy(G:Gl prog w W){C0:List Int}{c0 c1 c2:Nat}(hC:C0.length=3)(h0:C0.getD 0 0=(c0:Nat))(h1:C0.getD 1 0=(c1:Nat))(h2:C0.getD 2 0=(c2:Nat))(b0:c0<2^30)(b1:c1<2^30)(b2:c2<2^30){L:List Ent}(hL:L.length≤4)(hd:∀e∈L,e.1≤1000)(hB:bkB L=true) :
  FunG prog w W 252 "_law_back" [.list (L.map rowL),.list (zA C0)] (.list ((bkS L L.length).2.2.map outD)):=by
 have h24:sizeLine=16777216:=by decide
 have g:∀{ρ:Rho} {p p' pos:Pos} {k:Nat} (j:Nat),j<3→ρ.lookup ("cells":Str)=some (.v (.list (zA C0)))→Ev prog w W k yB ρ (.Subscript (.Name "cells" p) (.Constant (.int (j:Nat)) 0 p') pos) (.int (C0.getD j 0)):=fun j hj hρ =>
  Ev.itemX (.list (zA C0)) (.int j) (Ev.name hρ) Ev.cint (yR rfl (by lia) (by lia))
 have er:∀{K:List (Str×NameKind)} {ρ:Rho} {p p' pos:Pos} {q n:Nat},q<L.length→ρ.lookup ("rows":Str)=some (.v (.list (L.map rowL)))→ρ.lookup ("k":Str)=some (.v (.int (q:Nat)))→Ev prog w W n K ρ (.Subscript (.Name "rows" p) (.Name "k" p') pos) (rowL (L.getD q nilE)):=fun hq hρ hk =>
  Ev.itemX (.list (L.map rowL)) (.int _) (Ev.name hρ) (Ev.name hk) (jE (zCh rowL nilE hq) (by rw[List.length_map];lia))
 have e0:∀{K:List (Str×NameKind)} {ρ:Rho} {p p' p2 pos pos':Pos} {q n m:Nat},q<L.length→ρ.lookup ("rows":Str)=some (.v (.list (L.map rowL)))→ρ.lookup ("k":Str)=some (.v (.int (q:Nat)))→Ev prog w W n K ρ (.Subscript (.Subscript (.Name "rows" p) (.Name "k" p') pos) (.Constant (.int 0) m p2) pos') (.int ((L.getD q nilE).1:Nat)):=fun hq hρ hk =>
  Ev.itemX (rowL _) (.int 0) (er hq hρ hk) Ev.cint it0
 have e1:∀{K:List (Str×NameKind)} {ρ:Rho} {p p' p2 pos pos':Pos} {q n m:Nat},q<L.length→ρ.lookup ("rows":Str)=some (.v (.list (L.map rowL)))→ρ.lookup ("k":Str)=some (.v (.int (q:Nat)))→Ev prog w W n K ρ (.Subscript (.Subscript (.Name "rows" p) (.Name "k" p') pos) (.Constant (.int 1) m p2) pos') (.int ((L.getD q nilE).1%3:Nat)):=fun hq hρ hk =>
  Ev.itemX (rowL _) (.int 1) (er hq hρ hk) Ev.cint it1
 have e2:∀{K:List (Str×NameKind)} {ρ:Rho} {p p' p2 pos pos':Pos} {q n m:Nat},q<L.length→ρ.lookup ("rows":Str)=some (.v (.list (L.map rowL)))→ρ.lookup ("k":Str)=some (.v (.int (q:Nat)))→Ev prog w W n K ρ (.Subscript (.Subscript (.Name "rows" p) (.Name "k" p') pos) (.Constant (.int 2) m p2) pos') (.str (sT (zY (L.getD q nilE)))):=fun hq hρ hk =>
  Ev.itemX (rowL _) (.int 2) (er hq hρ hk) Ev.cint it2
 have ew:∀{K:List (Str×NameKind)} {ρ:Rho} {p p1 p2 p3 p4 p5 p6 p7 p8 p9 pa pb pc pd pe:Pos} {q n m m2 m3 m4:Nat},q<L.length→ρ.lookup ("rows":Str)=some (.v (.list (L.map rowL)))→ρ.lookup ("k":Str)=some (.v (.int (q:Nat)))→Ev prog w W n K ρ (.Tuple [.BinOp (.Subscript (.Subscript (.Name "rows" p) (.Name "k" p1) p2) (.Constant (.int 0) m p3) p4) .Sub (.BinOp (.Constant (.int 3) m2 p5) .Mult (.Name "k" p6) p7) p8,.Subscript (.Subscript (.Name "rows" p9) (.Name "k" pa) pb) (.Constant (.int 2) m3 pc) pd] m4 pe) (wayD (((L.getD q nilE).1:Int)-3*(q:Nat),zY (L.getD q nilE))):=fun {K ρ p p1 p2 p3 p4 p5 p6 p7 p8 p9 pa pb pc pd pe q n m m2 m3 m4} hq hρ hk =>
  Ev.tuple (Evs.two (Ev.binX (.int ((L.getD q nilE).1:Nat)) (.int (3*(q:Nat))) (e0 hq hρ hk) (Ev.binX (.int 3) (.int (q:Nat)) Ev.cint (Ev.name hk) (yO (.of_left (by decide)))) zR) (e2 hq hρ hk)) (Nat.le_of_ble_eq_true rfl)
 have el:∀{ρ:Rho} {p p' pos:Pos} {k:Nat},ρ.lookup ("rows":Str)=some (.v (.list (L.map rowL)))→Ev prog w W k yB ρ (.Call (.Name "len" p) [.Name "rows" p'] [] pos) (.int (L.length:Nat)):=fun hρ =>
  Ev.convX _ (Ev.buiX [.list (L.map rowL)] G.b_len rfl (Evs.one (Ev.name hρ)) (yX (by rw[List.length_map];lia))) (by rw[List.length_map])
 have tb:∀a:Nat,((((a%3:Nat):Int)==0)=(a%3==0)):=fun a=>by rw[Bool.eq_iff_iff,beq_iff_eq,beq_iff_eq];lia
 have bt:∀(q:Nat) (b:Bool),((L.getD q nilE).1%3==0)=b→bkF L b (.int (q:Nat))=[wayD (((L.getD q nilE).1:Int)-3*(q:Nat),zY (L.getD q nilE))]:=fun q b hb=>by
  show(bif ((L.getD ((q:Nat):Int).toNat nilE).1%3==0)==b then _ else _)=_
  rw[Int.toNat_natCast,hb,beq_self_eq_true];rfl
 have bf:∀(q:Nat) (b:Bool),((L.getD q nilE).1%3==0)=(!b)→bkF L b (.int (q:Nat))=[]:=fun q b hb=>by
  show(bif ((L.getD ((q:Nat):Int).toNat nilE).1%3==0)==b then _ else _)=_
  rw[Int.toNat_natCast,hb];cases b <;> rfl
 refine FunG.of (names:=["rows","cells"]) G.d_law_back zD6 (fun _ _ _=>zAu fun _ _=>rfl) (by decide) (by decide) ?_
 refine Sx.cons (Ex.conv (Ex.setC (ds:=zK 0 ((L.length:Nat):Int).toNat) (outs:=(zK 0 ((L.length:Nat):Int).toNat).flatMap (bkF L false)) [("rows",.v (.list (L.map rowL)))] rfl (Itr.range1 rfl G.b_range.1 G.b_range.2 (el rfl) (by lia) (by lia)) ⟨by decide,rfl,by decide,by decide⟩ (Caps.cons rfl rfl Caps.nil) (CL.of (bkF L false) rfl (zT zJ) ?_) ?_) (by rw[zDx])) ?_
 ·intro i d hd
  have hi:i<L.length:=by have:=(List.getElem?_eq_some_iff.mp hd).1;rwa [zD,Int.toNat_natCast] at this
  have hd':=zQ hd
  rw[Int.zero_add] at hd'
  subst hd'
  refine⟨_,!((L.getD i nilE).1%3==0),Tgt.local rfl,Ifs.one (Tr.convX (!(((((L.getD i nilE).1%3:Nat):Int))==0)) (Tr.not (Tr.val (Ev.fnX [.int ((L.getD i nilE).1%3:Nat)] rfl (Evs.one (e1 hi (by kernel_rfl) (by kernel_rfl))) ((zG4 G _).mono (by lia))) wL)) (by rw[tb])),Sub.cons (by kernel_rfl) Sub.nil,fun hb=>?_,fun hb=>?_⟩
  ·rw[bt i false (by revert hb;cases (L.getD i nilE).1%3==0 <;> decide)]
   exact Emit.last rfl (yN (zT zJ)) (ew hi (by kernel_rfl) (by kernel_rfl))
  ·exact bf i false (by revert hb;cases (L.getD i nilE).1%3==0 <;> decide)
 ·rw[zDx,List.length_map];have:=zL0 L false;lia
 refine Sx.cons (Ex.conv (Ex.setC (ds:=zK 0 ((L.length:Nat):Int).toNat) (outs:=(zK 0 ((L.length:Nat):Int).toNat).flatMap (bkF L true)) [("rows",.v (.list (L.map rowL)))] rfl (Itr.range1 rfl G.b_range.1 G.b_range.2 (el rfl) (by lia) (by lia)) ⟨by decide,rfl,by decide,by decide⟩ (Caps.cons rfl rfl Caps.nil) (CL.of (bkF L true) rfl (zT zJ) ?_) ?_) (by rw[zDx])) ?_
 ·intro i d hd
  have hi:i<L.length:=by have:=(List.getElem?_eq_some_iff.mp hd).1;rwa [zD,Int.toNat_natCast] at this
  have hd':=zQ hd
  rw[Int.zero_add] at hd'
  subst hd'
  refine⟨_,((L.getD i nilE).1%3==0),Tgt.local rfl,Ifs.one (Tr.convX ((((((L.getD i nilE).1%3:Nat):Int))==0)) (Tr.val (Ev.fnX [.int ((L.getD i nilE).1%3:Nat)] rfl (Evs.one (e1 hi (by kernel_rfl) (by kernel_rfl))) ((zG4 G _).mono (by lia))) wL) (by rw[tb])),Sub.cons (by kernel_rfl) Sub.nil,fun hb=>?_,fun hb=>?_⟩
  ·rw[bt i true hb]
   exact Emit.last rfl (yN (zT zJ)) (ew hi (by kernel_rfl) (by kernel_rfl))
  ·exact bf i true hb
 ·rw[zDx,List.length_map];have:=zL0 L true;lia
 have h1000:(2:Nat)^30<2^1000:=Nat.pow_lt_pow_right (by decide) (by decide)
 obtain⟨u1,u2⟩:=zJ0
 have f1:=zM9
 have eu:(2:Nat)^1500-1=QR:=by unfold QR;rfl
 have ef:(3:Nat)^2000=farB:=by unfold farB;rfl
 have hp:1≤(2:Nat)^1500:=Nat.two_pow_pos _
 have hz:(bkS L 0)=(bkL L false,bkL L true,[]):=rfl
 refine Sx.consX (bkR C0 L (QR-c0) (farB+c2) (bkS L 0) []) (Ex.weakR (Ex.swapO (sls:=[.v (.int (QR-c0:Nat)),.v (.int (farB+c2:Nat)),.own []]) rfl (EvsO.v ?_ (EvsO.v ?_ (EvsO.own (EvN.list Evs.nil (Nat.le_of_ble_eq_true rfl)) EvsO.nil))) (StoO.own rfl (yN (yN (zT (zT zJ)))) (StoO.v rfl (StoO.v rfl StoO.nil))) (hsz:=Nat.le_of_ble_eq_true rfl)) (Sub.all (by kernel_rfl))) ?_
 ·refine Ev.convX (.int ((QR:Int)-c0)) (Ev.binX (.int (QR:Nat)) (.int c0) (Ev.convX (.int (((2^1500:Nat):Int)-1)) (Ev.binX (.int (2^1500:Nat)) (.int 1) (Ev.binX (.int (2:Nat)) (.int (1500:Nat)) (Ev.conv Ev.cint rfl) (Ev.conv Ev.cint rfl) (qH (m:=2) (by decide) (by decide) (by decide) (by decide))) Ev.cint zR) (by rw[←eu,vW hp])) (Ev.convX _ (g 0 (by decide) rfl) (by rw[h0])) zR) (by congr 1;lia)
 ·refine Ev.convX (.int ((farB:Int)+c2)) (Ev.binX (.int (farB:Nat)) (.int c2) (Ev.convX _ (Ev.binX (.int (3:Nat)) (.int (2000:Nat)) (Ev.conv Ev.cint rfl) (Ev.conv Ev.cint rfl) (qH (m:=2) (by decide) (by decide) (by decide) (by decide))) (by rw[ef])) (Ev.convX _ (g 2 (by decide) rfl) (by rw[h2])) zH) (by rw[←Int.natCast_add])
 have hu:c1<QR-c0:=by
  have h1:(2:Nat)^1000≥2^31:=Nat.pow_le_pow_right (by decide) (by decide)
  have h2:(2:Nat)^31=2^30+2^30:=by decide
  lia
 have hU:QR-c0<2^1500:=by lia
 have hF:farB+c2<2^3300:=by
  have h1:(2:Nat)^3201≤2^3300:=Nat.pow_le_pow_right (by decide) (by decide)
  have h2:(2:Nat)^3201=2^3200+2^3200:=by rw[Nat.pow_succ];lia
  have h3:(2:Nat)^30≤2^3200:=Nat.pow_le_pow_right (by decide) (by decide)
  lia
 generalize QR-c0=unit at *
 generalize farB+c2=far at *
 refine Sx.consX (bkR C0 L unit far (bkS L L.length) []) (Ex.conv (Ex.loop (ds:=zK 0 ((L.length:Nat):Int).toNat) (fun k=>bkR C0 L unit far (bkS L k) []) (Sub.all (by kernel_rfl)) (Itr.range1 rfl G.b_range.1 G.b_range.2 (el rfl) (by lia) (by lia)) ?_) (by rw[zD,Int.toNat_natCast])) ?_
 ·intro i d hd
  have hi:i<L.length:=by have:=(List.getElem?_eq_some_iff.mp hd).1;rwa [zD,Int.toNat_natCast] at this
  have hd':=zQ hd
  rw[Int.zero_add] at hd'
  subst hd'
  obtain⟨a,b,c,d,e⟩:=bkB_at hB hi
  obtain⟨r,hr⟩:=zQl (n:=1) (L:=L) (k:=i) G hC h1 hu hU hF (by lia) (zKs L i).1 (zKs L i).2 a b c d e
  refine⟨_,_,Tgt.local rfl,?_⟩
  exact hr.weakR (Sub.all (by kernel_rfl))
 ·refine Sx.freeze (y:="back") rfl ?_
  exact Sx.retX _ (Ev.name rfl)
end Wk
namespace Wk
variable{prog:Program}{w:World}{W:Wd}
noncomputable def zZ(d:Nat)(L:List Nat):List Int:=List.replicate (d/3) 52++List.replicate (d%3) 23++L.map fun (c:Nat)=>(c:Int)+158
noncomputable def zOb(d:PyData):List PyData:=match d with | .int p=>bif decide (p≥256) then [.str ⟨#[(p-158).toNat]⟩] else [] | _=>[]
noncomputable def oneS(c:Nat):Str:=⟨#[c]⟩
private theorem zI9(n:Nat)(x:Int)(hx:x<256):(zA (List.replicate n x)).flatMap zOb=[]:=by
  unfold zA
  rw[List.map_replicate]
  induction n with
  | zero=>rfl
  | succ n ih =>
    rw[List.replicate_succ,List.flatMap_cons,ih,List.append_nil]
    show(bif decide (x≥256) then _ else _)=_
    rw[decide_eq_false (by omega)];rfl
private theorem zF9(d:Nat)(L:List Nat)(hL:∀c∈L,98≤c):(zA (zZ d L)).flatMap zOb=yH (L.map oneS):=by
  unfold zZ
  have ea:∀a b:List Int,zA (a++b)=zA a++zA b:=fun a b=>by unfold zA;rw[List.map_append]
  rw[ea,ea,List.flatMap_append,List.flatMap_append,zI9 _ _ (by decide),zI9 _ _ (by decide)]
  show(zA (L.map fun (c:Nat)=>(c:Int)+158)).flatMap zOb=_
  induction L with
  | nil=>rfl
  | cons c L ih =>
    have hc:=hL c List.mem_cons_self
    rw[List.map_cons,show zA (((c:Int)+158)::L.map fun (c:Nat)=>(c:Int)+158)=.int ((c:Int)+158)::zA (L.map fun (c:Nat)=>(c:Int)+158) from rfl,List.flatMap_cons,ih fun e he=>hL e (List.mem_cons_of_mem _ he)]
    show(bif decide ((c:Int)+158≥256) then [PyData.str ⟨#[((c:Int)+158-158).toNat]⟩] else [])++_=_
    rw[decide_eq_true (by omega),Int.add_sub_cancel,Int.toNat_natCast];rfl
private theorem zF8(d:Nat)(L:List Nat)(hL:∀c∈L,98≤c):(zZ d L).count 52=d/3∧(zZ d L).count 23=d%3:=by
 have h0:∀x:Int,x<256→(L.map fun (c:Nat)=>(c:Int)+158).count x=0:=fun x hx=>List.count_eq_zero.mpr fun h=>by
  obtain⟨c,hc,e⟩:=List.mem_map.mp h
  have:=hL c hc;omega
 unfold zZ
 rw[List.count_append,List.count_append,List.count_append,List.count_append,h0 _ (by decide),h0 _ (by decide),List.count_replicate_self,List.count_replicate_self,List.count_replicate,List.count_replicate]
 exact⟨rfl,by rw[if_neg (by decide)];omega⟩
private theorem zBt(d:Nat)(L:List Nat):(zZ d L).length≤d+L.length:=by
 unfold zZ
 rw[List.length_append,List.length_append,List.length_replicate,List.length_replicate,List.length_map];omega
noncomputable def zLi(L:List Nat):Prop:=(∃a,L=[a]) ∨ ∃a b,L=[a,b]
private theorem kZ{L:List Nat}(h:zLi L):PySem.JoinOk "" (L.map oneS)=true∧Txt.join "" (L.map oneS)=⟨L.toArray⟩∧L.length≤2:=by
 rcases h with⟨a,rfl⟩|⟨a,b,rfl⟩
 ·exact⟨by kernel_rfl,by kernel_rfl,Nat.le_succ 1⟩
 ·exact⟨by kernel_rfl,by kernel_rfl,Nat.le_refl 2⟩
private theorem zQ1(G:Gl prog w W){x:Str}{d:Nat}{L:List Nat}(hx:x.length≤100)(hd:d≤100)(hr:zGa x=zZ d L)(hL:∀c∈L,98≤c∧c≤1000)(hs:zLi L) :
  FunG prog w W 52 "_law_row" [.str x] (.tuple [.int d,.int (d%3:Nat),.str ⟨L.toArray⟩]):=by
 have h24:sizeLine=16777216:=by decide
 obtain⟨j1,j2,j3⟩:=kZ hs
 obtain⟨c1,c2⟩:=zF8 d L fun c hc=>(hL c hc).1
 have hl:=zBt d L
 refine FunG.of (names:=["line"]) G.d_law_row zFi (fun _ _ _=>uC fun _=>rfl) (by decide) (by decide) ?_
 refine Sx.cons (Ex.setX (.list (zA (zZ d L))) (Ev.convX _ (Ev.fnX [.str x] rfl (Evs.cons (Ev.name rfl) Evs.nil) ((zI0 G x (by omega)).at rfl)) (by rw[hr])) (.inl rfl)) ?_
 refine Sx.cons (Ex.setX (.str ⟨L.toArray⟩) (Ev.convX _ (Ev.meth1X (.str "") (.list (yH (L.map oneS))) (Ev.conv Ev.cstr rfl) (EvN.ev (EvN.conv (EvN.comp (ds:=zA (zZ d L)) [] (Itr.list (Ev.name rfl)) ⟨by decide,rfl,by decide,by decide⟩ Caps.nil (CL.of zOb rfl zJ ?_) ?_) (zF9 d L fun c hc=>(hL c hc).1))) (zE0 j1)) (by rw[j2])) (.inl rfl)) ?_
 ·intro i e hd
  obtain⟨p,hp,rfl⟩:∃p,p∈zZ d L∧e=.int p:=by
   unfold zA at hd
   rw[List.getElem?_map] at hd
   cases e2:(zZ d L)[i]? with
   | none=>rw[e2] at hd;cases hd
   | some y=>rw[e2] at hd;cases hd;exact⟨y,List.mem_of_getElem? e2,rfl⟩
  refine⟨_,decide (p≥256),Tgt.local rfl,Ifs.one (Tr.val (Ev.fnX [.int p] rfl (Evs.one (Ev.name (by kernel_rfl))) ((xA G p).at rfl)) wL),Sub.nil,fun hb=>?_,fun hb=>?_⟩
  ·show Emit prog w W _ _ _ _ _ _ _ _ (bif decide (p≥256) then _ else _) _
   rw[hb]
   have hp2:p≤1158:=by
    unfold zZ at hp
    rcases List.mem_append.mp hp with h|h
    ·rcases List.mem_append.mp h with h|h
     ·have:=List.eq_of_mem_replicate h;omega
     ·have:=List.eq_of_mem_replicate h;omega
    ·obtain⟨c,hc,rfl⟩:=List.mem_map.mp h
     have:=(hL c hc).2;omega
   have hp1:=of_decide_eq_true hb
   exact Emit.last rfl (yN zJ) (Ev.chrX (p-158) (p-158).toNat G.b_chr rfl (Ev.binX (.int p) (.int 158) (Ev.name (by kernel_rfl)) Ev.cint zR) (by omega) (by omega))
  ·show(bif decide (p≥256) then _ else _)=_
   rw[hb];rfl
 ·rw[zF9 d L fun c hc=>(hL c hc).1];unfold yH;rw[List.length_map,List.length_map];omega
 ·refine Sx.retX _ (Ev.tuple (Evs.cons ?_ (Evs.two ?_ (Ev.name (by kernel_rfl)))) (Nat.le_of_ble_eq_true rfl))
  ·refine Ev.convX (.int (3*((zZ d L).count 52:Nat)+((zZ d L).count 23:Nat))) (Ev.binX (.int (3*((zZ d L).count 52:Nat))) (.int ((zZ d L).count 23:Nat)) (Ev.binX (.int 3) (.int ((zZ d L).count 52:Nat)) Ev.cint (Ev.meth1X (.list (zA (zZ d L))) (.int 52) (Ev.name (by kernel_rfl)) Ev.cint wS) (yO (.of_left (by decide)))) (Ev.meth1X (.list (zA (zZ d L))) (.int 23) (Ev.name (by kernel_rfl)) Ev.cint wS) zH) ?_
   rw[c1,c2];congr 1;omega
  ·exact Ev.convX _ (Ev.meth1X (.list (zA (zZ d L))) (.int 23) (Ev.name (by kernel_rfl)) Ev.cint wS) (by rw[c2])
end Wk
end
section
open PySem PySem.W PyProof.Rows Mine Wk
open Builtin.Str
set_option maxRecDepth 100000
set_option maxHeartbeats 400000
set_option linter.unusedVariables false
namespace Wk
private theorem zMl(a b:Int)(n:Nat)(h:(n:Int)≤b):strSliceIndices (some a) (some b) 1 n=strSliceIndices (some a) (some (n:Int)) 1 n:=by
 have e2:¬ (n:Int)<0:=Int.not_lt.mpr (Int.natCast_nonneg n)
 have e1:¬ b<0:=Int.not_lt.mpr (Int.le_trans (Int.natCast_nonneg n) h)
 have e3:(n:Int)-1≤n:=Int.sub_le_self _ (by decide)
 simp only[strSliceIndices,e1,e2,if_false,Int.min_eq_right h,Int.min_self,Int.min_eq_right e3,Int.min_eq_right (Int.le_trans e3 h)]
private theorem zKx(x:Str)(a b:Nat)(ha:a≤x.length)(hab:a≤b):Txt.slice x (some (a:Int)) (some (b:Int))=⟨((x.cps.toList.drop a).take (b-a)).toArray⟩:=by
 by_cases hb:b≤x.length
 ·exact StrLaws.sliceText_nat x hab hb
 ·have e1:Txt.slice x (some (a:Int)) (some (b:Int))=Txt.slice x (some (a:Int)) (some (x.length:Int)):=by
   unfold Txt.slice;rw[zMl _ _ _ (by lia)]
  rw[e1,show Txt.slice x (some (a:Int)) (some (x.length:Int))=_ from StrLaws.sliceText_nat x ha (Nat.le_refl _)]
  have hl:x.cps.toList.length=x.length:=by simp[Str.length]
  congr 2
  rw[List.take_of_length_le (by rw[List.length_drop];lia),List.take_of_length_le (by rw[List.length_drop];lia)]
noncomputable def exN(l:List Nat):Option Int:=exL.lookup ⟨l.toArray⟩
noncomputable def szL(l:List Nat):Nat:=bif (exN (l.take 3)).isSome then 3 else bif (exN (l.take 2)).isSome then 2 else 1
noncomputable def rdF:Nat→List Nat→List Int
 | 0,_=>[]
 | _+1,[]=>[]
 | f+1,c::r=>(exN ((c::r).take (szL (c::r)))).getD ((c:Nat)+158)::rdF f ((c::r).drop (szL (c::r)))
private theorem zHa(x:Str):∀f p,zFu x f p=rdF f (x.cps.toList.drop p)
  | 0,p=>rfl
  | f + 1, p => by
    have hl:x.cps.toList.length=x.length:=by simp[Str.length]
    rw[zFu]
    by_cases h:p<x.length
    · have hd:decide (p<x.length)=true:=by simpa using h
      rw[hd,cond_true,zHa x f]
      have hs:∀s,slP x p s=⟨((x.cps.toList.drop p).take s).toArray⟩:=fun s=>by
        unfold slP
        rw[show((p:Int)+(s:Nat))=((p+s:Nat):Int) from (Int.natCast_add _ _).symm,zKx _ _ _ (by lia) (by lia)]
        congr 2;congr 1;lia
      have hz:vO x p=szL (x.cps.toList.drop p):=by
        unfold vO szL exIn exN;rw[hs,hs]
      have hc:x.cps.toList.drop p=x.cps.getD p 0::x.cps.toList.drop (p+1):=by
        rw[List.drop_eq_getElem_cons (by lia)]
        congr 1
        have hp:p<x.cps.size:=h
        rw[Array.getElem_toList,Array.getD_eq_getD_getElem?,Array.getElem?_eq_getElem hp];rfl
      unfold jL
      rw[hs,hz,←List.drop_drop]
      generalize hq:x.cps.toList.drop p=q at *
      rw[hc,rdF,←hc];rfl
    · have hd:decide (p<x.length)=false:=by simpa using h
      rw[hd,cond_false,List.drop_eq_nil_of_le (by lia)];rfl
private theorem zH9(x:Str):zGa x=rdF x.length x.cps.toList:=zHa x _ 0
private theorem zG7:exL.all (fun kv=>kv.1.cps.toList.all fun c=>!yK.contains c)=true:=by decide +kernel
private theorem zC8{α β:Type}[BEq α][LawfulBEq α]:∀{l:List (α×β)} {a:α} {b:β},l.lookup a=some b→(a,b)∈l
  | (x, y) :: l, a, b, h => by
    rw[List.lookup_cons] at h
    by_cases e:a==x
    · rw[e] at h;cases h;rw[eq_of_beq e];exact List.mem_cons_self
    · rw[Bool.eq_false_iff.mpr e] at h;exact List.mem_cons_of_mem _ (zC8 h)
private theorem uO{l:List Nat}{c:Nat}(hc:c∈l)(hl:c∈yK):exN l=none:=by
  cases h:exN l with
  | none=>rfl
  | some v =>
    have h1:=List.all_eq_true.mp zG7 _ (zC8 h)
    have h2:=List.all_eq_true.mp h1 c hc
    rw[List.contains_iff_mem.mpr hl] at h2;cases h2
private theorem kC:∀(L:List Nat) (f:Nat),L.length≤f→(∀c∈L,c∈yK)→rdF f L=L.map fun (c:Nat)=>(c:Int)+158
  | [],f,_,_=>by cases f <;> rfl
  | c :: r, f + 1, hf, hc => by
    have hc0:=hc c List.mem_cons_self
    have h:∀s,0<s→exN ((c::r).take s)=none:=fun s hs=>by
      obtain⟨t,rfl⟩:∃t,s=t+1:=⟨s-1,by lia⟩
      exact uO (c:=c) (by rw[List.take_succ_cons];exact List.mem_cons_self) hc0
    have hz:szL (c::r)=1:=by unfold szL;rw[h 3 (by decide),h 2 (by decide)];rfl
    rw[rdF,hz,h 1 (by decide),List.map_cons,←kC r f (Nat.le_of_succ_le_succ hf) fun d hd=>hc d (List.mem_cons_of_mem _ hd)];rfl
private theorem zGb:exN [46,46,46]=some 52∧exN [46,46]=none∧exN [46]=some 23:=by decide +kernel
private theorem zI1{L:List Nat}(hL:∀c∈L,c∈yK):∀(r f:Nat),r+L.length≤f→rdF f (List.replicate r 46++L)=List.replicate (r/3) 52++List.replicate (r%3) 23++L.map fun (c:Nat)=>(c:Int)+158
  | 0, f, h => by
    show rdF f L=[]++[]++_
    exact kC L f (by lia) hL
  | 1, f + 1, h => by
    obtain⟨e3,e2,e1⟩:=zGb
    show rdF (f+1) (46::L)=[23]++_
    have hf:L.length≤f:=by lia
    cases L with
    | nil =>
      have hz:szL [46]=3:=by show(bif (exN [46]).isSome then 3 else _)=3;rw[e1];rfl
      rw[rdF,hz]
      show(exN [46]).getD _::rdF f []=_
      rw[e1];cases f <;> rfl
    | cons c L =>
      have hc:=hL c List.mem_cons_self
      have hz:szL (46::c::L)=1:=by unfold szL;rw[uO (c:=c) (by simp) hc,uO (c:=c) (by simp) hc];rfl
      rw[rdF,hz,←kC (c::L) f hf hL]
      show(exN [46]).getD _::rdF f (c::L)=_
      rw[e1];rfl
  | 2, f + 1, h => by
    obtain⟨e3,e2,e1⟩:=zGb
    show rdF (f+1) (46::46::L)=[23]++([23]++_)
    have hf:1+L.length≤f:=by lia
    have hn:exN ((46::46::L).take 3)=none:=by
      cases L with
      | nil=>exact e2
      | cons c L=>exact uO (c:=c) (by simp) (hL c List.mem_cons_self)
    have hz:szL (46::46::L)=1:=by
      unfold szL;rw[hn]
      show(bif (exN [46,46]).isSome then 2 else 1)=1
      rw[e2];rfl
    have ih:=zI1 hL 1 f hf
    rw[rdF,hz]
    show(exN [46]).getD _::rdF f (List.replicate 1 46++L)=_
    rw[e1,ih];rfl
  | r + 3, f + 1, h => by
    obtain⟨e3,e2,e1⟩:=zGb
    show rdF (f+1) (46::46::46::(List.replicate r 46++L))=_
    have hz:szL (46::46::46::(List.replicate r 46++L))=3:=by show(bif (exN [46,46,46]).isSome then 3 else _)=3;rw[e3];rfl
    rw[rdF,hz]
    show(exN [46,46,46]).getD _::rdF f (List.replicate r 46++L)=_
    rw[e3,zI1 hL r f (by lia),Nat.add_div_right r (by decide),Nat.add_mod_right,List.replicate_succ];rfl
  | 1,0,h | 2,0,h | _+3,0,h=>by lia
noncomputable def dotL(d:Nat)(L:List Nat):List Nat:=List.replicate d 46++L
private theorem zNj{L:List Nat}(hL:∀c∈L,c∈yK)(d:Nat):zGa (sT (dotL d L))=zZ d L:=by
 rw[zH9]
 exact zI1 hL d _ (by show _≤(dotL d L).toArray.size;unfold dotL;simp)
private theorem zLa(d:Nat):zGa (repS "." d)=List.replicate (d/3) 52++List.replicate (d%3) 23:=by
 rw[rep_sT,zH9]
 have:=zI1 (L:=[]) (fun c hc=>nomatch hc) d (sT (List.replicate d 46)).length (by show _≤(List.replicate d 46).toArray.size;simp)
 simp only[List.append_nil,List.map_nil] at this
 exact this
private theorem zIh:∀c∈yK,98≤c∧c≤1000:=by decide
section
variable(S:List Nat)(c1 c2:Nat)
noncomputable def p1F(k:Nat):List Nat:=[yA (xF c1 k)]++List.replicate (xF c1 k%djN (jF S c1 k)) 46++[yA (xF c1 k/7)]++List.replicate (djN (jF S c1 k)-xF c1 k%djN (jF S c1 k)) 46++[QD (ltN (jF S c1 k)) (xF c1 k)]
noncomputable def p2F(k:Nat):List Nat:=(endF c2 k).cps.toList
noncomputable def p3F(k:Nat):List Nat:=dotL (djN (jF S c1 k)) [ltN (jF S c1 k)]
end
private theorem zBj:("\r\n":Str).cps.toList=[13,10]:=by decide
private theorem uZ(S:List Nat)(c1 c2:Nat):∀n,(xN S c1 c2 n).cps.toList=(List.range n).flatMap fun k=>p1F S c1 k++p2F c2 k
  | 0=>rfl
  | n + 1 => by
    rw[List.range_succ,List.flatMap_append,←uZ S c1 c2 n,List.flatMap_cons,List.flatMap_nil,List.append_nil]
    show(xN S c1 c2 n++rowB S c1 n++rowE S c1 c2 n).cps.toList=_
    unfold rowB rowE p1F p2F
    simp only[Str.cps_append,Array.toList_append,uK,List.append_assoc]
private theorem uY(S:List Nat)(c1:Nat):∀n,(yZ S c1 n).cps.toList=(List.range n).flatMap fun k=>p3F S c1 k++[13,10]
  | 0=>rfl
  | n + 1 => by
    rw[List.range_succ,List.flatMap_append,←uY S c1 n,List.flatMap_cons,List.flatMap_nil,List.append_nil]
    show(yZ S c1 n++rowT S c1 n).cps.toList=_
    unfold rowT p3F dotL
    simp only[Str.cps_append,Array.toList_append,uK,zBj,List.append_assoc]
private theorem zOr{S:List Nat}{c1:Nat}(h0:0<S.length)(hj:∀j∈S,j<8)(k:Nat):zOf (p1F S c1 k)∧p1F S c1 k≠[]∧quo (p1F S c1 k)=p1F S c1 k∧wE (p1F S c1 k)=p3F S c1 k:=by
 have hw:=zJl c1 k h0 hj
 obtain⟨g1,_⟩:=vZ _ hw
 obtain⟨d1,_⟩:=zHy _ hw
 have hm:xF c1 k%djN (jF S c1 k)<djN (jF S c1 k):=Nat.mod_lt _ d1
 unfold p1F p3F
 generalize jF S c1 k=j at *
 generalize xF c1 k=x at *
 obtain⟨a1,a2,a3⟩:=zCq x
 obtain⟨b1,b2,b3⟩:=zCq (x/7)
 obtain⟨t1,t2,t3⟩:=zEj _ g1 (x%12) (Nat.mod_lt _ (by decide))
 have tp:=kI _ g1 (x%12) (Nat.mod_lt _ (by decide))
 rw[←zFn] at t1 t2 t3 tp
 refine⟨fun c hc=>?_,by simp,?_,?_⟩
 ·simp only[List.mem_append,List.mem_singleton] at hc
  rcases hc with(((hc|hc)|hc)|hc)|hc
  ·subst hc;exact⟨a1,a2⟩
  ·rw[List.eq_of_mem_replicate hc];decide
  ·subst hc;exact⟨b1,b2⟩
  ·rw[List.eq_of_mem_replicate hc];decide
  ·subst hc;exact⟨t1,t2⟩
 ·unfold quo
  rw[if_neg (by simpa using a3)];rfl
 ·rw[zX,zX,zX,zX,zI3 (jJ _),zI3 (jJ _),uL,uL,qS tp.1.1 tp.2]
  unfold dotL
  rw[List.nil_append,List.append_nil,List.replicate_append_replicate,show ∀a b:Nat,a<b→a+(b-a)=b from fun a b h=>by lia]
  exact hm
noncomputable def zDm(s:Nat):List Nat:=[13,s,46,10,46]
noncomputable def zGu(s:Nat):List Nat:=[13,10,s,46,13,10,46,46]
private theorem zD2(k:Nat):wE (zGu (zF k))=zGu (zF k):=zK1 _ (wM k).1.1 (wM k).2
private theorem zAz(k:Nat):xE true (yF (zDm (zF k)))=zGu (zF k):=by
 obtain⟨a,b,c⟩:=zGr k
 exact zIn _ a b c
private theorem zJ3{S:List Nat}{c1 c2:Nat}(h0:0<S.length)(hj:∀j∈S,j<8)(s:Nat)(n:Nat) :
  wE (xE true (yF ((List.range n).flatMap (fun k=>p1F S c1 k++p2F c2 k)++zDm (zF s))))=(List.range n).flatMap (fun k=>p3F S c1 k++[13,10])++zGu (zF s):=by
 have hq:=jV ((List.range n).map fun k=>(p1F S c1 k,p2F c2 k)) (zDm (zF s)) (fun p hp=>by
  obtain⟨k,_,rfl⟩:=List.mem_map.mp hp
  obtain⟨a,b,_⟩:=zOr (c1:=c1) h0 hj k
  exact⟨a,b,jW (k+c2)⟩) (by unfold zDm;simp)
 rw[List.flatMap_map,List.flatMap_map,zAz] at hq
 rw[hq,zX,zD2]
 congr 1
 refine kW _ _ _ fun k _=>?_
 obtain⟨_,_,c,d⟩:=zOr (c1:=c1) h0 hj k
 show wE (quo (p1F S c1 k)++[13,10])=_
 rw[c,zX,d,zBd]
end Wk
namespace Wk
noncomputable def vC(s:Nat):Str:="\r" ++ ⟨#[zF s]⟩ ++ ".\n."
noncomputable def endS(s:Nat):Str:="\r\n" ++ ⟨#[zF s]⟩ ++ ".\r\n.."
private theorem uM(s:Nat):(vC s).cps.toList=zDm (zF s):=by
 unfold vC zDm
 simp only[Str.cps_append,Array.toList_append];rfl
private theorem jS(s:Nat):(endS s).cps.toList=zGu (zF s):=by
 unfold endS zGu
 simp only[Str.cps_append,Array.toList_append];rfl
private theorem zFh(s:Nat):(vC s).length=5:=by
 show(vC s).cps.size=5
 rw[←Array.length_toList,uM];rfl
private theorem zDp(s:Nat):(endS s).length=8:=by
 show(endS s).cps.size=8
 rw[←Array.length_toList,jS];rfl
noncomputable def nmC(c2:Nat)(e:Ent):Nat:=sgF c2 e.2.1 e.2.2.1 e.2.2.2
section
variable(c2 t:Nat)(M:List Ent)
noncomputable def sndR(n:Nat)(e:Ent):Str:=repS "." e.1++⟨#[nmC c2 e]⟩++endL.getD ((n+t+c2)%3) ""
noncomputable def sndT:Nat→Str
 | 0=>""
 | j+1=>sndT j++sndR c2 t (sndT j).length (M.getD j nilE)
noncomputable def sndQ(e:Ent):Str:=repS "." (e.1+1)++⟨#[nmC c2 e]⟩ ++ "\r\n"
noncomputable def sndO:Nat→Str
 | 0=>""
 | j+1=>sndO j++sndQ c2 (M.getD j nilE)
end
private theorem zJf:∀j,j<7→(vN (kK.getD j 0).toNat=sT [ltN j,ltN (j+1)]∧(lowC (kK.getD j 0).toNat).length≤100)∧inB1 (((kK.getD j 0).toNat:Nat):Int)=false∧(kK.getD j 0).toNat≠10∧(kK.getD j 0).toNat≠13:=by decide +kernel
structure SgOk(c2:Nat)(e:Ent):Prop where
 pr:wE [nmC c2 e]=zY e
 ok:okC (nmC c2 e)=true
 n10:nmC c2 e≠10
 n13:nmC c2 e≠13
 d0:0<e.1
 d1:e.1≤40
private theorem zD9{e:Ent}(h:kP e=true)(c2:Nat):SgOk c2 e:=by
  obtain⟨d,b,j,k⟩:=e
  unfold kP at h
  simp only[Bool.and_eq_true,decide_eq_true_eq] at h
  obtain⟨⟨h1,h2⟩,h3⟩:=h
  cases b with
  | true =>
    obtain⟨⟨a,b⟩,c,d',e'⟩:=zJf j h3
    have hn:nmC c2 (d,true,j,k)=(kK.getD j 0).toNat:=rfl
    have hl:zY (d,true,j,k)=[ltN j,ltN (j+1)]:=rfl
    exact⟨by rw[hn,hl,qS a c];rfl,by rw[hn];exact zHs a b (show 2≤100 by decide),by rw[hn];exact d',by rw[hn];exact e',h1,h2⟩
  | false =>
    have hj:j<8:=h3
    obtain⟨g1,_⟩:=vZ _ hj
    have hn:nmC c2 (d,false,j,k)=QG (ltN j) ((c2+5*k)%12):=rfl
    have hl:zY (d,false,j,k)=[ltN j]:=rfl
    have ha:(c2+5*k)%12<12:=Nat.mod_lt _ (by decide)
    obtain⟨⟨a,b⟩,c⟩:=kI _ g1 _ ha
    obtain⟨t1,t2,_⟩:=zEj _ g1 _ ha
    exact⟨by rw[hn,hl,qS a c],by rw[hn];exact zHs a b (show 1≤100 by decide),by rw[hn];exact t1,by rw[hn];exact t2,h1,h2⟩
private theorem zL7{c2 t:Nat}{M:List Ent}(hM:∀e∈M,kP e=true):∀j,j≤M.length→(sndT c2 t M j).length≤43*j∧(sndO c2 M j).length≤44*j
  | 0,_=>⟨Nat.le_refl 0,Nat.le_refl 0⟩
  | j + 1, h => by
    obtain⟨a,b⟩:=zL7 (c2:=c2) (t:=t) hM j (Nat.le_of_succ_le h)
    have hg:=(zD9 (hM (M.getD j nilE) (by rw[List.getD_eq_getElem?_getD,List.getElem?_eq_getElem h];exact List.getElem_mem h)) c2).d1
    have l1:(".":Str).length=1:=by decide
    have l2:("\r\n":Str).length=2:=by decide
    have he:=zA2 ((sndT c2 t M j).length+t+c2)
    show(sndT c2 t M j++sndR c2 t (sndT c2 t M j).length (M.getD j nilE)).length≤_∧(sndO c2 M j++sndQ c2 (M.getD j nilE)).length≤_
    unfold sndR sndQ
    simp only[Str.length_append,zG,l1,l2,xP]
    lia
noncomputable def q1F(c2:Nat)(e:Ent):List Nat:=List.replicate e.1 46++[nmC c2 e]
noncomputable def q3F(c2:Nat)(e:Ent):List Nat:=List.replicate (e.1+1) 46++[nmC c2 e]
private theorem zF3(c2 t:Nat)(M:List Ent):∀n,(sndT c2 t M n).cps.toList=(List.range n).flatMap fun j=>q1F c2 (M.getD j nilE)++(endL.getD (((sndT c2 t M j).length+t+c2)%3) "").cps.toList
  | 0=>rfl
  | n + 1 => by
    rw[List.range_succ,List.flatMap_append,←zF3 c2 t M n,List.flatMap_cons,List.flatMap_nil,List.append_nil]
    show(sndT c2 t M n++sndR c2 t (sndT c2 t M n).length (M.getD n nilE)).cps.toList=_
    unfold sndR q1F
    simp only[Str.cps_append,Array.toList_append,uK,List.append_assoc]
private theorem zFf(c2:Nat)(M:List Ent):∀n,(sndO c2 M n).cps.toList=(List.range n).flatMap fun j=>q3F c2 (M.getD j nilE)++[13,10]
  | 0=>rfl
  | n + 1 => by
    rw[List.range_succ,List.flatMap_append,←zFf c2 M n,List.flatMap_cons,List.flatMap_nil,List.append_nil]
    show(sndO c2 M n++sndQ c2 (M.getD n nilE)).cps.toList=_
    unfold sndQ q3F
    simp only[Str.cps_append,Array.toList_append,uK,zBj,List.append_assoc]
private theorem send_is{c2 t:Nat}{M:List Ent}(hM:∀e∈M,kP e=true):wG (sndT c2 t M M.length++vC c2)=sndO c2 M M.length++endS c2:=by
 apply Str.ext'
 apply Array.toList_inj.mp
 rw[show(wG (sndT c2 t M M.length++vC c2)).cps.toList=xE true (yF (sndT c2 t M M.length++vC c2).cps.toList) from rfl,Str.cps_append,Str.cps_append,Array.toList_append,Array.toList_append,zF3,uM,zFf,jS]
 have hg:∀j,j<M.length→SgOk c2 (M.getD j nilE):=fun j hj=>zD9 (hM _ (by rw[List.getD_eq_getElem?_getD,List.getElem?_eq_getElem hj];exact List.getElem_mem hj)) c2
 have hq:=jV ((List.range M.length).map fun j=>(q1F c2 (M.getD j nilE),(endL.getD (((sndT c2 t M j).length+t+c2)%3) "").cps.toList)) (zDm (zF c2)) (fun p hp=>by
  obtain⟨j,hj,rfl⟩:=List.mem_map.mp hp
  have g:=hg j (List.mem_range.mp hj)
  refine⟨fun c hc=>?_,by unfold q1F;simp,jW _⟩
  unfold q1F at hc
  rw[List.mem_append,List.mem_singleton] at hc
  rcases hc with hc|hc
  ·rw[List.eq_of_mem_replicate hc];decide
  ·rw[hc];exact⟨g.n10,g.n13⟩) (by unfold zDm;simp)
 rw[List.flatMap_map,List.flatMap_map,zAz] at hq
 rw[hq]
 congr 1
 rw[List.flatMap_def,List.flatMap_def]
 congr 1
 refine List.map_congr_left fun j hj=>?_
 have g:=hg j (List.mem_range.mp hj)
 show quo (q1F c2 (M.getD j nilE))++[13,10]=_
 have:quo (q1F c2 (M.getD j nilE))=q3F c2 (M.getD j nilE):=by
  obtain⟨d,hd⟩:∃d,(M.getD j nilE).1=d+1:=⟨(M.getD j nilE).1-1,by have:=g.d0;lia⟩
  unfold quo q1F q3F
  rw[hd,List.replicate_succ,if_pos (by rfl)];rfl
 rw[this]
noncomputable def pgE(c2:Nat)(M:List Ent):List Nat:=M.flatMap fun e=>q1F c2 e++[13,10]
private theorem zMq{c2:Nat}{M:List Ent}(hM:∀e∈M,kP e=true):wE (pgE c2 M)=M.flatMap (fun e=>dotL e.1 (zY e)++[13,10]):=by
 refine kW _ _ _ fun e he=>?_
 have g:=zD9 (hM e he) c2
 unfold q1F dotL
 rw[zX,zX,uL,g.pr,zBd]
end Wk
end
section
open PySem PySem.W PyProof.Rows Mine Wk
set_option maxRecDepth 100000
set_option maxHeartbeats 400000
set_option linter.unusedVariables false
namespace Wk
variable{prog:Program}{w:World}{W:Wd}
noncomputable def chF(m:Nat)(d:PyData):List PyData:=match d with | .int k=>bif Builtin.bitAnd ((m:Int).fdiv (2^k.toNat)) 1 != 0 then [.int k] else [] | _=>[]
private theorem zKp(m:Nat):(zK 0 (8:Int).toNat).flatMap (chF m)=xX (zM m):=by
  show(zK 0 8).flatMap (chF m)=_
  unfold zK xX zA zM
  rw[List.map_map,List.flatMap_map]
  generalize List.range 8=L
  induction L with
  | nil=>rfl
  | cons a L ih =>
    rw[List.flatMap_cons,List.filter_cons,ih]
    show(bif Builtin.bitAnd ((m:Int).fdiv (2^((0:Int)+(a:Int)).toNat)) 1 != 0 then [PyData.int ((0:Int)+(a:Int))] else [])++_=_
    rw[Int.zero_add,Int.toNat_natCast]
    cases Builtin.bitAnd ((m:Int).fdiv (2^a)) 1 != 0 <;> rfl
private theorem qY(m:Nat):(zM m).length≤8:=Nat.le_trans (List.length_filter_le _ _) (Nat.le_of_eq List.length_range)
private theorem zDe(m:Nat):∀j∈zM m,j<8:=fun j hj=>List.mem_range.mp (List.mem_filter.mp hj).1
private theorem zQ6(s:Nat):kM (vC s):=by
 obtain⟨a,b,c⟩:=wH
 intro d hd
 rw[uM] at hd
 unfold zDm at hd
 simp only[List.mem_cons,List.not_mem_nil,or_false] at hd
 rcases hd with hd|hd|hd|hd|hd <;> subst hd
 ·exact b
 ·exact zG5 s
 ·exact a
 ·exact c
 ·exact a
private theorem zPm{e:List Nat}(h:End3 e):∀c∈e,okC c=true:=fun c hc=>by
 obtain⟨a,b,d⟩:=wH
 rcases h with h|h|h <;> subst h <;> simp only[List.mem_cons,List.not_mem_nil,or_false] at hc
 ·subst hc;exact d
 ·subst hc;exact b
 ·rcases hc with hc|hc <;> subst hc
  ·exact b
  ·exact d
private theorem zO8{S:List Nat}(c1 c2:Nat)(h0:0<S.length)(hj:∀j∈S,j<8)(n:Nat):kM (xN S c1 c2 n):=by
 intro c hc
 rw[uZ] at hc
 obtain⟨k,_,hk⟩:=List.mem_flatMap.mp hc
 rw[List.mem_append] at hk
 rcases hk with hk|hk
 ·unfold p1F at hk
  simp only[List.mem_append,List.mem_singleton] at hk
  rcases hk with(((hk|hk)|hk)|hk)|hk
  ·subst hk;exact zC6 _
  ·rw[List.eq_of_mem_replicate hk];exact wH.1
  ·subst hk;exact zC6 _
  ·rw[List.eq_of_mem_replicate hk];exact wH.1
  ·subst hk;exact zLf (vZ _ (zJl c1 k h0 hj)).1 _
 ·exact zPm (jW (k+c2)) c hk
private theorem zIx{S:List Nat}(c1 c2:Nat)(h0:0<S.length)(hj:∀j∈S,j<8)(n:Nat):QX (wG (xN S c1 c2 n++vC c2))=yZ S c1 n++endS c2:=by
 apply Str.ext'
 apply Array.toList_inj.mp
 rw[zKg,show(wG (xN S c1 c2 n++vC c2)).cps.toList=xE true (yF (xN S c1 c2 n++vC c2).cps.toList) from rfl,Str.cps_append,Str.cps_append,Array.toList_append,Array.toList_append,uZ,uM,uY,jS]
 exact zJ3 h0 hj c2 n
noncomputable def lawR(C0:List Int)(S:List Nat)(s:Nat)(r:Rho):Rho:=(("cells":Str),Slot.v (.list (zA C0)))::(("chosen":Str),.v (.list (xX S)))::(("tail":Str),.v (.str (vC s)))::(("end":Str),.v (.str (endS s)))::r
private theorem zKu:PyData.eqv (.list [.bool true,.bool true,.bool true]) (.list [.bool true,.bool true,.bool true])=true:=by decide +kernel
private theorem zPz(G:Gl prog w W){C0:List Int}{c0 c1 c2 k:Nat}(hC:C0.length=3)(h0:C0.getD 0 0=(c0:Nat))(h1:C0.getD 1 0=(c1:Nat))(h2:C0.getD 2 0=(c2:Nat))(b0:0<c0)(b1:0<c1)(b2:0<c2) :
  Sx prog w W (k+270) vB [("cells",.v (.list (zA C0)))] (((sBody zV).drop 1).take 7) (.next (lawR C0 (zM (c0%255+1)) c2 [("page",.v (.str (yZ (zM (c0%255+1)) c1 (zM (c0%255+1)).length++endS c2)))])):=by
 have h24:sizeLine=16777216:=by decide
 have g:∀{K:List (Str×NameKind)} {ρ:Rho} {p p' pos:Pos} {k:Nat} (j:Nat),j<3→ρ.lookup ("cells":Str)=some (.v (.list (zA C0)))→Ev prog w W k K ρ (.Subscript (.Name "cells" p) (.Constant (.int (j:Nat)) 0 p') pos) (.int (C0.getD j 0)):=fun j hj hρ =>
  Ev.itemX (.list (zA C0)) (.int j) (Ev.name hρ) Ev.cint (yR rfl (by lia) (by lia))
 have hn:c0%255<255:=Nat.mod_lt _ (by decide)
 have hS0:0<(zM (c0%255+1)).length:=by
  have:=zK8 _ hn
  unfold zQ9 at this
  simp only[Bool.and_eq_true,Bool.not_eq_true',List.isEmpty_eq_false_iff] at this
  exact List.length_pos_iff.mpr this.1.1
 have em:(c0:Int).fmod 255+1=((c0%255+1:Nat):Int):=by rw[show(c0:Int).fmod 255=((c0%255:Nat):Int) from zP c0 255];rfl
 have hS8:=qY (c0%255+1)
 have hSj:=zDe (c0%255+1)
 refine Sx.cons (Ex.conv (Ex.setC (ds:=zK 0 (8:Int).toNat) (outs:=(zK 0 (8:Int).toNat).flatMap (chF (c0%255+1))) [("cells",.v (.list (zA C0)))] rfl (Itr.range1 rfl G.b_range.1 G.b_range.2 Ev.cint (by decide) (by decide)) ⟨by decide,rfl,by decide,by decide⟩ (Caps.cons rfl rfl Caps.nil) (CL.of (chF (c0%255+1)) rfl (zT zJ) ?_) ?_) (by rw[zKp])) ?_
 ·intro i d hd
  have hi:i<8:=(List.getElem?_eq_some_iff.mp hd).1
  have hd':=zQ hd
  rw[Int.zero_add] at hd'
  subst hd'
  refine⟨_,Builtin.bitAnd (((c0%255+1:Nat):Int).fdiv (2^i)) 1 != 0,Tgt.local rfl,Ifs.one (Tr.val (Ev.binX (.int (((c0%255+1:Nat):Int).fdiv (2^i))) (.int 1) (Ev.convX _ (Ev.binX (.int (c0%255+1:Nat)) (.int (i:Nat)) (Ev.convX _ (Ev.binX (.int ((c0:Int).fmod 255)) (.int 1) (Ev.binX (.int c0) (.int 255) (Ev.convX _ (g 0 (by decide) (by kernel_rfl)) (by rw[h0])) Ev.cint (yM (by decide))) Ev.cint zH) (by rw[em])) (Ev.name (by kernel_rfl)) (jD (by lia))) (by rw[Int.toNat_natCast])) Ev.cint zLw) qG),Sub.cons (by kernel_rfl) Sub.nil,fun hb=>?_,fun hb=>?_⟩
  ·have e:chF (c0%255+1) (.int (i:Nat))=[.int (i:Nat)]:=by
    show(bif Builtin.bitAnd (((c0%255+1:Nat):Int).fdiv (2^((i:Nat):Int).toNat)) 1 != 0 then [PyData.int ((i:Nat):Int)] else [])=_
    rw[Int.toNat_natCast,hb];rfl
   rw[e]
   exact Emit.last rfl (yN (zT zJ)) (Ev.name (by kernel_rfl))
  ·show(bif Builtin.bitAnd (((c0%255+1:Nat):Int).fdiv (2^((i:Nat):Int).toNat)) 1 != 0 then [PyData.int ((i:Nat):Int)] else [])=_
   rw[Int.toNat_natCast,hb];rfl
 ·rw[zKp];unfold xX zA;rw[List.length_map,List.length_map];lia
 generalize zM (c0%255+1)=S at *
 have hfl:=jG c1 c2 hS0 hSj S.length
 have hok:=zO8 c1 c2 hS0 hSj S.length
 have hpg:=zIx c1 c2 hS0 hSj S.length
 have htl:=zFh c2
 have hel:=zDp c2
 have hft:=zM6 (prog:=prog) (w:=w) G C0 S c1 c2 hC h1 h2 hS0 hS8 hSj
 have e1:("\r":Str)++⟨#[zF c2]⟩ ++ ".\n."=vC c2:=rfl
 have e2:("\r\n":Str)++⟨#[zF c2]⟩ ++ ".\r\n.."=endS c2:=rfl
 have htk:=zQ6 c2
 generalize xN S c1 c2 S.length=T at *
 generalize yZ S c1 S.length=O at *
 refine Sx.cons (Ex.setT (ds:=[]) (x:=.tuple [.str T,.str O]) (Ev.fnX [.list (zA C0),.list (xX S)] rfl (Evs.two (Ev.name (by kernel_rfl)) (Ev.name (by kernel_rfl))) (hft.mono (by lia))) (Tgt.tuple zW (Tgts.cons (Tgt.local rfl) (Tgts.cons (Tgt.local rfl) Tgts.nil)))) ?_
 refine Sx.cons (Ex.setX (.str ⟨#[zF c2]⟩) (Ev.fnX [.int c2] rfl (Evs.one (Ev.convX _ (g 2 (by decide) (by kernel_rfl)) (by rw[h2]))) ((zFq G c2).mono (by lia))) (.inl rfl)) ?_
 refine Sx.cons (Ex.swap (ds:=[.str (vC c2),.str (endS c2)]) rfl (Ev.tuple (Evs.two (Ev.convX _ (Ev.cat ("\r" ++ ⟨#[zF c2]⟩) ".\n." (Ev.cat "\r" ⟨#[zF c2]⟩ (Ev.conv Ev.cstr rfl) (Ev.name (by kernel_rfl)) (Nat.le_of_ble_eq_true rfl)) (Ev.conv Ev.cstr rfl) (Nat.le_of_ble_eq_true rfl)) (by rw[e1])) (Ev.convX _ (Ev.cat ("\r\n" ++ ⟨#[zF c2]⟩) ".\r\n.." (Ev.cat "\r\n" ⟨#[zF c2]⟩ (Ev.conv Ev.cstr rfl) (Ev.name (by kernel_rfl)) (Nat.le_of_ble_eq_true rfl)) (Ev.conv Ev.cstr rfl) (Nat.le_of_ble_eq_true rfl)) (by rw[e2]))) (Nat.le_of_ble_eq_true rfl)) (StoN.cons (.inl rfl) (StoN.cons (.inl rfl) StoN.nil))) ?_
 have hq:(wG (T++vC c2)).length≤100000:=by
  have h3:=zEb (zJ4 (T++vC c2))
  have h4:=QQ (T++vC c2)
  rw[Str.length_append] at h4
  unfold wG
  lia
 generalize vC c2=tl at *
 generalize endS c2=en at *
 refine Sx.cons (Ex.setX (.str (O++en)) (Ev.convX (.str (QX (wG (T++tl)))) (Ev.fnX [.str (wG (T++tl))] rfl (Evs.one (Ev.fnX [.str (T++tl)] rfl (Evs.one (Ev.cat T tl (Ev.name (by kernel_rfl)) (Ev.name (by kernel_rfl)) (by lia))) ((zAa G (by rw[Str.length_append];lia)).mono (by lia)))) ((jO G _ hq (hok.append htk).quote).mono (by lia))) (by rw[hpg])) (.inl rfl)) ?_
 have ed:(c2:Int).fdiv 3=((c2/3:Nat):Int):=yJ c2 3
 refine Sx.ifskipX _ ?_ (Tr.or (Tr.cmpX (k:=k+260) (.str (O++en)) (.str (O++en)) (Ev.name (by kernel_rfl)) (Ev.cat O en (Ev.name (by kernel_rfl)) (Ev.name (by kernel_rfl)) (by lia)) zK7) fun _=>Tr.or (Tr.not (Tr.val (Ev.fnX [.int (c2/3:Nat)] rfl (Evs.one (Ev.convX _ (Ev.binX (.int c2) (.int 3) (Ev.convX _ (g 2 (by decide) (by kernel_rfl)) (by rw[h2])) Ev.cint (vH (by decide) (PyProof.noPylong_of_log2 (by decide +kernel)))) (by rw[ed]))) ((zN9 G (c2/3)).mono (by lia))) wL)) fun _=>Tr.or_nil) ?_
 ·simp
 obtain⟨a,b,c,rfl⟩:=len3 hC
 have ha:a=c0:=h0
 have hb:b=c1:=h1
 have hc:c=c2:=h2
 refine Sx.ifskipX _ ?_ (Tr.cmpX (k:=k+260) (.list [.bool true,.bool true,.bool true]) (.list [.bool true,.bool true,.bool true]) (EvN.ev (EvN.conv (EvN.comp (ds:=zA [a,b,c]) [] (Itr.list (Ev.name (by kernel_rfl))) ⟨by decide,rfl,by decide,by decide⟩ Caps.nil (CL.of (fun _=>[.bool true]) rfl zJ ?_) (Nat.le_of_ble_eq_true rfl)) rfl)) (Ev.list (Evs.cons Ev.cbool (Evs.cons Ev.cbool (Evs.cons Ev.cbool Evs.nil))) (Nat.le_of_ble_eq_true rfl)) (jK rfl rfl)) ?_
 ·rw[zKu];rfl
 ·intro i d hd
  obtain⟨x,hx,rfl⟩:∃x,0<x∧d=.int x:=by
   have hm:=List.mem_of_getElem? hd
   unfold zA at hm
   obtain⟨x,hx,rfl⟩:=List.mem_map.mp hm
   simp only[List.mem_cons,List.not_mem_nil,or_false] at hx
   refine⟨x,?_,rfl⟩
   rcases hx with hx|hx|hx <;> rw[hx]
   ·rw[ha];exact Int.natCast_pos.mpr b0
   ·rw[hb];exact Int.natCast_pos.mpr b1
   ·rw[hc];exact Int.natCast_pos.mpr b2
  refine⟨_,true,Tgt.local rfl,Ifs.nil,Sub.nil,fun hb=>?_,fun hb=>nomatch hb⟩
  exact Emit.last rfl (yN zJ) (Ev.fnX [.int x] rfl (Evs.one (Ev.name (by kernel_rfl))) ((zJy G x hx).mono (by lia)))
 refine Sx.weakR Sx.nil (Sub.cons ?_ (Sub.cons ?_ (Sub.cons ?_ (Sub.cons ?_ (Sub.cons ?_ Sub.nil)))))
 all_goals (kernel_rfl)
end Wk
namespace Wk
variable{prog:Program}{w:World}{W:Wd}
noncomputable abbrev Row:=Nat×List Nat
noncomputable def rowD(x:Row):PyData:=.tuple [.int (x.1:Nat),.int (x.1%3:Nat),.str (sT x.2)]
noncomputable def uP(x:Row):Str:=sT (dotL x.1 x.2)
noncomputable def rowF(d:PyData):List PyData:=match d with | .str x=>[rowD ((x.cps.toList.takeWhile (· == 46)).length,x.cps.toList.dropWhile (· == 46))] | _=>[]
structure RowOkL(x:Row):Prop where
 m:∀c∈x.2,c∈yK
 s:zLi x.2
 d:x.1≤80
private theorem zFb:∀c∈yK,(c==46)=false∧c≠13:=by decide
private theorem zLk{L:List Nat}(hL:∀c∈L,c∈yK):∀d,(dotL d L).takeWhile (· == 46)=List.replicate d 46∧(dotL d L).dropWhile (· == 46)=L
  | 0 => by
    show L.takeWhile _=[]∧L.dropWhile _=L
    cases L with
    | nil=>exact⟨rfl,rfl⟩
    | cons c r =>
      have h:=(zFb c (hL c List.mem_cons_self)).1
      rw[List.takeWhile_cons,List.dropWhile_cons,h];exact⟨rfl,rfl⟩
  | d + 1 => by
    obtain⟨a,b⟩:=zLk hL d
    show(46::dotL d L).takeWhile _=46::List.replicate d 46∧(46::dotL d L).dropWhile _=L
    rw[List.takeWhile_cons,List.dropWhile_cons,a,b];exact⟨rfl,rfl⟩
private theorem zGg{x:Row}(h:RowOkL x):rowF (.str (uP x))=[rowD x]:=by
 obtain⟨a,b⟩:=zLk h.m x.1
 show[rowD (((dotL x.1 x.2).takeWhile (· == 46)).length,(dotL x.1 x.2).dropWhile (· == 46))]=_
 rw[a,b,List.length_replicate]
private theorem zBb:∀{R:List Row},(∀x∈R,RowOkL x)→(yH (R.map uP)).flatMap rowF=R.map rowD
  | [],_=>rfl
  | x :: R, h => by
    rw[List.map_cons,show yH (uP x::R.map uP)=.str (uP x)::yH (R.map uP) from rfl,List.flatMap_cons,zBb fun y hy=>h y (List.mem_cons_of_mem _ hy),zGg (h x List.mem_cons_self)];rfl
private theorem zEh(x:Str)(n:Nat):uR (yH (Txt.split x "\r\n")) none (some (n:Int))=yH ((Txt.split x "\r\n").take n):=by
 unfold uR yH
 rw[List.map_take]
 simp only[Option.elim,List.drop_zero,Nat.sub_zero,List.length_map]
 rw[zA3,←List.length_map (f:=PyData.str) (as:=Txt.split x "\r\n"),←List.take_eq_take_min]
private theorem zEc{x:Str}{R:List Row}{z:List Nat}(hR:R≠[])(h:∀r∈R,RowOkL r)(hx:x.cps.toList=R.flatMap (fun r=>dotL r.1 r.2++[13,10])++z):(Txt.split x "\r\n").take R.length=R.map uP:=by
 have hs:=zIq x (R.map fun r=>dotL r.1 r.2) z (by rw[List.flatMap_map];exact hx) (by simpa using hR) (fun r hr c hc=>by
  obtain⟨y,hy,rfl⟩:=List.mem_map.mp hr
  unfold dotL at hc
  rw[List.mem_append] at hc
  rcases hc with hc|hc
  ·rw[List.eq_of_mem_replicate hc];decide
  ·exact(zFb c ((h y hy).m c hc)).2)
 rw[List.length_map,List.map_map] at hs
 exact hs
private theorem zHd{R:List Row}{i:Nat}{d:PyData}(h:(yH (R.map uP))[i]?=some d):∃x,x∈R∧d=.str (uP x):=by
 rw[yH,List.map_map,List.getElem?_map] at h
 cases e:R[i]? with
 | none=>rw[e] at h;cases h
 | some c=>rw[e] at h;cases h;exact⟨c,List.mem_of_getElem? e,rfl⟩
private theorem zHj(G:Gl prog w W){x:Row}(h:RowOkL x):FunG prog w W 52 "_law_row" [.str (uP x)] (rowD x):=by
 have hl:(uP x).length≤100:=by
  have h2:x.2.length≤2:=(kZ h.s).2.2
  have:=h.d
  show(dotL x.1 x.2).toArray.size≤100
  unfold dotL
  simp;lia
 exact zQ1 G hl (by have:=h.d;lia) (zNj h.m x.1) (fun c hc=>zIh c (h.m c hc)) h.s
private theorem zGe{ks:List Int}(h:perB ks=true):(ks.length<2∨zAi ks=some (perF ks))∧(ks.length<2→(perF ks).toList=List.range ks.length)∧(perF ks).toList.length=ks.length∧∀i∈(perF ks).toList,i<ks.length:=by
 unfold perB at h
 simp only[Bool.and_eq_true,Bool.or_eq_true,decide_eq_true_eq,beq_iff_eq,List.all_eq_true] at h
 obtain⟨⟨a,b⟩,c⟩:=h
 refine⟨?_,fun h2=>?_,b,c⟩
 ·rcases a with a|a
  ·exact .inl a
  ·by_cases h2:ks.length<2
   ·exact .inl h2
   ·right
    unfold perF
    rw[decide_eq_false h2,cond_false]
    obtain⟨p,hp⟩:=Option.isSome_iff_exists.mp a
    rw[hp];rfl
 ·unfold perF;rw[decide_eq_true h2,cond_true]
noncomputable def QZ(S:List Nat)(c1:Nat):List Row:=(List.range S.length).map fun k=>(djN (jF S c1 k),[ltN (jF S c1 k)])
private theorem zNn{S:List Nat}(c1:Nat)(h0:0<S.length)(hj:∀j∈S,j<8):∀x∈QZ S c1,RowOkL x:=fun x hx=>by
 obtain⟨k,_,rfl⟩:=List.mem_map.mp hx
 have hw:=zJl c1 k h0 hj
 exact⟨fun c hc=>by rw[List.mem_singleton.mp hc];exact(vZ _ hw).1,.inl ⟨_,rfl⟩,Nat.le_trans (zHy _ hw).2 (by decide)⟩
private theorem zJk{S:List Nat}(c1:Nat){i:Nat}(hi:i<S.length):((QZ S c1).map rowD)[i]?=some (rowJ (jF S c1 i)):=by
 unfold QZ
 rw[List.map_map,List.getElem?_map,List.getElem?_range hi];rfl
private theorem zFr{n c1:Nat}(hn:n<255)(hS0:0<(zM (n+1)).length){k:Nat} :
  Fun prog w W k (.builtin "sorted") [.list ((QZ (zM (n+1)) c1).map rowD)] (.list ((zM (n+1)).map rowJ)):=by
 have hS8:=qY (n+1)
 have hr:c1%(zM (n+1)).length<(zM (n+1)).length:=Nat.mod_lt _ hS0
 obtain⟨p,hro⟩:=rot_is hS8 (asc_ok n hn) hr
 have hj:∀i,jF (zM (n+1)) c1 i=(zM (n+1)).getD ((i+c1%(zM (n+1)).length)%(zM (n+1)).length) 0:=fun i=>by
  unfold jF;rw[Nat.add_mod_mod]
 have hkl:(vQ (zM (n+1)) (c1%(zM (n+1)).length)).length=(zM (n+1)).length:=by unfold vQ;rw[List.length_map,List.length_range]
 have hkg:∀i,i<(zM (n+1)).length→(vQ (zM (n+1)) (c1%(zM (n+1)).length)).getD i 0=(djN (jF (zM (n+1)) c1 i):Nat):=fun i hi=>by
  unfold vQ
  rw[List.getD_eq_getElem?_getD,List.getElem?_map,List.getElem?_range hi,hj];rfl
 have hrg:=fun i (hi:i<(zM (n+1)).length)=>zJk c1 hi
 have hrl:((QZ (zM (n+1)) c1).map rowD).length=(zM (n+1)).length:=by unfold QZ;rw[List.length_map,List.length_map,List.length_range]
 obtain⟨p1,p2,p3,p4,hs,hne⟩:=hro
 generalize vQ (zM (n+1)) (c1%(zM (n+1)).length)=ks at *
 generalize (QZ (zM (n+1)) c1).map rowD=ds at *
 have hf:=zLm (prog:=prog) (w:=w) (W:=W) (k:=k) (ds:=ds) (ks:=ks) (p:=p) (by rw[hrl];lia) (by rw[hkl,hrl]) (fun i hi=>by
  rw[hrl] at hi
  rw[hrg i hi,hkg i hi];exact⟨_,rfl⟩) (by rw[hkl];exact hne) (fun h2=>p1 (hrl▸h2)) (by rw[hrl];exact p2) (by rw[hrl];exact p3) (by rw[hrl];exact p4)
 refine Fun.conv hf ?_
 congr 1
 have e:p.toList.map (fun i=>ds.getD i .none)=(p.toList.map fun i=>(zM (n+1)).getD ((i+c1%(zM (n+1)).length)%(zM (n+1)).length) 0).map rowJ:=by
  rw[List.map_map]
  refine List.map_congr_left fun i hi=>?_
  rw[List.getD_eq_getElem?_getD,hrg i (p4 i hi),hj];rfl
 rw[e,hs]
end Wk
namespace Wk
variable{prog:Program}{w:World}{W:Wd}
private theorem zNh(L:List Int):PyData.eqv (.list (zA L)) (.list (zA L))=true:=by
  show PyData.eqvAll (zA L) (zA L)=true
  induction L with
  | nil=>rfl
  | cons a L ih =>
    show(PyData.eqv (.int a) (.int a)&&PyData.eqvAll (zA L) (zA L))=true
    rw[ih,Bool.and_true];simp[PyData.eqv]
private theorem qJ(L:List Int):SeqAt.shaped (.list (zA L))=true:=by
 unfold SeqAt.shaped zA
 simp only[PyData.canLay0,PyProof.Rows.canLayAll_ints,PyData.depth,PyProof.Rows.depthAll_ints]
 decide
private theorem zI2(ds:List PyData)(n:Nat):uR ds none (some (n:Int))=ds.take n:=by
 unfold uR
 simp only[Option.elim,List.drop_zero,Nat.sub_zero]
 rw[zA3,←List.take_eq_take_min]
private theorem jY(ds:List PyData)(n:Nat):uR ds (some (n:Int)) none=ds.drop n:=by
 unfold uR
 simp only[Option.elim]
 rw[zA3]
 rcases Nat.le_total n ds.length with h|h
 ·rw[Nat.min_eq_left h,List.take_of_length_le (by rw[List.length_drop];exact Nat.le_refl _)]
 ·rw[Nat.min_eq_right h,List.drop_of_length_le (Nat.le_refl _),List.drop_of_length_le h,List.take_nil]
private theorem zPs(n:Nat)(x:Int):(List.replicate n [PyData.int x]).flatten=zA (List.replicate n x):=by
 unfold zA
 induction n with
 | zero=>rfl
 | succ n ih=>rw[List.replicate_succ,List.flatten_cons,ih,List.replicate_succ];rfl
private theorem zM8(L:List PyData):(L.flatMap fun _=>([]:List PyData))=[]:=by induction L with
 | nil=>rfl
 | cons a L ih=>rw[List.flatMap_cons,ih];rfl
private theorem zNx{d i:Nat}(h:3*i≤d):3*((d/3-i:Nat):Int)+(d%3:Nat)=((d-3*i:Nat):Int):=by lia
noncomputable def dotP(d:Nat):List Int:=List.replicate (d/3) 52++List.replicate (d%3) 23
private theorem zNb(d:Nat):(dotP d).length=d/3+d%3:=by unfold dotP;rw[List.length_append,List.length_replicate,List.length_replicate]
private theorem zOw{d k:Nat}(h:3*k≤d):(dotP d).take k=List.replicate k 52∧((dotP d).drop k).count 52=d/3-k∧(dotP d).count 23=d%3∧∀p∈dotP d,p<256:=by
 have hk:k≤d/3:=by lia
 unfold dotP
 refine⟨?_,?_,?_,fun p hp=>?_⟩
 ·rw[List.take_append_of_le_length (by rw[List.length_replicate];exact hk),List.take_replicate,Nat.min_eq_left hk]
 ·rw[List.drop_append_of_le_length (by rw[List.length_replicate];exact hk),List.drop_replicate,List.count_append,List.count_replicate_self,List.count_replicate,if_neg (by decide),Nat.add_zero]
 ·rw[List.count_append,List.count_replicate_self,List.count_replicate,if_neg (by decide),Nat.zero_add]
 ·rw[List.mem_append] at hp
  rcases hp with hp|hp <;> rw[List.eq_of_mem_replicate hp] <;> decide
noncomputable def leD(c2:Nat)(e:Ent):PyData:=.tuple [.int (e.1:Nat),.str ⟨#[sgF c2 e.2.1 e.2.2.1 e.2.2.2]⟩]
private theorem zMe(G:Gl prog w W){C0:List Int}{n c1 c2 k:Nat}(hn:n<255)(hS0:0<(zM (n+1)).length) :
  Sx prog w W (k+270) vB (lawR C0 (zM (n+1)) c2 [("page",.v (.str (yZ (zM (n+1)) c1 (zM (n+1)).length++endS c2)))]) (((sBody zV).drop 8).take 1) (.next (lawR C0 (zM (n+1)) c2 [("page",.v (.str (yZ (zM (n+1)) c1 (zM (n+1)).length++endS c2))),("rows",.v (.list ((zM (n+1)).map rowJ)))])):=by
 have h24:sizeLine=16777216:=by decide
 have hso:=fun k=>zFr (prog:=prog) (w:=w) (W:=W) (c1:=c1) hn hS0 (k:=k)
 have hSj:=zDe (n+1)
 have hS8:=qY (n+1)
 generalize zM (n+1)=S at *
 have hRo:=zNn c1 hS0 hSj
 have hRl:(QZ S c1).length=S.length:=by unfold QZ;rw[List.length_map,List.length_range]
 have hpr:=zEc (x:=yZ S c1 S.length++endS c2) (R:=QZ S c1) (z:=zGu (zF c2)) (fun e=>by rw[e] at hRl;exact absurd hRl (Nat.ne_of_lt hS0)) hRo (by
  rw[Str.cps_append,Array.toList_append,uY,jS]
  unfold QZ
  rw[List.flatMap_map];rfl)
 rw[hRl] at hpr
 have hfl:=jG c1 c2 hS0 hSj S.length
 have hel:=zDp c2
 have hxl:(yZ S c1 S.length++endS c2).length≤200:=by rw[Str.length_append];lia
 have hSl:(xX S).length=S.length:=by unfold xX zA;rw[List.length_map,List.length_map]
 have hfr:=zBb hRo
 generalize yZ S c1 S.length++endS c2=x at *
 generalize QZ S c1=R at *
 have hsp:=QF x "\r\n"
 refine Sx.one (Ex.conv (Ex.setX (.list (S.map rowJ)) (Ev.buiX [.list (R.map rowD)] G.b_sorted rfl (Evs.one (EvN.ev (EvN.conv (EvN.comp (ds:=yH (R.map uP)) [] (Itr.list (Ev.convX _ (Ev.slicel (lo:=none) (hi:=some (S.length:Nat)) (ds:=yH (Txt.split x "\r\n")) ?_ Prt.none (Prt.some (Ev.convX _ (Ev.buiX [.list (xX S)] G.b_len rfl (Evs.one (Ev.name rfl)) (yX (by rw[hSl];lia))) (by rw[hSl]))) ?_) (by rw[zEh,hpr])))
   ⟨by decide,rfl,by decide,by decide⟩ Caps.nil (CL.of rowF rfl zJ ?_) ?_) hfr))) (hso _)) (.inl rfl)) rfl)
 ·exact Ev.meth1X (.str x) (.str "\r\n") (Ev.name rfl) (Ev.conv Ev.cstr rfl) (zF1 rfl (by lia) (by have:=vU x "\r\n";lia))
 ·unfold yH;rw[List.length_map];lia
 ·intro i d hd
  obtain⟨y,hy,rfl⟩:=zHd hd
  refine⟨_,true,Tgt.local rfl,Ifs.nil,Sub.nil,fun hb=>?_,fun hb=>nomatch hb⟩
  rw[zGg (hRo y hy)]
  exact Emit.last rfl (yN zJ) (Ev.fnX [.str (uP y)] rfl (Evs.one (Ev.name (by kernel_rfl))) ((zHj G (hRo y hy)).mono (by lia)))
 ·rw[hfr,List.length_map,hRl];lia
noncomputable def zDn(E:List Ent)(k:Nat):Ent:=((E.getD k nilE).1-3*k,(E.getD k nilE).2)
noncomputable def thR(C0:List Int)(S:List Nat)(c2:Nat)(E:List Ent)(k:Nat):Rho:=lawR C0 S c2 [("entries",.v (.list (E.map (entD c2)))),("left",.own (((List.range k).map (zDn E)).map (leD c2)))]
noncomputable def thBody:List Stmt:=sBody ((sBody zV).getD 10 default)
private theorem zL1(G:Gl prog w W){C0:List Int}{S:List Nat}{c2 n i:Nat}{E:List Ent}(hE:E.length≤4)(hi:i<E.length)(h3:3*i≤(E.getD i nilE).1)(hd:(E.getD i nilE).1≤21)(hj:((E.getD i nilE).1%3==0)=(E.getD i nilE).2.1) :
  ∃r,Sx prog w W (n+270) vB (lawR C0 S c2 [("entries",.v (.list (E.map (entD c2)))),("left",.own (((List.range i).map (zDn E)).map (leD c2))),("k",.v (.int (i:Nat)))]) thBody (.next (lawR C0 S c2 (("entries",.v (.list (E.map (entD c2))))::("left",.own (((List.range (i+1)).map (zDn E)).map (leD c2)))::r))):=by
 have h24:sizeLine=16777216:=by decide
 have l1:(".":Str).length=1:=by decide
 have hg:(E.map (entD c2))[i]?=some (entD c2 (E.getD i nilE)):=zCh (entD c2) nilE hi
 have hsucc:((List.range (i+1)).map (zDn E)).map (leD c2)=((List.range i).map (zDn E)).map (leD c2)++[leD c2 (zDn E i)]:=by
  rw[List.range_succ,List.map_append,List.map_append];rfl
 have hth:zDn E i=((E.getD i nilE).1-3*i,(E.getD i nilE).2):=rfl
 have hLl:(((List.range i).map (zDn E)).map (leD c2)).length≤4:=by rw[List.length_map,List.length_map,List.length_range];lia
 have hEl:(E.map (entD c2)).length≤4:=by rw[List.length_map];exact hE
 rw[hsucc,hth]
 generalize ((List.range i).map (zDn E)).map (leD c2)=Lo at *
 generalize E.map (entD c2)=Es at *
 generalize E.getD i nilE=e at *
 obtain⟨d,b,j,q⟩:=e
 have h3:3*i≤d:=h3
 have hd:d≤21:=hd
 have hj:(d%3==0)=b:=hj
 obtain⟨a1,a2,a3,a4⟩:=zOw h3
 have a5:=zNb d
 have hrd:zGa (repS "." d)=dotP d:=zLa d
 generalize dotP d=P at *
 have e0:∀{ρ:Rho} {p p' pos:Pos} {n:Nat},ρ.lookup ("entries":Str)=some (.v (.list Es))→ρ.lookup ("k":Str)=some (.v (.int (i:Nat)))→Ev prog w W n vB ρ (.Subscript (.Name "entries" p) (.Name "k" p') pos) (entD c2 (d,b,j,q)):=fun hρ hk =>
  Ev.itemX (.list Es) (.int (i:Nat)) (Ev.name hρ) (Ev.name hk) (jE hg (by lia))
 let R1:Rho:=lawR C0 S c2 [("entries",.v (.list Es)),("left",.own Lo),("k",.v (.int (i:Nat))),("pieces",.v (.list (zA P)))]
 refine⟨[("k",.v (.int (i:Nat))),("pieces",.v (.list (zA P)))],?_⟩
 refine Sx.consX R1 (Ex.conv (Ex.setX (.list (zA P)) (Ev.convX _ (Ev.fnX [.str (repS "." d)] rfl (Evs.one (Ev.binX (.str ".") (.int (d:Nat)) Ev.cstr (Ev.itemX (entD c2 (d,b,j,q)) (.int 0) (e0 rfl rfl) Ev.cint (uN (j:=0) (by decide) (by decide) rfl rfl)) (QO (by rw[l1];lia) (by lia)))) ((zI0 G _ (by rw[zG,l1];lia)).mono (by lia))) (by rw[hrd])) (.inl rfl)) rfl) ?_
 have hPl:(zA P).length≤30:=by unfold zA;rw[List.length_map];lia
 have ec:∀{p pos pos' pos2:Pos} {m n:Nat},(pos.endLine==pos'.line)=true→Ev prog w W n vB R1 (.Call (.Attribute (.Name "pieces" p) "count" pos) [.Constant (.int 23) m pos2] [] pos') (.int (d%3:Nat)):=fun {p pos pos' pos2 m n} hl =>
  Ev.convX _ (Ev.meth1X (.list (zA P)) (.int 23) (Ev.name rfl) Ev.cint wS (hline:=hl)) (by rw[a3])
 refine Sx.ifskipX _ ?_ (Tr.or (Tr.cmpX (k:=n+260) (.list (zA (List.replicate i 52))) (.list (zA (List.replicate i 52))) (Ev.convX _ (Ev.slicel (lo:=none) (hi:=some (i:Nat)) (ds:=zA P) (Ev.name rfl) Prt.none (Prt.some (Ev.name rfl)) (by lia)) (by rw[zI2,←a1];unfold zA;rw[List.map_take])) (Ev.convX _ (Ev.bin (Ev.list (ds:=[.int 52]) (Evs.cons Ev.cint Evs.nil) (Nat.le_of_ble_eq_true rfl)) (Ev.name rfl) (zJg (b:=(i:Nat)) (by lia) (by lia) (by rw[Int.toNat_natCast];show 1*i≤_;lia))) (by rw[Int.toNat_natCast,zPs])) (jK (qJ _) (qJ _))) fun _=>Tr.or (Tr.cmpX (k:=n+260) (.bool (((d%3:Nat):Int)==0)) (.bool b) (Ev.fnX [.int (d%3:Nat)] rfl (Evs.one (ec rfl)) ((zG4 G _).mono (by lia))) (Ev.itemX (entD c2 (d,b,j,q)) (.int 2) (e0 rfl rfl) Ev.cint (uN (j:=2) (by decide) (by decide) rfl rfl)) zA4) fun _=>Tr.or_nil) ?_
 ·have h1:=zNh (List.replicate i (52:Int))
  have h2:(((d%3:Nat):Int)==0)=b:=by rw[←hj,Bool.eq_iff_iff,beq_iff_eq,beq_iff_eq];lia
  show(!PyData.eqv (.list (zA _)) (.list (zA _))||_)=false
  rw[h1,h2];cases b <;> rfl
 refine Sx.ifskipX _ ?_ (Tr.cmpX (k:=n+260) (.list []) (.list []) (EvN.ev (EvN.conv (EvN.comp (ds:=zA P) [] (Itr.list (Ev.name rfl)) ⟨by decide,rfl,by decide,by decide⟩ Caps.nil (CL.of (fun _=>[]) rfl zJ ?_) ?_) (zM8 _))) (Ev.list Evs.nil (Nat.le_of_ble_eq_true rfl)) (jK rfl rfl)) ?_
 ·rfl
 ·intro i d hd
  obtain⟨x,hx,rfl⟩:∃x,x∈P∧d=.int x:=by
   rw[zA,List.getElem?_map] at hd
   cases e:P[i]? with
   | none=>rw[e] at hd;cases hd
   | some c=>rw[e] at hd;cases hd;exact⟨c,List.mem_of_getElem? e,rfl⟩
  refine⟨_,false,Tgt.local rfl,Ifs.one (Tr.convX _ (Tr.cmpX (k:=n+260) (.bool (decide (x<256))) (.bool true) (Ev.fnX [.int x] rfl (Evs.one (Ev.name (by kernel_rfl))) ((wW G _).mono (by lia))) Ev.cbool zA4) (by rw[decide_eq_true (a4 x hx)];rfl)),Sub.nil,fun hb=>(by cases hb),fun hb=>rfl⟩
 ·rw[zM8];exact Nat.zero_le _
 refine Sx.one (Ex.conv (Ex.append (ds:=Lo) (d:=leD c2 (d-3*i,b,j,q)) rfl (Ev.tuple (Evs.two (Ev.convX _ (Ev.binX (.int (3*((d/3-i:Nat):Int))) (.int (d%3:Nat)) (Ev.binX (.int 3) (.int (d/3-i:Nat)) Ev.cint (Ev.convX _ (Ev.meth1X (.list (zA (P.drop i))) (.int 52) (Ev.convX _ (Ev.slicel (lo:=some (i:Nat)) (hi:=none) (ds:=zA P) (Ev.name rfl) (Prt.some (Ev.name rfl)) Prt.none (by lia)) (by rw[jY];unfold zA;rw[List.map_drop])) Ev.cint wS) (by rw[a2])) (yO (.of_left (by decide)))) (ec rfl) zH) ?_) (Ev.itemX (entD c2 (d,b,j,q)) (.int 1) (e0 rfl rfl) Ev.cint (uN (j:=1) (by decide) (by decide) rfl rfl))) (Nat.le_of_ble_eq_true rfl)) (by lia)) rfl)
 rw[zNx h3]
end Wk
namespace Wk
variable{prog:Program}{w:World}{W:Wd}
private theorem jo_is{n:Nat}(hn:n<255):JoOk (zM (n+1)) (jN (zM (n+1))):=by
 have h:=jo_ok n hn
 unfold joB at h
 rw[Bool.and_eq_true,decide_eq_true_eq,List.all_eq_true] at h
 refine⟨fun i hi=>?_,h.2⟩
 have h1:=h.1 i (List.mem_range.mpr hi)
 simp only[Bool.and_eq_true,Bool.or_eq_true,decide_eq_true_eq,Bool.not_eq_true'] at h1
 obtain⟨⟨a,b⟩,c⟩:=h1
 refine⟨a,b,fun e=>?_⟩
 rcases c with c|c
 ·rw[e] at c;cases c
 ·exact c
structure EntOk(E:List Ent):Prop where
 pos:0<E.length
 le:E.length≤4
 at_:∀k,k<E.length→3*k≤(E.getD k nilE).1∧(E.getD k nilE).1≤21∧((E.getD k nilE).1%3==0)=(E.getD k nilE).2.1
private theorem zK4{n:Nat}(hn:n<255):EntOk (entF (n+1)):=by
 have h:=ent_ok n hn
 unfold entB at h
 simp only[Bool.and_eq_true,Bool.not_eq_true',decide_eq_true_eq,List.isEmpty_eq_false_iff,List.all_eq_true] at h
 obtain⟨⟨a,b⟩,c⟩:=h
 refine⟨List.length_pos_iff.mpr a,b,fun k hk=>?_⟩
 obtain⟨⟨⟨d,e⟩,f⟩,_⟩:=c k (List.mem_range.mpr hk)
 exact⟨d,e,eq_of_beq f⟩
private theorem zP4(G:Gl prog w W){C0:List Int}{n c2 k:Nat}{x:Str}(hC:C0.length=3)(h2:C0.getD 2 0=(c2:Nat))(hn:n<255) :
  Sx prog w W (k+270) vB (lawR C0 (zM (n+1)) c2 [("page",.v (.str x)),("rows",.v (.list ((zM (n+1)).map rowJ)))]) (((sBody zV).drop 9).take 2) (.next (lawR C0 (zM (n+1)) c2 [("left",.v (.list ((wF (entF (n+1))).map (leD c2))))])):=by
 have h24:sizeLine=16777216:=by decide
 have hjn:=zIw (prog:=prog) (w:=w) G hC h2 (qY (n+1)) (zDe (n+1)) (jo_is hn)
 have hE:=zK4 hn
 have ee:(joS (zM (n+1)) (jN (zM (n+1)))).2=entF (n+1):=rfl
 rw[ee] at hjn
 generalize entF (n+1)=E at *
 generalize zM (n+1)=S at *
 have hEl:(E.map (entD c2)).length=E.length:=by rw[List.length_map]
 have h4:=hE.le
 refine Sx.consX (thR C0 S c2 E 0) (Ex.weakR (Ex.swapO (sls:=[.v (.list (E.map (entD c2))),.own []]) rfl (EvsO.v (Ev.fnX [.list (S.map rowJ),.list (zA C0)] rfl (Evs.two (Ev.name rfl) (Ev.name rfl)) (hjn.mono (by lia))) (EvsO.own (EvN.list Evs.nil (Nat.le_of_ble_eq_true rfl)) EvsO.nil)) (StoO.own rfl (zT (zT (zT (zT (zT (zT zJ)))))) (StoO.v rfl StoO.nil)) (hsz:=Nat.le_of_ble_eq_true rfl)) (Sub.all (by kernel_rfl))) ?_
 refine Sx.consX (thR C0 S c2 E E.length) (Ex.conv (Ex.loop (ds:=zK 0 ((E.length:Nat):Int).toNat) (fun k=>thR C0 S c2 E k) (Sub.all (by kernel_rfl)) (Itr.range1 rfl G.b_range.1 G.b_range.2 (Ev.convX _ (Ev.buiX [.list (E.map (entD c2))] G.b_len rfl (Evs.one (Ev.name rfl)) (yX (by rw[hEl];lia))) (by rw[hEl])) (by lia) (by lia)) ?_) (by rw[zD,Int.toNat_natCast])) ?_
 ·intro i d hd
  have hi:i<E.length:=by have:=(List.getElem?_eq_some_iff.mp hd).1;rwa [zD,Int.toNat_natCast] at this
  have hd':=zQ hd
  rw[Int.zero_add] at hd'
  subst hd'
  obtain⟨a,b,c⟩:=hE.at_ i hi
  obtain⟨r,hr⟩:=zL1 (n:=k) (C0:=C0) (S:=S) (c2:=c2) G hE.le hi a b c
  refine⟨_,_,Tgt.local rfl,?_⟩
  exact hr.weakR (Sub.all (by kernel_rfl))
 ·refine Sx.freeze (y:="left") rfl ?_
  exact Sx.weakR Sx.nil (Sub.all (by kernel_rfl))
private theorem zJu{n:Nat}(hn:n<255)(c2:Nat):Perm1 (kG (wF (entF (n+1)))) (perF (kG (wF (entF (n+1))))) ((wF (entF (n+1))).map (leD c2)).length:=by
 obtain⟨a,b,c,d⟩:=zGe (zGx n hn)
 have hl:((wF (entF (n+1))).map (leD c2)).length=(kG (wF (entF (n+1)))).length:=by unfold kG;rw[List.length_map,List.length_map]
 rw[hl]
 exact⟨rfl,fun h2=>a.resolve_left (Nat.not_lt.mpr h2),b,c,d⟩
private theorem zOd(c2:Nat)(L:List Ent)(p:Array Nat)(hp:∀i∈p.toList,i<L.length):(p.toList.map fun i=>(L.map (leD c2)).getD i .none)=(zNl L p).map (leD c2):=by
 unfold zNl
 rw[List.map_map]
 refine List.map_congr_left fun i hi=>?_
 rw[List.getD_eq_getElem?_getD,zCh (leD c2) nilE (hp i hi)];rfl
end Wk
namespace Wk
variable{prog:Program}{w:World}{W:Wd}
noncomputable def sdR(C0:List Int)(S:List Nat)(c2:Nat)(Ls:List PyData)(k t:Nat)(r:Rho):Rho:=lawR C0 S c2 (("left",.v (.list Ls))::("k",.v (.int (k:Nat)))::("turn",.v (.int (t:Nat)))::r)
noncomputable def sdFor:List Stmt:=sBody ((sBody zV).getD 12 default)
noncomputable def zOj:List Stmt:=sBody (sdFor.getD 0 default)
noncomputable def sdRow:List Stmt:=sBody (zOj.getD 1 default)
private theorem zMz(G:Gl prog w W){C0:List Int}{S:List Nat}{c2 k t n:Nat}{Ls:List PyData}{e:Ent}{T O:Str}(hC:C0.length=3)(h2:C0.getD 2 0=(c2:Nat))(hd:e.1≤40)(hT:T.length≤1000)(hO:O.length≤1000) :
  Sx prog w W (n+270) vB (sdR C0 S c2 Ls k t [("typed",.v (.str T)),("told",.v (.str O)),("dots",.v (.int (e.1:Nat))),("name",.v (.str ⟨#[nmC c2 e]⟩))]) sdRow (.next (sdR C0 S c2 Ls k t [("typed",.v (.str (T++sndR c2 t T.length e))),("told",.v (.str (O++sndQ c2 e)))])):=by
 have h24:sizeLine=16777216:=by decide
 have l1:(".":Str).length=1:=by decide
 have l2:("\r\n":Str).length=2:=by decide
 have le:=zA2 (T.length+t+c2)
 have e1:sndR c2 t T.length e=repS "." e.1++⟨#[nmC c2 e]⟩++endL.getD ((T.length+t+c2)%3) "":=rfl
 have e2:sndQ c2 e=repS "." (e.1+1)++⟨#[nmC c2 e]⟩ ++ "\r\n":=rfl
 have l3:(sndR c2 t T.length e).length≤43:=by
  rw[e1];simp only[Str.length_append,zG,l1,xP];lia
 have l4:(sndQ c2 e).length≤44:=by
  rw[e2];simp only[Str.length_append,zG,l1,l2,xP];lia
 have e3:((T.length:Int)+t+c2).fmod 3=(((T.length+t+c2)%3:Nat):Int):=zP (T.length+t+c2) 3
 generalize sndR c2 t T.length e=TR at *
 generalize sndQ c2 e=OR at *
 obtain⟨d,x⟩:=e
 generalize nmC c2 (d,x)=nm at *
 have hd:d≤40:=hd
 refine Sx.consX (sdR C0 S c2 Ls k t [("typed",.v (.str (T++TR))),("told",.v (.str O)),("dots",.v (.int (d:Nat))),("name",.v (.str ⟨#[nm]⟩))]) (Ex.conv (Ex.augP (a:=.str T) (b:=.str TR) rfl (.inl rfl) ?_ (qU (by lia))) rfl) ?_
 ·rw[e1]
  refine Ev.cat _ _ (Ev.cat _ _ (Ev.binX (.str ".") (.int (d:Nat)) Ev.cstr (Ev.name rfl) (QO (by rw[l1];lia) (by lia))) (Ev.name rfl) (by rw[xP,zG,l1];lia)) ?_ (by rw[Str.length_append,xP,zG,l1];lia)
  refine Ev.itemX (.list (yH endL)) (.int (((T.length:Int)+t+c2).fmod 3)) (Ev.conv (Ev.list (Evs.cons Ev.cstr (Evs.cons Ev.cstr (Evs.cons Ev.cstr Evs.nil))) (Nat.le_of_ble_eq_true rfl)) rfl) ?_ (zA5 e3 (Nat.mod_lt _ (by decide)) (by decide))
  exact Ev.binX (.int ((T.length:Int)+t+c2)) (.int 3) (Ev.binX (.int ((T.length:Int)+t)) (.int c2) (Ev.binX (.int (T.length:Nat)) (.int t) (Ev.buiX [.str T] G.b_len rfl (Evs.one (Ev.name rfl)) (zI6 (by lia))) (Ev.name rfl) zH) (Ev.convX _ (Ev.itemX (.list (zA C0)) (.int (2:Nat)) (Ev.name rfl) Ev.cint (yR (j:=2) rfl (by lia) (by lia))) (by rw[h2])) zH) Ev.cint (yM (by decide))
 ·refine Sx.one (Ex.weakR (Ex.augP (a:=.str O) (b:=.str OR) rfl (.inl rfl) ?_ (qU (by lia))) (Sub.all (by kernel_rfl)))
  rw[e2]
  refine Ev.cat _ _ (Ev.cat _ _ (Ev.binX (.str ".") (.int (d+1:Nat)) Ev.cstr (Ev.binX (.int (d:Nat)) (.int 1) (Ev.name rfl) Ev.cint zH) (QO (by rw[l1];lia) (by lia))) (Ev.name rfl) (by rw[xP,zG,l1];lia)) (Ev.conv Ev.cstr rfl) (by rw[Str.length_append,xP,zG,l1,l2];lia)
noncomputable def bumpF(d:PyData):List PyData:=match d with | .tuple [.int a,.str s]=>[.tuple [.int (a+1),.str s]] | _=>[]
private theorem zAf(c2:Nat):∀L:List Ent,(L.map (leD c2)).flatMap bumpF=(L.map fun e=>(e.1+1,e.2)).map (leD c2)
 | []=>rfl
 | e::L=>by rw[List.map_cons,List.flatMap_cons,zAf c2 L];rfl
private theorem zHf{c2:Nat}{L:List Ent}{i:Nat}{d:PyData}(h:(L.map (leD c2))[i]?=some d):∃e,e=L.getD i nilE∧i<L.length∧e∈L∧d=leD c2 e:=by
 rw[List.getElem?_map] at h
 cases e:L[i]? with
 | none=>rw[e] at h;cases h
 | some c=>rw[e] at h;cases h;exact⟨c,by rw[List.getD_eq_getElem?_getD,e];rfl,(List.getElem?_eq_some_iff.mp e).1,List.mem_of_getElem? e,rfl⟩
private theorem zM4(G:Gl prog w W){C0:List Int}{S:List Nat}{c2 k t n:Nat}{L:List Ent}(hC:C0.length=3)(h2:C0.getD 2 0=(c2:Nat))(hL:L.length≤4)(hg:∀e∈L.drop k,kP e=true) :
  ∃r,Sx prog w W (n+270) vB (sdR C0 S c2 (L.map (leD c2)) k t []) zOj (.next (sdR C0 S c2 ((zLh k L).map (leD c2)) k t r)):=by
 have h24:sizeLine=16777216:=by decide
 have hb:(zLh k L).map (leD c2)=(L.take k).map (leD c2)++((L.drop k).map fun e=>(e.1+1,e.2)).map (leD c2):=by unfold zLh;rw[List.map_append]
 have hsi:=send_is (c2:=c2) (t:=t) hg
 have hle:(L.map (leD c2)).length≤4:=by rw[List.length_map];exact hL
 have ht:=zFh c2
 have he:=zDp c2
 have hdk:(L.map (leD c2)).drop k=(L.drop k).map (leD c2):=by rw[List.map_drop]
 have htk:(L.map (leD c2)).take k=(L.take k).map (leD c2):=by rw[List.map_take]
 have hMl:(L.drop k).length≤4:=by rw[List.length_drop];lia
 have hTl:(L.take k).length≤4:=by rw[List.length_take];lia
 rw[hb]
 generalize L.drop k=M at *
 generalize L.take k=N at *
 generalize L.map (leD c2)=Ls at *
 have hsl:=fun j hj=>zL7 (c2:=c2) (t:=t) hg j hj
 refine⟨[("typed",.v (.str (sndT c2 t M M.length))),("told",.v (.str (sndO c2 M M.length)))],?_⟩
 refine Sx.consX (sdR C0 S c2 Ls k t [("typed",.v (.str (sndT c2 t M 0))),("told",.v (.str (sndO c2 M 0)))]) (Ex.conv (Ex.setT (ds:=[]) (x:=.tuple [.str "",.str ""]) (Ev.tuple (Evs.cons Ev.cstr (Evs.cons Ev.cstr Evs.nil)) (Nat.le_of_ble_eq_true rfl)) (Tgt.tuple zW (Tgts.cons (Tgt.local rfl) (Tgts.cons (Tgt.local rfl) Tgts.nil)))) rfl) ?_
 refine Sx.consX (sdR C0 S c2 Ls k t [("typed",.v (.str (sndT c2 t M M.length))),("told",.v (.str (sndO c2 M M.length)))]) (Ex.conv (Ex.loop (ds:=M.map (leD c2)) (fun j=>sdR C0 S c2 Ls k t [("typed",.v (.str (sndT c2 t M j))),("told",.v (.str (sndO c2 M j)))]) (Sub.all (by kernel_rfl)) (Itr.list (Ev.convX _ (Ev.slicel (lo:=some (k:Nat)) (hi:=none) (ds:=Ls) (Ev.name rfl) (Prt.some (Ev.name rfl)) Prt.none (by lia)) (by rw[jY,hdk]))) ?_) (by rw[List.length_map])) ?_
 ·intro j d hd
  obtain⟨e,he,hj,hm,rfl⟩:=zHf hd
  obtain⟨s1,s2⟩:=hsl j (Nat.le_of_lt hj)
  have:=(zD9 (hg e hm) c2).d1
  have u1:sndT c2 t M (j+1)=sndT c2 t M j++sndR c2 t (sndT c2 t M j).length e:=by rw[he];rfl
  have u2:sndO c2 M (j+1)=sndO c2 M j++sndQ c2 e:=by rw[he];rfl
  rw[u1,u2]
  refine⟨_,_,Tgt.tuple (ds:=[.int (e.1:Nat),.str ⟨#[nmC c2 e]⟩]) zW (Tgts.cons (Tgt.local rfl) (Tgts.cons (Tgt.local rfl) Tgts.nil)),?_⟩
  exact zMz (n:=n) G hC h2 this (by lia) (by lia)
 obtain⟨s1,s2⟩:=hsl M.length (Nat.le_refl _)
 generalize sndT c2 t M M.length=T at *
 generalize sndO c2 M M.length=O at *
 unfold sdR lawR
 generalize vC c2=tl at *
 generalize endS c2=en at *
 refine Sx.ifskipX _ ?_ (Tr.cmpX (k:=n+260) (.str (O++en)) (.str (O++en)) (Ev.convX _ (Ev.fnX [.str (T++tl)] rfl (Evs.one (Ev.cat T tl (Ev.name rfl) (Ev.name rfl) (by lia))) ((zAa G (by rw[Str.length_append];lia)).mono (by lia))) (by rw[hsi])) (Ev.cat O en (Ev.name rfl) (Ev.name rfl) (by lia)) zK7) ?_
 ·simp
 refine Sx.one (Ex.conv (Ex.setX (.list (N.map (leD c2)++(M.map fun e=>(e.1+1,e.2)).map (leD c2))) (Ev.binX (.list (N.map (leD c2))) (.list ((M.map fun e=>(e.1+1,e.2)).map (leD c2))) (Ev.convX _ (Ev.slicel (lo:=none) (hi:=some (k:Nat)) (ds:=Ls) (Ev.name rfl) Prt.none (Prt.some (Ev.name rfl)) (by lia)) (by rw[zI2,htk])) (EvN.ev (EvN.conv (EvN.comp (ds:=M.map (leD c2)) [] (Itr.list (Ev.convX _ (Ev.slicel (lo:=some (k:Nat)) (hi:=none) (ds:=Ls) (Ev.name rfl) (Prt.some (Ev.name rfl)) Prt.none (by lia)) (by rw[jY,hdk]))) ⟨by decide,rfl,by decide,by decide⟩ Caps.nil (CL.of bumpF rfl zJ ?_) ?_) (zAf c2 M))) (zL2 ?_)) (.inl rfl)) rfl)
 ·intro i d hd
  obtain⟨e,_,_,_,rfl⟩:=zHf hd
  refine⟨_,true,Tgt.local rfl,Ifs.nil,Sub.nil,fun hb=>?_,fun hb=>nomatch hb⟩
  show Emit prog w W _ _ _ _ _ _ _ _ [.tuple [.int ((e.1:Int)+1),.str ⟨#[nmC c2 e]⟩]] _
  exact Emit.last rfl (yN zJ) (Ev.tuple (Evs.two (Ev.binX (.int (e.1:Nat)) (.int 1) (Ev.itemX (leD c2 e) (.int 0) (Ev.name (by kernel_rfl)) Ev.cint it0) Ev.cint zH) (Ev.itemX (leD c2 e) (.int 1) (Ev.name (by kernel_rfl)) Ev.cint it1)) (Nat.le_of_ble_eq_true rfl))
 ·rw[zAf,List.length_map,List.length_map];lia
 ·rw[List.length_map,List.length_map,List.length_map];lia
end Wk
namespace Wk
variable{prog:Program}{w:World}{W:Wd}
private theorem send_at{L:List Ent}(h:zOe L=true){i t:Nat}(hi:i<L.length-1)(ht:t<3):(zBn (1+i) (zAt L i) t).length=L.length∧∀e∈(zBn (1+i) (zAt L i) t).drop (1+i),kP e=true:=by
 unfold zOe at h
 have h1:=List.all_eq_true.mp h i (List.mem_range.mpr hi)
 have h2:=List.all_eq_true.mp h1 t (List.mem_range.mpr ht)
 rw[Bool.and_eq_true,beq_iff_eq,List.all_eq_true] at h2
 exact h2
private theorem zP6(G:Gl prog w W){C0:List Int}{S:List Nat}{c2 n:Nat}{L:List Ent}(hC:C0.length=3)(h2:C0.getD 2 0=(c2:Nat))(h0:0<L.length)(hL:L.length≤4)(hg:zOe L=true) :
  Sx prog w W (n+270) vB (lawR C0 S c2 [("left",.v (.list (L.map (leD c2))))]) (((sBody zV).drop 12).take 1) (.next (lawR C0 S c2 [("left",.v (.list ((zAt L (L.length-1)).map (leD c2))))])):=by
 have hc:(((L.length:Nat):Int)-1).toNat=L.length-1:=by lia
 refine Sx.one (Ex.conv (Ex.loop (ds:=zK 1 (((L.length:Nat):Int)-1).toNat) (fun i=>lawR C0 S c2 [("left",.v (.list ((zAt L i).map (leD c2))))]) (Sub.all (by kernel_rfl)) (Itr.range2 rfl G.b_range.1 G.b_range.2 Ev.cint (Ev.convX _ (Ev.buiX [.list (L.map (leD c2))] G.b_len rfl (Evs.one (Ev.name rfl)) (yX (by rw[List.length_map];lia))) (by rw[List.length_map])) (by lia) (by lia) (by lia) (by lia)) ?_) (by rw[zD,hc]))
 intro i d hd
 have hi:i<L.length-1:=by have:=(List.getElem?_eq_some_iff.mp hd).1;rwa [zD,hc] at this
 have hd':=zQ hd
 rw[show(1:Int)+(i:Int)=((1+i:Nat):Int) from rfl] at hd'
 subst hd'
 have hs:zAt L (i+1)=zBn (1+i) (zAt L i) 3:=rfl
 refine⟨_,_,Tgt.local rfl,?_⟩
 rw[hs]
 have key:=fun t (ht:t<3)=>send_at hg hi ht
 generalize zAt L i=L0 at *
 generalize 1+i=k at *
 refine Sx.one (Ex.weakR (Ex.loop (ds:=zK 0 (3:Int).toNat) (fun t=>lawR C0 S c2 [("left",.v (.list ((zBn k L0 t).map (leD c2)))),("k",.v (.int (k:Nat)))]) (Sub.all (by kernel_rfl)) (Itr.range1 rfl G.b_range.1 G.b_range.2 Ev.cint (by decide) (by decide)) ?_) (Sub.all (by kernel_rfl)))
 intro t d hd
 have ht:t<3:=(List.getElem?_eq_some_iff.mp hd).1
 have hd':=zQ hd
 rw[Int.zero_add] at hd'
 subst hd'
 obtain⟨a,b⟩:=key t ht
 have hs:zBn k L0 (t+1)=zLh k (zBn k L0 t):=rfl
 refine⟨_,_,Tgt.local rfl,?_⟩
 rw[hs]
 obtain⟨r,hr⟩:=zM4 (C0:=C0) (S:=S) (c2:=c2) (t:=t) (n:=n) G hC h2 (a▸hL) b
 exact hr.weakR (Sub.all (by kernel_rfl))
noncomputable def zA1(M:List Ent):List Row:=M.map fun e=>(e.1,zY e)
private theorem zMb(M:List Ent):(zA1 M).map rowD=M.map rowL:=by unfold zA1;rw[List.map_map];rfl
structure LastOk(M:List Ent):Prop where
 pos:0<M.length
 le:M.length≤4
 good:∀e∈M,kP e=true
 step:∀i,i<M.length-1→(M.getD i nilE).1≤(M.getD (1+i) nilE).1∧zKl (M.getD (1+i) nilE).1 (M.getD i nilE).1=true
private theorem zGs{n:Nat}(hn:n<255):LastOk (zGd (n+1)):=by
 have h:=zPk n hn
 unfold lastB at h
 simp only[Bool.and_eq_true,Bool.not_eq_true',decide_eq_true_eq,List.isEmpty_eq_false_iff,List.all_eq_true] at h
 obtain⟨⟨⟨a,b⟩,c⟩,d⟩:=h
 exact⟨List.length_pos_iff.mpr c,b,a,fun i hi=>d i (List.mem_range.mpr hi)⟩
private theorem zHv{M:List Ent}(h:∀e∈M,kP e=true):∀x∈zA1 M,RowOkL x:=fun x hx=>by
  obtain⟨e,he,rfl⟩:=List.mem_map.mp hx
  have hg:=h e he
  obtain⟨d,b,j,k⟩:=e
  unfold kP at hg
  simp only[Bool.and_eq_true,decide_eq_true_eq] at hg
  obtain⟨⟨h1,h2⟩,h3⟩:=hg
  cases b with
  | true =>
    have h3:j<7:=h3
    refine⟨fun c hc=>?_,.inr ⟨_,_,rfl⟩,Nat.le_trans h2 (by decide)⟩
    have hc:c∈[ltN j,ltN (j+1)]:=hc
    simp only[List.mem_cons,List.not_mem_nil,or_false] at hc
    rcases hc with hc|hc <;> subst hc
    · exact(vZ j (by lia)).1
    · exact(vZ (j+1) (by lia)).1
  | false =>
    refine⟨fun c hc=>?_,.inl ⟨_,rfl⟩,Nat.le_trans h2 (by decide)⟩
    have hc:c∈[ltN j]:=hc
    rw[List.mem_singleton] at hc;subst hc
    exact(vZ j h3).1
noncomputable def lpS(c2:Nat)(e:Ent):Str:=repS "." e.1++⟨#[nmC c2 e]⟩ ++ "\r\n"
noncomputable def lpF(d:PyData):List PyData:=match d with | .tuple [.int a,.str s]=>[.str (repS "." a.toNat++s ++ "\r\n")] | _=>[]
private theorem zG9(c2:Nat):∀L:List Ent,(L.map (leD c2)).flatMap lpF=yH (L.map (lpS c2))
 | []=>rfl
 | e::L=>by rw[List.map_cons,List.flatMap_cons,zG9 c2 L];rfl
private theorem zNc(c2:Nat)(e:Ent):(lpS c2 e).cps.toList=q1F c2 e++[13,10]:=by
 unfold lpS q1F
 simp only[Str.cps_append,Array.toList_append,uK,zBj]
private theorem zPg(c2:Nat)(M:List Ent):(Txt.join "" (M.map (lpS c2))).cps.toList=pgE c2 M:=by
 have e:("":Str)=Str.empty:=rfl
 rw[e,vV]
 unfold xO pgE
 rw[List.map_map,List.flatMap_def]
 congr 1
 exact List.map_congr_left fun e _=>zNc c2 e
end Wk
namespace Wk
variable{prog:Program}{w:World}{W:Wd}
private theorem q1F_ok{c2:Nat}{M:List Ent}(hM:∀e∈M,kP e=true):∀c∈pgE c2 M,okC c=true:=fun c hc=>by
 obtain⟨a,b,d⟩:=wH
 unfold pgE at hc
 obtain⟨e,he,h⟩:=List.mem_flatMap.mp hc
 unfold q1F at h
 simp only[List.mem_append,List.mem_cons,List.not_mem_nil,or_false] at h
 rcases h with(h|h)|h|h
 ·rw[List.eq_of_mem_replicate h];exact a
 ·rw[h];exact(zD9 (hM e he) c2).ok
 ·rw[h];exact b
 ·rw[h];exact d
private theorem zD1{α:Type}(f:α→List Nat)(n:Nat):∀L:List α,(∀e∈L,(f e).length≤n)→(L.flatMap f).length≤n*L.length
  | [],_=>Nat.zero_le _
  | e :: L, h => by
    have ih:=zD1 f n L fun x hx=>h x (List.mem_cons_of_mem _ hx)
    have:=h e List.mem_cons_self
    rw[List.flatMap_cons,List.length_append,List.length_cons,Nat.mul_add];lia
private theorem zQo(G:Gl prog w W){C0:List Int}{S:List Nat}{c2 n:Nat}{M:List Ent}(hM:LastOk M) :
  Sx prog w W (n+270) vB (lawR C0 S c2 [("left",.v (.list (M.map (leD c2))))]) (((sBody zV).drop 13).take 2) (.next (lawR C0 S c2 [("rows",.v (.list (M.map rowL)))])):=by
 have h24:sizeLine=16777216:=by decide
 have l1:(".":Str).length=1:=by decide
 have l2:("\r\n":Str).length=2:=by decide
 have hle:(M.map (leD c2)).length=M.length:=by rw[List.length_map]
 have h4:=hM.le
 have h0:=hM.pos
 have hgd:=hM.good
 have hlen1:(pgE c2 M).length≤50*M.length:=by
  unfold pgE
  refine zD1 _ 50 M fun e he=>?_
  have:=(zD9 (hgd e he) c2).d1
  unfold q1F
  rw[List.length_append,List.length_append,List.length_replicate]
  show e.1+1+2≤50
  lia
 have hj:=zPg c2 M
 have hjo:PySem.JoinOk "" (M.map (lpS c2))=true:=by
  have e:("":Str)=Str.empty:=rfl
  rw[e] at hj ⊢
  rw[vV] at hj
  refine vF ?_
  rw[hj];lia
 have hxl:(Txt.join "" (M.map (lpS c2))).length≤300:=by
  show(Txt.join "" (M.map (lpS c2))).cps.size≤300
  rw[←Array.length_toList,hj];lia
 have hok:kM (Txt.join "" (M.map (lpS c2))):=fun c hc=>q1F_ok hgd c (hj▸hc)
 have hpl:(QX (Txt.join "" (M.map (lpS c2)))).cps.toList=(zA1 M).flatMap (fun r=>dotL r.1 r.2++[13,10])++[]:=by
  rw[zKg,hj,zMq hgd,List.append_nil]
  unfold zA1
  rw[List.flatMap_map]
 have hpl2:(QX (Txt.join "" (M.map (lpS c2)))).length≤300:=by
  show(QX (Txt.join "" (M.map (lpS c2)))).cps.size≤300
  rw[←Array.length_toList,hpl,List.append_nil]
  have:=zD1 (fun r:Row=>dotL r.1 r.2++[13,10]) 60 (zA1 M) fun r hr=>by
   obtain⟨e,he,rfl⟩:=List.mem_map.mp hr
   have hg:=(zD9 (hgd e he) c2).d1
   have hs:=(kZ ((zHv hgd) _ hr).s).2.2
   show(dotL e.1 (zY e)++[13,10]).length≤60
   unfold dotL
   rw[List.length_append,List.length_append,List.length_replicate]
   have hs:(zY e).length≤2:=hs
   show e.1+(zY e).length+2≤60
   lia
  have hrl:(zA1 M).length=M.length:=by unfold zA1;rw[List.length_map]
  rw[hrl] at this
  lia
 have hRo:=zHv hgd
 have hrl:(zA1 M).length=M.length:=by unfold zA1;rw[List.length_map]
 have hfr:=zBb hRo
 rw[zMb] at hfr
 have hpr:=zEc (R:=zA1 M) (fun e=>by rw[e] at hrl;exact absurd hrl (Nat.ne_of_lt h0)) hRo hpl
 rw[hrl] at hpr
 refine Sx.consX (lawR C0 S c2 [("left",.v (.list (M.map (leD c2)))),("page",.v (.str (QX (Txt.join "" (M.map (lpS c2))))))]) (Ex.conv (Ex.setX (.str (QX (Txt.join "" (M.map (lpS c2))))) (Ev.fnX [.str (Txt.join "" (M.map (lpS c2)))] rfl (Evs.one (Ev.meth1X (.str "") (.list (yH (M.map (lpS c2)))) (Ev.conv Ev.cstr rfl) (EvN.ev (EvN.conv (EvN.comp (ds:=M.map (leD c2)) [] (Itr.list (Ev.name rfl)) ⟨by decide,rfl,by decide,by decide⟩ Caps.nil (CL.of lpF rfl zJ ?_) ?_) (zG9 c2 M))) (zE0 hjo))) ((jO G _ (by lia) hok).mono (by lia))) (.inl rfl)) rfl) ?_
 ·intro i d hd
  obtain⟨e,_,_,he,rfl⟩:=zHf hd
  have hg:=(zD9 (hgd e he) c2).d1
  refine⟨_,true,Tgt.local rfl,Ifs.nil,Sub.nil,fun hb=>?_,fun hb=>nomatch hb⟩
  have e1:lpF (leD c2 e)=[.str (repS "." e.1++⟨#[nmC c2 e]⟩ ++ "\r\n")]:=rfl
  rw[e1]
  refine Emit.last rfl (yN zJ) (Ev.cat _ _ (Ev.cat _ _ (Ev.binX (.str ".") (.int (e.1:Nat)) Ev.cstr (Ev.itemX (leD c2 e) (.int 0) (Ev.name (by kernel_rfl)) Ev.cint it0) (QO (by rw[l1];lia) (by lia))) (Ev.itemX (leD c2 e) (.int 1) (Ev.name (by kernel_rfl)) Ev.cint it1) (by rw[xP,zG,l1];lia)) (Ev.conv Ev.cstr rfl) (by rw[Str.length_append,xP,zG,l1,l2];lia))
 ·rw[zG9];unfold yH;rw[List.length_map,List.length_map];lia
 generalize QX (Txt.join "" (M.map (lpS c2)))=x at *
 have hsp:=QF x "\r\n"
 generalize zA1 M=R at *
 refine Sx.one (Ex.weakR (Ex.conv (Ex.setC (ds:=yH (R.map uP)) (outs:=(yH (R.map uP)).flatMap rowF) [] rfl (Itr.list (Ev.convX _ (Ev.slicel (lo:=none) (hi:=some (M.length:Nat)) (ds:=yH (Txt.split x "\r\n")) ?_ Prt.none (Prt.some (Ev.convX _ (Ev.buiX [.list (M.map (leD c2))] G.b_len rfl (Evs.one (Ev.name rfl)) (yX (by rw[hle];lia))) (by rw[hle]))) ?_) (by rw[zEh,hpr])))
   ⟨by decide,rfl,by decide,by decide⟩ Caps.nil (CL.of rowF rfl zJ ?_) ?_) (by rw[hfr])) (Sub.all (by kernel_rfl)))
 ·exact Ev.meth1X (.str x) (.str "\r\n") (Ev.name rfl) (Ev.conv Ev.cstr rfl) (zF1 rfl (by lia) (by have:=vU x "\r\n";lia))
 ·unfold yH;rw[List.length_map];lia
 ·intro i d hd
  obtain⟨y,hy,rfl⟩:=zHd hd
  refine⟨_,true,Tgt.local rfl,Ifs.nil,Sub.nil,fun hb=>?_,fun hb=>nomatch hb⟩
  rw[zGg (hRo y hy)]
  exact Emit.last rfl (yN zJ) (Ev.fnX [.str (uP y)] rfl (Evs.one (Ev.name (by kernel_rfl))) ((zHj G (hRo y hy)).mono (by lia)))
 ·rw[hfr,List.length_map];lia
end Wk
namespace Wk
variable{prog:Program}{w:World}{W:Wd}
noncomputable def tupD(t:Nat×Nat×Nat):PyData:=.tuple [.int (t.1:Nat),.int (t.2.1:Nat),.int (t.2.2:Nat)]
noncomputable def kidT(t p:Nat):Nat×Nat×Nat:=(t+p,p+3,bif p%3==0 then p+3 else 0)
noncomputable def qL(d:Nat×Nat×Nat):Nat→List (Nat×Nat×Nat)
 | 0=>[]
 | n+1=>qL d n++(bif d.2.1+n != d.2.2 then [kidT d.1 (d.2.1+n)] else [])
noncomputable def zJh(s:List Int×List (Nat×Nat×Nat)):List Int×List (Nat×Nat×Nat) :=
 let d:=s.2.getLastD (0,0,0)
 (s.1.set (12-d.1) (s.1.getD (12-d.1) 0+1),s.2.dropLast++qL d (13-d.1-d.2.1))
noncomputable def tlS:Nat→List Int×List (Nat×Nat×Nat)
 | 0=>(List.replicate 13 0,[(0,1,0)])
 | n+1=>zJh (tlS n)
noncomputable def tlOk(s:List Int×List (Nat×Nat×Nat)):Bool:=s.1.length==13&&decide (s.2.length≤60) && !s.2.isEmpty&&decide ((s.2.getLastD (0,0,0)).1≤12)&&decide ((s.2.getLastD (0,0,0)).2.1≤30)&&decide ((s.2.getLastD (0,0,0)).2.2≤30)
noncomputable def zIc(T:List Int)(L:List (Nat×Nat×Nat))(r:Rho):Rho:=("tally",.own (zA T))::("grown",.own (L.map tupD))::r
noncomputable def tlBody:List Stmt:=sBody ((sBody vR).getD 2 default)
private theorem tl_ok:∀i,i<33→tlOk (tlS i)=true:=by decide +kernel
private theorem tl_go:∀i,i<33→SeqAt.shaped (.list ((tlS i).2.map tupD))=true∧(!PyData.eqv (.list ((tlS i).2.map tupD)) (.list []))=true:=by decide +kernel
private theorem zQi(G:Gl prog w W){T:List Int}{L:List (Nat×Nat×Nat)}{d:Nat×Nat×Nat}{k:Nat}(hT:T.length=13)(hL:L.length≤60)(h1:d.1≤12)(h2:d.2.1≤30)(h3:d.2.2≤30) :
    Sx prog w W (k+52) zAs (zIc T (L++[d]) []) tlBody (.next (zIc (T.set (12-d.1) (T.getD (12-d.1) 0+1)) (L++qL d (13-d.1-d.2.1)) [])):=by
  obtain⟨t,l,b⟩:=d
  dsimp only at h1 h2 h3 ⊢
  have h24:sizeLine=16777216:=by decide
  have kl:∀n,(qL (t,l,b) n).length≤n:=fun n=>by
    induction n with
    | zero=>exact Nat.le_refl 0
    | succ n ih =>
      unfold qL
      rw[List.length_append]
      cases (l+n != b) <;> simp <;> lia
  let R:List Int→List (Nat×Nat×Nat)→Rho:=fun T L=>zIc T L [("total",.v (.int (t:Nat))),("least",.v (.int (l:Nat))),("barred",.v (.int (b:Nat)))]
  refine Sx.weakL (ρ₁:=("tally",.own (zA T))::("grown",.own (L.map tupD++[tupD (t,l,b)]))::[]) ?_ (Sub.cons rfl (Sub.cons ?_ Sub.nil))
  · refine Sx.consX (R T L) (Ex.weakR (Ex.setPop (ds:=L.map tupD) (d:=tupD (t,l,b)) rfl ?_ (Tgt.tuple (ds:=[.int (t:Nat),.int (l:Nat),.int (b:Nat)]) zW (Tgts.cons (Tgt.local rfl) (Tgts.cons (Tgt.local rfl) (Tgts.cons (Tgt.local rfl) Tgts.nil))))) (Sub.all (by kernel_rfl))) ?_
    · rw[List.length_map];lia
    refine Sx.consX (R (T.set (12-t) (T.getD (12-t) 0+1)) L) (Ex.weakR (Ex.augsub (ds:=zA T) (j:=12-t) (z:=12-(t:Int)) (a:=.int (T.getD (12-t) 0)) (b:=.int 1) (d:=.int (T.getD (12-t) 0+1)) rfl (Ev.binX (.int 12) (.int (t:Nat)) Ev.cint (Ev.name rfl) zR) (by lia) (zF2 (by lia)) Ev.cint qE ?_) (Sub.cons ?_ (Sub.all (by kernel_rfl)))) ?_
    · unfold zA;rw[List.length_map];lia
    · show some (Slot.own _)=some (Slot.own _)
      unfold zA;rw[List.map_set]
    refine Sx.one (Ex.weakR (Ex.loop (ds:=zK (l:Nat) ((13-(t:Int))-(l:Nat)).toNat) (fun j=>R (T.set (12-t) (T.getD (12-t) 0+1)) (L++qL (t,l,b) j)) ?_ (Itr.range2 rfl G.b_range.1 G.b_range.2 (Ev.name rfl) (Ev.binX (.int 13) (.int (t:Nat)) Ev.cint (Ev.name rfl) zR) (by lia) (by lia) (by lia) (by lia)) ?_) ?_)
    · refine Sub.cons rfl (Sub.cons ?_ (Sub.all (by kernel_rfl)))
      show some (Slot.own _)=some (Slot.own _)
      rw[qL,List.append_nil]
    · intro j e he
      have hj:j<((13-(t:Int))-(l:Nat)).toNat:=by
        have:=(List.getElem?_eq_some_iff.mp he).1
        rwa [zD] at this
      rw[zQ he]
      refine⟨_,_,Tgt.local rfl,?_⟩
      refine Sx.one (Ex.ite2 (l+j != b) (Tr.convX (((l:Nat):Int)+(j:Nat) != (b:Nat)) (Tr.cmpX (k:=k+42) (.int (((l:Nat):Int)+(j:Nat))) (.int (b:Nat)) (Ev.name rfl) (Ev.name rfl) zFt) ?_) (fun hb=>?_) (fun hb=>?_))
      · rw[Bool.eq_iff_iff,bne_iff_ne,bne_iff_ne];lia
      · have e2:qL (t,l,b) (j+1)=qL (t,l,b) j++[kidT t (l+j)]:=by
          show qL (t,l,b) j++(bif l+j != b then _ else _)=_
          rw[hb];rfl
        rw[e2]
        refine Sx.weakR (Sx.one (Ex.append (ds:=(L++qL (t,l,b) j).map tupD) (d:=tupD (kidT t (l+j))) rfl ?_ ?_)) (Sub.cons rfl (Sub.cons ?_ (Sub.all (by kernel_rfl))))
        · refine Ev.convX (.tuple [.int ((t:Nat)+(((l:Nat):Int)+(j:Nat))),.int (((l:Nat):Int)+(j:Nat)+3),bif (((l:Nat):Int)+(j:Nat)).fmod 3==0 then .int (((l:Nat):Int)+(j:Nat)+3) else .int 0]) (Ev.tuple (Evs.cons (Ev.binX (.int (t:Nat)) (.int (((l:Nat):Int)+(j:Nat))) (Ev.name rfl) (Ev.name rfl) zH) (Evs.two (Ev.binX (.int (((l:Nat):Int)+(j:Nat))) (.int 3) (Ev.name rfl) Ev.cint zH) (Ev.iteX _ _ _ (Tr.cmpX (k:=k+42) (.int ((((l:Nat):Int)+(j:Nat)).fmod 3)) (.int 0) (Ev.binX (.int (((l:Nat):Int)+(j:Nat))) (.int 3) (Ev.name rfl) Ev.cint (yM (by decide))) Ev.cint kE) (fun _=>Ev.binX (.int (((l:Nat):Int)+(j:Nat))) (.int 3) (Ev.name rfl) Ev.cint zH) fun _=>Ev.cint))) (Nat.le_of_ble_eq_true rfl)) ?_
          have e3:((((l:Nat):Int)+(j:Nat)).fmod 3==0)=((l+j)%3==0):=by
            rw[←Int.natCast_add,show(3:Int)=((3:Nat):Int) from rfl,zP,Bool.eq_iff_iff,beq_iff_eq,beq_iff_eq];lia
          rw[e3]
          unfold tupD kidT
          cases (l+j)%3==0 <;> simp <;> lia
        · have:=kl j
          rw[List.length_map,List.length_append];lia
        · show some (Slot.own _)=some (Slot.own _)
          rw[←List.append_assoc,List.map_append (l₁:=L++qL (t,l,b) j)];rfl
      · have e2:qL (t,l,b) (j+1)=qL (t,l,b) j:=by
          show qL (t,l,b) j++(bif l+j != b then _ else _)=_
          rw[hb];exact List.append_nil _
        rw[e2]
        exact Sx.weakR Sx.nil (Sub.all (by kernel_rfl))
    · refine Sub.cons rfl (Sub.cons ?_ Sub.nil)
      show some (Slot.own _)=some (Slot.own _)
      rw[zD,show((13-(t:Int))-(l:Nat)).toNat=13-t-l by lia]
  · show some (Slot.own _)=some (Slot.own _)
    rw[List.map_append];rfl
noncomputable def zBh:List Int:=(tlS 33).1
private theorem zIf(G:Gl prog w W)(S:Nat→List Int×List (Nat×Nat×Nat))(h0:S 0=(List.replicate 13 0,[(0,1,0)]))(hS:∀i,S (i+1)=zJh (S i))(hok:∀i,i<33→tlOk (S i)=true)
  (hgo:∀i,i<33→SeqAt.shaped (.list ((S i).2.map tupD))=true∧(!PyData.eqv (.list ((S i).2.map tupD)) (.list []))=true) (hend:(S 33).2=[]) :
  FunG prog w W 60 "_law_tally" [] (.list (zA (S 33).1)):=by
 refine FunG.of (names:=[]) G.d_law_tally zC2 (fun _ _ _=>lens0' rfl) (by decide) (by decide) ?_
 refine Sx.consX [("tally",.own (zA (List.replicate 13 0)))] (Ex.weakR (Ex.ownX (zA (List.replicate 13 0)) (EvN.conv (EvN.mul (xs:=[.int 0]) (b:=13) (Ev.list (Evs.cons Ev.cint Evs.nil) (Nat.le_of_ble_eq_true rfl)) Ev.cint (by decide) (by decide) (by decide)) rfl) rfl) (Sub.cons rfl Sub.nil)) ?_
 refine Sx.consX (zIc (S 0).1 (S 0).2 []) (Ex.weakR (Ex.ownX [.tuple [.int 0,.int 1,.int 0]] (EvN.list (Evs.cons (Ev.tuple (Evs.cons Ev.cint (Evs.cons Ev.cint (Evs.cons Ev.cint Evs.nil))) (Nat.le_of_ble_eq_true rfl)) Evs.nil) (Nat.le_of_ble_eq_true rfl)) rfl) ?_) ?_
 ·rw[h0];exact Sub.cons rfl (Sub.cons rfl Sub.nil)
 refine Sx.consX (zIc (S 33).1 (S 33).2 []) (Ex.while (n:=33) (fun i=>zIc (S i).1 (S i).2 []) rfl (fun i hi=>?_) (fun i hi=>?_) ?_) ?_
 ·exact Tr.thaw (y:="grown") rfl (Tr.convX _ (Tr.cmpX (k:=49) (.list ((S i).2.map tupD)) (.list []) (Ev.name rfl) (Ev.list Evs.nil (Nat.le_of_ble_eq_true rfl)) (jK (hgo i hi).1 rfl)) (hgo i hi).2)
 ·have h:=hok i hi
  unfold tlOk at h
  simp only[Bool.and_eq_true,decide_eq_true_eq,beq_iff_eq,Bool.not_eq_true'] at h
  obtain⟨⟨⟨⟨⟨h1,h2⟩,h3⟩,h4⟩,h5⟩,h6⟩:=h
  rw[hS i]
  unfold zJh
  dsimp only
  have e:(S i).2=(S i).2.dropLast++[(S i).2.getLastD (0,0,0)]:=by
   have hne:(S i).2≠[]:=fun e=>by rw[e] at h3;cases h3
   rw[List.getLastD_eq_getLast?,List.getLast?_eq_some_getLast hne]
   exact(List.dropLast_concat_getLast hne).symm
  have:=zQi (k:=7) G (T:=(S i).1) (L:=(S i).2.dropLast) (d:=(S i).2.getLastD (0,0,0)) h1 (by rw[List.length_dropLast];lia) h4 h5 h6
  rw[←e] at this
  exact this
 ·rw[hend]
  exact Tr.thaw (y:="grown") rfl (Tr.convX _ (Tr.cmpX (k:=49) (.list []) (.list []) (Ev.name rfl) (Ev.list Evs.nil (Nat.le_of_ble_eq_true rfl)) (jK rfl rfl)) rfl)
 ·refine Sx.freeze (y:="tally") rfl ?_
  exact Sx.retX _ (Ev.name rfl)
private theorem tl_end:(tlS 33).2=[]:=by decide +kernel
private theorem zKf(G:Gl prog w W):FunG prog w W 60 "_law_tally" [] (.list (zA zBh)):=zIf G tlS rfl (fun _=>rfl) tl_ok tl_go tl_end
end Wk
namespace Wk
open Builtin.Int
variable{prog:Program}{w:World}{W:Wd}
noncomputable def wX:List Nat:=[6,5,4,3,3,3,2,2,1,1,1,1,1]
private theorem zMd:zBh=yP wX:=by decide +kernel
noncomputable def loQ(S:Nat):Nat:=(S-1)*(S^5-1)*(S^7-1)*(S^11-1)
structure FigQ(v:Nat):Prop where
 q:(2^v)^36/loQ (2^v)=valN v wX
 pos:0<loQ (2^v)
 lt:loQ (2^v)<2^2000
 d1:wU v (valN v wX)=yP wX
 d2:wU v ((2^v)^3-1)=yP (List.replicate 3 (2^v-1))
 vl:valN v wX<2^2000
private theorem zO7:∀i,i<60→(2^(16+i))^36/loQ (2^(16+i))=valN (16+i) wX∧0<loQ (2^(16+i))∧loQ (2^(16+i))<2^2000∧wU (16+i) (valN (16+i) wX)=yP wX∧wU (16+i) ((2^(16+i))^3-1)=yP (List.replicate 3 (2^(16+i)-1))∧valN (16+i) wX<2^2000:=by decide +kernel
private theorem figq(i:Nat)(h:i<60):FigQ (16+i):=by
 obtain⟨a,b,c,d,e,f⟩:=zO7 i h
 exact⟨a,b,c,d,e,f⟩
@[irreducible] noncomputable def zB3 (j:Nat):Nat:=3^(2600+j)
private theorem zJ1:∀j,j<5→2^4000≤zB3 j∧zB3 j<2^4200:=by unfold zB3;decide +kernel
@[irreducible] noncomputable def farQ:Nat:=5^1800
private theorem zLq:2^4000≤farQ∧farQ<2^4200:=by unfold farQ;decide +kernel
noncomputable def figQ(v unit far rest A B Wn Ln:Nat):Rho:=[("width",.v (.int (v:Nat))),("size",.v (.int (2^v:Nat))),("far",.v (.int (far:Nat))),("rest",.v (.int (rest:Nat))),("upper",.v (.int (A:Nat))),("lower",.v (.int (B:Nat))),("whole",.v (.int (Wn:Nat))),("left",.v (.int (Ln:Nat)))]
private theorem zKj(x:Int):PyData.eqv (.list [.int x,.int x,.int x]) (.list [.int x,.int x,.int x])=true:=by
 simp[PyData.eqv,PyData.eqvAll]
private theorem sx_ifs(G:Gl prog w W){v unit far rest A B Wn Ln:Nat}(hv0:16≤v)(hv:v<76)(Fq:FigQ v)(hA:B*Wn+Ln=A)(h1:rest≤Ln)(h2:Ln<B)(hr0:0<rest)(b1:A<2^13000)(b2:B<2^8200)(hW:Wn=far+valN v wX) :
  Sx prog w W 250 yS (figQ v unit far rest A B Wn Ln) ((sBody wN).drop 7) (.ret (.list (zA zBh))):=by
 have hWl:Wn<2^13000:=by
  refine Nat.lt_of_le_of_lt ?_ b1
  have:1*Wn≤B*Wn:=Nat.mul_le_mul_right _ (Nat.lt_of_le_of_lt (Nat.zero_le _) h2)
  lia
 have eA:(A:Int)=(B:Int)*Wn+Ln:=by rw[←hA];push_cast;rfl
 have bB:intBits (B:Int)≤8200:=yD b2
 have ba0:intBits (A:Int)≤13000:=yD b1
 have ba:intBits (-(A:Int))≤200000:=by rw[xK];exact Nat.le_trans ba0 (by decide)
 have bb:intBits (-(B:Int))≤16000:=by rw[xK];exact Nat.le_trans bB (by decide)
 have bw:intBits (-(Wn:Int))≤13000:=by rw[xK];exact yD hWl
 have bm:intBits (-(Wn:Int)*B)≤200000:=Nat.le_trans (intBits_mul_le bw bB) (by decide)
 have bB':intBits (B:Int)≤16000:=Nat.le_trans bB (by decide)
 have hB:(B:Int)≠0:=by lia
 have hB':-(B:Int)≠0:=by lia
 have m1:(-1:Int).fdiv (B:Int)=-1∧(-1:Int).fmod (B:Int)=(B:Int)-1:=zDa (by lia) (by lia) (by lia)
 have m2:(-(A:Int)).fdiv (-(B:Int))=Wn∧(-(A:Int)).fmod (-(B:Int))=-(Ln:Int):=qK (by rw[eA];grind) (by lia) (by lia)
 have m3:(-(A:Int)).fdiv (B:Int)=-(Wn:Int)-1∧(-(A:Int)).fmod (B:Int)=(B:Int)-Ln:=zDa (by rw[eA];grind) (by lia) (by lia)
 have m4:(-(Wn:Int)*B).fdiv (B:Int)=-(Wn:Int)∧(-(Wn:Int)*B).fmod (B:Int)=0:=zDa (by grind) (by lia) (by lia)
 have m5:(-(Wn:Int)*B).fdiv (-(B:Int))=(Wn:Int)∧(-(Wn:Int)*B).fmod (-(B:Int))=0:=qK (by grind) (by lia) (by lia)
 have m6:(A:Int).fdiv (-(B:Int))=-(Wn:Int)-1∧(A:Int).fmod (-(B:Int))=(Ln:Int)-B:=qK (by rw[eA];grind) (by lia) (by lia)
 have em:∀{ρ:Rho} {p p' pos pos':Pos} {k:Nat},ρ.lookup ("whole":Str)=some (.v (.int Wn))→ρ.lookup ("lower":Str)=some (.v (.int B))→Ev prog w W k yS ρ (.BinOp (.UnaryOp .USub (.Name "whole" p) pos) .Mult (.Name "lower" p') pos') (.int (-(Wn:Int)*B)):=fun h1 h2 =>
  Ev.bin (Ev.neg (Ev.name h1)) (Ev.name h2) (yO (.of_le bw bB (by decide)))
 have h20:(2:Nat)^20=1048576:=by decide
 have h23:(2:Nat)^23=8388608:=by decide
 have div_le:∀x:Nat,x≤2000→(x+v-1)/v≤2^20:=fun x hx=>by
  refine Nat.div_le_of_le_mul ?_
  have:16*2^20≤v*2^20:=Nat.mul_le_mul_right _ hv0
  lia
 have hS1:1<2^v:=Nat.lt_of_lt_of_le (by decide) (Nat.pow_le_pow_right (n:=2) (by decide) hv0)
 have hS2:2^v<2^76:=Nat.pow_lt_pow_right (by decide) hv
 have hp3:(2^v)^3<2^1000:=by rw[←Nat.pow_mul];exact Nat.pow_lt_pow_right (by decide) (by lia)
 have hg3:0<(2^v)^3:=Nat.pow_pos (Nat.two_pow_pos _)
 have bV:intBits ((valN v wX:Nat):Int)≤2000:=yD Fq.vl
 have bS3:intBits (((2^v)^3-1:Nat):Int)≤1000:=yD (Nat.lt_of_le_of_lt (Nat.sub_le _ _) hp3)
 have hv1:0<v:=by lia
 have hv2:v≤2^23:=by lia
 have f1:=QA (prog:=prog) (w:=w) G (valN v wX) v hv1 (div_le _ bV) (by lia) hv2
 rw[Fq.d1,←zMd] at f1
 have f2:=QA (prog:=prog) (w:=w) G ((2^v)^3-1) v hv1 (div_le _ (Nat.le_trans bS3 (by decide))) (by lia) hv2
 rw[Fq.d2] at f2
 have hSi:((2^v:Nat):Int)-1=((2^v-1:Nat):Int):=vW (Nat.lt_of_succ_lt hS1)
 unfold figQ
 generalize valN v wX=V at *
 refine Sx.ifskip (Tr.convX (((Wn:Int)*B+Ln != (A:Int))||(decide ((Ln:Int)<rest)||(decide ((Ln:Int)≥B)||(false||false)))) (Tr.or ?_ fun _=>Tr.or (Tr.cmpX (k:=240) (.int Ln) (.int rest) (Ev.name rfl) (Ev.name rfl) wC) fun _=>Tr.or (Tr.cmpX (k:=240) (.int Ln) (.int B) (Ev.name rfl) (Ev.name rfl) zOp) fun _=>Tr.or ?_ fun _=>Tr.or_nil) ?_) Sx.nil ?_
 ·refine Tr.cmpX (k:=240) (.int ((Wn:Int)*B+Ln)) (.int A) (Ev.binX (.int ((Wn:Int)*B)) (.int Ln) (Ev.binX (.int Wn) (.int B) (Ev.name rfl) (Ev.name rfl) (yO (wK (jQ hWl (by decide)) (jQ b2 (by decide))))) (Ev.name rfl) zH) (Ev.name rfl) zFt
 ·exact zCe (k:=10) G rfl (Ev.neg Ev.cint) (Ev.name rfl) (Ev.neg Ev.cint) (Ev.bin (Ev.name rfl) Ev.cint zR) hB bB' (by decide) m1 (fun _=>rfl) (fun _=>rfl) (fun _=>rfl) (fun _=>rfl)
 ·have e1:(Wn:Int)*B+Ln=A:=by rw[eA,Int.mul_comm]
  rw[e1,decide_eq_false (show ¬ (Ln:Int)<rest by lia),decide_eq_false (show ¬ (Ln:Int)≥B by lia)];simp
 refine Sx.ifskip (Tr.convX (false||(false||false)) (Tr.or ?_ fun _=>Tr.or ?_ fun _=>Tr.or_nil) rfl) Sx.nil ?_
 ·exact zCe (k:=10) G rfl (Ev.neg (Ev.name rfl)) (Ev.neg (Ev.name rfl)) (Ev.name rfl) (Ev.neg (Ev.name rfl)) hB' bb ba m2 (fun _=>rfl) (fun _=>rfl) (fun _=>rfl) (fun _=>rfl)
 ·exact zCe (k:=10) G rfl (Ev.neg (Ev.name rfl)) (Ev.name rfl) (Ev.bin (Ev.neg (Ev.name rfl)) Ev.cint zR) (Ev.bin (Ev.name rfl) (Ev.name rfl) zR) hB bB' ba m3 (fun _=>rfl) (fun _=>rfl) (fun _=>rfl) (fun _=>rfl)
 refine Sx.ifskip (Tr.convX (false||(false||false)) (Tr.or ?_ fun _=>Tr.or ?_ fun _=>Tr.or_nil) rfl) Sx.nil ?_
 ·exact zCe (k:=10) G rfl (em rfl rfl) (Ev.name rfl) (Ev.neg (Ev.name rfl)) Ev.cint hB bB' bm m4 (fun _=>rfl) (fun _=>rfl) (fun _=>rfl) (fun _=>rfl)
 ·exact zCe (k:=10) G rfl (em rfl rfl) (Ev.neg (Ev.name rfl)) (Ev.name rfl) Ev.cint hB' bb bm m5 (fun _=>rfl) (fun _=>rfl) (fun _=>rfl) (fun _=>rfl)
 refine Sx.ifskip (Tr.convX (false||((!PyData.eqv (.list [.int (2^v-1:Nat),.int (2^v-1:Nat),.int (2^v-1:Nat)]) (.list [.int (2^v-1:Nat),.int (2^v-1:Nat),.int (2^v-1:Nat)]))||false)) (Tr.or ?_ fun _=>Tr.or ?_ fun _=>Tr.or_nil) ?_) Sx.nil ?_
 ·exact zCe (k:=10) G rfl (Ev.name rfl) (Ev.neg (Ev.name rfl)) (Ev.bin (Ev.neg (Ev.name rfl)) Ev.cint zR) (Ev.bin (Ev.name rfl) (Ev.name rfl) zR) hB' bb (Nat.le_trans ba0 (by decide)) m6 (fun _=>rfl) (fun _=>rfl) (fun _=>rfl) (fun _=>rfl)
 ·refine Tr.cmpX (k:=240) (.list [.int (2^v-1:Nat),.int (2^v-1:Nat),.int (2^v-1:Nat)]) (.list [.int (2^v-1:Nat),.int (2^v-1:Nat),.int (2^v-1:Nat)]) (Ev.fnX [.int ((2^v)^3-1:Nat),.int (v:Nat)] rfl (Evs.two (Ev.convX (.int (((2^v)^3:Nat)-1)) (Ev.bin (Ev.binX (.int (2^v:Nat)) (.int (3:Nat)) (Ev.name rfl) Ev.cint (qH (m:=76) hS1 (by decide) (yD hS2) (by decide))) Ev.cint zR) (by rw[vW hg3])) (Ev.name rfl)) (f2.mono (by decide))) ?_ (jK rfl rfl)
  refine Ev.bin (Ev.list (Evs.one (Ev.convX _ (Ev.bin (Ev.name rfl) Ev.cint zR) (by rw[hSi]))) (Nat.le_of_ble_eq_true rfl)) Ev.cint (zJg (b:=3) (by decide) (by decide) (Nat.le_of_ble_eq_true rfl))
 ·rw[zKj];rfl
 exact Sx.retX _ (Ev.fnX [.int V,.int (v:Nat)] rfl (Evs.two (Ev.convX (.int ((Wn:Int)-far)) (Ev.bin (Ev.name rfl) (Ev.name rfl) zR) (by rw[hW,zNu])) (Ev.name rfl)) (f1.mono (by decide)))
end Wk
namespace Wk
open Builtin.Int
variable{prog:Program}{w:World}{W:Wd}
private theorem zGl(G:Gl prog w W)(C0:List Int)(c0 c1 c2:Nat)(hC:C0.length=3)(h0:C0.getD 0 0=c0)(h1:C0.getD 1 0=c1)(h2:C0.getD 2 0=c2)(b0:c0<2^30)(b1:c1<2^30)(b2:c2<2^30) :
  FunG prog w W 251 "_law_figures" [.list (zA C0)] (.list (zA zBh)):=by
 have g:∀{ρ:Rho} {p p' pos:Pos} {k:Nat} (j:Nat),j<3→ρ.lookup ("cells":Str)=some (.v (.list (zA C0)))→Ev prog w W k yS ρ (.Subscript (.Name "cells" p) (.Constant (.int (j:Nat)) 0 p') pos) (.int (C0.getD j 0)):=fun j hj hρ =>
  Ev.itemX (.list (zA C0)) (.int j) (Ev.name hρ) Ev.cint (yR rfl (by lia) (by lia))
 have h27:(2:Int)^27=134217728:=by decide
 have hi:c2%60<60:=Nat.mod_lt _ (by decide)
 have hj:c1%5<5:=Nat.mod_lt _ (by decide)
 have Fq:=figq _ hi
 have hv0:16≤16+c2%60:=Nat.le_add_right _ _
 have hv:16+c2%60<76:=Nat.add_lt_add_left hi 16
 have hw2:((16:Int)+(c2:Int).fmod 60)=((16+c2%60:Nat):Int):=by rw[show((c2:Int).fmod 60)=((c2%60:Nat):Int) from zP c2 60];rfl
 have hu2:((2600:Int)+(c1:Int).fmod 5)=((2600+c1%5:Nat):Int):=by rw[show((c1:Int).fmod 5)=((c1%5:Nat):Int) from zP c1 5];rfl
 obtain⟨u1,u2⟩:=zJ1 _ hj
 have eu:3^(2600+c1%5)=zB3 (c1%5):=by unfold zB3;rfl
 have ef:5^1800=farQ:=by unfold farQ;rfl
 have hfb:=zLq
 generalize c1%5=j at *
 generalize 16+c2%60=v at *
 have h4000:(2:Nat)^30<2^4000:=Nat.pow_lt_pow_right (by decide) (by decide)
 obtain⟨⟨hr,hr0⟩,hrc⟩:=zNa u1 b1 h4000
 have hS1:1<2^v:=Nat.lt_of_lt_of_le (by decide) (Nat.pow_le_pow_right (n:=2) (by decide) hv0)
 have hS2:2^v<2^76:=Nat.pow_lt_pow_right (by decide) hv
 have hpw:∀m,0<m→m≤36→1≤(2^v)^m∧(2^v)^m<2^2736:=fun m h1 h2=>by
  refine⟨Nat.pow_pos (Nat.two_pow_pos _),?_⟩
  rw[←Nat.pow_mul]
  refine Nat.pow_lt_pow_right (by decide) ?_
  have:v*m≤75*36:=Nat.mul_le_mul (by lia) h2
  lia
 have hlo:=Fq.lt
 have hlp:=Fq.pos
 have eq:=Fq.q
 refine FunG.of (names:=["cells"]) G.d_law_figures QU (fun _ _ _=>uC fun _=>rfl) (by decide) (by decide) ?_
 refine Sx.cons (Ex.setX (.int (v:Nat)) (Ev.convX (.int (16+(c2:Int).fmod 60)) (Ev.binX (.int 16) (.int ((c2:Int).fmod 60)) Ev.cint (Ev.binX (.int c2) (.int 60) (Ev.convX _ (g 2 (by decide) rfl) (by rw[h2])) Ev.cint (yM (by decide))) zH) (by rw[hw2])) (.inl rfl)) ?_
 refine Sx.cons (Ex.swap (ds:=[.int (2^v:Nat),.int (zB3 j:Nat),.int (farQ+c0:Nat)]) rfl (Ev.tuple (Evs.cons ?_ (Evs.cons ?_ (Evs.cons ?_ Evs.nil))) (Nat.le_of_ble_eq_true rfl)) (StoN.cons (.inl rfl) (StoN.cons (.inl rfl) (StoN.cons (.inl rfl) StoN.nil)))) ?_
 ·exact zPw (by lia) (Ev.name rfl)
 ·refine Ev.convX _ (Ev.binX (.int (3:Nat)) (.int (2600+j:Nat)) (Ev.conv Ev.cint rfl) (Ev.convX (.int (2600+(c1:Int).fmod 5)) (Ev.binX (.int 2600) (.int ((c1:Int).fmod 5)) Ev.cint (Ev.binX (.int c1) (.int 5) (Ev.convX _ (g 1 (by decide) rfl) (by rw[h1])) Ev.cint (yM (by decide))) zH) (by rw[hu2])) (qH (m:=2) (by decide) (by lia) (by decide) (by lia))) (by rw[eu])
 ·refine Ev.convX (.int ((farQ:Int)+c0)) (Ev.binX (.int (farQ:Nat)) (.int c0) (Ev.convX _ (Ev.binX (.int (5:Nat)) (.int (1800:Nat)) (Ev.conv Ev.cint rfl) (Ev.conv Ev.cint rfl) (qH (m:=3) (by decide) (by decide) (by decide) (by decide))) (by rw[ef])) (Ev.convX _ (g 0 (by decide) rfl) (by rw[h0])) zH) (by rw[←Int.natCast_add])
 have hf:farQ+c0<2^4300:=by
  exact zEy (kL hfb.2 (zEy b0 (by decide))) (by decide)
 have hF0:farQ+c0=farQ+c0:=rfl
 generalize farQ+c0=far at *
 have eS:∀{ρ:Rho} {p p' pos pos':Pos} {k n n':Nat} {p1:Pos} (m:Nat),0<m→m≤11→ρ.lookup ("size":Str)=some (.v (.int (2^v:Nat)))→Ev prog w W k yS ρ (.BinOp (.BinOp (.Name "size" p) .Pow (.Constant (.int (m:Nat)) n p') pos) .Sub (.Constant (.int 1) n' p1) pos') (.int ((2^v)^m-1:Nat)):=fun m hm hm2 h1 =>
  Ev.convX (.int (((2^v)^m:Nat)-1)) (Ev.bin (Ev.bin (Ev.name h1) Ev.cint (qH (m:=76) hS1 hm (yD hS2) (Nat.le_trans (Nat.mul_le_mul_left 76 hm2) (by decide)))) Ev.cint zR) (by rw[vW (hpw m hm (by lia)).1])
 have hq1:∀m,0<m→m≤36→(2^v)^m-1<2^20000:=fun m a b=>jQ (Nat.lt_of_le_of_lt (Nat.sub_le _ _) (hpw m a b).2) (by decide)
 have l1:2^v-1<2^100:=Nat.lt_of_le_of_lt (Nat.sub_le _ _) (Nat.lt_trans hS2 (Nat.pow_lt_pow_right (by decide) (by decide)))
 have m2:=Nat.mul_lt_mul'' l1 (Nat.lt_of_le_of_lt (Nat.sub_le _ 1) (hpw 5 (by decide) (by decide)).2)
 have m3:=Nat.mul_lt_mul'' m2 (Nat.lt_of_le_of_lt (Nat.sub_le _ 1) (hpw 7 (by decide) (by decide)).2)
 rw[←Nat.pow_add] at m2
 rw[←Nat.pow_add,←Nat.pow_add] at m3
 refine Sx.cons (Ex.setX (.int (loQ (2^v):Nat)) (Ev.convX (.int (((2^v-1:Nat):Int)*((2^v)^5-1:Nat)*((2^v)^7-1:Nat)*((2^v)^11-1:Nat))) (Ev.binX (.int (((2^v-1:Nat):Int)*((2^v)^5-1:Nat)*((2^v)^7-1:Nat))) (.int ((2^v)^11-1:Nat)) (Ev.binX (.int (((2^v-1:Nat):Int)*((2^v)^5-1:Nat))) (.int ((2^v)^7-1:Nat)) (Ev.binX (.int (2^v-1:Nat)) (.int ((2^v)^5-1:Nat)) (Ev.convX (.int ((2^v:Nat)-1)) (Ev.bin (Ev.name (by kernel_rfl)) Ev.cint zR) (by rw[vW (Nat.lt_of_succ_lt hS1)])) (eS 5 (by decide) (by decide) (by kernel_rfl)) (yO ?_)) (eS 7 (by decide) (by decide) (by kernel_rfl)) (yO ?_)) (eS 11 (by decide) (by decide) (by kernel_rfl)) (yO ?_)) (by unfold loQ;push_cast;rfl)) (.inl rfl)) ?_
 ·exact wK (jQ l1 (by decide)) (hq1 5 (by decide) (by decide))
 ·rw[←Int.natCast_mul];exact wK (jQ m2 (by decide)) (hq1 7 (by decide) (by decide))
 ·rw[←Int.natCast_mul,←Int.natCast_mul];exact wK (jQ m3 (by decide)) (hq1 11 (by decide) (by decide))
 refine Sx.cons (Ex.setX (.int (zB3 j-1-c1:Nat)) (Ev.convX (.int ((zB3 j:Int)-1-c1)) (Ev.binX (.int ((zB3 j:Int)-1)) (.int c1) (Ev.bin (Ev.name (by kernel_rfl)) Ev.cint zR) (Ev.convX _ (g 1 (by decide) (by kernel_rfl)) (by rw[h1])) zR) (by rw[hrc])) (.inl rfl)) ?_
 generalize zB3 j-1-c1=rest at *
 generalize zB3 j=U at *
 have hU0:0<U:=Nat.lt_of_le_of_lt (Nat.zero_le _) hr
 have e36:=hpw 36 (by decide) (by decide)
 obtain⟨d1,d2⟩:=zP8 ((2^v)^36) (loQ (2^v)) U far rest hlp hU0 hr
 rw[eq] at d1
 have eX:∀{ρ:Rho} {p p' pos:Pos} {k n:Nat},ρ.lookup ("size":Str)=some (.v (.int (2^v:Nat)))→Ev prog w W k yS ρ (.BinOp (.Name "size" p) .Pow (.Constant (.int 36) n p') pos) (.int ((2^v)^36:Nat)):=fun h1=>Ev.bin (Ev.name h1) (Ev.conv Ev.cint rfl) (qH (n:=36) (m:=76) hS1 (by decide) (yD hS2) (by decide))
 generalize (2^v)^36=X at *
 generalize loQ (2^v)=L at *
 have hB:L*U<2^6200:=by
  have:=Nat.mul_lt_mul'' hlo u2
  rwa [←Nat.pow_add] at this
 have hFL:far*L<2^6300:=by
  have:=Nat.mul_lt_mul'' hf hlo
  rwa [←Nat.pow_add] at this
 have hXF:X+far*L<2^6301:=by
  exact kL (zEy e36.2 (by decide)) hFL
 have hA:(X+far*L)*U+rest<2^13000:=by
  exact zEy (kL (zIk hXF u2) (zEy (Nat.lt_trans hr u2) (by decide))) (by decide)
 refine Sx.cons (Ex.setX (.int ((X+far*L)*U+rest:Nat)) (Ev.convX (.int (((X+far*L:Nat):Int)*U+rest)) (Ev.binX (.int (((X+far*L:Nat):Int)*U)) (.int rest) (Ev.binX (.int (X+far*L:Nat)) (.int U) (Ev.convX (.int ((X:Int)+(far:Int)*L)) (Ev.bin (eX (by kernel_rfl)) (Ev.binX (.int far) (.int L) (Ev.name (by kernel_rfl)) (Ev.name (by kernel_rfl)) (yO (wK (jQ hf (by decide)) (jQ hlo (by decide))))) zH) (by push_cast;rfl)) (Ev.name (by kernel_rfl)) (yO (wK (jQ hXF (by decide)) (jQ u2 (by decide))))) (Ev.name (by kernel_rfl)) zH) (by push_cast;rfl)) (.inl rfl)) ?_
 refine Sx.cons (Ex.augP (a:=.int L) (b:=.int U) (d:=.int (L*U:Nat)) (by kernel_rfl) (.inl rfl) (Ev.name (by kernel_rfl)) (by have:=zQ8 (prog:=prog) (w:=w) (W:=W) (wK (jQ hlo (by decide)) (jQ u2 (by decide)));rwa [←Int.natCast_mul] at this)) ?_
 have hBp:0<L*U:=Nat.mul_pos hlp hU0
 have hdm:=kX (prog:=prog) (w:=w) G 2 (((X+far*L)*U+rest:Nat):Int) ((L*U:Nat):Int) (by lia) (Nat.le_trans (yD hB) (by decide)) (Nat.le_trans (yD hB) (by decide)) (Nat.le_trans (yD hA) (by decide))
 rw[yJ,zP] at hdm
 have hdam:=Nat.div_add_mod ((X+far*L)*U+rest) (L*U)
 have hml:((X+far*L)*U+rest)%(L*U)<L*U:=Nat.mod_lt _ hBp
 have hmr:rest≤((X+far*L)*U+rest)%(L*U):=by rw[d2];exact Nat.le_add_left _ _
 generalize ((X+far*L)*U+rest)%(L*U)=Ln at *
 generalize ((X+far*L)*U+rest)/(L*U)=Wn at *
 generalize (X+far*L)*U+rest=A at *
 generalize L*U=B at *
 refine Sx.cons (Ex.setT (ds:=[]) (x:=.tuple [.int Wn,.int Ln]) (Ev.fnX [.int A,.int B] rfl (Evs.two (Ev.name (by kernel_rfl)) (Ev.name (by kernel_rfl))) (hdm.mono (by decide))) (Tgt.tuple zW (Tgts.cons (Tgt.local rfl) (Tgts.cons (Tgt.local rfl) Tgts.nil)))) ?_
 refine Sx.weakL (sx_ifs (unit:=U) G hv0 hv Fq hdam hmr hml hr0 hA (Nat.lt_trans hB (Nat.pow_lt_pow_right (by decide) (by decide))) d1) (Sub.cons ?_ (Sub.cons ?_ (Sub.cons ?_ (Sub.cons ?_ (Sub.cons ?_ (Sub.cons ?_ (Sub.cons ?_ (Sub.cons ?_ Sub.nil))))))))
 all_goals (kernel_rfl)
end Wk
namespace Wk
variable{prog:Program}{w:World}{W:Wd}
private theorem zCn{d:PyData}(h:SeqAt.shaped d=true):PyData.eqv d d=true:=SeqAt.eqv_refl d (SeqAt.canLay_of_shaped h)
private theorem zQh{l a b:Nat}(h:256≤l+a-b):(l:Int)+(a:Nat)-(b:Nat)≥256:=by lia
private theorem zJo{i n:Nat}(h:i<n-1):1+i<n∧i<n:=by lia
private theorem zNr(G:Gl prog w W){C0:List Int}{S:List Nat}{c2 n:Nat}{M:List Ent}(hM:LastOk M) :
  Sx prog w W (n+270) vB (lawR C0 S c2 [("rows",.v (.list (M.map rowL)))]) (((sBody zV).drop 15).take 1) (.next (lawR C0 S c2 [("rows",.v (.list (M.map rowL)))])):=by
 have h4:=hM.le
 have h0:=hM.pos
 have hc:(((M.length:Nat):Int)-1).toNat=M.length-1:=by lia
 refine Sx.one (Ex.conv (Ex.loop (ds:=zK 1 (((M.length:Nat):Int)-1).toNat) (fun i=>lawR C0 S c2 [("rows",.v (.list (M.map rowL)))]) (Sub.all (by kernel_rfl)) (Itr.range2 rfl G.b_range.1 G.b_range.2 Ev.cint (Ev.convX _ (Ev.buiX [.list (M.map rowL)] G.b_len rfl (Evs.one (Ev.name rfl)) (yX (by rw[List.length_map];lia))) (by rw[List.length_map])) (by lia) (by lia) (by lia) (by lia)) ?_) rfl)
 intro i d hd
 have hi:i<M.length-1:=by have:=(List.getElem?_eq_some_iff.mp hd).1;rwa [zD,hc] at this
 have hd':=zQ hd
 rw[show(1:Int)+(i:Int)=((1+i:Nat):Int) from rfl] at hd'
 subst hd'
 obtain⟨s1,s2⟩:=hM.step i hi
 have g1:(M.map rowL)[1+i]?=some (rowL (M.getD (1+i) nilE)):=zCh rowL nilE (zJo hi).1
 have g2:(M.map rowL)[i]?=some (rowL (M.getD i nilE)):=zCh rowL nilE (zJo hi).2
 have hl:(M.map rowL).length≤4:=by rw[List.length_map];exact h4
 unfold zKl at s2
 rw[decide_eq_true_eq] at s2
 refine⟨_,_,Tgt.local rfl,?_⟩
 generalize M.map rowL=Rs at *
 generalize M.getD (1+i) nilE=x at *
 generalize M.getD i nilE=y at *
 let R1:Rho:=lawR C0 S c2 [("rows",.v (.list Rs)),("k",.v (.int (1+i:Nat)))]
 have ek:∀{ρ:Rho} {p p' pos:Pos} {n:Nat},ρ.lookup ("rows":Str)=some (.v (.list Rs))→ρ.lookup ("k":Str)=some (.v (.int (1+i:Nat)))→Ev prog w W n vB ρ (.Subscript (.Name "rows" p) (.Name "k" p') pos) (rowL x):=fun {ρ p p' pos n} h1 h2 =>
  Ev.itemX (.list Rs) (.int (1+i:Nat)) (Ev.name h1) (Ev.name h2) (jE g1 (Nat.le_trans hl (by decide)))
 have ej:∀{ρ:Rho} {p p' p2 pos pos':Pos} {n m:Nat},ρ.lookup ("rows":Str)=some (.v (.list Rs))→ρ.lookup ("k":Str)=some (.v (.int (1+i:Nat)))→Ev prog w W n vB ρ (.Subscript (.Name "rows" p) (.BinOp (.Name "k" p') .Sub (.Constant (.int 1) m p2) pos) pos') (rowL y):=fun {ρ p p' p2 pos pos' n m} h1 h2 =>
  Ev.itemX (.list Rs) (.int (i:Nat)) (Ev.name h1) (Ev.convX _ (Ev.bin (Ev.name h2) Ev.cint zR) (by congr 1;lia)) (jE g2 (Nat.le_trans hl (by decide)))
 have tz:∀a:Nat,(((a%3:Nat):Int)==0)=(a%3==0):=fun a=>by rw[Bool.eq_iff_iff,beq_iff_eq,beq_iff_eq];lia
 obtain⟨lst,hlst⟩:∃z:Nat,z=bif x.1%3==0&&y.1%3==0 then 250 else 253:=⟨_,rfl⟩
 rw[←hlst] at s2
 refine Sx.consX (lawR C0 S c2 [("rows",.v (.list Rs)),("k",.v (.int (1+i:Nat))),("least",.v (.int (lst:Nat)))]) (Ex.conv (Ex.setX (.int (lst:Nat)) (Ev.convX _ (Ev.iteX (x.1%3==0&&y.1%3==0) (.int 250) (.int 253) (Tr.convX ((((x.1%3:Nat):Int)==0)&&((((y.1%3:Nat):Int)==0)&&true)) (Tr.and (Tr.val (Ev.fnX [.int (x.1%3:Nat)] rfl (Evs.one (Ev.itemX (rowL x) (.int 1) (ek rfl rfl) Ev.cint it1)) ((zG4 G _).mono (by lia))) wL) fun _=>Tr.and (Tr.val (Ev.fnX [.int (y.1%3:Nat)] rfl (Evs.one (Ev.itemX (rowL y) (.int 1) (ej rfl rfl) Ev.cint it1)) ((zG4 G _).mono (by lia))) wL) fun _=>Tr.and_nil) (by rw[tz,tz,Bool.and_true])) (fun _=>Ev.cint) (fun _=>Ev.cint)) (by rw[hlst];cases x.1%3==0&&y.1%3==0 <;> rfl)) (.inl rfl)) rfl) ?_
 refine Sx.ifskipX _ ?_ (Tr.cmpX (k:=n+260) (.bool (decide ((lst:Int)+(x.1:Nat)-(y.1:Nat)≥256))) (.bool true) (Ev.fnX [.int ((lst:Int)+(x.1:Nat)-(y.1:Nat))] rfl (Evs.one (Ev.binX (.int ((lst:Int)+(x.1:Nat))) (.int (y.1:Nat)) (Ev.binX (.int lst) (.int (x.1:Nat)) (Ev.name rfl) (Ev.itemX (rowL x) (.int 0) (ek rfl rfl) Ev.cint it0) zH) (Ev.itemX (rowL y) (.int 0) (ej rfl rfl) Ev.cint it0) zR)) ((xA G _).mono (by lia))) Ev.cbool zA4) ?_
 ·rw[decide_eq_true (zQh s2)];rfl
 exact Sx.weakR Sx.nil (Sub.all (by kernel_rfl))
noncomputable def outF(d:PyData):List PyData:=match d with | .int j=>[outD ((djN j.toNat:Int),ltN j.toNat)] | _=>[]
private theorem zI5:∀S:List Nat,(xX S).flatMap outF=(S.map fun j=>((djN j:Int),ltN j)).map outD
 | []=>rfl
 | j::S=>by rw[show xX (j::S)=.int (j:Nat)::xX S from rfl,List.flatMap_cons,zI5 S];rfl
private theorem zMj{S:List Nat}{i:Nat}{d:PyData}(h:(xX S)[i]?=some d):∃j,j∈S∧d=.int (j:Nat):=by
 unfold xX zA at h
 rw[List.map_map,List.getElem?_map] at h
 cases e:S[i]? with
 | none=>rw[e] at h;cases h
 | some c=>rw[e] at h;cases h;exact⟨c,List.mem_of_getElem? e,rfl⟩
private theorem sx_end(G:Gl prog w W){C0:List Int}{n c0 c1 c2 k:Nat}(hC:C0.length=3)(h0:C0.getD 0 0=(c0:Nat))(h1:C0.getD 1 0=(c1:Nat))(h2:C0.getD 2 0=(c2:Nat))(b0:c0<2^30)(b1:c1<2^30)(b2:c2<2^30)(hn:n<255) :
  Sx prog w W (k+270) vB (lawR C0 (zM (n+1)) c2 [("rows",.v (.list ((zGd (n+1)).map rowL)))]) ((sBody zV).drop 16) (.ret (.bool true)):=by
 have h24:sizeLine=16777216:=by decide
 have hM:=zGs hn
 have hbk:=zNy (prog:=prog) (w:=w) G hC h0 h1 h2 b0 b1 b2 hM.le (fun e he=>by have:=(zD9 (hM.good e he) 0).d1;lia) (zPy n hn)
 rw[zP3 n hn] at hbk
 have hSj:=zDe (n+1)
 have hS8:=qY (n+1)
 generalize zM (n+1)=S at *
 generalize zGd (n+1)=M at *
 have hsh:SeqAt.shaped (.list ((S.map fun j=>((djN j:Int),ltN j)).map outD))=true:=zIt fun x hx=>by
  obtain⟨j,_,rfl⟩:=List.mem_map.mp hx
  exact zKv j
 have hfg:=zGl (prog:=prog) (w:=w) G C0 c0 c1 c2 hC h0 h1 h2 b0 b1 b2
 have hff:=zI5 S
 have hfl:((S.map fun j=>((djN j:Int),ltN j)).map outD).length≤8:=by rw[List.length_map,List.length_map];exact hS8
 generalize (S.map fun j=>((djN j:Int),ltN j)).map outD=Os at *
 refine Sx.ifskipX _ ?_ (Tr.cmpX (k:=k+260) (.list Os) (.list Os) (Ev.fnX [.list (M.map rowL),.list (zA C0)] rfl (Evs.two (Ev.name rfl) (Ev.name rfl)) (hbk.mono (by lia))) (EvN.ev (EvN.conv (EvN.comp (ds:=xX S) [] (Itr.list (Ev.name rfl)) ⟨by decide,rfl,by decide,by decide⟩ Caps.nil (CL.of outF rfl zJ ?_) ?_) hff)) (jK hsh hsh)) ?_
 ·rw[zCn hsh];rfl
 ·intro i d hd
  obtain⟨j,hj,rfl⟩:=zMj hd
  have hw:=hSj j hj
  obtain⟨_,g2,_⟩:=vZ _ hw
  have hsz:(3:Int)*((j:Nat):Int).fdiv 2+1+((j:Nat):Int).fmod 2=((djN j:Nat):Int):=by
   rw[show((j:Nat):Int).fdiv 2=((j/2:Nat):Int) from yJ j 2,show((j:Nat):Int).fmod 2=((j%2:Nat):Int) from zP j 2];unfold djN;lia
  refine⟨_,true,Tgt.local rfl,Ifs.nil,Sub.nil,fun hb=>?_,fun hb=>nomatch hb⟩
  have e1:outF (.int (j:Nat))=[.tuple [.int (djN j:Nat),.str ⟨#[ltN j]⟩]]:=rfl
  rw[e1]
  refine Emit.last rfl (yN zJ) (Ev.tuple (Evs.two (Ev.convX _ (Ev.binX (.int (3*((j:Nat):Int).fdiv 2+1)) (.int (((j:Nat):Int).fmod 2)) (Ev.binX (.int (3*((j:Nat):Int).fdiv 2)) (.int 1) (Ev.binX (.int 3) (.int (((j:Nat):Int).fdiv 2)) Ev.cint (Ev.binX (.int (j:Nat)) (.int 2) (Ev.name (by kernel_rfl)) Ev.cint (vH (by decide) (PyProof.noPylong_of_log2 (by decide +kernel)))) (yO (.of_left (by decide)))) Ev.cint zH) (Ev.binX (.int (j:Nat)) (.int 2) (Ev.name (by kernel_rfl)) Ev.cint (yM (by decide))) zH) (by rw[hsz])) (Ev.itemX (.str "hprstmwb") (.int (j:Nat)) Ev.cstr (Ev.name (by kernel_rfl)) (zAr j _ rfl g2 (by decide)))) (Nat.le_of_ble_eq_true rfl))
 ·rw[hff];lia
 have hst:=qJ zBh
 refine Sx.retX _ (Ev.convX _ (Ev.cmpX (k:=k+260) (.list (zA zBh)) (.list (zA zBh)) (Ev.fnX [.list (zA C0)] rfl (Evs.one (Ev.name rfl)) (hfg.mono (by lia))) (Ev.fnG0 rfl ((zKf G).mono (by lia))) (zK2 hst hst)) (by rw[zCn hst]))
end Wk
namespace Wk
variable{prog:Program}{w:World}{W:Wd}
noncomputable def zFo:List Int:=[172,100,1000]
private theorem zF0(ns:List Int):∀i,∀j,j<3→zFo.getD j 0≤(zL ns i).getD j 0∧(zL ns i).getD j 0≤1000+1000000*(i:Int)
  | 0, j, hj => by
    have h:∀j,j<3→zFo.getD j 0≤1000:=by decide
    have:=h j hj
    show _≤zFo.getD j 0∧zFo.getD j 0≤_
    lia
  | i + 1, j, hj => by
    obtain⟨h1,h2⟩:=zF0 ns i j hj
    have hl:=xB ns i
    have hm0:0≤(ns.getD i 0).fmod 1000000:=Int.fmod_nonneg_of_pos _ (by decide)
    have hm1:(ns.getD i 0).fmod 1000000<1000000:=Int.fmod_lt_of_pos _ (by decide)
    rw[zL]
    by_cases e:i%3=j
    · have:((zL ns i).set (i%3) ((zL ns i).getD (i%3) 0+(ns.getD i 0).fmod 1000000)).getD j 0=(zL ns i).getD j 0+(ns.getD i 0).fmod 1000000:=by
        rw[List.getD_eq_getElem?_getD,List.getElem?_set,if_pos e,if_pos (by lia),e];rfl
      rw[this];push_cast;lia
    · have:((zL ns i).set (i%3) ((zL ns i).getD (i%3) 0+(ns.getD i 0).fmod 1000000)).getD j 0=(zL ns i).getD j 0:=by
        rw[List.getD_eq_getElem?_getD,List.getElem?_set,if_neg e,List.getD_eq_getElem?_getD]
      rw[this];push_cast;lia
private theorem zJv{n:Nat}(hn:n<255):(zG6 (wF (entF (n+1)))).length=(entF (n+1)).length:=by
 obtain⟨_,_,c,_⟩:=zGe (zGx n hn)
 unfold zG6 zNl
 rw[List.length_map,c]
 unfold kG wF
 rw[List.length_map,List.length_map,List.length_range]
private theorem zPd{n:Nat}(hn:n<255)(c2:Nat):((perF (kG (wF (entF (n+1))))).toList.map fun i=>((wF (entF (n+1))).map (leD c2)).getD i .none)=(zG6 (wF (entF (n+1)))).map (leD c2):=by
 obtain⟨_,_,_,d⟩:=zGe (zGx n hn)
 refine zOd c2 _ _ fun i hi=>?_
 have:=d i hi
 unfold kG at this
 rwa [List.length_map] at this
private theorem key_at{c2:Nat}{L:List Ent}{i:Nat}{d:PyData}(h:(L.map (leD c2))[i]?=some d):∃r,d=.tuple [.int ((kG L).getD i 0),r]:=by
 obtain⟨e,he,hi,_,rfl⟩:=zHf h
 refine⟨.str ⟨#[nmC c2 e]⟩,?_⟩
 have:(kG L).getD i 0=(e.1:Int):=by
  unfold kG
  rw[he,List.getD_eq_getElem?_getD,List.getElem?_map,List.getD_eq_getElem?_getD,List.getElem?_eq_getElem hi];rfl
 rw[this];rfl
private theorem zPc(G:Gl prog w W)(ns:List Int)(hn:ns.length≤63){c0 c1 c2 k:Nat}(hC:(zL ns ns.length).length=3)(h0:(zL ns ns.length).getD 0 0=(c0:Nat))(h1:(zL ns ns.length).getD 1 0=(c1:Nat))(h2:(zL ns ns.length).getD 2 0=(c2:Nat))(b0:0<c0)(b1:0<c1)(b2:0<c2) :
  Sx prog w W (k+270) vB (yI ["script"] [.list (zA ns)]) ((sBody zV).take 11) (.next (lawR (zL ns ns.length) (zM (c0%255+1)) c2 [("left",.v (.list ((wF (entF (c0%255+1))).map (leD c2))))])):=by
 have hcl:=zJd (prog:=prog) (w:=w) G ns hn
 generalize zL ns ns.length=C0 at *
 have hm:c0%255<255:=Nat.mod_lt _ (by decide)
 have hS0:0<(zM (c0%255+1)).length:=by
  have:=zK8 _ hm
  unfold zQ9 at this
  simp only[Bool.and_eq_true,Bool.not_eq_true',List.isEmpty_eq_false_iff] at this
  exact List.length_pos_iff.mpr this.1.1
 have e:(sBody zV).take 11=(sBody zV).take 1++(((sBody zV).drop 1).take 7++(((sBody zV).drop 8).take 1++((sBody zV).drop 9).take 2)):=by kernel_rfl
 rw[e]
 refine Sx.append (ρ':=[("cells",.v (.list (zA C0)))]) (Sx.one (Ex.weakR (Ex.setX (.list (zA C0)) (Ev.fnX [.list (zA ns)] rfl (Evs.cons (Ev.name rfl) Evs.nil) (hcl.mono (by lia))) (.inr rfl)) (Sub.cons rfl Sub.nil))) ?_
 refine Sx.append (zPz G hC h0 h1 h2 b0 b1 b2) ?_
 exact Sx.append (zMe G hm hS0) (zP4 G hC h2 hm)
private theorem zPf(G:Gl prog w W){C0:List Int}{c0 c1 c2 n k:Nat}(hC:C0.length=3)(h0:C0.getD 0 0=(c0:Nat))(h1:C0.getD 1 0=(c1:Nat))(h2:C0.getD 2 0=(c2:Nat))(b0:c0<2^30)(b1:c1<2^30)(b2:c2<2^30)(hn:n<255) :
  Sx prog w W (k+270) vB (lawR C0 (zM (n+1)) c2 [("left",.v (.list ((zG6 (wF (entF (n+1)))).map (leD c2))))]) ((sBody zV).drop 12) (.ret (.bool true)):=by
 have hE:=zK4 hn
 have hl:=zJv hn
 have e:(sBody zV).drop 12=((sBody zV).drop 12).take 1++(((sBody zV).drop 13).take 2++(((sBody zV).drop 15).take 1++(sBody zV).drop 16)):=by kernel_rfl
 rw[e]
 refine Sx.append (zP6 G hC h2 (by rw[hl];exact hE.pos) (by rw[hl];exact hE.le) (zPt n hn)) ?_
 refine Sx.append (zQo G (zGs hn)) ?_
 exact Sx.append (zNr G (zGs hn)) (sx_end G hC h0 h1 h2 b0 b1 b2 hn)
private theorem zQb(G:Gl prog w W)(ns:List Int)(hn:ns.length≤63):FunG prog w W 274 "law" [.list (zA ns)] (.bool true):=by
 have hC:=xB ns ns.length
 have hb:∀j,j<3→zFo.getD j 0≤(zL ns ns.length).getD j 0∧(zL ns ns.length).getD j 0≤1000+1000000*63:=fun j hj=>by have:=zF0 ns ns.length j hj;lia
 have h30:(2:Nat)^30=1073741824:=by decide
 obtain⟨a0,a1⟩:=hb 0 (by decide)
 obtain⟨a2,a3⟩:=hb 1 (by decide)
 obtain⟨a4,a5⟩:=hb 2 (by decide)
 have a0':(172:Int)≤(zL ns ns.length).getD 0 0:=a0
 have a2':(100:Int)≤(zL ns ns.length).getD 1 0:=a2
 have a4':(1000:Int)≤(zL ns ns.length).getD 2 0:=a4
 obtain⟨c0,h0⟩:∃c:Nat,(zL ns ns.length).getD 0 0=c:=⟨((zL ns ns.length).getD 0 0).toNat,by lia⟩
 obtain⟨c1,h1⟩:∃c:Nat,(zL ns ns.length).getD 1 0=c:=⟨((zL ns ns.length).getD 1 0).toNat,by lia⟩
 obtain⟨c2,h2⟩:∃c:Nat,(zL ns ns.length).getD 2 0=c:=⟨((zL ns ns.length).getD 2 0).toNat,by lia⟩
 have hm:c0%255<255:=Nat.mod_lt _ (by decide)
 have hA:=zPc (prog:=prog) (w:=w) (k:=3) G ns hn hC h0 h1 h2 (by lia) (by lia) (by lia)
 generalize zL ns ns.length=C0 at *
 have hB:=zPf (prog:=prog) (w:=w) (k:=3) G hC h0 h1 h2 (by lia) (by lia) (by lia) hm
 have hp:=zJu hm c2
 have hso:=zPd hm c2
 have hE:=zK4 hm
 have htl:((wF (entF (c0%255+1))).map (leD c2)).length≤4:=by
  unfold wF;rw[List.length_map,List.length_map,List.length_range];exact hE.le
 have hka:=fun (i:Nat) (d:PyData) (h:((wF (entF (c0%255+1))).map (leD c2))[i]?=some d)=>key_at h
 rw[←hso] at hB
 generalize zM (c0%255+1)=S at *
 generalize kG (wF (entF (c0%255+1)))=ks at *
 generalize (wF (entF (c0%255+1))).map (leD c2)=ds at *
 refine FunG.ofE (names:=["script"]) G.n_lam zHc (fun _ _ _=>uC fun _=>rfl) (by decide) (by decide) ?_
 intro c P q N hq hline hcol A s₀ X₀ env X s E R hsc hcode hqual x
 have hK:env.scope.names=vB:=by rw[hsc];exact zHc
 rw[show sBody zV=(sBody zV).take 11++(sBody zV).drop 11 from (List.take_append_drop 11 _).symm]
 refine qP (wpAny_mono (hA.run A s₀ X₀ env X s _ R hK x) (fun f s₁ hf=>?_) fun _ _ h=>h)
 obtain⟨rfl,X₁,x₁,g₁⟩:=hf
 refine wpAny_execs_cons (x₁.sortK (K:=vB) (k:=270) (z:="entry") (ks:=ks) (pm:=perF ks) (ds:=ds) hK R N hcode (by rw[hqual,hq];rfl) hline hcol rfl rfl rfl rfl (by lia) hp G.b_sorted rfl (fun _ _ _ _=>rfl) rfl (by decide) rfl rfl rfl (fun i d hd=>?_) fun s₂ x₂ g₂=>?_)
 ·obtain⟨r,rfl⟩:=hka i d hd
  exact Ev.itemX (.tuple [.int (ks.getD i 0),r]) (.int 0) (Ev.name rfl) Ev.cint it0
 ·refine wpAny_mono (hB.run A s₀ X₀ env X₁ s₂ _ R hK x₂) (fun f s₃ hf=>?_) fun _ _ h=>h
  obtain⟨v,rfl,hv,he⟩:=hf
  exact⟨v,rfl,hv,he⟩
end Wk
namespace Wk
noncomputable def lawD:DefRec:=⟨"law",sArgs zV,sBody zV,sScope zV,sPos zV⟩
private theorem law_def:defOf q2 "law"=some (lawD,[]):=by kernel_rfl
private theorem zPa:pg.theDef "law"=some (lawD.params,lawD.body,lawD.scope):=by kernel_rfl
private theorem law_kw:kwWritten? lawD.params.kwonlyargs lawD.params.kw_defaults=some []:=by kernel_rfl
private theorem zK9{X:Addr→Prop}{h:Heap}:∀{vs:List Value} {ns:List Int},IntsAre vs ns→RdAll X h vs (zA ns)
 | _,_,.nil=>.nil
 | _,_,.cons n t r=>.cons (.int n t) (zK9 r)
private theorem walk:WalkO q2 loose (fun _ _=>True) (InK Kf) Mine.lawR.toRowW lawD [] fun f vs=>PySem.call f vs:=by
  intro w s₀ s₁ mg mb G y a o pm cd doc dV kV ho hd hcd hD hm hg args vals as hpre hlay hrd hwl hlo
  wrow_args hpre hlay hrd hwl hlo
  rename_i ns _ _ _ _ _ _ _ l us _ hL _ hwell _ hI _ hlen _
  have hlen':ns.length≤63:=by lia
  have hli:s₁.heap.get? l=some {cls:=.type "list",data:=.seq us.toArray}:=by
    have hw:Well w.params s₁.heap (.ref l) (.list (ofPys (ns.map PyData.int))):=by simpa [ofPy] using hwell
    cases hw with
    | list hl _ =>
      obtain⟨o',ho',_,n',hd'⟩:=hL
      rw[hl] at ho';cases ho'
      obtain⟨e,_⟩:=Data.seq.inj hd'
      rw[hl,e]
  let W:Wd:=Wof y G.T.g G.T.b G.T.nolimit
  have hgl:Gl pg w W:=gl_of y G.T.g G.T.b G.T.nolimit G.T.builtins G.T.bmain
  have inv:W.Inv s₁.heap:=⟨fun b o _ e=>e,fun q hq=>by
    unfold uW at hq
    simp only[List.mem_cons,List.not_mem_nil,or_false] at hq
    rcases hq with rfl|rfl|rfl
    · exact⟨#[],y 71 _ (by kernel_rfl),.inl rfl⟩
    · exact⟨#[],y 78 _ (by kernel_rfl),.inl rfl⟩
    · exact⟨#[],y 272 _ (by kernel_rfl),.inl rfl⟩⟩
  have hrd:RdAll W.Ts s₁.heap [.ref l] [.list (zA ns)]:=by
    refine .cons (.list (fun ht=>?_) ⟨_,hli⟩ (zK9 hI)) .nil
    obtain⟨o',h1,h2⟩:=W.inv_Ts _ _ inv ht
    rw[hli] at h1;cases h1;cases h2
  obtain⟨a',ha',_,hf⟩:=zQb (prog:=pg) (w:=w) hgl ns hlen'
  have hmm:W.mg "law"=some (.ref a):=hm
  rw[hmm] at ha';cases ha'
  have hcall:=hf callerA W.Ts s₁ [.ref l] (fun e s'=>GoodWG Mine.lawR.claim (classAt s₀.heap) (ExcName.means s₀.heap) [ofPy (PyData.list (ns.map PyData.int))] s₁ (.error e) s') ⟨rfl,by decide,by decide⟩ inv (fun _ h=>h) (fun b hb=>(W.inv_Ts _ _ inv hb).imp fun _ h=>h.1) hrd
  refine wpAny_mono hcall (fun v s' ⟨hv,hx⟩=>?_) fun _ _ h=>h
  obtain⟨_,rfl⟩:=Rd.v hv
  have hpost:Mine.lawR.toRowW.claim.post [ofPy (PyData.list (ns.map PyData.int))] (.bool true) [ofPy (PyData.list (ns.map PyData.int))]=true:=postW_of (by wrow_shape) (by wtm_val) (by w_fin)
  obtain⟨h',tk,rfl,hk,inv'⟩:=hx
  refine⟨.inl ⟨_,.bool true,[],rfl,raisesW_false (by wrow_none_raised),.bool true,hpost,fun _=>⟨.nil,fun _ ha=>nomatch ha⟩⟩,⟨fun b o ho=>?_,fun b o ho=>?_⟩,rfl,.of_eq hg⟩
  · by_cases hb:W.Ts b
    · obtain⟨q,hq,rfl⟩:=hb
      right;left
      have hq2:=inv'.2 q hq
      unfold uW at hq
      simp only[List.mem_cons,List.not_mem_nil,or_false] at hq
      rcases hq with rfl|rfl|rfl
      · obtain⟨ps,hp,_⟩:=hq2
        have:=y 71 (o71 w.params) (by kernel_rfl)
        rw[this] at ho;cases ho
        exact⟨⟨75,o75 w.params,_,y 75 (o75 w.params) (by kernel_rfl),rfl,rfl,rfl⟩,rfl,#[],ps,rfl,by rw[Array.empty_append];exact hp⟩
      · obtain⟨ps,hp,_⟩:=hq2
        have:=y 78 (o78 w.params) (by kernel_rfl)
        rw[this] at ho;cases ho
        exact⟨⟨82,o82 w.params,_,y 82 (o82 w.params) (by kernel_rfl),rfl,rfl,rfl⟩,rfl,#[],ps,rfl,by rw[Array.empty_append];exact hp⟩
      · obtain⟨ps,hp,_⟩:=hq2
        have:=y 272 (o272 w.params) (by kernel_rfl)
        rw[this] at ho;cases ho
        exact⟨⟨274,o274 w.params,_,y 274 (o274 w.params) (by kernel_rfl),rfl,rfl,rfl⟩,rfl,#[],ps,rfl,by rw[Array.empty_append];exact hp⟩
    · exact .inl (hk b o hb ho)
  · by_cases hb:W.Ts b
    · obtain⟨q,hq,rfl⟩:=hb
      obtain⟨ps,hp,_⟩:=inv'.2 q hq
      exact⟨_,hp⟩
    · exact⟨o,hk b o hb ho⟩
private theorem holds:PySem.Challenge.rw_we0034_01.Holds:=head3 law_def zPa law_kw walk
end Wk
end
end
set_option maxRecDepth 100000 in
set_option maxHeartbeats 8000000 in
theorem PySem.Challenge.cw_we0034_01_holds : PySem.Challenge.rw_we0034_01.Holds :=
  Wk.holds
