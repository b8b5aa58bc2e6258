import PyProof.Rows.All
import PyProof.WalkLemmas
import PyProof.CodeObjX
import PyProof.EnumIter
import PyProof.ExcFactsAll.TypeError
import PyProof.JoinWalk
import PyProof.ListNew
import PyProof.Rows.GenRowsK
import PyProof.StrLawsTight
import OpenK.KDescr
import OpenK.KMake
import KE.KLam
import KE.KFromBytes
import OpenK.KOwn
import KE.KSortKey
import KE.KSortAsk
import KE.KSuperObj
import Wide.FinOn
import OpenK.AllK
import Wide.All
import Lean
import PySem.Challenge.RW_in0266_01
set_option Elab.async false
set_option maxRecDepth 100000
set_option linter.all false
set_option maxHeartbeats 8000000
set_option tactic.hygienic false
set_option compiler.extract_closed false
set_option genSizeOfSpec false
namespace Mine.Internal
universe u v
theorem x02{p q:Prop}{P:Prop}(h:p/\q)(f:p->q->P):P:=f h.1 h.2
theorem x03{p q r:Prop}{P:Prop}(h:p/\q/\r)(f:p->q->r->P):P:=x02 h λa r=>x02 r (f a)
theorem y03{p q r:Prop}(h1:p)(h2:q)(h3:r):p/\q/\r:=⟨h1,h2,h3⟩
theorem x04{p q r s:Prop}{P:Prop}(h:p/\q/\r/\s)(f:p->q->r->s->P):P:=x02 h λa r=>x03 r (f a)
theorem y04{p q r s:Prop}(h1:p)(h2:q)(h3:r)(h4:s):p/\q/\r/\s:=⟨h1,y03 h2 h3 h4⟩
theorem x05{p q r s t:Prop}{P:Prop}(h:p/\q/\r/\s/\t)(f:p->q->r->s->t->P):P:=x02 h λa r=>x04 r (f a)
theorem y05{p q r s t:Prop}(h1:p)(h2:q)(h3:r)(h4:s)(h5:t):p/\q/\r/\s/\t:=⟨h1,y04 h2 h3 h4 h5⟩
theorem x06{p q r s t u:Prop}{P:Prop}(h:p/\q/\r/\s/\t/\u)(f:p->q->r->s->t->u->P):P:=x02 h λa r=>x05 r (f a)
theorem y06{p q r s t u:Prop}(h1:p)(h2:q)(h3:r)(h4:s)(h5:t)(h6:u):p/\q/\r/\s/\t/\u:=⟨h1,y05 h2 h3 h4 h5 h6⟩
theorem x07{p q r s t u v:Prop}{P:Prop}(h:p/\q/\r/\s/\t/\u/\v)(f:p->q->r->s->t->u->v->P):P:=x02 h λa r=>x06 r (f a)
theorem y07{p q r s t u v:Prop}(h1:p)(h2:q)(h3:r)(h4:s)(h5:t)(h6:u)(h7:v):p/\q/\r/\s/\t/\u/\v:=⟨h1,y06 h2 h3 h4 h5 h6 h7⟩
theorem x08{p q r s t u v w:Prop}{P:Prop}(h:p/\q/\r/\s/\t/\u/\v/\w)(f:p->q->r->s->t->u->v->w->P):P:=x02 h λa r=>x07 r (f a)
theorem y08{p q r s t u v w:Prop}(h1:p)(h2:q)(h3:r)(h4:s)(h5:t)(h6:u)(h7:v)(h8:w):p/\q/\r/\s/\t/\u/\v/\w:=⟨h1,y07 h2 h3 h4 h5 h6 h7 h8⟩
theorem x09{p q r s t u v w z:Prop}{P:Prop}(h:p/\q/\r/\s/\t/\u/\v/\w/\z)(f:p->q->r->s->t->u->v->w->z->P):P:=x02 h λa r=>x08 r (f a)
theorem y09{p q r s t u v w z:Prop}(h1:p)(h2:q)(h3:r)(h4:s)(h5:t)(h6:u)(h7:v)(h8:w)(h9:z):p/\q/\r/\s/\t/\u/\v/\w/\z:=⟨h1,y08 h2 h3 h4 h5 h6 h7 h8 h9⟩
theorem x11{p:A->Prop}{P:Prop}(h:∃a,p a)(f:∀a,p a->P):P:=Exists.elim h f
theorem x12{p q:A->Prop}{P:Prop}(h:∃a,p a/\q a)(f:∀a,p a->q a->P):P:=Exists.elim h λa r=>x02 r (f a)
theorem y12{p q:A->Prop}(a:A)(h1:p a)(h2:q a):∃a,p a/\q a:=⟨a,h1,h2⟩
theorem x13{p q r:A->Prop}{P:Prop}(h:∃a,p a/\q a/\r a)(f:∀a,p a->q a->r a->P):P:=Exists.elim h λa r=>x03 r (f a)
theorem y13{p q r:A->Prop}(a:A)(h1:p a)(h2:q a)(h3:r a):∃a,p a/\q a/\r a:=⟨a,y03 h1 h2 h3⟩
theorem x14{p q r s:A->Prop}{P:Prop}(h:∃a,p a/\q a/\r a/\s a)(f:∀a,p a->q a->r a->s a->P):P:=Exists.elim h λa r=>x04 r (f a)
theorem y14{p q r s:A->Prop}(a:A)(h1:p a)(h2:q a)(h3:r a)(h4:s a):∃a,p a/\q a/\r a/\s a:=⟨a,y04 h1 h2 h3 h4⟩
theorem x15{p q r s t:A->Prop}{P:Prop}(h:∃a,p a/\q a/\r a/\s a/\t a)(f:∀a,p a->q a->r a->s a->t a->P):P:=Exists.elim h λa r=>x05 r (f a)
theorem y15{p q r s t:A->Prop}(a:A)(h1:p a)(h2:q a)(h3:r a)(h4:s a)(h5:t a):∃a,p a/\q a/\r a/\s a/\t a:=⟨a,y05 h1 h2 h3 h4 h5⟩
theorem x16{p q r s t u:A->Prop}{P:Prop}(h:∃a,p a/\q a/\r a/\s a/\t a/\u a)(f:∀a,p a->q a->r a->s a->t a->u a->P):P:=Exists.elim h λa r=>x06 r (f a)
theorem y16{p q r s t u:A->Prop}(a:A)(h1:p a)(h2:q a)(h3:r a)(h4:s a)(h5:t a)(h6:u a):∃a,p a/\q a/\r a/\s a/\t a/\u a:=⟨a,y06 h1 h2 h3 h4 h5 h6⟩
theorem x17{p q r s t u v:A->Prop}{P:Prop}(h:∃a,p a/\q a/\r a/\s a/\t a/\u a/\v a)(f:∀a,p a->q a->r a->s a->t a->u a->v a->P):P:=Exists.elim h λa r=>x07 r (f a)
theorem y17{p q r s t u v:A->Prop}(a:A)(h1:p a)(h2:q a)(h3:r a)(h4:s a)(h5:t a)(h6:u a)(h7:v a):∃a,p a/\q a/\r a/\s a/\t a/\u a/\v a:=⟨a,y07 h1 h2 h3 h4 h5 h6 h7⟩
theorem x21{p:A->B->Prop}{P:Prop}(h:∃a b,p a b)(f:∀a b,p a b->P):P:=Exists.elim h λa r=>x11 r (f a)
theorem y21{p:A->B->Prop}(a:A)(b:B)(h1:p a b):∃a b,p a b:=⟨a,b,h1⟩
theorem x22{p q:A->B->Prop}{P:Prop}(h:∃a b,p a b/\q a b)(f:∀a b,p a b->q a b->P):P:=Exists.elim h λa r=>x12 r (f a)
theorem y22{p q:A->B->Prop}(a:A)(b:B)(h1:p a b)(h2:q a b):∃a b,p a b/\q a b:=⟨a,y12 b h1 h2⟩
theorem x23{p q r:A->B->Prop}{P:Prop}(h:∃a b,p a b/\q a b/\r a b)(f:∀a b,p a b->q a b->r a b->P):P:=Exists.elim h λa r=>x13 r (f a)
theorem y23{p q r:A->B->Prop}(a:A)(b:B)(h1:p a b)(h2:q a b)(h3:r a b):∃a b,p a b/\q a b/\r a b:=⟨a,y13 b h1 h2 h3⟩
theorem x24{p q r s:A->B->Prop}{P:Prop}(h:∃a b,p a b/\q a b/\r a b/\s a b)(f:∀a b,p a b->q a b->r a b->s a b->P):P:=Exists.elim h λa r=>x14 r (f a)
theorem y24{p q r s:A->B->Prop}(a:A)(b:B)(h1:p a b)(h2:q a b)(h3:r a b)(h4:s a b):∃a b,p a b/\q a b/\r a b/\s a b:=⟨a,y14 b h1 h2 h3 h4⟩
theorem x25{p q r s t:A->B->Prop}{P:Prop}(h:∃a b,p a b/\q a b/\r a b/\s a b/\t a b)(f:∀a b,p a b->q a b->r a b->s a b->t a b->P):P:=Exists.elim h λa r=>x15 r (f a)
theorem y25{p q r s t:A->B->Prop}(a:A)(b:B)(h1:p a b)(h2:q a b)(h3:r a b)(h4:s a b)(h5:t a b):∃a b,p a b/\q a b/\r a b/\s a b/\t a b:=⟨a,y15 b h1 h2 h3 h4 h5⟩
theorem x26{p q r s t u:A->B->Prop}{P:Prop}(h:∃a b,p a b/\q a b/\r a b/\s a b/\t a b/\u a b)(f:∀a b,p a b->q a b->r a b->s a b->t a b->u a b->P):P:=Exists.elim h λa r=>x16 r (f a)
theorem y26{p q r s t u:A->B->Prop}(a:A)(b:B)(h1:p a b)(h2:q a b)(h3:r a b)(h4:s a b)(h5:t a b)(h6:u a b):∃a b,p a b/\q a b/\r a b/\s a b/\t a b/\u a b:=⟨a,y16 b h1 h2 h3 h4 h5 h6⟩
theorem x27{p q r s t u v:A->B->Prop}{P:Prop}(h:∃a b,p a b/\q a b/\r a b/\s a b/\t a b/\u a b/\v a b)(f:∀a b,p a b->q a b->r a b->s a b->t a b->u a b->v a b->P):P:=Exists.elim h λa r=>x17 r (f a)
theorem y27{p q r s t u v:A->B->Prop}(a:A)(b:B)(h1:p a b)(h2:q a b)(h3:r a b)(h4:s a b)(h5:t a b)(h6:u a b)(h7:v a b):∃a b,p a b/\q a b/\r a b/\s a b/\t a b/\u a b/\v a b:=⟨a,y17 b h1 h2 h3 h4 h5 h6 h7⟩
theorem x31{p:A->B->C->Prop}{P:Prop}(h:∃a b c,p a b c)(f:∀a b c,p a b c->P):P:=Exists.elim h λa r=>x21 r (f a)
theorem y31{p:A->B->C->Prop}(a:A)(b:B)(c:C)(h1:p a b c):∃a b c,p a b c:=⟨a,y21 b c h1⟩
theorem x32{p q:A->B->C->Prop}{P:Prop}(h:∃a b c,p a b c/\q a b c)(f:∀a b c,p a b c->q a b c->P):P:=Exists.elim h λa r=>x22 r (f a)
theorem y32{p q:A->B->C->Prop}(a:A)(b:B)(c:C)(h1:p a b c)(h2:q a b c):∃a b c,p a b c/\q a b c:=⟨a,y22 b c h1 h2⟩
theorem x33{p q r:A->B->C->Prop}{P:Prop}(h:∃a b c,p a b c/\q a b c/\r a b c)(f:∀a b c,p a b c->q a b c->r a b c->P):P:=Exists.elim h λa r=>x23 r (f a)
theorem x34{p q r s:A->B->C->Prop}{P:Prop}(h:∃a b c,p a b c/\q a b c/\r a b c/\s a b c)(f:∀a b c,p a b c->q a b c->r a b c->s a b c->P):P:=Exists.elim h λa r=>x24 r (f a)
theorem y34{p q r s:A->B->C->Prop}(a:A)(b:B)(c:C)(h1:p a b c)(h2:q a b c)(h3:r a b c)(h4:s a b c):∃a b c,p a b c/\q a b c/\r a b c/\s a b c:=⟨a,y24 b c h1 h2 h3 h4⟩
theorem x35{p q r s t:A->B->C->Prop}{P:Prop}(h:∃a b c,p a b c/\q a b c/\r a b c/\s a b c/\t a b c)(f:∀a b c,p a b c->q a b c->r a b c->s a b c->t a b c->P):P:=Exists.elim h λa r=>x25 r (f a)
theorem x36{p q r s t u:A->B->C->Prop}{P:Prop}(h:∃a b c,p a b c/\q a b c/\r a b c/\s a b c/\t a b c/\u a b c)(f:∀a b c,p a b c->q a b c->r a b c->s a b c->t a b c->u a b c->P):P:=Exists.elim h λa r=>x26 r (f a)
theorem y36{p q r s t u:A->B->C->Prop}(a:A)(b:B)(c:C)(h1:p a b c)(h2:q a b c)(h3:r a b c)(h4:s a b c)(h5:t a b c)(h6:u a b c):∃a b c,p a b c/\q a b c/\r a b c/\s a b c/\t a b c/\u a b c:=⟨a,y26 b c h1 h2 h3 h4 h5 h6⟩
theorem x41{p:A->B->C->D->Prop}{P:Prop}(h:∃a b c d,p a b c d)(f:∀a b c d,p a b c d->P):P:=Exists.elim h λa r=>x31 r (f a)
theorem y41{p:A->B->C->D->Prop}(a:A)(b:B)(c:C)(d:D)(h1:p a b c d):∃a b c d,p a b c d:=⟨a,y31 b c d h1⟩
theorem x42{p q:A->B->C->D->Prop}{P:Prop}(h:∃a b c d,p a b c d/\q a b c d)(f:∀a b c d,p a b c d->q a b c d->P):P:=Exists.elim h λa r=>x32 r (f a)
theorem x43{p q r:A->B->C->D->Prop}{P:Prop}(h:∃a b c d,p a b c d/\q a b c d/\r a b c d)(f:∀a b c d,p a b c d->q a b c d->r a b c d->P):P:=Exists.elim h λa r=>x33 r (f a)
theorem x44{p q r s:A->B->C->D->Prop}{P:Prop}(h:∃a b c d,p a b c d/\q a b c d/\r a b c d/\s a b c d)(f:∀a b c d,p a b c d->q a b c d->r a b c d->s a b c d->P):P:=Exists.elim h λa r=>x34 r (f a)
theorem y44{p q r s:A->B->C->D->Prop}(a:A)(b:B)(c:C)(d:D)(h1:p a b c d)(h2:q a b c d)(h3:r a b c d)(h4:s a b c d):∃a b c d,p a b c d/\q a b c d/\r a b c d/\s a b c d:=⟨a,y34 b c d h1 h2 h3 h4⟩
theorem x45{p q r s t:A->B->C->D->Prop}{P:Prop}(h:∃a b c d,p a b c d/\q a b c d/\r a b c d/\s a b c d/\t a b c d)(f:∀a b c d,p a b c d->q a b c d->r a b c d->s a b c d->t a b c d->P):P:=Exists.elim h λa r=>x35 r (f a)
theorem x51{p:A->B->C->D->E->Prop}{P:Prop}(h:∃a b c d e,p a b c d e)(f:∀a b c d e,p a b c d e->P):P:=Exists.elim h λa r=>x41 r (f a)
theorem y51{p:A->B->C->D->E->Prop}(a:A)(b:B)(c:C)(d:D)(e:E)(h1:p a b c d e):∃a b c d e,p a b c d e:=⟨a,y41 b c d e h1⟩
theorem x52{p q:A->B->C->D->E->Prop}{P:Prop}(h:∃a b c d e,p a b c d e/\q a b c d e)(f:∀a b c d e,p a b c d e->q a b c d e->P):P:=Exists.elim h λa r=>x42 r (f a)
theorem x54{p q r s:A->B->C->D->E->Prop}{P:Prop}(h:∃a b c d e,p a b c d e/\q a b c d e/\r a b c d e/\s a b c d e)(f:∀a b c d e,p a b c d e->q a b c d e->r a b c d e->s a b c d e->P):P:=Exists.elim h λa r=>x44 r (f a)
theorem y54{p q r s:A->B->C->D->E->Prop}(a:A)(b:B)(c:C)(d:D)(e:E)(h1:p a b c d e)(h2:q a b c d e)(h3:r a b c d e)(h4:s a b c d e):∃a b c d e,p a b c d e/\q a b c d e/\r a b c d e/\s a b c d e:=⟨a,y44 b c d e h1 h2 h3 h4⟩
theorem x61{p:A->B->C->D->E->F->Prop}{P:Prop}(h:∃a b c d e f,p a b c d e f)(f:∀a b c d e f,p a b c d e f->P):P:=Exists.elim h λa r=>x51 r (f a)
theorem x62{p q:A->B->C->D->E->F->Prop}{P:Prop}(h:∃a b c d e f,p a b c d e f/\q a b c d e f)(f:∀a b c d e f,p a b c d e f->q a b c d e f->P):P:=Exists.elim h λa r=>x52 r (f a)
theorem x71{p:A->B->C->D->E->F->G->Prop}{P:Prop}(h:∃a b c d e f g,p a b c d e f g)(f:∀a b c d e f g,p a b c d e f g->P):P:=Exists.elim h λa r=>x61 r (f a)
theorem someE{α:Type u}{a b:α}{P:Prop}(h:some a=some b)(f:a=b->P):P:=f (Option.some.inj h)
theorem someNo{α:Type u}{a:α}{P:Prop}(h:some a=none):P:=nomatch h
theorem noSome{α:Type u}{a:α}{P:Prop}(h:none=some a):P:=nomatch h
theorem refE{a b:PySem.Addr}{P:Prop}(h:PySem.Value.ref a=PySem.Value.ref b)(f:a=b->P):P:=f (PySem.Value.ref.inj h)
theorem pairE{α:Type u}{β:Type v}{a b:α}{c d:β}{P:Prop}(h:(a,c)=(b,d))(f:a=b->c=d->P):P:=f (Prod.mk.inj h).1 (Prod.mk.inj h).2
theorem consE{α:Type u}{a b:α}{c d:List α}{P:Prop}(h:a::c=b::d)(f:a=b->c=d->P):P:=f (List.cons.inj h).1 (List.cons.inj h).2
theorem tfNo{P:Prop}(h:true=false):P:=nomatch h
theorem ftNo{P:Prop}(h:false=true):P:=nomatch h
@[elab_as_elim] theorem rwl {α:Sort u} {a b:α} {motive:α->Prop} (e:a=b) (h:motive b):motive a:=e▸h
@[elab_as_elim] theorem rwr {α:Sort u} {a b:α} {motive:α->Prop} (e:b=a) (h:motive b):motive a:=e▸h
section
open Lean
def Nw:List (String×String):=[("{","( a( ( ( ("),("}",")N )TtacticSeq1Indented )TtacticSeq a) )Tparen"),("[","( ( ("),("]",")N )TtacticSeq1Indented )TtacticSeq"),("|","( a| ( ( ("),(".",")N )TtacticSeq1Indented )TtacticSeq )Kgroup"),("_","( a_ )Ehole"),("?","( a? a_ )EsyntheticHole"),("<","( ( a( ( h )KhygieneInfo )EhygienicLParen"),(">","a) )Eparen"),(";","a;"),("R","? )N )Eapp )Trefine ; ( aclear ( $0 )N )Tclear ; ( aintro"),("Q",")Eexplicit ("),("C","} . | { ( ainjection $0 ( awith ( ihx1"),("X",")N )Eapp"),("Y","( arefine ("),("Z","( )N"),("B","_ $0 X )Texact . | ( aexact ( ( a@"),("D",")N )N )Tinjection ; $2")]
def Nx(a:Array Syntax)(st:List (Array Syntax))(t:String):List (Array Syntax):=
 match st,t.toList with
 |f::r,'('::_=>#[]::f::r
 |f::g::r,')'::k::l=>g.push (.node .none (((if k=='T' then "Lean.Parser.Tactic." else if k=='E' then "Lean.Parser.Term." else if k=='N' then "null" else "")++String.ofList l).toName) f)::r
 |f::r,'a'::l=>f.push (.atom .none (String.ofList l))::r
 |f::r,'i'::l=>f.push (mkIdent (String.ofList l).toName)::r
 |f::r,'$'::k::_=>f.push (a.getD (k.toNat-48) .missing)::r
 |f::r,'*'::k::_=>(f++(a.getD (k.toNat-48) .missing).getArgs)::r
 |f::r,'h'::_=>f.push (mkIdent .anonymous)::r
 |_,_=>st
def mMp{α β:Type}(f:α->β)(l:List α):List β:=l.map f
def mFd{α β:Type}(f:β->α->β)(b:β)(l:List α):β:=l.foldl f b
def mT(s:String)(a:Array Syntax):Syntax:=
 let x (t:String):=((Nw.lookup t).getD t).splitOn " "
 ((mFd (λst t=>mFd (λst t=>mFd (Nx a) st (x t)) st (x t)) [#[]] (s.splitOn " ")).headD #[]).getD 0 .missing
def mL(l:List Syntax):Syntax:= .node .none `null l.toArray
def mH(n:Nat):Syntax:=mL (List.replicate n (mT "_" #[]))
def mI(s:String):Syntax:=mkIdent s.toName
def mF(a r:Syntax):Syntax:=mT "( afirst ( | $0 . | $1 . )N )Tfirst" #[a,r]
def mS(l:List Syntax):Syntax:=mT "{ *0 }" #[mL (l.intersperse (.atom .none ";"))]
def mSk:Syntax:=mT "( askip )Tskip" #[]
def mCl(h:Syntax):Syntax:=if h.isIdent then mT "( atry [ ( aclear ( $0 )N )Tclear ] )TtacticTry_" #[h] else mSk
def mOt(es:Array Syntax)(h:Syntax):Syntax:=mT "( aobtain ( ( ( ( a⟨ ( *0 )N a⟩ )TrcasesPat.tuple )N )TrcasesPatMed )N Z ( a:= ( $1 )N )N )Tobtain" #[mL es.toList,h]
def mMd(l:List Syntax):Syntax:=mT "( $0 )TrcasesPatMed" #[mL l]
def mEl(m:Syntax)(i:Nat):Syntax×Syntax:=
 let x:=mI ("r"++toString i++"x")
 let q:=m[0][0]
 let k:=if m[0].getNumArgs==1 then q.getKind else .anonymous
 if k==`Lean.Parser.Tactic.rcasesPat.one then
  if q[0].getId==`rfl then(x,mT "( asubst ( $0 )N )Tsubst" #[x]) else(q[0],mSk)
 else if k==`Lean.Parser.Tactic.rcasesPat.ignore then(mT "_" #[],mSk)
 else(x,mT "( arcases ( ( Z $0 )TelimTarget )N ( awith ( $1 Z )TrcasesPatLo )N )Trcases" #[x,m])
def mAl(h:Syntax)(es:Array Syntax)(el:List (Syntax×Syntax))(r:Syntax)(ck:Nat×Nat):Syntax:=
 let y:=mI "r8y"
 let b:=el.take ck.1++(if ck.1<el.length then [(y,mOt (es.extract (2*ck.1) es.size) y)] else [])
 mF (mT "{ Y ( a@ $0 Q *1 $2 ? X )Trefine ; $3 ; ( aintro ( *4 )N )Tintro ; $5 }" #[mI ("Mine.Internal.x"++toString ck.2++toString (b.length-ck.2)),mH (b.length+1),h,mCl h,mL (mMp Prod.fst b),mS (mMp Prod.snd b)]) r
def mRc(h m:Syntax):Option Syntax:=
 let al:=m[0].getArgs
 let fall:=mT "( arcases ( ( Z < $0 > )TelimTarget )N ( awith ( $1 Z )TrcasesPatLo )N )Trcases" #[h,m]
 if al.size==1 then
  let q:=al.getD 0 .missing
  let es:=q[1].getArgs
  let n:=(es.size+1)/2
  if q.getKind != `Lean.Parser.Tactic.rcasesPat.tuple||n<2 then none
  else if 9<n then
   let y:=mI "r8y"
   some (mS [mOt ((es.extract 0 14).push (mT "( $0 Z )TrcasesPatLo" #[mMd [mT "( $0 )TrcasesPat.one" #[y]]])) h,mOt (es.extract 14 es.size) y])
  else
   let el:=mMp (λi=>mEl (es.getD (2*i) .missing)[0] (i+1)) (List.range n)
   some (mFd (λr c=>mFd (λr k=>mAl h es el r (c,k)) r (if c==n then(List.range (min n 8)).reverse else if c<2||c+1==n then [] else List.range (min c 3))) fall (List.range (n+1)))
 else
  let a:=mEl (mMd [al.getD 0 .missing]) 9
  let b:=mEl (mMd (al.toList.drop 2)) 9
  let f (a:Syntax×Syntax):=mS [mT "( aintro ( $0 )N )Tintro" #[a.1],a.2]
  some (mF (mT "{ Y ( a@ iOr.elim Q _ _ _ $0 ? ? X )Trefine ; $1 ; $2 ; ( arotate_left Z )TrotateLeft ; $1 ; $3 ; ( arotate_right Z )TrotateRight }" #[h,mCl h,f a,f b]) fall)
def mAc(w:String)(s:Syntax):Option Syntax:=
 let a:=s[1][1].getSepArgs.toList
 let n:=a.length
 if s[1].getKind != `Lean.Parser.Term.anonymousCtor||n<3||9<n then none else
 some (mFd (λr k=>mF (mT ("{ ( afail_if_success [ ( afail_if_success [ ( awith_reducible [ Y ( a@ $0 Q *1 *2 X )Trefine ] )TwithReducible ] )TfailIfSuccess ] )TfailIfSuccess ; ( a"++w++" ( ( a@ $0 Q *1 *3 X )T"++w++" }") #[mI ("Mine.Internal.y"++toString k++toString (n-k)),mH n,mL (List.replicate n (mT "?" #[])),mL a]) r) (mT ("( a"++w++" < $0 > )T"++w) #[s[1]]) (List.range (min n 8)).reverse)
def mRw(s:Syntax):Option Syntax:=
 if s[1][0].getNumArgs != 0||s[3].getNumArgs != 0 then none else
 some (mS (mMp (λr=>
  let w:="Y iMine.Internal.rw"++(if r[0].getNumArgs==0 then "l" else "r")++" ( "
  mT ("( afirst ( | "++w++"$0 ? X )Trefine . | "++w++"< ( $0 ( ( a.. )Eellipsis X > ? X )Trefine . | ( arewrite ( Z )ToptConfig ( a[ ( $1 )N a] )TrwRuleSeq Z )TrewriteSeq . )N )Tfirst") #[r[1],r]) s[2][1].getSepArgs.toList++[mT "( atry [ ( awith_reducible [ ( arfl )TtacticRfl ] )TwithReducible ] )TtacticTry_" #[]]))
def mCa(x:Syntax):Syntax:=mT "( acases ( ( Z $0 )TelimTarget )N Z Z )Tcases" #[x]
def mCs(h:Syntax):Syntax:=mT "( afirst ( | { { ( afail_if_success ( ( ( { ( ahave ( Z )EletConfig ( ( ( ihx0 )EletId Z Z a:= ( iEq.symm ( $0 X )EletIdDecl )EletDecl )TtacticHave__ } ] )TfailIfSuccess } ; ( acases ( ( Z < $0 > )TelimTarget )N Z Z )Tcases } . | ( asubst ( $0 )N )Tsubst . | ( aexact ( ( a@ iMine.Internal.noSome Q _ _ B iMine.Internal.someNo Q _ _ B iMine.Internal.tfNo Q B iMine.Internal.ftNo Q _ $0 X )Texact . | { Y ( a@ iMine.Internal.someE Q _ _ _ _ $0 R ( $0 )N )Tintro ; $1 } . | { Y ( a@ iMine.Internal.refE Q _ _ _ $0 R ( $0 )N )Tintro ; $1 } . | { Y ( a@ iMine.Internal.pairE Q _ _ _ _ _ _ _ $0 R ( $0 ihx2 )N )Tintro ; $1 ; $3 } . | { Y ( a@ iMine.Internal.consE Q _ _ _ _ _ _ $0 R ( $0 ihx2 )N )Tintro ; $1 ; $3 C ihx2 ihx3 ihx4 D ; $3 ; $4 ; $5 C ihx2 ihx3 D ; $3 ; $4 C ihx2 D ; $3 C D } . | { { ( ainjection $0 Z )Tinjection } ; ( adone )Tdone } . | ( acases ( ( Z < $0 > )TelimTarget )N Z Z )Tcases . )N )Tfirst" #[h,mCa h,mCa (mI "hx1"),mCa (mI "hx2"),mCa (mI "hx3"),mCa (mI "hx4")]
def mEx(s:Syntax):Option Syntax:=
 let xs:=s[1].getSepArgs
 let n:=xs.size
 let w (z:String) (x:Syntax):Syntax:=mT ("< ( iMine.Internal."++z++" ( $0 X >") #[x]
 let gs:=mMp (λi=>
  let k:=if i+1<n then i else n-2
  let x:=mFd (λx z=>w z x) (w "cex" (mT "_" #[])) (List.replicate (k/5) "zt"++List.replicate (k%5) "zs")
  mT "( ageneralize ( ( Z $0 a= $1 )TgeneralizeArg )N Z )Tgeneralize" #[if n==1 then x else mT ("( iProd."++(if i+1<n then "fst" else "snd")++" ( $0 X") #[x],xs.getD i .missing]) (List.range n)
 let ne:=mFd (λr k=>mF (mT ("( aexact iMine.Internal.nn"++k++" )Texact") #[]) r) (mF (mT "( ainfer_instance )TtacticInfer_instance" #[]) (mT "Y iMine.Internal.nnX ( ? ? X )Trefine" #[])) ("0 1 2 3 4 5 6 7 8 9 a b c".splitOn " ")
 some (mT "{ ( arevert ( *0 )N )Trevert ; ( aapply $1 )Tapply ; ( acase ( ( ( ii )KLean.binderIdent Z )TcaseArg )N a=> [ ( arepeat' [ $3 ] )Trepeat' ] )Tcase ; $2 ; ( aset_option itactic.hygienic Z afalse ain [ ( aintros Z )Tintros ] )Tset_option }" #[mL xs.toList,mI ("Mine.Internal.e"++toString n),mS gs,ne])
def mRv(n:String)(l:List Syntax):Option Syntax:=some (mT ("{ ( arevert ( $0 )N )Trevert ; Y iMine.Internal."++n++" ( ( afun ( ( *1 )N Z a=> ? )EbasicFun )Efun X )Trefine }") #[l.getLast?.getD .missing,mL l])
def mQ(o:Option Syntax):MacroM Syntax:=match o with|some x=>pure x|none=>Macro.throwUnsupported
end
section
open PySem PySem.Calls PyProof.Rows PySem.W
section
variable {M:Model}{A:Around}{E:Value->Shared->Prop}{s:Shared}{α:Type}
theorem wpF{b:Bool}{x y:Sem α}{Q:α->Shared->Prop}(hb:b=false)(h:wpAny M A y Q E s):wpAny M A (if b=true then x else y) Q E s:=by rw[if_neg (by rw[hb];decide)];exact h
theorem wpT{b:Bool}{x y:Sem α}{Q:α->Shared->Prop}(hb:b=true)(h:wpAny M A x Q E s):wpAny M A (if b=true then x else y) Q E s:=by rw[if_pos hb];exact h
theorem nz{α:Type}{x y:Sem α}{Q:α->Shared->Prop}{s:Shared}(e:x=y)(q:wpAny M A y Q E s):wpAny M A x Q E s:=e▸q
end
theorem L5{M:Model}{A:Around}{E:Value->Shared->Prop}{s:Shared}{α β:Type}{b:β}{f:α->β->Sem (ForInStep β)}{Q:β->Shared->Prop}(h:Q b s):wpAny M A (forIn ([]:List α) b f) Q E s:=by rw[List.forIn_nil];exact wpAny_pure h
theorem J5{M:Model}{A:Around}{E:Value->Shared->Prop}{s:Shared}{α β:Type}{x:α}{l:List α}{b:β}{f:α->β->Sem (ForInStep β)}{Q:β->Shared->Prop}
  (h:wpAny M A (f x b) (λr s'=>match r with| .done b'=>Q b' s'| .yield b'=>wpAny M A (forIn l b' f) Q E s') E s):wpAny M A (forIn (x::l) b f) Q E s:=by
 rw[List.forIn_cons];refine wpAny_bind (wpAny_mono h (λr s' h'=>?_) λ_ _ e=>e);cases r with
 |done b'=>exact wpAny_pure h'
 |yield b'=>exact h'
theorem nA{M:Model}{A:Around}{E:Value->Shared->Prop}{s:Shared}{α β:Type}{x:α}{b:β}{f:α->β->Sem (ForInStep β)}{Q:β->Shared->Prop}
  (h:wpAny M A (f x b) (λr s'=>match r with| .done b'=>Q b' s'| .yield b'=>Q b' s') E s):wpAny M A (forIn [x] b f) Q E s:=
 J5 (wpAny_mono h (λr s' h'=>by cases r with|done b'=>exact h'|yield b'=>exact L5 h') λ_ _ e=>e)
theorem forA{M:Model}{A:Around}{E:Value->Shared->Prop}{s:Shared}{α β:Type}{b:β}{f:α->β->Sem (ForInStep β)}{Q:β->Shared->Prop}{l:List α}(h:wpAny M A (forIn l b f) Q E s):wpAny M A (forIn l.toArray b f) Q E s:=by rw[List.forIn_toArray];exact h
section
variable {M:Model}{A:Around}{E:Value->Shared->Prop}{s:Shared}
theorem L6{α β:Type}{x:α}{c:Array α}{b:β}{f:α->β->Sem (ForInStep β)}{Q:β->Shared->Prop}(e:c=#[x])
  (h:wpAny M A (f x b) (λr s'=>match r with| .done b'=>Q b' s'| .yield b'=>Q b' s') E s):wpAny M A (forIn c b f) Q E s:=by
 subst e;rw[List.forIn_toArray];exact nA h
end
end
end Mine.Internal
namespace Mine.Internal
open PySem PySem.Calls PyProof.Rows PySem.W
section
variable {α β:Type}{P:Prop}{y:β}
theorem bdE{o:Option α}{f:α->Option β}(k:∀a,o=some a->f a=some y->P)(h:o.bind f=some y):P:=by
 cases o with
 |none=>exact @noSome _ _ _ h
 |some a=>exact k a rfl h
theorem mpE{o:Option α}{f:α->β}(k:∀a,o=some a->f a=y->P)(h:o.map f=some y):P:=by
 cases o with
 |none=>exact @noSome _ _ _ h
 |some a=>exact k a rfl (Option.some.inj h)
theorem eiE{c:Prop}[Decidable c]{x z:Option β}(k1:c->x=some y->P)(k2:¬c->z=some y->P)(h:(if c then x else z)=some y):P:=by
 by_cases hc:c
 ·exact k1 hc ((if_pos hc).symm.trans h)
 ·exact k2 hc ((if_neg hc).symm.trans h)
theorem ifP{c:Prop}[Decidable c]{x:Option β}(k:c->x=some y->P)(h:(if c then x else none)=some y):P:=eiE k (λ_ h=>@noSome _ _ _ h) h
theorem ifN{c:Prop}[Decidable c]{x:Option β}(k:¬c->x=some y->P)(h:(if c then none else x)=some y):P:=eiE (λ_ h=>@noSome _ _ _ h) k h
end
noncomputable def L7{α β:Type}(M:Model)(A:Around)(f:α->Sem β)(Q:β->Shared->Prop)(E:Value->Shared->Prop):α->Shared->Prop:=λa s=>wpAny M A (f a) Q E s
theorem wpB{α β:Type}{M:Model}{A:Around}{x:Sem α}{f:α->Sem β}{Q:β->Shared->Prop}{E:Value->Shared->Prop}{s:Shared}(h:wpAny M A x (L7 M A f Q E) E s):wpAny M A (x>>=f) Q E s:=wpAny_bind h
theorem nnX{A B:Type}(a:Nonempty A)(b:Nonempty B):Nonempty (A×B):=a.elim λa=>b.elim λb=>⟨(a,b)⟩
theorem nn0:Nonempty Drawn:=⟨{}⟩
theorem nn1:Nonempty Around:=⟨{}⟩
theorem nn2:Nonempty Params:=⟨{strHash:=default,shareClass:=default,mergeTok:=default,idOf:=default,idOfShared:=default,followText:=default,idOfImm:=default}⟩
theorem nn3:Nonempty World:=⟨⟨λ_ _=>0,Classical.choice nn2⟩⟩
theorem nn4:Nonempty Shared:=⟨⟨default,#[],{},0,default⟩⟩
theorem nn5:Nonempty Model:=⟨model default (Classical.choice nn3)⟩
noncomputable def cex{T:Type}{i:Nonempty T}(P:T->Prop):T:=@Classical.epsilon T i λx=>¬P x
theorem ji{T:Type}{i:Nonempty T}{P:T->Prop}(k:P (@cex T i P))(x:T):P x:=Classical.byContradiction λhn=>@Classical.epsilon_spec T (λx=>¬P x) ⟨x,hn⟩ k
noncomputable abbrev zs{A B:Type}(x:A×B):B:=x.2
noncomputable abbrev zt{A B C D E F:Type}(x:A×B×C×D×E×F):F:=x.2.2.2.2.2
noncomputable abbrev zf{A B:Type}(x:A×B):A:=x.1
theorem e1{A:Type}{i:Nonempty (A)}{P:A->Prop}(k:(λx=>P x) (@cex _ i λx=>P x)):∀a,P a:=λa=>ji (P:=λx=>P x) k a
theorem e2{A B:Type}{i:Nonempty (A×B)}{P:A->B->Prop}(k:(λx=>P x.1 x.2) (@cex _ i λx=>P x.1 x.2)):∀a b,P a b:=λa b=>ji (P:=λx=>P x.1 x.2) k (a,b)
theorem e3{A B C:Type}{i:Nonempty (A×B×C)}{P:A->B->C->Prop}(k:(λx=>P x.1 x.2.1 x.2.2) (@cex _ i λx=>P x.1 x.2.1 x.2.2)):∀a b c,P a b c:=λa b c=>ji (P:=λx=>P x.1 x.2.1 x.2.2) k (a,b,c)
theorem e4{A B C D:Type}{i:Nonempty (A×B×C×D)}{P:A->B->C->D->Prop}(k:(λx=>P x.1 x.2.1 x.2.2.1 x.2.2.2) (@cex _ i λx=>P x.1 x.2.1 x.2.2.1 x.2.2.2)):∀a b c d,P a b c d:=λa b c d=>ji (P:=λx=>P x.1 x.2.1 x.2.2.1 x.2.2.2) k (a,b,c,d)
theorem e5{A B C D E:Type}{i:Nonempty (A×B×C×D×E)}{P:A->B->C->D->E->Prop}(k:(λx=>P x.1 x.2.1 x.2.2.1 x.2.2.2.1 x.2.2.2.2) (@cex _ i λx=>P x.1 x.2.1 x.2.2.1 x.2.2.2.1 x.2.2.2.2)):∀a b c d e,P a b c d e:=λa b c d e=>ji (P:=λx=>P x.1 x.2.1 x.2.2.1 x.2.2.2.1 x.2.2.2.2) k (a,b,c,d,e)
theorem e6{A B C D E F:Type}{i:Nonempty (A×B×C×D×E×F)}{P:A->B->C->D->E->F->Prop}(k:(λx=>P x.1 x.2.1 x.2.2.1 x.2.2.2.1 x.2.2.2.2.1 x.2.2.2.2.2) (@cex _ i λx=>P x.1 x.2.1 x.2.2.1 x.2.2.2.1 x.2.2.2.2.1 x.2.2.2.2.2)):∀a b c d e f,P a b c d e f:=λa b c d e f=>ji (P:=λx=>P x.1 x.2.1 x.2.2.1 x.2.2.2.1 x.2.2.2.2.1 x.2.2.2.2.2) k (a,b,c,d,e,f)
theorem e7{A B C D E F G:Type}{i:Nonempty (A×B×C×D×E×F×G)}{P:A->B->C->D->E->F->G->Prop}(k:(λx=>P x.1 x.2.1 x.2.2.1 x.2.2.2.1 x.2.2.2.2.1 x.2.2.2.2.2.1 x.2.2.2.2.2.2) (@cex _ i λx=>P x.1 x.2.1 x.2.2.1 x.2.2.2.1 x.2.2.2.2.1 x.2.2.2.2.2.1 x.2.2.2.2.2.2)):∀a b c d e f g,P a b c d e f g:=λa b c d e f g=>ji (P:=λx=>P x.1 x.2.1 x.2.2.1 x.2.2.2.1 x.2.2.2.2.1 x.2.2.2.2.2.1 x.2.2.2.2.2.2) k (a,b,c,d,e,f,g)
theorem e8{A B C D E F G H:Type}{i:Nonempty (A×B×C×D×E×F×G×H)}{P:A->B->C->D->E->F->G->H->Prop}(k:(λx=>P x.1 x.2.1 x.2.2.1 x.2.2.2.1 x.2.2.2.2.1 x.2.2.2.2.2.1 x.2.2.2.2.2.2.1 x.2.2.2.2.2.2.2) (@cex _ i λx=>P x.1 x.2.1 x.2.2.1 x.2.2.2.1 x.2.2.2.2.1 x.2.2.2.2.2.1 x.2.2.2.2.2.2.1 x.2.2.2.2.2.2.2)):∀a b c d e f g h,P a b c d e f g h:=λa b c d e f g h=>ji (P:=λx=>P x.1 x.2.1 x.2.2.1 x.2.2.2.1 x.2.2.2.2.1 x.2.2.2.2.2.1 x.2.2.2.2.2.2.1 x.2.2.2.2.2.2.2) k (a,b,c,d,e,f,g,h)
theorem e10{A B C D E F G H I J:Type}{i:Nonempty (A×B×C×D×E×F×G×H×I×J)}{P:A->B->C->D->E->F->G->H->I->J->Prop}(k:(λx=>P x.1 x.2.1 x.2.2.1 x.2.2.2.1 x.2.2.2.2.1 x.2.2.2.2.2.1 x.2.2.2.2.2.2.1 x.2.2.2.2.2.2.2.1 x.2.2.2.2.2.2.2.2.1 x.2.2.2.2.2.2.2.2.2) (@cex _ i λx=>P x.1 x.2.1 x.2.2.1 x.2.2.2.1 x.2.2.2.2.1 x.2.2.2.2.2.1 x.2.2.2.2.2.2.1 x.2.2.2.2.2.2.2.1 x.2.2.2.2.2.2.2.2.1 x.2.2.2.2.2.2.2.2.2)):∀a b c d e f g h j l,P a b c d e f g h j l:=λa b c d e f g h j l=>ji (P:=λx=>P x.1 x.2.1 x.2.2.1 x.2.2.2.1 x.2.2.2.2.1 x.2.2.2.2.2.1 x.2.2.2.2.2.2.1 x.2.2.2.2.2.2.2.1 x.2.2.2.2.2.2.2.2.1 x.2.2.2.2.2.2.2.2.2) k (a,b,c,d,e,f,g,h,j,l)
theorem e11{A B C D E F G H I J K:Type}{i:Nonempty (A×B×C×D×E×F×G×H×I×J×K)}{P:A->B->C->D->E->F->G->H->I->J->K->Prop}(k:(λx=>P x.1 x.2.1 x.2.2.1 x.2.2.2.1 x.2.2.2.2.1 x.2.2.2.2.2.1 x.2.2.2.2.2.2.1 x.2.2.2.2.2.2.2.1 x.2.2.2.2.2.2.2.2.1 x.2.2.2.2.2.2.2.2.2.1 x.2.2.2.2.2.2.2.2.2.2) (@cex _ i λx=>P x.1 x.2.1 x.2.2.1 x.2.2.2.1 x.2.2.2.2.1 x.2.2.2.2.2.1 x.2.2.2.2.2.2.1 x.2.2.2.2.2.2.2.1 x.2.2.2.2.2.2.2.2.1 x.2.2.2.2.2.2.2.2.2.1 x.2.2.2.2.2.2.2.2.2.2)):∀a b c d e f g h j l m,P a b c d e f g h j l m:=λa b c d e f g h j l m=>ji (P:=λx=>P x.1 x.2.1 x.2.2.1 x.2.2.2.1 x.2.2.2.2.1 x.2.2.2.2.2.1 x.2.2.2.2.2.2.1 x.2.2.2.2.2.2.2.1 x.2.2.2.2.2.2.2.2.1 x.2.2.2.2.2.2.2.2.2.1 x.2.2.2.2.2.2.2.2.2.2) k (a,b,c,d,e,f,g,h,j,l,m)
theorem e13{A B C D E F G H I J K L M:Type}{i:Nonempty (A×B×C×D×E×F×G×H×I×J×K×L×M)}{P:A->B->C->D->E->F->G->H->I->J->K->L->M->Prop}(k:(λx=>P x.1 x.2.1 x.2.2.1 x.2.2.2.1 x.2.2.2.2.1 x.2.2.2.2.2.1 x.2.2.2.2.2.2.1 x.2.2.2.2.2.2.2.1 x.2.2.2.2.2.2.2.2.1 x.2.2.2.2.2.2.2.2.2.1 x.2.2.2.2.2.2.2.2.2.2.1 x.2.2.2.2.2.2.2.2.2.2.2.1 x.2.2.2.2.2.2.2.2.2.2.2.2) (@cex _ i λx=>P x.1 x.2.1 x.2.2.1 x.2.2.2.1 x.2.2.2.2.1 x.2.2.2.2.2.1 x.2.2.2.2.2.2.1 x.2.2.2.2.2.2.2.1 x.2.2.2.2.2.2.2.2.1 x.2.2.2.2.2.2.2.2.2.1 x.2.2.2.2.2.2.2.2.2.2.1 x.2.2.2.2.2.2.2.2.2.2.2.1 x.2.2.2.2.2.2.2.2.2.2.2.2)):∀a b c d e f g h j l m n o,P a b c d e f g h j l m n o:=λa b c d e f g h j l m n o=>ji (P:=λx=>P x.1 x.2.1 x.2.2.1 x.2.2.2.1 x.2.2.2.2.1 x.2.2.2.2.2.1 x.2.2.2.2.2.2.1 x.2.2.2.2.2.2.2.1 x.2.2.2.2.2.2.2.2.1 x.2.2.2.2.2.2.2.2.2.1 x.2.2.2.2.2.2.2.2.2.2.1 x.2.2.2.2.2.2.2.2.2.2.2.1 x.2.2.2.2.2.2.2.2.2.2.2.2) k (a,b,c,d,e,f,g,h,j,l,m,n,o)
theorem e14{A B C D E F G H I J K L M N:Type}{i:Nonempty (A×B×C×D×E×F×G×H×I×J×K×L×M×N)}{P:A->B->C->D->E->F->G->H->I->J->K->L->M->N->Prop}(k:(λx=>P x.1 x.2.1 x.2.2.1 x.2.2.2.1 x.2.2.2.2.1 x.2.2.2.2.2.1 x.2.2.2.2.2.2.1 x.2.2.2.2.2.2.2.1 x.2.2.2.2.2.2.2.2.1 x.2.2.2.2.2.2.2.2.2.1 x.2.2.2.2.2.2.2.2.2.2.1 x.2.2.2.2.2.2.2.2.2.2.2.1 x.2.2.2.2.2.2.2.2.2.2.2.2.1 x.2.2.2.2.2.2.2.2.2.2.2.2.2) (@cex _ i λx=>P x.1 x.2.1 x.2.2.1 x.2.2.2.1 x.2.2.2.2.1 x.2.2.2.2.2.1 x.2.2.2.2.2.2.1 x.2.2.2.2.2.2.2.1 x.2.2.2.2.2.2.2.2.1 x.2.2.2.2.2.2.2.2.2.1 x.2.2.2.2.2.2.2.2.2.2.1 x.2.2.2.2.2.2.2.2.2.2.2.1 x.2.2.2.2.2.2.2.2.2.2.2.2.1 x.2.2.2.2.2.2.2.2.2.2.2.2.2)):∀a b c d e f g h j l m n o p,P a b c d e f g h j l m n o p:=λa b c d e f g h j l m n o p=>ji (P:=λx=>P x.1 x.2.1 x.2.2.1 x.2.2.2.1 x.2.2.2.2.1 x.2.2.2.2.2.1 x.2.2.2.2.2.2.1 x.2.2.2.2.2.2.2.1 x.2.2.2.2.2.2.2.2.1 x.2.2.2.2.2.2.2.2.2.1 x.2.2.2.2.2.2.2.2.2.2.1 x.2.2.2.2.2.2.2.2.2.2.2.1 x.2.2.2.2.2.2.2.2.2.2.2.2.1 x.2.2.2.2.2.2.2.2.2.2.2.2.2) k (a,b,c,d,e,f,g,h,j,l,m,n,o,p)
theorem e15{A B C D E F G H I J K L M N O:Type}{i:Nonempty (A×B×C×D×E×F×G×H×I×J×K×L×M×N×O)}{P:A->B->C->D->E->F->G->H->I->J->K->L->M->N->O->Prop}(k:(λx=>P x.1 x.2.1 x.2.2.1 x.2.2.2.1 x.2.2.2.2.1 x.2.2.2.2.2.1 x.2.2.2.2.2.2.1 x.2.2.2.2.2.2.2.1 x.2.2.2.2.2.2.2.2.1 x.2.2.2.2.2.2.2.2.2.1 x.2.2.2.2.2.2.2.2.2.2.1 x.2.2.2.2.2.2.2.2.2.2.2.1 x.2.2.2.2.2.2.2.2.2.2.2.2.1 x.2.2.2.2.2.2.2.2.2.2.2.2.2.1 x.2.2.2.2.2.2.2.2.2.2.2.2.2.2) (@cex _ i λx=>P x.1 x.2.1 x.2.2.1 x.2.2.2.1 x.2.2.2.2.1 x.2.2.2.2.2.1 x.2.2.2.2.2.2.1 x.2.2.2.2.2.2.2.1 x.2.2.2.2.2.2.2.2.1 x.2.2.2.2.2.2.2.2.2.1 x.2.2.2.2.2.2.2.2.2.2.1 x.2.2.2.2.2.2.2.2.2.2.2.1 x.2.2.2.2.2.2.2.2.2.2.2.2.1 x.2.2.2.2.2.2.2.2.2.2.2.2.2.1 x.2.2.2.2.2.2.2.2.2.2.2.2.2.2)):∀a b c d e f g h j l m n o p q,P a b c d e f g h j l m n o p q:=λa b c d e f g h j l m n o p q=>ji (P:=λx=>P x.1 x.2.1 x.2.2.1 x.2.2.2.1 x.2.2.2.2.1 x.2.2.2.2.2.1 x.2.2.2.2.2.2.1 x.2.2.2.2.2.2.2.1 x.2.2.2.2.2.2.2.2.1 x.2.2.2.2.2.2.2.2.2.1 x.2.2.2.2.2.2.2.2.2.2.1 x.2.2.2.2.2.2.2.2.2.2.2.1 x.2.2.2.2.2.2.2.2.2.2.2.2.1 x.2.2.2.2.2.2.2.2.2.2.2.2.2.1 x.2.2.2.2.2.2.2.2.2.2.2.2.2.2) k (a,b,c,d,e,f,g,h,j,l,m,n,o,p,q)
theorem e16{A B C D E F G H I J K L M N O Q:Type}{i:Nonempty (A×B×C×D×E×F×G×H×I×J×K×L×M×N×O×Q)}{P:A->B->C->D->E->F->G->H->I->J->K->L->M->N->O->Q->Prop}(k:(λx=>P x.1 x.2.1 x.2.2.1 x.2.2.2.1 x.2.2.2.2.1 x.2.2.2.2.2.1 x.2.2.2.2.2.2.1 x.2.2.2.2.2.2.2.1 x.2.2.2.2.2.2.2.2.1 x.2.2.2.2.2.2.2.2.2.1 x.2.2.2.2.2.2.2.2.2.2.1 x.2.2.2.2.2.2.2.2.2.2.2.1 x.2.2.2.2.2.2.2.2.2.2.2.2.1 x.2.2.2.2.2.2.2.2.2.2.2.2.2.1 x.2.2.2.2.2.2.2.2.2.2.2.2.2.2.1 x.2.2.2.2.2.2.2.2.2.2.2.2.2.2.2) (@cex _ i λx=>P x.1 x.2.1 x.2.2.1 x.2.2.2.1 x.2.2.2.2.1 x.2.2.2.2.2.1 x.2.2.2.2.2.2.1 x.2.2.2.2.2.2.2.1 x.2.2.2.2.2.2.2.2.1 x.2.2.2.2.2.2.2.2.2.1 x.2.2.2.2.2.2.2.2.2.2.1 x.2.2.2.2.2.2.2.2.2.2.2.1 x.2.2.2.2.2.2.2.2.2.2.2.2.1 x.2.2.2.2.2.2.2.2.2.2.2.2.2.1 x.2.2.2.2.2.2.2.2.2.2.2.2.2.2.1 x.2.2.2.2.2.2.2.2.2.2.2.2.2.2.2)):∀a b c d e f g h j l m n o p q r,P a b c d e f g h j l m n o p q r:=λa b c d e f g h j l m n o p q r=>ji (P:=λx=>P x.1 x.2.1 x.2.2.1 x.2.2.2.1 x.2.2.2.2.1 x.2.2.2.2.2.1 x.2.2.2.2.2.2.1 x.2.2.2.2.2.2.2.1 x.2.2.2.2.2.2.2.2.1 x.2.2.2.2.2.2.2.2.2.1 x.2.2.2.2.2.2.2.2.2.2.1 x.2.2.2.2.2.2.2.2.2.2.2.1 x.2.2.2.2.2.2.2.2.2.2.2.2.1 x.2.2.2.2.2.2.2.2.2.2.2.2.2.1 x.2.2.2.2.2.2.2.2.2.2.2.2.2.2.1 x.2.2.2.2.2.2.2.2.2.2.2.2.2.2.2) k (a,b,c,d,e,f,g,h,j,l,m,n,o,p,q,r)
theorem e20{A B C D E F G H I J K L M N O Q R S T U:Type}{i:Nonempty (A×B×C×D×E×F×G×H×I×J×K×L×M×N×O×Q×R×S×T×U)}{P:A->B->C->D->E->F->G->H->I->J->K->L->M->N->O->Q->R->S->T->U->Prop}(k:(λx=>P x.1 x.2.1 x.2.2.1 x.2.2.2.1 x.2.2.2.2.1 x.2.2.2.2.2.1 x.2.2.2.2.2.2.1 x.2.2.2.2.2.2.2.1 x.2.2.2.2.2.2.2.2.1 x.2.2.2.2.2.2.2.2.2.1 x.2.2.2.2.2.2.2.2.2.2.1 x.2.2.2.2.2.2.2.2.2.2.2.1 x.2.2.2.2.2.2.2.2.2.2.2.2.1 x.2.2.2.2.2.2.2.2.2.2.2.2.2.1 x.2.2.2.2.2.2.2.2.2.2.2.2.2.2.1 x.2.2.2.2.2.2.2.2.2.2.2.2.2.2.2.1 x.2.2.2.2.2.2.2.2.2.2.2.2.2.2.2.2.1 x.2.2.2.2.2.2.2.2.2.2.2.2.2.2.2.2.2.1 x.2.2.2.2.2.2.2.2.2.2.2.2.2.2.2.2.2.2.1 x.2.2.2.2.2.2.2.2.2.2.2.2.2.2.2.2.2.2.2) (@cex _ i λx=>P x.1 x.2.1 x.2.2.1 x.2.2.2.1 x.2.2.2.2.1 x.2.2.2.2.2.1 x.2.2.2.2.2.2.1 x.2.2.2.2.2.2.2.1 x.2.2.2.2.2.2.2.2.1 x.2.2.2.2.2.2.2.2.2.1 x.2.2.2.2.2.2.2.2.2.2.1 x.2.2.2.2.2.2.2.2.2.2.2.1 x.2.2.2.2.2.2.2.2.2.2.2.2.1 x.2.2.2.2.2.2.2.2.2.2.2.2.2.1 x.2.2.2.2.2.2.2.2.2.2.2.2.2.2.1 x.2.2.2.2.2.2.2.2.2.2.2.2.2.2.2.1 x.2.2.2.2.2.2.2.2.2.2.2.2.2.2.2.2.1 x.2.2.2.2.2.2.2.2.2.2.2.2.2.2.2.2.2.1 x.2.2.2.2.2.2.2.2.2.2.2.2.2.2.2.2.2.2.1 x.2.2.2.2.2.2.2.2.2.2.2.2.2.2.2.2.2.2.2)):∀a b c d e f g h j l m n o p q r s t u v,P a b c d e f g h j l m n o p q r s t u v:=λa b c d e f g h j l m n o p q r s t u v=>ji (P:=λx=>P x.1 x.2.1 x.2.2.1 x.2.2.2.1 x.2.2.2.2.1 x.2.2.2.2.2.1 x.2.2.2.2.2.2.1 x.2.2.2.2.2.2.2.1 x.2.2.2.2.2.2.2.2.1 x.2.2.2.2.2.2.2.2.2.1 x.2.2.2.2.2.2.2.2.2.2.1 x.2.2.2.2.2.2.2.2.2.2.2.1 x.2.2.2.2.2.2.2.2.2.2.2.2.1 x.2.2.2.2.2.2.2.2.2.2.2.2.2.1 x.2.2.2.2.2.2.2.2.2.2.2.2.2.2.1 x.2.2.2.2.2.2.2.2.2.2.2.2.2.2.2.1 x.2.2.2.2.2.2.2.2.2.2.2.2.2.2.2.2.1 x.2.2.2.2.2.2.2.2.2.2.2.2.2.2.2.2.2.1 x.2.2.2.2.2.2.2.2.2.2.2.2.2.2.2.2.2.2.1 x.2.2.2.2.2.2.2.2.2.2.2.2.2.2.2.2.2.2.2) k (a,b,c,d,e,f,g,h,j,l,m,n,o,p,q,r,s,t,u,v)
theorem e21{A B C D E F G H I J K L M N O Q R S T U V:Type}{i:Nonempty (A×B×C×D×E×F×G×H×I×J×K×L×M×N×O×Q×R×S×T×U×V)}{P:A->B->C->D->E->F->G->H->I->J->K->L->M->N->O->Q->R->S->T->U->V->Prop}(k:(λx=>P x.1 x.2.1 x.2.2.1 x.2.2.2.1 x.2.2.2.2.1 x.2.2.2.2.2.1 x.2.2.2.2.2.2.1 x.2.2.2.2.2.2.2.1 x.2.2.2.2.2.2.2.2.1 x.2.2.2.2.2.2.2.2.2.1 x.2.2.2.2.2.2.2.2.2.2.1 x.2.2.2.2.2.2.2.2.2.2.2.1 x.2.2.2.2.2.2.2.2.2.2.2.2.1 x.2.2.2.2.2.2.2.2.2.2.2.2.2.1 x.2.2.2.2.2.2.2.2.2.2.2.2.2.2.1 x.2.2.2.2.2.2.2.2.2.2.2.2.2.2.2.1 x.2.2.2.2.2.2.2.2.2.2.2.2.2.2.2.2.1 x.2.2.2.2.2.2.2.2.2.2.2.2.2.2.2.2.2.1 x.2.2.2.2.2.2.2.2.2.2.2.2.2.2.2.2.2.2.1 x.2.2.2.2.2.2.2.2.2.2.2.2.2.2.2.2.2.2.2.1 x.2.2.2.2.2.2.2.2.2.2.2.2.2.2.2.2.2.2.2.2) (@cex _ i λx=>P x.1 x.2.1 x.2.2.1 x.2.2.2.1 x.2.2.2.2.1 x.2.2.2.2.2.1 x.2.2.2.2.2.2.1 x.2.2.2.2.2.2.2.1 x.2.2.2.2.2.2.2.2.1 x.2.2.2.2.2.2.2.2.2.1 x.2.2.2.2.2.2.2.2.2.2.1 x.2.2.2.2.2.2.2.2.2.2.2.1 x.2.2.2.2.2.2.2.2.2.2.2.2.1 x.2.2.2.2.2.2.2.2.2.2.2.2.2.1 x.2.2.2.2.2.2.2.2.2.2.2.2.2.2.1 x.2.2.2.2.2.2.2.2.2.2.2.2.2.2.2.1 x.2.2.2.2.2.2.2.2.2.2.2.2.2.2.2.2.1 x.2.2.2.2.2.2.2.2.2.2.2.2.2.2.2.2.2.1 x.2.2.2.2.2.2.2.2.2.2.2.2.2.2.2.2.2.2.1 x.2.2.2.2.2.2.2.2.2.2.2.2.2.2.2.2.2.2.2.1 x.2.2.2.2.2.2.2.2.2.2.2.2.2.2.2.2.2.2.2.2)):∀a b c d e f g h j l m n o p q r s t u v w,P a b c d e f g h j l m n o p q r s t u v w:=λa b c d e f g h j l m n o p q r s t u v w=>ji (P:=λx=>P x.1 x.2.1 x.2.2.1 x.2.2.2.1 x.2.2.2.2.1 x.2.2.2.2.2.1 x.2.2.2.2.2.2.1 x.2.2.2.2.2.2.2.1 x.2.2.2.2.2.2.2.2.1 x.2.2.2.2.2.2.2.2.2.1 x.2.2.2.2.2.2.2.2.2.2.1 x.2.2.2.2.2.2.2.2.2.2.2.1 x.2.2.2.2.2.2.2.2.2.2.2.2.1 x.2.2.2.2.2.2.2.2.2.2.2.2.2.1 x.2.2.2.2.2.2.2.2.2.2.2.2.2.2.1 x.2.2.2.2.2.2.2.2.2.2.2.2.2.2.2.1 x.2.2.2.2.2.2.2.2.2.2.2.2.2.2.2.2.1 x.2.2.2.2.2.2.2.2.2.2.2.2.2.2.2.2.2.1 x.2.2.2.2.2.2.2.2.2.2.2.2.2.2.2.2.2.2.1 x.2.2.2.2.2.2.2.2.2.2.2.2.2.2.2.2.2.2.2.1 x.2.2.2.2.2.2.2.2.2.2.2.2.2.2.2.2.2.2.2.2) k (a,b,c,d,e,f,g,h,j,l,m,n,o,p,q,r,s,t,u,v,w)
end Mine.Internal
open Mine.Internal
local macro_rules (kind:=Lean.Parser.Tactic.obtain)
 |s=>mQ (if s[2].getNumArgs==0&&s[3].getNumArgs==2&&s[3][1].getNumArgs==1 then mRc s[3][1][0] s[1][0] else none)
local macro_rules (kind:=Lean.Parser.Tactic.rcases)
 |s=>mQ (if s[1].getNumArgs==1&&s[2].getNumArgs==2&&s[1][0][1].getKind !=``Lean.Parser.Term.paren then mRc s[1][0][1] s[2][1][0] else none)
local macro_rules (kind:=Lean.Parser.Tactic.cases)
 |s=>mQ (if s[1].getNumArgs==1&&s[1][0][0].getNumArgs==0&&s[1][0][1].isIdent&&s[2].getNumArgs==0&&s[3].getNumArgs==0 then some (mCs s[1][0][1]) else none)
local macro_rules (kind:=Lean.Parser.Tactic.exact)
 |s=>mQ (mAc "exact" s)
local macro_rules (kind:=Lean.Parser.Tactic.refine)
 |s=>mQ (mAc "refine" s)
local macro_rules (kind:=Lean.Parser.Tactic.rwSeq)
 |s=>mQ (mRw s)
local macro_rules (kind:=Lean.Parser.Tactic.«tacticExists_,,»)
 |s=>mQ (mEx s)
local macro_rules (kind:=Lean.Elab.Tactic.Ext.ext)
 |s=>mQ (mRv "bdE" (mMp (fun x=>x[0][0]) s[1].getArgs.toList))
local macro_rules (kind:=Lean.Parser.Tactic.injections)
 |s=>mQ (mRv "ifP" s[1].getArgs.toList)
local macro_rules (kind:=Lean.Parser.Tactic.symm)
 |s=>mQ (some (mT "( akernel_rfl )KtacticKernel_rfl" #[]))
local macro_rules (kind:=Lean.Parser.Tactic.right)
 |s=>mQ (some (mT "( adecide ( ( ( ( a+ ikernel )TposConfigItem )TconfigItem )N )ToptConfig )Tdecide" #[]))
local macro_rules (kind:=Lean.Parser.Tactic.left)
 |s=>mQ (some (mT "( adecide ( ( )N )ToptConfig )Tdecide" #[]))
local macro_rules (kind:=Lean.Parser.Term.nofun)
 |s=>mQ (some (mT "< ( aby [ ( akernel_rfl )KtacticKernel_rfl ] )EbyTactic >" #[]))
namespace Mine.Internal
section
open PySem PySem.Calls PyProof.Rows PySem.W
abbrev Oz:=@wpAny_pure
abbrev OA:=@Nat.le_trans
abbrev OB:=@wpAny_bind
abbrev OC:=@Heap.get?_push_of_some
abbrev OD:=@Nat.lt_of_lt_of_le
abbrev OE:=@Heap.get?_push_size
abbrev OF:=@Heap.lt_size
abbrev OG:=@wpAny_of_eq
abbrev OH:=@Option.some.inj
abbrev OI:=@Nat.le_add_right
abbrev OJ:=@wpAny_holding
abbrev OK:=@Nat.le_succ_of_le
abbrev OL:=@Nat.le_of_lt
abbrev OM:=@Nat.lt_irrefl
abbrev ON:=@congrArg
abbrev OO:=@Heap.SameBut.update
abbrev OP:=@Nat.le_refl
abbrev OQ:=@List.all_eq_true
abbrev OR:=@Bool.and_eq_true_iff
abbrev OS:=@List.mem_map
abbrev OT:=@List.mem_cons
abbrev OU:=@Nat.not_lt
abbrev OV:=@wpAny_mono
abbrev OW:=@wpAny_call
abbrev OX:=@typeIs_str
abbrev OY:=@wpAny_specialOf
abbrev OZ:=@wpAny_standAt
abbrev O3:=@wpAny_mkText
abbrev O4:=@Heap.get?_update_self
abbrev O5:=@of_decide_eq_true
abbrev O6:=@Nat.lt_succ_self
abbrev O7:=@Nat.le_succ
abbrev O8:=@absurd
abbrev O9:=@Nat.lt_of_le_of_lt
abbrev Pa:=@decide_eq_true
abbrev Pb:=@mainGlobals
abbrev Pc:=@builtinsNs
abbrev Pd:=@Str.ofString
abbrev Pe:=@Nat.not_lt_zero
abbrev Pf:=@Option.isSome_iff_exists
abbrev Pg:=@Shared
abbrev Ph:=@Value
abbrev Pj:=@Option
abbrev Pk:=@Params
abbrev Pm:=@Expr
abbrev Pn:=@Addr
abbrev Po:=@Around
abbrev Pp:=@Heap
abbrev Pq:=@Stmt
abbrev Pr:=Value->Shared->Prop
end
end Mine.Internal
section
namespace Mine.Internal
open PySem PySem.Calls PyProof.Rows PySem.W
theorem af{α:Type}{x:α}{P:Prop}(h:(none:Pj α)=some x):P:=nomatch h
section
variable {α β γ:Type}
theorem tJ{o:Pj α}{f:α->Pj β}{y:β}(h:o.bind f=some y):∃a,o=some a/\f a=some y:=by
 cases o with
 |none=>exact af h
 |some a=>exact⟨a,rfl,h⟩
theorem GH{o:Pj α}{f:α->β}{y:β}(h:o.map f=some y):∃a,o=some a/\f a=y:=by
 cases o with
 |none=>exact af h
 |some a=>exact⟨a,rfl,OH h⟩
theorem eG{c:Prop}[Decidable c]{x:Pj α}{y:α}(h:(if c then x else none)=some y):c/\x=some y:=by
 by_cases hc:c
 ·exact⟨hc,(if_pos hc).symm.trans h⟩
 ·exact af ((if_neg hc).symm.trans h)
theorem BZ{c:Prop}[Decidable c]{x:Pj α}{y:α}(h:(if c then none else x)=some y):¬c/\x=some y:=by
 by_cases hc:c
 ·exact af ((if_pos hc).symm.trans h)
 ·exact⟨hc,(if_neg hc).symm.trans h⟩
theorem di[Decidable c](h:(if c then x else z)=some y):c/\x=some y\/¬c/\z=some y:=by
 by_cases hc:c
 ·exact .inl ⟨hc,(if_pos hc).symm.trans h⟩
 ·exact .inr ⟨hc,(if_neg hc).symm.trans h⟩
theorem ew{o:Pj Bool}{x z:Pj α}{y:α}(h:(o.bind λc=>if c then x else z)=some y):o=some true/\x=some y\/o=some false/\z=some y:=by
 ext b e h;cases b
 ·exact .inr ⟨e,h⟩
 ·exact .inl ⟨e,h⟩
end
inductive MV where
 |none|bool (b:Bool)|int (i:Int)|str (s:Str)
 |list (l:List MV)|tup (l:List MV)|grow (l:List MV)
 |rng (a b c:Int)|opq|ex (v:Ph)|kcls|kobj (x:MV)
 |iter (l:List MV)|adder (x:Str)
 deriving Inhabited
noncomputable def intOf:MV->Pj Int
 | .int i=>some i
 |_=>none
noncomputable def strOf:MV->Pj Str
 | .str i=>some i
 |_=>none
noncomputable def d5:MV->Pj (List MV)
 | .list l=>some l
 |_=>none
noncomputable def boolOf:MV->Pj Bool
 | .bool l=>some l
 |_=>none
theorem i7{x:MV}{i:Bool}(h:boolOf x=some i):x= .bool i:=by cases x<;>first|exact af h|exact ON _ (OH h)
theorem fj{x:MV}{i:Int}(h:intOf x=some i):x= .int i:=by cases x<;>first|exact af h|exact ON _ (OH h)
theorem aF{x:MV}{i:Str}(h:strOf x=some i):x= .str i:=by cases x<;>first|exact af h|exact ON _ (OH h)
theorem bZ{x:MV}{i:List MV}(h:d5 x=some i):x= .list i:=by cases x<;>first|exact af h|exact ON _ (OH h)
structure World9 where
 shape:Pn->List (Pn×Obj)->Prop
 noIt:∀C l,shape C l->∀p∈l,¬((∃vs,p.2.data= .fields vs)/\(p.2.cls= .type "list_iterator"\/p.2.cls= .type "range_iterator"))
theorem nn6:Nonempty World9:=⟨⟨λ_ _=>False,λ_ _ h=>h.elim⟩⟩
def aJ(a:Pn):Prop:=a=74\/a=88
def GL(h:Pp)(a:Pn)(xs:Array Ph):Prop:=∃o,h.get? a=some o/\o.cls= .type "list"/\o.dict=none/\∃n,o.data= .seq xs n
theorem GL.isList{xs}(x:GL h a xs):h.IsList a xs:=by obtain⟨o,ho,hc,_,r⟩:=x;exact⟨o,ho,hc,r⟩
theorem GL.keepAt{xs}(x:GL h a xs)(k:∀o,h.get? a=some o->h'.get? a=some o):GL h' a xs:=by obtain⟨o,ho,r⟩:=x;exact⟨o,k o ho,r⟩
def bt(o:Obj):Prop:=∃vs,o.data= .fields vs/\(o.cls= .none\/o.cls= .type "code")
def bu(W:World9)(D:Pn->Prop)(h:Pp)(C:Pn):Prop:=
 ∃l,W.shape C l/\∀p∈l,(¬D p.1\/bt p.2)/\¬aJ p.1/\h.get? p.1=some p.2
def DictAt(D:Pn->Prop)(h:Pp)(d:Pn):Prop:=¬D d/\¬aJ d/\∃o,h.get? d=some o/\o.cls= .type "dict"
mutual
noncomputable def Rp(W:World9)(θ:Pn)(D:Pn->Prop)(h:Pp):MV->Ph->Prop
 | .none,v=>v= .none
 | .bool b,v=>v= .bool b
 | .int i,v=>∃t,v= .int i t
 | .str s,v=>∃t,v= .str s t
 | .list l,v=>∃a vs,v= .ref a/\¬D a/\¬aJ a/\h.IsList a (List.toArray vs)/\RpL W θ D h l vs
 | .tup l,v=>∃a vs,v= .ref a/\¬D a/\¬aJ a/\h.IsTuple a (List.toArray vs)/\RpL W θ D h l vs
 | .grow l,v=>∃a vs,v= .ref a/\D a/\¬aJ a/\GL h a (List.toArray vs)/\RpL W θ D h l vs
 | .rng a b c,v=>∃r t u z,v= .ref r/\¬D r/\¬aJ r/\IsRange h r a b c t u z
 | .opq,v=>v= .ref θ
 | .ex w,v=>v=w
 | .kcls,v=>∃C,v= .ref C/\bu W D h C
 | .kobj x,v=>∃a C d u,v= .ref a/\¬D a/\¬aJ a/\h.get? a=some {cls:= .ref C,dict:=some d,data:= .plain,slots:=#[some u]}/\DictAt D h d/\bu W D h C/\Rp W θ D h x u
 | .iter l,v=>∃a c vs i,v= .ref a/\D a/\¬aJ a/\h.IsListIter a c i/\¬D c/\¬aJ c/\h.IsList c (List.toArray vs)/\RpL W θ D h l (vs.drop i)
 | .adder _,_=>True
noncomputable def RpL(W:World9)(θ:Pn)(D:Pn->Prop)(h:Pp):List MV->List Ph->Prop
 | [],vs=>vs=[]
 |m::ms,vs=>∃v r,vs=v::r/\Rp W θ D h m v/\RpL W θ D h ms r
end
section
variable {W:World9}{θ:Pn}{D:Pn->Prop}{h:Pp}{x:MV}{v:Ph}
theorem eH(e:intOf x=some i)(r:Rp W θ D h x v):∃t,v= .int i t:=by cases fj e;exact r
theorem cL(e:strOf x=some i)(r:Rp W θ D h x v):∃t,v= .str i t:=by cases aF e;exact r
theorem rG(e:boolOf x=some i)(r:Rp W θ D h x v):v= .bool i:=by cases i7 e;exact r
theorem nB(e:d5 x=some l)(r:Rp W θ D h x v):∃a vs,v= .ref a/\¬D a/\¬aJ a/\h.IsList a (List.toArray vs)/\RpL W θ D h l vs:=by cases bZ e;exact r
end
structure Keep (D:Pn->Prop) (h h':Pp):Prop where
 size:h.objs.size<=h'.objs.size
 keep:∀a o,¬D a->¬aJ a->h.get? a=some o->h'.get? a=some o
 code:∀a o,¬aJ a->bt o->h.get? a=some o->h'.get? a=some o
theorem Keep.refl(D:Pn->Prop)(h:Pp):Keep D h h:=⟨OP _,λ_ _ _ _ e=>e,λ_ _ _ _ e=>e⟩
theorem Keep.trans(x:Keep D w95 w93)(y:Keep D w93 w94):Keep D w95 w94:=
 ⟨OA x.size y.size,λa o d t e=>y.keep a o d t (x.keep a o d t e),λa o t c e=>y.code a o t c (x.code a o t c e)⟩
theorem Keep.mono(x:Keep D h h')(m:∀a,D a->D' a):Keep D' h h':=
 ⟨x.size,λa o d t e=>x.keep a o (λq=>d (m a q)) t e,x.code⟩
noncomputable def none9:Pn->Prop:=λ_=>False
theorem Keep.any(x:Keep none9 h h'):Keep D h h':=x.mono λ_ q=>q.elim
theorem Keep.push(D:Pn->Prop)(h:Pp)(o:Obj):Keep D h (h.push o):=⟨by rw[Heap.size_push];lia,λ_ _ _ _ e=>OC _ e,λ_ _ _ _ e=>OC _ e⟩
theorem Keep.ofAll(D:Pn->Prop)(s:h.objs.size<=h'.objs.size)(k:∀b o,h.get? b=some o->h'.get? b=some o):Keep D h h':=⟨s,λ_ _ _ _ e=>k _ _ e,λ_ _ _ _ e=>k _ _ e⟩
theorem Keep.same(x:Heap.SameBut a h h')(d:D a)(hn:∀o,h.get? a=some o->¬bt o):Keep D h h':=
 ⟨Nat.le_of_eq x.1.symm,λb o q _ e=>(x.2 b λz=>q (z▸d)).trans e,λb o _ c e=>(x.2 b λz=>hn o (z▸e) c).trans e⟩
theorem IsList.keepAt{h h':Pp}{a:Pn}{xs}(x:h.IsList a xs)(k:∀o,h.get? a=some o->h'.get? a=some o):h'.IsList a xs:=by obtain⟨o,ho,r⟩:=x;exact⟨o,k o ho,r⟩
theorem bu.keep(x:bu W D h C)(k:Keep D' h h')(m:∀a,D' a->D a):bu W D h' C:=by obtain⟨l,hs,hl⟩:=x;exact⟨l,hs,λp hp=>⟨(hl p hp).1,(hl p hp).2.1,(hl p hp).1.elim (λn=>k.keep _ _ (λq=>n (m _ q)) (hl p hp).2.1 (hl p hp).2.2) λc=>k.code _ _ (hl p hp).2.1 c (hl p hp).2.2⟩⟩
theorem DictAt.keep(x:DictAt D h d)(k:Keep D' h h')(m:∀a,D' a->D a):DictAt D h' d:=
 ⟨x.1,x.2.1,by obtain⟨o,a,b⟩:=x.2.2;exact⟨o,k.keep _ _ (λq=>x.1 (m _ q)) x.2.1 a,b⟩⟩
mutual
noncomputable def fit(g i o:Bool):MV->Bool
 | .opq=>o
 | .grow l=>g&&nE g i o l
 | .iter l=>i&&nE g i o l
 | .adder _=>g
 | .list l| .tup l=>nE g i o l
 | .kobj x=>fit g i o x
 |_=>true
noncomputable def nE(g i o:Bool):List MV->Bool
 | []=>true
 |m::ms=>fit g i o m&&nE g i o ms
end
noncomputable abbrev MV.plain:MV->Bool:=fit false false true
noncomputable abbrev aa:List MV->Bool:=nE false false true
def jo(o:Obj):Prop:=(∃vs,o.data= .fields vs)/\(o.cls= .type "list_iterator"\/o.cls= .type "range_iterator")
structure Move (W:World9) (θ w97:Pn) (D D':Pn->Prop) (h h':Pp) (g i o:Bool):Prop where
 imm:∀a ob,¬D a->¬aJ a->h.get? a=some ob->¬jo ob->¬D' a/\h'.get? a=some ob
 gro:g=true->∀a ob,D a->¬aJ a->h.get? a=some ob->¬jo ob->D' a/\h'.get? a=some ob
 itr:i=true->∀a ob,D a->¬aJ a->h.get? a=some ob->D' a/\h'.get? a=some ob
 opq:o=true->θ=w97
 kc:∀C,bu W D h C->bu W D' h' C
theorem gn{xs n}(h:o.data= .seq xs n):¬jo o:=λq=>q.1.elim λ_ e=>Data.noConfusion (h.symm.trans e)
theorem kT(h:o.cls= .type t)(h1:t≠"list_iterator")(h2:t≠"range_iterator"):¬jo o:=λq=>
 q.2.elim (λe=>h1 (Value.type.inj (h.symm.trans e))) λe=>h2 (Value.type.inj (h.symm.trans e))
theorem ba(h:nE g i o (x::l)=true):fit g i o x=true/\nE g i o l=true:=OR.mp h
section
variable {W:World9}{θ w97:Pn}{D D':Pn->Prop}{h h':Pp}{g i o:Bool}(M:Move W θ w97 D D' h h' g i o)
include M
theorem Move.lst{xs}(d:¬D a)(t:¬aJ a)(x:h.IsList a xs):¬D' a/\h'.IsList a xs:=
 x.elim λob q=>q.2.2.elim λn e=>let r:=M.imm a ob d t q.1 (gn e);⟨r.1,ob,r.2,q.2⟩
theorem Move.tpl{xs}(d:¬D a)(t:¬aJ a)(x:h.IsTuple a xs):¬D' a/\h'.IsTuple a xs:=
 x.elim λob q=>q.2.2.elim λn e=>let r:=M.imm a ob d t q.1 (gn e);⟨r.1,ob,r.2,q.2⟩
theorem Move.grw{xs}(hg:g=true)(d:D a)(t:¬aJ a)(x:GL h a xs):D' a/\GL h' a xs:=
 x.elim λob q=>q.2.2.2.elim λn e=>let r:=M.gro hg a ob d t q.1 (gn e);⟨r.1,ob,r.2,q.2⟩
theorem Move.dct(x:DictAt D h d):DictAt D' h' d:=
 x.2.2.elim λob q=>let r:=M.imm d ob x.1 x.2.1 q.1 (kT q.2 (by left) (by left));⟨r.1,x.2.1,ob,r.2,q.2⟩
mutual
theorem Rp.move:∀(x:MV) (v:Ph),fit g i o x=true->Rp W θ D h x v->Rp W w97 D' h' x v
 | .none=>λ_ _ r=>r
 | .bool _=>λ_ _ r=>r
 | .int _=>λ_ _ r=>r
 | .str _=>λ_ _ r=>r
 | .opq=>λ_ p r=>M.opq p▸r
 | .ex _=>λ_ _ r=>r
 | .adder _=>λ_ _ r=>r
 | .list l=>λ_ p r=>r.elim λa r=>r.elim λvs r=>let q:=M.lst r.2.1 r.2.2.1 r.2.2.2.1;⟨a,vs,r.1,q.1,r.2.2.1,q.2,RpL.move l vs p r.2.2.2.2⟩
 | .tup l=>λ_ p r=>r.elim λa r=>r.elim λvs r=>let q:=M.tpl r.2.1 r.2.2.1 r.2.2.2.1;⟨a,vs,r.1,q.1,r.2.2.1,q.2,RpL.move l vs p r.2.2.2.2⟩
 | .grow l=>λ_ p r=>r.elim λa r=>r.elim λvs r=>let p:=OR.mp p;let q:=M.grw p.1 r.2.1 r.2.2.1 r.2.2.2.1;⟨a,vs,r.1,q.1,r.2.2.1,q.2,RpL.move l vs p.2 r.2.2.2.2⟩
 | .iter l=>λ_ p r=>r.elim λa r=>r.elim λc r=>r.elim λvs r=>r.elim λn r=>r.2.2.2.1.elim λob y=>let p:=OR.mp p;let q:=M.itr p.1 a ob r.2.1 r.2.2.1 y.1;let z:=M.lst r.2.2.2.2.1 r.2.2.2.2.2.1 r.2.2.2.2.2.2.1
  ⟨a,c,vs,n,r.1,q.1,r.2.2.1,⟨ob,q.2,y.2⟩,z.1,r.2.2.2.2.2.1,z.2,RpL.move l _ p.2 r.2.2.2.2.2.2.2⟩
 | .rng _ _ _=>λ_ _ r=>r.elim λa r=>r.elim λt r=>r.elim λu r=>r.elim λz r=>let q:=M.imm a _ r.2.1 r.2.2.1 r.2.2.2 (kT (t:="range") rfl (by left) (by left));⟨a,t,u,z,r.1,q.1,r.2.2.1,q.2⟩
 | .kcls=>λ_ _ r=>r.elim λC r=>⟨C,r.1,M.kc C r.2⟩
 | .kobj x=>λ_ p r=>r.elim λa r=>r.elim λC r=>r.elim λd r=>r.elim λu r=>let q:=M.imm a _ r.2.1 r.2.2.1 r.2.2.2.1 (λq=>q.2.elim (λe=>Value.noConfusion e) λe=>Value.noConfusion e)
  ⟨a,C,d,u,r.1,q.1,r.2.2.1,q.2,M.dct r.2.2.2.2.1,M.kc C r.2.2.2.2.2.1,Rp.move x u p r.2.2.2.2.2.2⟩
theorem RpL.move:∀(l:List MV) (vs:List Ph),nE g i o l=true->RpL W θ D h l vs->RpL W w97 D' h' l vs
 | []=>λ_ _ r=>r
 |x::l=>λ_ p r=>r.elim λv r=>r.elim λq r=>⟨v,q,r.1,Rp.move x v (ba p).1 r.2.1,RpL.move l q (ba p).2 r.2.2⟩
end
end
mutual
theorem rH:∀x:MV,fit true true true x=true
 | .none| .bool _| .int _| .str _| .opq| .ex _| .adder _| .rng _ _ _| .kcls=>rfl
 | .list l=>gr l
 | .tup l=>gr l
 | .grow l=>gr l
 | .iter l=>gr l
 | .kobj x=>rH x
theorem gr:∀l:List MV,nE true true true l=true
 | []=>rfl
 |x::l=>OR.mpr ⟨rH x,gr l⟩
end
section
variable {W:World9}{θ:Pn}{D D':Pn->Prop}{h h':Pp}
theorem Keep.move(k:Keep D' h h')(m:∀a,D' a->D a):Move W θ θ D D h h' false false true:=⟨λa ob d t e _=>⟨d,k.keep a ob (λq=>d (m a q)) t e⟩,λe=>Bool.noConfusion e,λe=>Bool.noConfusion e,λ_=>rfl,λC x=>x.keep k m⟩
theorem Rp.keep(k:Keep D' h h')(m:∀a,D' a->D a)(x:MV)(v:Ph)(p:x.plain=true)(r:Rp W θ D h x v):Rp W θ D h' x v:=Rp.move (k.move m) x v p r
theorem RpL.keep(k:Keep D' h h')(m:∀a,D' a->D a)(l:List MV)(vs:List Ph)(p:aa l=true)(r:RpL W θ D h l vs):RpL W θ D h' l vs:=RpL.move (k.move m) l vs p r
end
end Mine.Internal
end
namespace Mine.Internal
section
open PySem PySem.Calls PyProof.Rows PySem.W
section
noncomputable abbrev Sc:=List (Str×NameKind)
noncomputable abbrev Rho:=List (Str×MV)
structure Fns where
 f:Pn->Pj (Nat×(List MV->Pj MV))
theorem nn7:Nonempty Fns:=⟨⟨λ_=>none⟩⟩
noncomputable def sx(s:String):Str:=Pd s
noncomputable def rI:List (Str×MV):=[
 (sx "quotedata",.ex (.ref 48)),(sx "translate",.ex (.ref 60)),(sx "escape",.ex (.ref 72)),(sx "_translate",.ex (.ref 79)),(sx "_join_translated_parts",.ex (.ref 86)),
 (sx "cmp_to_key",.ex (.ref 93)),(sx "reduce",.ex (.ref 102)),(sx "_law_row",.ex (.ref 109)),(sx "_law_server",.ex (.ref 114)),(sx "_law_takes",.ex (.ref 121)),
 (sx "_law_fits",.ex (.ref 126)),(sx "_law_hop",.ex (.ref 131)),(sx "_law_refused",.ex (.ref 138)),(sx "_law_text",.ex (.ref 143)),(sx "_law_goes",.ex (.ref 148)),
 (sx "_law_left",.ex (.ref 155)),(sx "_law_dots",.ex (.ref 162)),(sx "_law_more",.ex (.ref 169)),
 (sx "_initial_missing",.ex (.ref 94)),(sx "twin_re_1_smtplib",.ex (.ref 36)),(sx "_twin_re_2",.ex (.ref 41)),(sx "CRLF",.str (sx "\r\n")),
 (sx "isinstance",.ex (.builtin "isinstance")),(sx "str",.ex (.type "str")),(sx "_special_chars_map",.ex (.ref 62)),(sx "twin_re_1_fnmatch",.ex (.ref 53)),(sx "list",.ex (.type "list")),(sx "map",.ex (.type "map")),(sx "sorted",.ex (.builtin "sorted")),
 (sx "iter",.ex (.builtin "iter")),(sx "next",.ex (.builtin "next")),(sx "object",.ex (.type "object")),
 (sx "len",.ex (.builtin "len")),(sx "range",.ex (.type "range"))]
noncomputable def glob(x:Str):Pj MV:=rI.lookup x
noncomputable def truth:MV->Pj Bool
 | .bool b=>some b
 | .str s=>if s.length<=sizeLine then some (s.length != 0) else none
 | .int i=>some (i != 0)
 | .list l=>if l.length<=1000000 then some (!l.isEmpty) else none
 | .grow l=>if l.length<=1000000 then some (!l.isEmpty) else none
 |_=>none
noncomputable def itemsOf:MV->Pj (List MV)
 | .list l=>some l
 | .grow l=>some l
 |_=>none
noncomputable def strsOf:List MV->Pj (List Str)
 | []=>some []
 |x::r=>(strOf x).bind λs=>(strsOf r).map (s::·)
noncomputable def smallInt(i:Int):Bool:=decide (-(2 ^ 63)<i)&&decide (i<2 ^ 63)
noncomputable def Ca(f:Int->Int->Pj Int)(x y:MV):Pj MV:=(intOf x).bind λa=>(intOf y).bind λb=>(f a b).map .int
noncomputable def L8(x y:MV):Pj MV:=match x with
 | .int a=>(intOf y).map λb=> .int (a+b)
 | .str a=>(strOf y).bind λb=>if a.length+b.length<=sizeLine then some (.str (a++b)) else none
 | .list a=>(d5 y).bind λb=>if aa a&&aa b&&decide (a.length+b.length<=1000) then some (.list (a++b)) else none
 |_=>none
noncomputable def Ny(x y:MV):Pj MV:=(intOf y).bind λn=>match x with
 | .int a=>if smallInt a=true then some (.int (a*n)) else none
 | .str a=>if a.length=1/\0<=n/\n<=1000 then some (.str ⟨Array.replicate n.toNat (a.cps.getD 0 0)⟩) else none
 |_=>none
noncomputable def ib(op:Operator)(x y:MV):Pj MV:=match op with
 | .Add=>L8 x y
 | .Sub=>Ca (λa b=>some (a-b)) x y
 | .Mult=>Ny x y
 | .Mod=>Ca (λa b=>if 0<b then some (a%b) else none) x y
 | .FloorDiv=>Ca (λa b=>if 0<b/\b<1000000 then some (a/b) else none) x y
 | .Pow=>Ca (λa n=>if 0<=n/\n<=8/\smallInt a=true then some (a ^ n.toNat) else none) x y
 |_=>none
noncomputable def wL(f:MV->MV->Pj Bool):List MV->List MV->Pj Bool
 | [],l=>if l.isEmpty then some true else none
 |a::r,l=>match l with
  | []=>none
  |b::q=>(f a b).bind λx=>(wL f r q).map (x&&·)
noncomputable def meq:Nat->MV->MV->Pj Bool
 |0,_,_=>none
 |k+1,x,y=>match x with
  | .int a=>(intOf y).map (a==·)
  | .str a=>(strOf y).map (a==·)
  | .bool a=>(boolOf y).map (a==·)
  | .list a=>(d5 y).bind λb=>if a.length=b.length then wL (meq k) a b else some false
  |_=>none
noncomputable def yS(x:Str)(l:List MV):Pj Bool:=(strsOf l).map λys=>ys.any (·==x)
noncomputable def intsOf:List MV->Pj (List Int)
 | []=>some []
 |x::r=>(intOf x).bind λs=>(intsOf r).map (s::·)
noncomputable def boolsOf:List MV->Pj (List Bool)
 | []=>some []
 |x::r=>(boolOf x).bind λs=>(boolsOf r).map (s::·)
noncomputable def GI(x:Int)(l:List MV):Pj Bool:=(intsOf l).map λys=>ys.any (·==x)
noncomputable def Cb(l:List MV):Pj Bool:=(boolsOf l).map λys=>ys.any id
noncomputable def qp:MV->Bool
 | .opq=>true
 |_=>false
noncomputable def wM:Ph->Pj Pn
 | .ref a=>some a
 |_=>none
noncomputable def yT:MV->Pj Pn
 | .ex v=>wM v
 |_=>none
noncomputable def mis(x y:MV):Pj Bool:=match x with
 | .opq=>if qp y=true then some true else none
 | .str _=>if qp y=true\/(yT y).isSome=true then some false else none
 | .ex v=>(wM v).bind λa=>(yT y).bind λb=>if a=b then some true else none
 |_=>none
noncomputable def tL(f:Int->Int->Bool)(x y:MV):Pj Bool:=(intOf x).bind λa=>(intOf y).map (f a)
noncomputable def mIn(x y:MV):Pj Bool:=match x with
 | .str a=>(match y with
  | .str b=>some (Txt.contains b a)
  | .list l=>yS a l
  | .tup l=>yS a l
  |_=>none)
 | .int a=>(d5 y).bind (GI a)
 | .bool a=>if a=true then(d5 y).bind Cb else none
 |_=>none
noncomputable def fL(op:CmpOp)(x y:MV):Pj Bool:=match op with
 | .Eq=>meq 5 x y
 | .NotEq=>(meq 5 x y).map (!·)
 | .Lt=>tL (λa b=>decide (a<b)) x y
 | .LtE=>tL (λa b=>decide (a<=b)) x y
 | .Gt=>(match x with
  | .str a=>(strOf y).map λb=>decide (b.cps.toList<a.cps.toList)
  |_=>tL (λa b=>decide (b<a)) x y)
 | .GtE=>tL (λa b=>decide (b<=a)) x y
 | .Is=>mis x y
 | .IsNot=>(mis x y).map (!·)
 | .In=>mIn x y
 | .NotIn=>(strOf x).bind λa=>(strOf y).map λb=> !Txt.contains b a
noncomputable def cX(i:Int):Bool:=decide (-(2 ^ 63)<=i)&&decide (i<2 ^ 63)
noncomputable def gK(x y:MV):Pj MV:=(intOf y).bind λi=>match x with
 | .list l=>if cX i&&aa l then(seqIndex? i l.length).bind (l[·]?) else none
 | .grow l=>if cX i&&aa l then(seqIndex? i l.length).bind (l[·]?) else none
 | .tup l=>if cX i&&aa l then(seqIndex? i l.length).bind (l[·]?) else none
 | .str s=>if cX i then((seqIndex? i s.length).bind (s.cps[·]?)).map λc=> .str ⟨#[c]⟩ else none
 |_=>none
noncomputable def nF:MV->Pj (Pj Int)
 | .none=>some none
 | .int i=>some (some i)
 |_=>none
noncomputable def de{α:Type}(l:List α)(lo hi:Pj Int):List α:=(l.drop (kms_lo lo l.length)).take (kms_hi hi l.length-kms_lo lo l.length)
noncomputable def jT(x:Str)(lo hi:Pj Int):Str:=⟨(de x.cps.toList lo hi).toArray⟩
noncomputable def dh:MV->Pj Int->Pj Int->Pj MV
 | .list l,lo,hi=>if aa l&&decide (l.length<=1000) then some (.list (de l lo hi)) else none
 | .str s,lo,hi=>if s.length<=sizeLine then some (.str (jT s lo hi)) else none
 |_,_,_=>none
noncomputable def bF(l:List Str):Nat:=(l.map (·.length)).sum
structure Subs where
 crlf:Str->Str
 dots:Str->Str
 spec:Nat->Sc->(Pm->Pj MV)->Pm->Pj MV
theorem nn8:Nonempty Subs:=⟨⟨id,id,λ_ _ _ _=>none⟩⟩
inductive EV where
 |name (x:Str) (q:Pos)|attr (o:Pm) (m:Str) (q:Pos)|call (f:Pm) (as:List Pm) (q:Pos)|str (x:Str) (k:Nat) (q:Pos)
 |list (es:List Pm) (q:Pos)|tup (es:List Pm) (k:Nat) (q:Pos)|dict (ks:List (Pj Pm)) (vs:List Pm) (q:Pos)
 |lcomp (e:Pm) (gs:List Comprehension) (sc:Scope) (q:Pos)|gen (e:Pm) (gs:List Comprehension) (sc:Scope) (q:Pos)|lam (ps:Arguments) (e:Pm) (sc:Scope) (q:Pos)|other
noncomputable def aN:Pm->EV
 | .Name x q=> .name x q
 | .Attribute o m q=> .attr o m q
 | .Call f as ks q=>(match ks with| []=> .call f as q|_::_=> .other)
 | .Constant c k q=>(match c with| .str x=> .str x k q|_=> .other)
 | .List es q=> .list es q
 | .Tuple es k q=> .tup es k q
 | .Dict ks vs q=> .dict ks vs q
 | .ListComp e gs sc q=> .lcomp e gs sc q
 | .GeneratorExp e gs sc q=> .gen e gs sc q
 | .Lambda ps e sc q=> .lam ps e sc q
 |_=> .other
noncomputable def EV.back(e:Pm):EV->Pm
 | .name x q=> .Name x q
 | .attr o m q=> .Attribute o m q
 | .call f as q=> .Call f as [] q
 | .str x k q=> .Constant (.str x) k q
 | .list es q=> .List es q
 | .tup es k q=> .Tuple es k q
 | .dict ks vs q=> .Dict ks vs q
 | .lcomp e gs sc q=> .ListComp e gs sc q
 | .gen e gs sc q=> .GeneratorExp e gs sc q
 | .lam ps e sc q=> .Lambda ps e sc q
 | .other=>e
set_option tactic.hygienic true in
theorem aL{e:Pm}{v:EV}(h:aN e=v):e=v.back e:=by
 subst h;cases e<;>first|rfl|skip
 ·rename_i ks _;cases ks<;>rfl
 ·rename_i c _ _;cases c<;>rfl
noncomputable def cNm(e:Pm):Pj Str:=match aN e with
 | .name x _=>some x
 |_=>none
noncomputable def cStr(e:Pm):Pj Str:=match aN e with
 | .str x _ _=>some x
 |_=>none
theorem cM{e:Pm}{x:Str}(h:cNm e=some x):∃q,e= .Name x q:=by
 unfold cNm at h;cases hv:aN e<;>rw[hv]at h<;>first|exact af h|skip
 cases h;exact⟨_,aL hv⟩
theorem i8{e:Pm}{x:Str}(h:cStr e=some x):∃k q,e= .Constant (.str x) k q:=by
 unfold cStr at h;cases hv:aN e<;>rw[hv]at h<;>first|exact af h|skip
 cases h;exact⟨_,_,aL hv⟩
noncomputable def ie(e:Pm):Pj (Pm×List Pm×Pos):=match aN e with
 | .call f as q=>some (f,as,q)
 |_=>none
noncomputable def jU(e:Pm):Pj (Pm×Str×Pos):=match aN e with
 | .attr o m q=>some (o,m,q)
 |_=>none
theorem gw{e f:Pm}{as:List Pm}{q:Pos}(h:ie e=some (f,as,q)):e= .Call f as [] q:=by
 unfold ie at h;cases hv:aN e<;>rw[hv]at h<;>first|exact af h|skip
 cases h;exact aL hv
theorem jV{e o:Pm}{m:Str}{q:Pos}(h:jU e=some (o,m,q)):e= .Attribute o m q:=by
 unfold jU at h;cases hv:aN e<;>rw[hv]at h<;>first|exact af h|skip
 cases h;exact aL hv
noncomputable def two{α:Type}:List α->Pj (α×α)
 | []=>none
 |a::r=>(match r with
  | []=>none
  |b::r=>if r.isEmpty then some (a,b) else none)
theorem d6{α:Type}{l:List α}{a b:α}(h:two l=some (a,b)):l=[a,b]:=by
 cases l with
 |nil=>exact af h
 |cons x r=>
  cases r with
  |nil=>exact af h
  |cons y r=>
   cases r with
   |nil=>cases h;rfl
   |cons _ _=>exact af h
noncomputable def one{α:Type}:List α->Pj α
 | []=>none
 |a::r=>if r.isEmpty then some a else none
theorem bf{α:Type}{l:List α}{a:α}(h:one l=some a):l=[a]:=by
 cases l with
 |nil=>exact af h
 |cons x r=>
  cases r with
  |nil=>cases h;rfl
  |cons _ _=>exact af h
noncomputable def three{α:Type}:List α->Pj (α×α×α)
 | []=>none
 |a::r=>(two r).map (a,·)
theorem fk{α:Type}{l:List α}{a b c:α}(h:three l=some (a,b,c)):l=[a,b,c]:=by
 cases l with
 |nil=>exact af h
 |cons x r=>revert h;refine mpE λy h1 h=>?_;cases(h);exact ON (List.cons a) (d6 h1)
noncomputable def L9(m:Str)(sep y:Str):Pj MV:=
 if m=sx "split" then(if y.length=0\/100000<sep.length then none else some (.list ((Txt.split sep y).map .str)))
 else if m=sx "lstrip" then(if sep.length<=sizeLine then some (.str (Txt.lstripChars sep y)) else none)
 else none
noncomputable def yU(S:Subs)(a:Pn)(r x:Str):Pj MV:=
 if a=41 then(if r=sx "\r\n"/\x.length<=1000 then some (.str (S.crlf x)) else none)
 else if a=36 then(if r=sx ".."/\x.length<=3000 then some (.str (S.dots x)) else none)
 else none
noncomputable def jq(S:Subs)(m:Str)(v:MV)(as:List MV):Pj MV:=match v with
 | .str sep=>(one as).bind λa=>
  if m=sx "join" then((itemsOf a).bind strsOf).bind λys=>if bF ys+ys.length*sep.length<=16777216 then some (.str (Txt.join sep ys)) else none
  else(strOf a).bind (L9 m sep)
 | .ex w=>(wM w).bind λa=>(two as).bind λrx=>(strOf rx.1).bind λr=>(strOf rx.2).bind λx=>if m=sx "sub" then yU S a r x else none
 |_=>none
noncomputable def notStar(e:Pm):Bool:= !Nat.beq e.ctorIdx 22
noncomputable def jW(e:Pm):Bool:= !Nat.beq e.ctorIdx 26
noncomputable def bx(e:Pm):Bool:= !Nat.beq e.ctorIdx 7
noncomputable def J6(e:Pm):Bool:=Nat.beq e.ctorIdx 19||Nat.beq e.ctorIdx 23||Nat.beq e.ctorIdx 16||Nat.beq e.ctorIdx 21||Nat.beq e.ctorIdx 2
noncomputable def jX(e:Pm):Bool:= !(Nat.ble 8 e.ctorIdx&&Nat.ble e.ctorIdx 10)
noncomputable def baseOk(e:Pm):Bool:=match aN e with
 | .call _ as _=> !as.isEmpty
 |_=> !Nat.beq e.ctorIdx 16
noncomputable def fm(a b c:Int):Pj (List MV):=
 if c≠0/\  -1000000<a/\a<1000000/\  -1000000<b/\b<1000000/\  -1000000<c/\c<1000000/\Builtin.Range.small a b c=true/\(Builtin.Range.rangeSize a b c)<=1000 then
  some ((List.range (Builtin.Range.rangeSize a b c).toNat).map λ(i:Nat)=>MV.int (a+(i:Int)*c)) else none
noncomputable def aM:MV->Pj (List MV)
 | .list l=>if aa l then some l else none
 | .rng a b c=>fm a b c
 |_=>none
noncomputable def Ma:MV->Pj MV
 | .list l=>if l.length<=1000 then some (.int l.length) else none
 | .grow l=>if l.length<=1000 then some (.int l.length) else none
 | .str s=>if s.length<=sizeLine then some (.int s.length) else none
 |_=>none
noncomputable def Cc(as:List MV):Pj MV:=(intsOf as).bind λis=>match is with
 | []=>none
 |a::r=>(match r with
  | []=>if(fm 0 a 1).isSome then some (.rng 0 a 1) else none
  |b::r=>(one r).bind λc=>if(fm a b c).isSome then some (.rng a b c) else none)
noncomputable def lV(f:Ph)(as:List MV):Pj MV:=
 if f= .builtin "len" then(one as).bind Ma
 else if f= .type "range" then Cc as
 else none
noncomputable def eT(x:Str):MV->Bool
 | .adder y=>x==y
 |_=>false
noncomputable def ae(ρ:Rho)(x:Str)(v:MV):Rho:=(x,v)::ρ.filter λp=>p.1 != x&& !eT x ((ρ.lookup p.1).getD .none)
structure P where
 ev:Sc->Rho->Pm->Pj MV
 tst:Sc->Rho->Pm->Pj Bool
theorem nn9:Nonempty P:=⟨⟨λ_ _ _=>none,λ_ _ _=>none⟩⟩
noncomputable def f9(p:P)(sc:Sc)(ρ:Rho):List Pm->Pj Bool
 | []=>some true
 |e::r=>(p.tst sc ρ e).bind λb=>if b then f9 p sc ρ r else some false
noncomputable def jr(p:P)(sc:Sc)(step:Rho->Pj (List MV))(x:Str)(ifs:List Pm)(ρ:Rho):List MV->Pj (List MV)
 | []=>some []
 |v::vs=>(f9 p sc (ae ρ x v) ifs).bind λb=>if b then(step (ae ρ x v)).bind λa=>(jr p sc step x ifs ρ vs).map (a++·) else jr p sc step x ifs ρ vs
noncomputable def tM(p:P)(sc:Sc)(elt:Pm):List Comprehension->Rho->Pj (List MV)
 | [],ρ=>(p.ev sc ρ elt).bind λv=>if v.plain then some [v] else none
 |g::gs,ρ=>(cNm g.target).bind λx=>((p.ev sc ρ g.iter).bind aM).bind λitems=>
  if g.is_async=0/\sc.lookup x=some .local/\bx g.iter=true/\(ρ.lookup x).isNone=true then jr p sc (tM p sc elt gs) x g.ifs ρ items else none
noncomputable def dx(sc:Sc):Bool:=(sc.lookup (sx "QUESTION_MARK")).isSome
noncomputable def aK(sc:Sc)(scope:Scope):Bool:=
 (scope.kind== .function&& !dx scope.names)&&scope.names.all λy=>match y.2 with
  | .local=>scope.names.lookup y.1==some .local
  | .free=>(match sc.lookup y.1 with|some .cell=>true|some .free=>true|_=>false)&&scope.names.lookup y.1==some .free
  | .globalImplicit=>scope.names.lookup y.1==some .globalImplicit
  |_=>false
noncomputable def ao(scope:Scope)(ρ:Rho):Rho:=ρ.filter λp=>scope.names.lookup p.1==some .free
noncomputable def dj(p:P)(sc:Sc)(ρ:Rho)(elt:Pm)(scope:Scope):List Comprehension->Pj MV
 | []=>none
 |g::gs=>(cNm g.target).bind λx=>((p.ev sc ρ g.iter).bind aM).bind λitems=>
  if aK sc scope=true/\(gs.all λg=>g.is_async==0)=true/\g.is_async=0/\scope.names.lookup x=some .local/\bx g.iter=true then
   (jr p scope.names (tM p scope.names elt gs) x g.ifs (ao scope ρ) items).bind λl=>if l.length<=1000 then some (.list l) else none
  else none
noncomputable def aT(p:P)(sc:Sc)(ρ:Rho):List Pm->Pj (List MV)
 | []=>some []
 |e::r=>if notStar e then(p.ev sc ρ e).bind λv=>(aT p sc ρ r).map (v::·) else none
noncomputable def jY(p:P)(sc:Sc)(ρ:Rho)(es:List Pm):Pj (List MV):=(aT p sc ρ es).bind λl=>if aa l/\l.length<=1000 then some l else none
noncomputable def Cd:Pm->Pj Pm
 | .FormattedValue e c s _=>if c= -1/\s.isNone=true then some e else none
 |_=>none
set_option tactic.hygienic true in
theorem Ce{e e':Pm}(h:Cd e=some e'):∃q,e= .FormattedValue e' (-1) none q:=by
 cases e<;>first|exact af h|skip
 rename_i x c s q;injections e0z h;obtain⟨h1,h2⟩:=e0z;cases h;cases h1;cases s with
 |none=>exact⟨q,rfl⟩
 |some _=>exact Bool.noConfusion h2
noncomputable def lW(p:P)(sc:Sc)(ρ:Rho):List Pm->Pj Str
 | []=>some Str.empty
 |e::r=>match aN e with
  | .str x _ _=>(lW p sc ρ r).map (x++·)
  |_=>(Cd e).bind λe=>((p.ev sc ρ e).bind strOf).bind λx=>(lW p sc ρ r).map (x++·)
noncomputable def ends(op:BoolOp)(b:Bool):Bool:=match op with
 | .And=> !b
 | .Or=>b
noncomputable def wN(p:P)(sc:Sc)(ρ:Rho)(op:BoolOp):List Pm->Pj Bool
 | []=>some (op== .And)
 |e::r=>(p.tst sc ρ e).bind λb=>if ends op b then some b else wN p sc ρ op r
noncomputable def kU(p:P)(sc:Sc)(ρ:Rho)(op:BoolOp):List Pm->Pj MV
 | []=>none
 |e::r=>if r.isEmpty then p.ev sc ρ e else(p.ev sc ρ e).bind λv=>(truth v).bind λb=>if ends op b then some v else kU p sc ρ op r
noncomputable def ez:MV->Bool
 | .iter _| .adder _=>false
 |_=>true
noncomputable def ig(p:P)(sc:Sc)(ρ:Rho):Pj Pm->Pj (Pj Int)
 |none=>some none
 |some e=>(p.ev sc ρ e).bind nF
noncomputable def qq:List (Pj Pm)->List Pm->Pj (List (Str×Str))
 | [],vs=>if vs.isEmpty then some [] else none
 |k::ks,vs=>(match vs with
  | []=>none
  |v::vs=>k.bind λk=>(cStr k).bind λa=>(cStr v).bind λb=>(qq ks vs).map ((a,b)::·))
noncomputable def kW:MV->Pj Ph
 | .ex v=>some v
 |_=>none
theorem gL{x:MV}{v:Ph}(h:kW x=some v):x= .ex v:=by cases x<;>first|exact af h|exact ON _ (OH h)
noncomputable def wO(F:Fns)(n:Nat)(v:Ph)(as:List MV):Pj MV:=match wM v with
 |some a=>(F.f a).bind λkg=>if kg.1<=n/\aa as then kg.2 as else none
 |none=>lV v as
noncomputable def yV(S:Subs)(p:P)(sc:Sc)(ρ:Rho)(o:Pm)(m:Str)(apos pos:Pos)(args:List Pm):Pj MV:=
 if(apos.endLine==pos.line)=false\/20<args.length\/baseOk o=false then none else if m=sx "replace" then
  ((p.ev sc ρ o).bind strOf).bind λx=>(two args).bind λyz=>(cStr yz.1).bind λy=>(cStr yz.2).bind λz=>if x.length<=1000/\z.length<=1000/\(y==z)=false then some (.str (Txt.replace x y z)) else none
 else(p.ev sc ρ o).bind λv=>(aT p sc ρ args).bind λas=>jq S m v as
noncomputable def Mb(p:P)(sc:Sc)(ρ:Rho)(d:List (Str×Str))(a b:Pm):Pj MV:=
 if d.length<=15/\d.isEmpty=false/\(d.map (·.1)).Nodup/\notStar a=true/\notStar b=true then((p.ev sc ρ a).bind strOf).bind λx=>((p.ev sc ρ b).bind strOf).map λy=> .str ((d.lookup x).getD y) else none
noncomputable def Cf(F:Fns)(S:Subs)(n:Nat)(p:P)(sc:Sc)(ρ:Rho)(f:Pm)(args:List Pm)(pos:Pos):Pj MV:=match aN f with
 | .name x q=>(p.ev sc ρ (.Name x q)).bind λv=>(aT p sc ρ args).bind λas=>(kW v).bind λu=>wO F n u as
 | .attr o m apos=>(match aN o with
  | .dict ks vs _=>if m=sx "get"/\(apos.endLine==pos.line)=true then(qq ks vs).bind λd=>(two args).bind λab=>Mb p sc ρ d ab.1 ab.2 else none
  |_=>yV S p sc ρ o m apos pos args)
 |_=>none
noncomputable def zV(F:Fns)(S:Subs)(n:Nat)(p:P)(sc:Sc)(ρ:Rho):Pm->Pj MV
 | .Constant c _ _=>match c with
  | .none=>some .none
  | .bool b=>some (.bool b)
  | .int i=>some (.int i)
  | .str s=>some (.str s)
  |_=>none
 | .Name x _=>if x=sx "__debug__"\/x=sx "__classdict__" then none else match sc.lookup x with
  |some .globalImplicit=>glob x
  |some .local|some .cell|some .free=>(ρ.lookup x).bind λv=>if ez v then some v else none
  |_=>none
 | .BinOp l op r _=>(p.ev sc ρ l).bind λa=>(p.ev sc ρ r).bind λb=>ib op a b
 | .UnaryOp op x _=>match op with
  | .Not=>((p.ev sc ρ x).bind truth).map λb=> .bool !b
  | .USub=>((p.ev sc ρ x).bind intOf).map λi=> .int (-i)
  |_=>none
 | .IfExp t b o _=>(p.tst sc ρ t).bind λc=>if c then p.ev sc ρ b else p.ev sc ρ o
 | .BoolOp op vs _=>kU p sc ρ op vs
 | .Compare l ops rs _=>(one ops).bind λop=>(one rs).bind λr=>if bx r then(p.ev sc ρ l).bind λa=>(p.ev sc ρ r).bind λb=>(fL op a b).map .bool else none
 | .List es _=>(jY p sc ρ es).map .list
 | .Tuple es _ _=>(jY p sc ρ es).map .tup
 | .Subscript o i _=>match i with
  | .Slice lo hi st _=>if st.isNone then(p.ev sc ρ o).bind λv=>(ig p sc ρ lo).bind λa=>(ig p sc ρ hi).bind λb=>dh v a b else none
  |i=>(p.ev sc ρ o).bind λv=>(p.ev sc ρ i).bind λk=>gK v k
 | .ListComp elt gens scope _=>dj p sc ρ elt scope gens
 | .JoinedStr vs _=>(lW p sc ρ vs).bind λs=>if s.length<=1000/\2<=vs.length then some (.str s) else none
 | .Call f args kws pos=>if kws.isEmpty then Cf F S n p sc ρ f args pos else none
 |_=>none
noncomputable def evF(F:Fns)(S:Subs)(n:Nat)(p:P)(sc:Sc)(ρ:Rho)(e:Pm):Pj MV:=match S.spec n sc (p.ev sc ρ) e with
 |some v=>some v
 |none=>zV F S n p sc ρ e
noncomputable def Mc(p:P)(sc:Sc)(ρ:Rho)(e:Pm):Pj Bool:=match e with
 | .UnaryOp op x _=>if op= .Not then(p.tst sc ρ x).map (!·) else none
 | .BoolOp op vs _=>wN p sc ρ op vs
 | .IfExp t b o _=>(p.tst sc ρ t).bind λc=>if c then p.tst sc ρ b else p.tst sc ρ o
 | .Compare l ops rs _=>(one ops).bind λop=>(one rs).bind λr=>if bx r then(p.ev sc ρ l).bind λa=>(p.ev sc ρ r).bind λb=>fL op a b else none
 |e=>if J6 e then(p.ev sc ρ e).bind truth else none
noncomputable def me(F:Fns)(S:Subs):Nat->P
 |0=>⟨λ_ _ _=>none,λ_ _ _=>none⟩
 |n+1=>⟨evF F S n (me F S n),Mc (me F S n)⟩
noncomputable abbrev noIt:MV->Bool:=fit true false true
noncomputable abbrev cw:List MV->Bool:=nE true false true
noncomputable def dg(ρ:Rho):Bool:=ρ.all λp=>noIt p.2
inductive MFl where
 |next|brk|ret (v:MV)
theorem nna:Nonempty MFl:=⟨.next⟩
noncomputable def aR(sc:Sc)(x:Str):Bool:=match sc.lookup x with
 |some .local|some .cell=>true
 |_=>false
noncomputable abbrev qr:MV->Bool:=fit true true false
noncomputable abbrev rJ:List MV->Bool:=nE true true false
noncomputable def jC(ρ:Rho):Bool:=ρ.all λp=>qr p.2
noncomputable def namesOf:List Pm->Pj (List Str)
 | []=>some []
 |e::r=>(cNm e).bind λx=>(namesOf r).map (x::·)
noncomputable def gM(ρ:Rho):List Str->List MV->Rho
 |x::xs,v::vs=>gM (ae ρ x v) xs vs
 |_,_=>ρ
noncomputable def okv:MV->Bool
 | .grow l| .iter l=>aa l
 | .adder _=>true
 |m=>m.plain
structure X where
 st:Bool
 ex:Sc->Rho->List Pq->Pj (MFl×Rho)
theorem nnb:Nonempty X:=⟨⟨true,λ_ _ _=>none⟩⟩
noncomputable def rK(p:P)(x:X)(sc:Sc)(t:Pm)(body:List Pq):Nat->Rho->Pj (MFl×Rho)
 |0,_=>none
 |k+1,ρ=>(p.tst sc ρ t).bind λb=>if b then(x.ex sc ρ body).bind λfr=>match fr.1 with
   | .next=>rK p x sc t body k fr.2
   | .brk=>some (.next,fr.2)
   | .ret v=>some (.ret v,fr.2)
  else some (.next,ρ)
noncomputable def tO:MV->Pj (List MV)
 | .tup l=>some l
 |_=>none
noncomputable def lZ:MV->Pj (List MV)
 | .grow l=>some l
 |_=>none
noncomputable def zW:MV->Pj (List MV)
 | .iter l=>some l
 |_=>none
noncomputable def yW:MV->Pj Str
 | .adder y=>some y
 |_=>none
theorem jZ{x:MV}{l:List MV}(h:tO x=some l):x= .tup l:=by cases x<;>first|exact af h|exact ON _ (OH h)
theorem nG{x:MV}{l:List MV}(h:lZ x=some l):x= .grow l:=by cases x<;>first|exact af h|exact ON _ (OH h)
theorem yX{x:MV}{l:List MV}(h:zW x=some l):x= .iter l:=by cases x<;>first|exact af h|exact ON _ (OH h)
theorem wQ{x:MV}{l:Str}(h:yW x=some l):x= .adder l:=by cases x<;>first|exact af h|exact ON _ (OH h)
noncomputable def bB(sc:Sc)(ρ:Rho)(t:Pm)(v:MV):Pj Rho:=match aN t with
 | .name y _=>if aR sc y/\v.plain then some (ae ρ y v) else none
 | .tup ts _ _=>(namesOf ts).bind λys=>(tO v).bind λl=>if ys.all (aR sc)/\ys.length=l.length/\aa l then some (gM ρ ys l) else none
 |_=>none
noncomputable def ij(x:X)(sc:Sc)(t:Pm)(body:List Pq):List MV->Rho->Pj (MFl×Rho)
 | [],ρ=>if dg ρ=true then some (.next,ρ) else none
 |v::vs,ρ=>if dg ρ=true/\(x.st=false\/rJ (v::vs)=true) then(bB sc ρ t v).bind λw92=>(x.ex sc w92 body).bind λfr=>match fr.1 with
   | .next=>ij x sc t body vs fr.2
   | .brk=>some (.next,fr.2)
   | .ret w=>some (.ret w,fr.2)
  else none
noncomputable def dk(ρ:Rho)(x:Str):Rho:=ρ.filter λp=>p.1 != x
noncomputable def bg(x:Str):Bool:=x != sx "__debug__"&&x != sx "__classdict__"
noncomputable def eA(scope:Scope)(y:Str)(l1 l2:Nat):Bool:=l1==l2&& !(scope.names.any λ(n,k)=>n==y&&(k== .local||k== .cell))
noncomputable def rL(p:P)(sc:Sc)(ρ:Rho)(y:Str)(e:Pm):Pj Rho:=(p.ev sc ρ e).bind λv=>if v.plain then some (ae ρ y v) else none
noncomputable def bo(p:P)(st:Bool)(sc:Sc)(ρ:Rho)(y:Str)(line:Nat)(e:Pm):Pj Rho:=
 if aR sc y=false then none else match aN e with
 | .list es _=>if es.isEmpty=true then(if sc.lookup y=some .local then some (ae ρ y (.grow [])) else none)
  else if st=true/\y=sx "star" then(if((one es).bind cStr).isSome=true/\jC ρ=true then some (ae ρ y .opq) else none) else rL p sc ρ y e
 | .attr o m _=>(match cNm o with
  |some z=>if m=sx "append"/\sc.lookup y=some .local/\sc.lookup z=some .local/\y≠z/\bg z=true then((ρ.lookup z).bind lZ).map λ_=>ae ρ y (.adder z) else none
  |none=>rL p sc ρ y e)
 | .call f as u=>(match cNm f with
  |some g=>
   if g=sx "object" then(if st=true/\as.isEmpty=true/\sc.lookup g=some .globalImplicit/\jC ρ=true then some (ae ρ y .opq) else none)
   else if g=sx "iter" then(one as).bind λa=>if sc.lookup y=some .local/\sc.lookup g=some .globalImplicit/\notStar a=true then((p.ev sc ρ a).bind d5).bind λl=>if aa l then some (ae ρ y (.iter l)) else none else none
   else rL p sc ρ y e
  |none=>rL p sc ρ y e)
 | .lcomp elt gens scope q=>if sc.lookup y=some .local/\eA scope y line q.line=true then(dj p sc ρ elt scope gens).bind λv=>if v.plain then some (ae ρ y v) else none else rL p sc ρ y e
 |_=>if jX e then rL p sc ρ y e else none
noncomputable def linesOf:List Pm->List Nat
 | []=>[]
 |e::r=>e.pos.line::linesOf r
noncomputable def rO(sc:Sc)(ts vs:List Pm):Pj (List Str):=(namesOf ts).bind λys=>if(ts.length=2\/ts.length=3)/\vs.length=ts.length/\(vs.all notStar)=true/\(ys.all λy=>sc.lookup y==some .local)=true/\(ys.eraseDups.length != ys.length)=false/\
   ((linesOf ts).all λl=>l==(ts.head?.map (·.pos.line)).getD 0)=true/\vs.all (foldedForSure 8)=false/\vs.all (constantsAlone 8)=false then some ys else none
noncomputable def Cg(p:P)(sc:Sc)(ρ:Rho)(y:Str)(a:Pm):Pj (MFl×Rho):=((ρ.lookup y).bind lZ).bind λl=>(p.ev sc ρ a).bind λv=>
 if v.plain/\notStar a/\l.length<=1000 then some (.next,(y,.grow (l++[v]))::ρ.filter λp=>p.1 != y) else none
noncomputable def Ci(p:P)(sc:Sc)(ρ:Rho)(f a:Pm)(pos:Pos):Pj (MFl×Rho):=match aN f with
 | .attr o m apos=>(cNm o).bind λy=>if m=sx "append"/\sc.lookup y=some .local/\bg y=true/\(apos.endLine==pos.line)=true then Cg p sc ρ y a else none
 | .name f _=>((ρ.lookup f).bind yW).bind λy=>if sc.lookup y=some .local/\sc.lookup f=some .local/\bg f=true then Cg p sc ρ y a else none
 |_=>none
noncomputable def J7(p:P)(sc:Sc)(ρ:Rho)(e:Pm):Pj (MFl×Rho):=match aN e with
 | .call f as pos=>(one as).bind λa=>Ci p sc ρ f a pos
 |_=>none
noncomputable def kept(f:MV->Pj (List MV))(ρ:Rho)(i:Pm):Pj (Str×List MV):=(cNm i).bind λz=>((ρ.lookup z).bind f).map (z,·)
noncomputable def asked(b:List Pq):Pj (Str×Str×Str):=(one b).bind λst=>match st with
 | .Assign ts e _=>(one ts).bind λt=>(cNm t).bind λy=>(match aN e with
  | .call f as _=>(cNm f).bind λg=>(one as).bind λa=>(cNm a).map λz=>(y,g,z)
  |_=>none)
 |_=>none
noncomputable def Nz(sc:Sc)(ρ:Rho)(y g z:Str):Pj (MFl×Rho):=if g=sx "next"/\sc.lookup g=some .globalImplicit/\aR sc y/\sc.lookup z=some .local/\y≠z/\bg z=true then((ρ.lookup z).bind zW).bind λl=>match l with
  | []=>none
  |v::r=>if v.plain then some (.next,ae (ae ρ z (.iter r)) y v) else none
 else none
noncomputable def wR(p:P)(sc:Sc)(ρ:Rho)(t:Pm)(ns:List Pm)(e:Pm):Pj (MFl×Rho):=match aN e with
 | .tup vs _ _=>(rO sc ns vs).bind λys=>((p.ev sc ρ e).bind tO).bind λl=>if ys.length=l.length/\aa l then some (.next,gM ρ ys.reverse l.reverse) else none
 | .name _ _=>(p.ev sc ρ e).bind λv=>(bB sc ρ t v).map (.next,·)
 |_=>none
noncomputable def stF(p:P)(x:X)(n:Nat)(sc:Sc)(ρ:Rho):Pq->Pj (MFl×Rho)
 | .Assign ts e pos=>(one ts).bind λt=>match aN t with
  | .name y q=>(bo p x.st sc ρ y q.line e).map (.next,·)
  | .tup ns _ _=>wR p sc ρ t ns e
  |_=>none
 | .AugAssign t op e _=>(cNm t).bind λy=>if aR sc y=true/\bg y=true/\op= .Add then((ρ.lookup y).bind intOf).bind λa=>((p.ev sc ρ e).bind intOf).map λb=>(.next,ae ρ y (.int (a+b))) else none
 | .Expr e _=>J7 p sc ρ e
 | .If t b o _=>(p.tst sc ρ t).bind λc=>if c then x.ex sc ρ b else x.ex sc ρ o
 | .While t b o _=>if o.isEmpty then rK p x sc t b n ρ else none
 | .For t i b o _=>if o.isEmpty then(match kept zW ρ i with
  |some zl=>if sc.lookup zl.1=some .local/\bg zl.1=true/\dg (dk ρ zl.1)=true then ij x sc t b zl.2 (dk ρ zl.1) else none
  |none=>if bx i/\dg ρ=true then((p.ev sc ρ i).bind aM).bind λl=>ij x sc t b l ρ else none) else none
 | .Return v _=>v.bind λe=>(match kept lZ ρ e with
  |some zl=>if sc.lookup zl.1=some .local/\bg zl.1=true/\aa zl.2 then some (.ret (.list zl.2),ρ) else none
  |none=>(p.ev sc ρ e).bind λv=>if v.plain then some (.ret v,ρ) else none)
 | .Break _=>some (.brk,ρ)
 | .Assert t _ _=>(p.tst sc ρ t).bind λc=>if c then some (.next,ρ) else none
 | .Try b h o f _=>if h.isEmpty=false/\o.isEmpty=true/\f.isEmpty=true then(asked b).bind λy=>Nz sc ρ y.1 y.2.1 y.2.2 else none
 |_=>none
noncomputable def J8(st:Sc->Rho->Pq->Pj (MFl×Rho))(sc:Sc):List Pq->Rho->Pj (MFl×Rho)
 | [],ρ=>some (.next,ρ)
 |s::r,ρ=>(st sc ρ s).bind λfr=>match fr.1 with
  | .next=>J8 st sc r fr.2
  |f=>some (f,fr.2)
noncomputable def mx(F:Fns)(S:Subs)(st:Bool):Nat->X
 |0=>⟨st,λ_ _ _=>none⟩
 |n+1=>⟨st,λsc ρ b=>J8 (stF (me F S n) (mx F S st n) n) sc b ρ⟩
noncomputable def J9:MFl->Pj MV
 | .ret v=>some v
 |_=>none
noncomputable def wU(F:Fns)(S:Subs)(st:Bool)(n:Nat)(sc:Sc)(ps:List Str)(body:List Pq)(dm as:List MV):Pj MV:=
 if as.length+dm.length=ps.length/\aa as then((mx F S st n).ex sc (ps.zip (as++dm)).reverse body).bind λfr=>(J9 fr.1).bind λv=>if st=false\/qr v=true then some v else none else none
noncomputable def dE(P:Pk)(x:String)(t:Tok)(v:Ph):DictEntry:=⟨PyData.keyHash P (sx x),.str (sx x) t,v⟩
noncomputable def thd(x:String):Arguments×List Pq×Scope:=(PySem.Challenge.pw_in0266_01.theDef (sx x)).getD default
noncomputable def fnO(a:Nat)(x m:String)(t:Tok)(d:Ph):Nat×Obj:=(a,{cls:= .type "function",data:= .func {name:=sx x,qualname:=sx x,params:=(thd x).1,body:= .stmts (thd x).2.1,scope:=(thd x).2.2,globals:=3,closure:=[],defaults:=d,kwdefaults:= .none,pyModule:= .str (sx m) t,code:= .ref (a-1)}})
noncomputable def coO(c:Nat)(x:String)(t:Tok)(r:Array Ph)(u:Tok):Nat×Obj:=(c,{cls:= .type "code",data:= .fields (#[.str (sx x) t,.str (sx x) (t+1),.str (sx "/claim/cut.py") (t+2)]++r++#[.str (sx "/claim/cut.py") u])})
noncomputable def KK(P:Pk):Frag:=[
 ((2:Nat),({cls:= .none,data:= .dict #[dE P "\x69mport.loaded._sre" 183 (.bool true),dE P "class._frozen_importlib.BuiltinImporter" 185 (.ref 14),dE P "watched.\x69mport" 206 (.ref 18),dE P "class._frozen_importlib.ModuleSpec" 216 (.ref 22),dE P "sys.modules.booked-epoch" 245 (.int 3 0),dE P "\x69mport.later-laid._sre" 270 (.bool true),dE P "watched.library" 272 (.ref 27),dE P "watched.library-objects" 0 (.str (sx "\x0c") 0),dE P "watched.library-deep._sre" 273 (.str (sx "\x04\x00\x00\x0b\x04\x00\x00\x0b\x04\x00\x00\x03\x04\x00\x00\x0b\x08\x04dict\x02") 0)] 9}:Obj)),
 ((3:Nat),({cls:= .type "dict",data:= .dict #[dE P "__name__" 165 (.str (sx "law_in0266_01") 613),dE P "__doc__" 166 (.none),dE P "__package__" 167 (.none),dE P "__loader__" 168 (.builtin "__main__.__loader__#opaque"),dE P "__spec__" 169 (.none),dE P "__annotations__" 170 (.ref 6),dE P "__builtins__" 171 (.ref 4),dE P "__file__" 173 (.str (sx "/claim/cut.py") 172),dE P "__cached__" 174 (.none),dE P "_sre" 275 (.ref 12),dE P "twin_re_1_smtplib" 299 (.ref 36),dE P "_twin_re_2" 341 (.ref 41),dE P "CRLF" 343 (.str (sx "\x0d\n") 342),dE P "quotedata" 350 (.ref 48),dE P "twin_re_1_fnmatch" 390 (.ref 53),dE P "translate" 399 (.ref 60),dE P "_special_chars_map" 547 (.ref 62),dE P "escape" 554 (.ref 72),dE P "_translate" 575 (.ref 79),dE P "_join_translated_parts" 588 (.ref 86),dE P "cmp_to_key" 599 (.ref 93),dE P "_initial_missing" 600 (.ref 94),dE P "reduce" 612 (.ref 102),dE P "_law_row" 621 (.ref 109),dE P "_law_server" 627 (.ref 114),dE P "_law_takes" 635 (.ref 121),dE P "_law_fits" 641 (.ref 126),dE P "_law_hop" 647 (.ref 131),dE P "_law_refused" 654 (.ref 138),dE P "_law_text" 660 (.ref 143),dE P "_law_goes" 666 (.ref 148),dE P "_law_left" 681 (.ref 155),dE P "_law_dots" 688 (.ref 162),dE P "_law_more" 696 (.ref 169),dE P "law" 702 (.ref 174)] 35}:Obj)),
 ((35:Nat),({cls:= .type "tuple",data:= .seq #[.int 14 0,.int 4 0,.int 0 0,.int 1 0,.int 1 0,.int 6 0,.int 1 0,.int 16 0,.int 46 0,.int 1 0]}:Obj)),
 ((36:Nat),({cls:= .type "re.Pattern",data:= .fields #[.str (sx "(?m)^\\.") 285,.int 40 298,.int 0 0,.none,.none,.ref 35,.int 0 0]}:Obj)),
 ((40:Nat),({cls:= .type "tuple",data:= .seq #[.int 14 0,.int 9 0,.int 4 0,.int 1 0,.int 2 0,.int 16 0,.int 10 0,.int 16 0,.int 13 0,.int 0 0,.int 7 0,.int 7 0,.int 16 0,.int 13 0,.int 16 0,.int 10 0,.int 15 0,.int 18 0,.int 5 0,.int 16 0,.int 10 0,.int 15 0,.int 13 0,.int 11 0,.int 16 0,.int 13 0,.int 5 0,.int 5 0,.int 0 0,.int 16 0,.int 10 0,.int 1 0,.int 15 0,.int 2 0,.int 0 0,.int 1 0]}:Obj)),
 ((41:Nat),({cls:= .type "re.Pattern",data:= .fields #[.str (sx "(?:\\r\\n|\\n|\\r(?!\\n))") 301,.int 32 340,.int 0 0,.none,.none,.ref 40,.int 0 0]}:Obj)),
 coO 47 "quotedata" 344 #[.int 6 0,.int 1 0,.int 0 0,.int 0 0,.int 3 0,.ref 42,.bool true,.int 276 0,.ref 43,.none,.ref 44,.ref 45,.ref 46,.int 348 0,.int 6 0] 349,
 fnO 48 "quotedata" "cpy313.smtplib" 282 (.none),
 ((52:Nat),({cls:= .type "tuple",data:= .seq #[.int 14 0,.int 14 0,.int 4 0,.int 1 0,.int 1 0,.int 9 0,.int 0 0,.int 64 0,.int 0 0,.int 1342177280 0,.int 0 0,.int 0 0,.int 0 0,.int 0 0,.int 0 0,.int 17 0,.int 0 0,.int 13 0,.int 11 0,.int 9 0,.int 0 0,.int 64 0,.int 0 0,.int 1342177280 0,.int 0 0,.int 0 0,.int 0 0,.int 0 0,.int 0 0,.int 17 0,.int 1 0,.int 1 0]}:Obj)),
 ((53:Nat),({cls:= .type "re.Pattern",data:= .fields #[.str (sx "([&~|])") 354,.int 32 389,.int 1 0,.none,.none,.ref 52,.int 0 0]}:Obj)),
 coO 59 "translate" 391 #[.int 10 0,.int 1 0,.int 0 0,.int 0 0,.int 3 0,.ref 54,.bool true,.int 276 0,.ref 55,.none,.ref 56,.ref 57,.ref 58,.int 397 0,.int 10 0] 398,
 fnO 60 "translate" "cpy313.fnmatch" 351 (.none),
 ((62:Nat),({cls:= .type "dict",data:= .dict #[⟨40,.int 40 403,.str (sx "\\(") 407⟩,⟨41,.int 41 409,.str (sx "\\)") 413⟩,⟨91,.int 91 415,.str (sx "\\[") 419⟩,⟨93,.int 93 421,.str (sx "\\]") 425⟩,⟨123,.int 123 427,.str (sx "\\{") 431⟩,⟨125,.int 125 433,.str (sx "\\}") 437⟩,⟨63,.int 63 439,.str (sx "\\?") 443⟩,⟨42,.int 42 445,.str (sx "\\*") 449⟩,⟨43,.int 43 451,.str (sx "\\+") 455⟩,⟨45,.int 45 457,.str (sx "\\-") 461⟩,⟨124,.int 124 463,.str (sx "\\|") 467⟩,⟨94,.int 94 469,.str (sx "\\^") 473⟩,⟨36,.int 36 475,.str (sx "\\$") 479⟩,⟨92,.int 92 481,.str (sx "\\\\") 485⟩,⟨46,.int 46 487,.str (sx "\\.") 491⟩,⟨38,.int 38 493,.str (sx "\\&") 497⟩,⟨126,.int 126 499,.str (sx "\\~") 503⟩,⟨35,.int 35 505,.str (sx "\\#") 509⟩,⟨32,.int 32 511,.str (sx "\\ ") 515⟩,⟨9,.int 9 517,.str (sx "\\\t") 521⟩,⟨10,.int 10 523,.str (sx "\\\n") 527⟩,⟨13,.int 13 529,.str (sx "\\\x0d") 533⟩,⟨11,.int 11 535,.str (sx "\\\x0b") 539⟩,⟨12,.int 12 541,.str (sx "\\\x0c") 545⟩] 24}:Obj)),
 coO 71 "escape" 548 #[.int 16 0,.int 1 0,.int 0 0,.int 0 0,.int 3 0,.ref 66,.bool true,.int 276 0,.ref 67,.none,.ref 68,.ref 69,.ref 70,.int 552 0,.int 16 0] 553,
 fnO 72 "escape" "re" 400 (.none),
 coO 78 "_translate" 557 #[.int 23 0,.int 3 0,.int 0 0,.int 0 0,.int 3 0,.ref 73,.bool true,.int 276 0,.ref 74,.none,.ref 75,.ref 76,.ref 77,.int 573 0,.int 23 0] 574,
 fnO 79 "_translate" "cpy313.fnmatch" 555 (.none),
 coO 85 "_join_translated_parts" 576 #[.int 85 0,.int 2 0,.int 0 0,.int 0 0,.int 3 0,.ref 80,.bool true,.int 276 0,.ref 81,.none,.ref 82,.ref 83,.ref 84,.int 586 0,.int 85 0] 587,
 fnO 86 "_join_translated_parts" "cpy313.fnmatch" 555 (.none),
 coO 92 "cmp_to_key" 591 #[.int 113 0,.int 1 0,.int 0 0,.int 0 0,.int 3 0,.ref 87,.bool true,.int 276 0,.ref 88,.none,.ref 89,.ref 90,.ref 91,.int 597 0,.int 113 0] 598,
 fnO 93 "cmp_to_key" "cpy313.functools" 589 (.none),
 ((94:Nat),({cls:= .type "object"}:Obj)),
 ((95:Nat),({cls:= .type "tuple",data:= .seq #[.ref 94]}:Obj)),
 coO 101 "reduce" 601 #[.int 139 0,.int 3 0,.int 0 0,.int 0 0,.int 3 0,.ref 96,.bool true,.int 276 0,.ref 97,.none,.ref 98,.ref 99,.ref 100,.int 610 0,.int 139 0] 611,
 fnO 102 "reduce" "cpy313.functools" 589 (.ref 95),
 coO 108 "_law_row" 615 #[.int 152 0,.int 1 0,.int 0 0,.int 0 0,.int 3 0,.ref 103,.bool true,.int 276 0,.ref 104,.none,.ref 105,.ref 106,.ref 107,.int 619 0,.int 152 0] 620,
 fnO 109 "_law_row" "law_in0266_01" 613 (.none),
 coO 113 "_law_server" 622 #[.int 154 0,.int 1 0,.int 0 0,.int 0 0,.int 3 0,.ref 110,.bool true,.int 276 0,.ref 111,.none,.none,.none,.ref 112,.int 625 0,.int 154 0] 626,
 fnO 114 "_law_server" "law_in0266_01" 613 (.none),
 coO 120 "_law_takes" 628 #[.int 157 0,.int 2 0,.int 0 0,.int 0 0,.int 3 0,.ref 115,.bool true,.int 276 0,.ref 116,.none,.ref 117,.ref 118,.ref 119,.int 633 0,.int 157 0] 634,
 fnO 121 "_law_takes" "law_in0266_01" 613 (.none),
 coO 125 "_law_fits" 636 #[.int 161 0,.int 3 0,.int 0 0,.int 0 0,.int 3 0,.ref 122,.bool true,.int 276 0,.ref 123,.none,.none,.none,.ref 124,.int 639 0,.int 161 0] 640,
 fnO 126 "_law_fits" "law_in0266_01" 613 (.none),
 coO 130 "_law_hop" 642 #[.int 169 0,.int 2 0,.int 0 0,.int 0 0,.int 3 0,.ref 127,.bool true,.int 276 0,.ref 128,.none,.none,.none,.ref 129,.int 645 0,.int 169 0] 646,
 fnO 131 "_law_hop" "law_in0266_01" 613 (.none),
 coO 137 "_law_refused" 648 #[.int 177 0,.int 1 0,.int 0 0,.int 0 0,.int 3 0,.ref 132,.bool true,.int 276 0,.ref 133,.none,.ref 134,.ref 135,.ref 136,.int 652 0,.int 177 0] 653,
 fnO 138 "_law_refused" "law_in0266_01" 613 (.none),
 coO 142 "_law_text" 655 #[.int 183 0,.int 1 0,.int 0 0,.int 0 0,.int 3 0,.ref 139,.bool true,.int 276 0,.ref 140,.none,.none,.none,.ref 141,.int 658 0,.int 183 0] 659,
 fnO 143 "_law_text" "law_in0266_01" 613 (.none),
 coO 147 "_law_goes" 661 #[.int 190 0,.int 2 0,.int 0 0,.int 0 0,.int 3 0,.ref 144,.bool true,.int 276 0,.ref 145,.none,.none,.none,.ref 146,.int 664 0,.int 190 0] 665,
 fnO 148 "_law_goes" "law_in0266_01" 613 (.none),
 coO 154 "_law_left" 667 #[.int 197 0,.int 2 0,.int 0 0,.int 0 0,.int 3 0,.ref 149,.bool true,.int 276 0,.ref 150,.none,.ref 151,.ref 152,.ref 153,.int 679 0,.int 197 0] 680,
 fnO 155 "_law_left" "law_in0266_01" 613 (.none),
 coO 161 "_law_dots" 682 #[.int 207 0,.int 1 0,.int 0 0,.int 0 0,.int 3 0,.ref 156,.bool true,.int 276 0,.ref 157,.none,.ref 158,.ref 159,.ref 160,.int 686 0,.int 207 0] 687,
 fnO 162 "_law_dots" "law_in0266_01" 613 (.none),
 coO 168 "_law_more" 689 #[.int 209 0,.int 2 0,.int 0 0,.int 0 0,.int 3 0,.ref 163,.bool true,.int 276 0,.ref 164,.none,.ref 165,.ref 166,.ref 167,.int 694 0,.int 209 0] 695,
 fnO 169 "_law_more" "law_in0266_01" 613 (.none),
 coO 173 "law" 697 #[.int 211 0,.int 1 0,.int 0 0,.int 0 0,.int 3 0,.ref 170,.bool true,.int 276 0,.ref 171,.none,.none,.none,.ref 172,.int 700 0,.int 211 0] 701,
 fnO 174 "law" "law_in0266_01" 613 (.none)]
abbrev mP:OpenRow:=PySem.Challenge.rw_in0266_01.row
noncomputable def qV:Program:=view PySem.Challenge.pw_in0266_01 [0,2,3,4,5,7,8,10,11,13,14,16,17,20,21,22,23,24,25,26,27,28,29,30,31]
noncomputable def rQ:List Str:=["twin_re_1_smtplib","_twin_re_2","twin_re_1_fnmatch","_special_chars_map","_initial_missing","reduce"].map sx
noncomputable def kAs:List Pn:=[2,3,35,36,40,41,47,48,52,53,59,60,62,71,72,78,79,85,86,92,93,94,95,101,102,108,109,113,114,120,121,125,126,130,131,137,138,142,143,147,148,154,155,161,162,168,169,173,174]
theorem Ka(P:Pk):kAs=(KK P).map (·.1):=nofun
noncomputable def kHk:Hook:=kmHook KK kAs Ka [88,74]
noncomputable def NA:Pos:=match(PySem.Challenge.pw_in0266_01.main.body[31]?:Pj Pq) with
 |some (Stmt.FunctionDef _ _ _ _ _ _ _ _ _ p)=>p
 |_=>default
noncomputable def wV:DefRec:={pos:=NA,name:=sx "law",params:=(thd "law").1,body:=(thd "law").2.1,scope:=(thd "law").2.2}
theorem Md:PySem.Challenge.rw_in0266_01.wellSaid=true:=nofun
theorem Kb:defOf qV mP.name=some (wV,[]):=nofun
theorem Kc:mP.prog.theDef mP.name=some (wV.params,wV.body,wV.scope):=nofun
theorem Me:kwWritten? wV.params.kwonlyargs wV.params.kw_defaults=some []:=nofun
theorem Mf:(chainsOk qV&&opensWell mP.prog&&(frees mP.toRowW&&mP.within.isEmpty))=true:=nofun
theorem GJ:mP.prog.bare:=⟨rfl,rfl,rfl,rfl,rfl,by right⟩
theorem Kd:mP.toRowW.promised:=by w_witness2
noncomputable abbrev lawXt(s:Pg):Bool:=xlAt qV [] s&&recOk mP.toRowW.records s
noncomputable abbrev ip(w:World):Prop:=(openEnds treeTable mP.prog w 4404).map (λs=>(openSeen qV rQ (importedModules mP.prog.main.body) lawXt true s,kHk.obs s))=some (openGood qV rQ,kHk.val w)
theorem Mg(w:World):ip ((w.withFollow "comprehension-iter-twice" false).withFollow "special-get-raises" false):=nofun
theorem Mh(w:World):ip ((w.withFollow "comprehension-iter-twice" false).withFollow "special-get-raises" true):=nofun
theorem Mi(w:World):ip ((w.withFollow "comprehension-iter-twice" true).withFollow "special-get-raises" false):=nofun
theorem Mj(w:World):ip ((w.withFollow "comprehension-iter-twice" true).withFollow "special-get-raises" true):=nofun
structure Vw where
 prog:Program
 w:World
 K:Frag
 W9:World9
 tab:Pp->Prop
 os:OsState
theorem nnc:Nonempty Vw:=⟨⟨default,Classical.choice nn3,[],Classical.choice nn6,λ_=>True,default⟩⟩
structure Wd (V:Vw) (s:Pg):Prop where
 K:V.K.In s.heap
 b:∃mb,s.heap.Ns Pc mb/\∀x:Str,x≠"__name__"->mb x=bootBuiltins x
 size:175<=s.heap.objs.size
 bare:AllBare s.gens
 tabs:V.tab s.heap
 os:s.os=V.os
structure Vw.Ok (V:Vw):Prop where
 far:∀a o,V.K.lookup a=some o->¬aJ a/\a<175
 tabKeep:∀h h',V.tab h->(∀a o,h.get? a=some o->bt o\/a<175->h'.get? a=some o)->V.tab h'
 nolimit:∀h,V.K.In h->h.NoLimit
 glob:∀h x mv,V.K.In h->glob x=some mv->∃mg,h.Ns Pb mg/\((∃v,mg x=some v/\(mv= .ex v\/∃y t,mv= .str y/\v= .str y t))\/
  (mg x=none/\x≠"__name__"/\∃v,bootBuiltins x=some v/\mv= .ex v))
structure Room (A:Po) (n:Nat):Prop where
 hd:A.handled=none
 depth:A.depth+n<recursionLimit
 units:A.units+8*n<cLine
theorem Room.le(r:Room A n)(h:m<=n):Room A m:=⟨r.hd,by have:=r.depth;lia,by have:=r.units;lia⟩
structure St (V:Vw) (D:Pn->Prop) (s s':Pg):Prop where
 keep:Keep D s.heap s'.heap
 wd:Wd V s'
theorem St.trans(x:St V D w99 w98)(y:St V D w98 w96):St V D w99 w96:=⟨x.keep.trans y.keep,y.wd⟩
theorem St.any(x:St V none9 s s'):St V D s s':=⟨x.keep.any,x.wd⟩
theorem St.mono(x:St V D s s')(m:∀a,D a->D' a):St V D' s s':=⟨x.keep.mono m,x.wd⟩
theorem Wd.grown(O:V.Ok)(W:Wd V s)(sz:s.heap.objs.size<=s'.heap.objs.size)(k:∀a o,s.heap.get? a=some o->s'.heap.get? a=some o)
  (hg:s'.gens=s.gens:=by rfl) (ho:s'.os=s.os:=by rfl):Wd V s' where
 K:=λa o e=>k _ _ (W.K a o e)
 b:=by obtain⟨mb,h1,h2⟩:=W.b;exact⟨mb,h1.keeps k,h2⟩
 size:=OA W.size sz
 bare:=hg▸W.bare
 tabs:=O.tabKeep _ _ W.tabs λa o e _=>k _ _ e
 os:=ho.trans W.os
theorem Wd.push(O:V.Ok)(W:Wd V s)(o:Obj)(tk:Nat:=s.toks):Wd V {s with heap:=s.heap.push o,toks:=tk}:=
 W.grown O (s':={s with heap:=s.heap.push o,toks:=tk}) (by rw[Heap.size_push];exact O7 _) λa ob e=>OC _ e
theorem Wd.toks(W:Wd V s)(tk:Nat):Wd V {s with toks:=tk}:=⟨W.K,W.b,W.size,W.bare,W.tabs,W.os⟩
theorem Wd.same(O:V.Ok)(W:Wd V s)(hs:Heap.SameBut a s.heap h')(ha:175<=a)(tk:Nat)
  (hn:∀o,s.heap.get? a=some o->¬bt o):Wd V {s with heap:=h',toks:=tk} where
 K:=λb o e=>(hs.2 b (Nat.ne_of_lt (OD (O.far b o e).2 ha))).trans (W.K b o e)
 b:=by obtain⟨mb,h1,h2⟩:=W.b;exact⟨mb,h1.sameBut hs (Nat.ne_of_lt (OD (show(Pc:Nat)<175 by left) ha)),h2⟩
 size:=by show 175<=h'.objs.size;rw[hs.1];exact W.size
 bare:=W.bare
 tabs:=O.tabKeep _ _ W.tabs λb o e c=>by
  by_cases q:b=a
  ·subst q;exact c.elim (λc=>O8 c (hn o e)) λc=>O8 c (OU.mpr ha)
  ·exact(hs.2 b q).trans e
 os:=W.os
theorem St.push(O:V.Ok)(W:Wd V s)(D:Pn->Prop)(o:Obj)(tk:Nat:=s.toks):St V D s {s with heap:=s.heap.push o,toks:=tk}:=⟨.push D s.heap o,W.push O o tk⟩
theorem St.toks(W:Wd V s)(D:Pn->Prop)(tk:Nat):St V D s {s with toks:=tk}:=⟨.refl D s.heap,W.toks tk⟩
theorem St.refl(W:Wd V s)(D:Pn->Prop):St V D s s:=⟨.refl D s.heap,W⟩
theorem St.same(O:V.Ok)(W:Wd V s)(hs:Heap.SameBut a s.heap h')(d:D a)(ha:175<=a)(tk:Nat)
  (hn:∀o,s.heap.get? a=some o->¬bt o):St V D s {s with heap:=h',toks:=tk}:=⟨.same hs d hn,W.same O hs ha tk hn⟩
theorem cy{h:Pp}{a:Pn}{m}(x:h.Ns a m):∀o,h.get? a=some o->¬bt o:=by
 obtain⟨o,es,ep,ho,hd,_⟩:=x
 rintro o' e ⟨vs,hv,_⟩
 rw[ho]at e;cases e;rw[hd]at hv;cases hv
theorem rR{h:Pp}{a:Pn}{v}(x:h.IsCell a v):∀o,h.get? a=some o->¬bt o:=by
 obtain⟨o,ho,hd⟩:=x
 rintro o' e ⟨vs,hv,_⟩
 rw[ho]at e;cases e;rw[hd]at hv;cases hv
theorem eU{h:Pp}{a:Pn}{v}(x:h.IsList a v):∀o,h.get? a=some o->¬bt o:=by
 obtain⟨o,ho,_,n,hd⟩:=x
 rintro o' e ⟨vs,hv,_⟩
 rw[ho]at e;cases e;rw[hd]at hv;cases hv
theorem bK{h:Pp}{a:Pn}{o:Obj}{t:String}(ho:h.get? a=some o)(hc:o.cls= .type t)(ht:(t=="code")=false):∀o,h.get? a=some o->¬bt o:=by
 rintro o' e ⟨vs,_,hv⟩
 rw[ho]at e;cases e;rw[hc]at hv;rcases hv with hv|hv
 ·cases hv
 ·cases hv;simp at ht
def Bnd(D:Pn->Prop)(s:Pg):Prop:=∀a,D a->175<=a/\a<s.heap.objs.size
theorem Bnd.st(b:Bnd D s)(x:St V D' s s'):Bnd D s':=λa d=>⟨(b a d).1,OD (b a d).2 x.keep.size⟩
theorem Bnd.new(b:Bnd D s):¬D s.heap.objs.size:=λd=>OM _ (b _ d).2
theorem Wd.newTab(W:Wd V s):¬aJ s.heap.objs.size:=λt=>by have h:=W.size;rcases t with t|t<;>(rw[t]at h;exact O8 h (by left))
theorem Bnd.none9(s:Pg):Bnd none9 s:=λ_ d=>d.elim
section
variable {W:World9}{θ w97:Pn}{D D':Pn->Prop}{h h':Pp}
theorem Keep.move0(k:Keep none9 h h'):Move W θ θ D D h h' true true true:=⟨λa ob d t e _=>⟨d,k.keep a ob (λq=>q) t e⟩,λ_ a ob d t e _=>⟨d,k.keep a ob (λq=>q) t e⟩,λ_ a ob d t e=>⟨d,k.keep a ob (λq=>q) t e⟩,λ_=>rfl,λC x=>x.keep k λ_ q=>q.elim⟩
theorem Rp.keep0(k:Keep none9 h h')(x:MV)(v:Ph)(r:Rp W θ D h x v):Rp W θ D h' x v:=Rp.move k.move0 x v (rH x) r
theorem RpL.keep0(k:Keep none9 h h')(l:List MV)(vs:List Ph)(r:RpL W θ D h l vs):RpL W θ D h' l vs:=RpL.move k.move0 l vs (gr l) r
theorem IsList.lt{a:Pn}{xs}(x:h.IsList a xs):a<h.objs.size:=x.elim λ_ q=>OF q.1
theorem Move.wide(m:∀a,a<h.objs.size->D' a->D a):Move W θ θ D D' h h false false true:=⟨λa ob d t e _=>⟨λq=>d (m a (OF e) q),e⟩,λe=>Bool.noConfusion e,λe=>Bool.noConfusion e,λ_=>rfl,
 λC x=>x.elim λl q=>⟨l,q.1,λp hp=>let r:=q.2 p hp;⟨r.1.imp (λn q=>n (m _ (OF r.2.2) q)) id,r.2⟩⟩⟩
theorem Rp.wide(m:∀a,a<h.objs.size->D' a->D a)(x:MV)(v:Ph)(p:x.plain=true)(r:Rp W θ D h x v):Rp W θ D' h x v:=Rp.move (.wide m) x v p r
theorem RpL.wide(m:∀a,a<h.objs.size->D' a->D a)(l:List MV)(vs:List Ph)(p:aa l=true)(r:RpL W θ D h l vs):RpL W θ D' h l vs:=RpL.move (.wide m) l vs p r
theorem Move.star:Move W θ w97 D D h h true true false:=⟨λ_ _ d _ e _=>⟨d,e⟩,λ_ _ _ d _ e _=>⟨d,e⟩,λ_ _ _ d _ e=>⟨d,e⟩,λe=>Bool.noConfusion e,λ_ x=>x⟩
theorem Rp.star(x:MV)(v:Ph)(p:qr x=true)(r:Rp W θ D h x v):Rp W w97 D h x v:=Rp.move .star x v p r
theorem RpL.star(l:List MV)(vs:List Ph)(p:rJ l=true)(r:RpL W θ D h l vs):RpL W w97 D h l vs:=RpL.move .star l vs p r
end
theorem RpL.length:∀{l:List MV} {vs:List Ph},RpL W θ D h l vs->vs.length=l.length
 | [],_,r=>by cases r;rfl
 |_::_,_,⟨v,q,e,_,r⟩=>by subst e;simp [r.length]
theorem RpL.append:∀{l l':List MV} {vs vs':List Ph},RpL W θ D h l vs->RpL W θ D h l' vs'->RpL W θ D h (l++l') (vs++vs')
 | [],_,_,_,r,r'=>by cases r;exact r'
 |_::_,_,_,_,⟨v,q,e,r1,r2⟩,r'=>by subst e;exact⟨v,_,rfl,r1,r2.append r'⟩
theorem RpL.get:∀{l:List MV} {vs:List Ph} {i:Nat} {x:MV},RpL W θ D h l vs->l[i]?=some x->∃v,vs[i]?=some v/\Rp W θ D h x v
 | [],_,_,_,_,e=>by simp at e
 |_::_,_,0,_,⟨v,q,e',r1,r2⟩,e=>by subst e';cases e;exact⟨v,rfl,r1⟩
 |_::_,_,i+1,_,⟨v,q,e',r1,r2⟩,e=>by subst e';exact r2.get (i:=i) e
theorem RpL.drop:∀{l:List MV} {vs:List Ph} (i:Nat),RpL W θ D h l vs->RpL W θ D h (l.drop i) (vs.drop i)
 |_,_,0,r=>r
 | [],_,i+1,r=>by cases r;rfl
 |_::_,_,i+1,⟨v,q,e',r1,r2⟩=>by subst e';exact r2.drop i
theorem RpL.take:∀{l:List MV} {vs:List Ph} (i:Nat),RpL W θ D h l vs->RpL W θ D h (l.take i) (vs.take i)
 |_,_,0,_=>by rw[List.take_zero,List.take_zero];rfl
 | [],_,i+1,r=>by cases r;rfl
 |_::_,_,i+1,⟨v,q,e',r1,r2⟩=>by subst e';exact⟨v,_,rfl,r1,r2.take i⟩
theorem fc{l:List MV}{i:Nat}{x:MV}(p:aa l=true)(e:l[i]?=some x):x.plain=true:=by
 induction l generalizing i with
 |nil=>simp at e
 |cons a r ih=>
  have p':a.plain=true/\aa r=true:=ba p;cases i with
  |zero=>cases e;exact p'.1
  |succ i=>exact ih p'.2 e
end
section
open PySem.MeetsSeq PySem.SeqAt
section
variable {prog:Program}{w:World}{A:Po}{E:Pr}{s:Pg}{W:World9}{θ:Pn}{D:Pn->Prop}
theorem nH:∀{l:List MV} {ys:List Str} {vs:List Ph},strsOf l=some ys->RpL W θ D h l vs->StrsAre vs ys:=by
 intro l;induction l with
 |nil=>intro ys vs e r;cases e;cases r;exact .nil
 |cons x l ih=>intro ys vs e r;ext y e1 e;refine mpE (λys e2 e2z=>?_) e;subst e2z;obtain⟨v,q,rfl,r1,r2⟩:=r;obtain⟨t,rfl⟩:=cL e1 r1;exact .cons _ _ (ih e2 r2)
theorem zX(ih:∀{x y:MV} {b:Bool} {v:Ph},f x y=some b->Rp W θ D s.heap x v->Rp W θ D s.heap y v->b=true):
  ∀{l l':List MV} {b:Bool} {vs:List Ph},wL f l l'=some b->RpL W θ D s.heap l vs->RpL W θ D s.heap l' vs->b=true:=by
 intro l;induction l with
 |nil=>exact λe _ _=>OH (eG e).2.symm
 |cons a r go=>
  intro l' b vs e r1 r2;cases l' with
  |nil=>exact af e
  |cons a' r'=>ext c h1 e;refine mpE (λd h2 e2z=>?_) e;subst e2z;obtain⟨v,q,rfl,x1,x2⟩:=r1;obtain⟨v',q',e,y1,y2⟩:=r2;cases e;exact OR.mpr ⟨ih h1 x1 y1,go h2 x2 y2⟩
theorem zY{h:Pp}{a:Pn}{xs ys:List Ph}(x:h.IsList a xs.toArray)(y:h.IsList a ys.toArray):xs=ys:=by obtain⟨o,ho,_,n,hd⟩:=x;obtain⟨o2,ho2,_,n2,hd2⟩:=y;cases ho.symm.trans ho2;exact ON Array.toList (Data.seq.inj (hd.symm.trans hd2)).1
theorem Cj:∀(k:Nat) {x y:MV} {b:Bool} {v:Ph},meq k x y=some b->Rp W θ D s.heap x v->Rp W θ D s.heap y v->b=true:=by
 intro k;induction k with
 |zero=>exact λh=>af h
 |succ k ih=>
  intro x y b v h rv ru;cases x<;>first|exact af h|skip
  ·refine mpE (λc e e2z=>?_) h;subst e2z;cases rv.symm.trans (rG e ru);exact beq_self_eq_true _
  ·refine mpE (λc e e2z=>?_) h;subst e2z;obtain⟨t,rfl⟩:=rv;obtain⟨u,q⟩:=eH e ru;cases q;exact beq_self_eq_true _
  ·refine mpE (λc e e2z=>?_) h;subst e2z;obtain⟨t,rfl⟩:=rv;obtain⟨u,q⟩:=cL e ru;cases q;exact beq_self_eq_true _
  ·revert h;refine bdE λl' e h=>?_;obtain⟨a,vs,rfl,d1,t1,hl,r1⟩:=rv;obtain⟨c,us,q,d2,t2,hl2,r2⟩:=nB e ru;cases q;cases zY hl hl2;rcases di h with⟨_,h⟩|⟨n,_⟩
   ·exact zX ih h r1 r2
   ·exact O8 (r1.length.symm.trans r2.length) n
theorem GK(ih:∀{x y:MV} {b:Bool} {v u:Ph},f x y=some b->Rp W θ D s.heap x v->Rp W θ D s.heap y u->EqAt A s v u b):
  ∀{l l':List MV} {b:Bool} {vs us:List Ph},wL f l l'=some b->RpL W θ D s.heap l vs->RpL W θ D s.heap l' us->∃e:Nat->Bool,((List.range vs.length).all e=b)/\vs.length=us.length/\∀j (h1:j<vs.length) (h2:j<us.length),EqAt A s vs[j] us[j] (e j):=by
 intro l;induction l with
 |nil=>
  intro l' b vs us h r1 r2;cases l' with
  |nil=>cases r1;cases r2;exact⟨λ_=>true,OH h,rfl,λj h1=>O8 h1 (Pe j)⟩
  |cons _ _=>exact af h
 |cons a r go=>
  intro l' b vs us h r1 r2;cases l' with
  |nil=>exact af h
  |cons a' r'=>
   ext c h1 h;refine mpE (λd h2 e2z=>?_) h;subst e2z;obtain⟨v,q,rfl,x1,x2⟩:=r1;obtain⟨v',q',rfl,y1,y2⟩:=r2;obtain⟨e,e1,e2,e3⟩:=go h2 x2 y2;have hc:=ih h1 x1 y1;refine⟨λj=>match j with|0=>c|j+1=>e j,?_,ON (·+1) e2,?_⟩
   ·rw[List.length_cons,List.range_succ_eq_map,List.all_cons,List.all_map];refine(?_:(c&&_)=_);rw[<-e1];rfl
   ·intro j h1 h2;cases j with
    |zero=>exact hc
    |succ j=>exact e3 j (Nat.lt_of_succ_lt_succ h1) (Nat.lt_of_succ_lt_succ h2)
theorem Ck:∀(k:Nat) {A:Po} {x y:MV} {b:Bool} {v u:Ph},meq k x y=some b->Rp W θ D s.heap x v->Rp W θ D s.heap y u->A.units+k<cLine->EqAt A s v u b/\RcAt A s v u b/\RcNeAt A s v u (!b):=by
 intro k;induction k with
 |zero=>exact λh=>af h
 |succ k ih=>
  intro A x y b v u h rv ru hu;have same:=λ(e:v=u)=>Cj (k+1) h rv (e▸ru);cases x<;>first|exact af h|skip
  ·refine mpE (λc e e2z=>?_) h;subst e2z;cases rv;cases rG e ru;exact⟨EqAt.bool_bool _ _,RcAt.bool_bool _ _,RcNeAt.bool_bool _ _⟩
  ·refine mpE (λc e e2z=>?_) h;subst e2z;obtain⟨t,rfl⟩:=rv;obtain⟨z,rfl⟩:=eH e ru;exact⟨EqAt.int_int _ _ _ _,RcAt.int_int _ _ _ _,RcNeAt.int_int _ _ _ _⟩
  ·refine mpE (λc e e2z=>?_) h;subst e2z;obtain⟨t,rfl⟩:=rv;obtain⟨z,rfl⟩:=cL e ru;exact⟨EqAt.str_str _ _ _ _,RcAt.str_str _ _ _ _,RcNeAt.str_str _ _ _ _⟩
  ·revert h;refine bdE λl' e h=>?_;obtain⟨a,vs,rfl,d1,t1,hl,r1⟩:=rv;obtain⟨c,us,rfl,d2,t2,hl2,r2⟩:=nB e ru;have hu':A.in1.units+k<cLine:=(Nat.succ_add_eq_add_succ A.units k).symm▸hu;have hu1:A.units<cLine:=O9 (OI _ _) hu
   have key:RcAt A s (.ref a) (.ref c) b/\RcNeAt A s (.ref a) (.ref c) (!b):=by
    rcases di h with⟨_,h⟩|⟨n,h⟩
    ·obtain⟨e,e1,e2,e3⟩:=GK (A:=A.in1) (λe r1 r2=>(ih e r1 r2 hu').1) h r1 r2;exact e1▸⟨RcAt.lists (A:=A) hl hl2 e2 hu1 (e:=e) e3,RcNeAt.lists (A:=A) hl hl2 e2 hu1 (e:=e) e3⟩
    ·cases h;have hne:((List.toArray vs).size != (List.toArray us).size)=true:=bne_iff_ne.mpr λq=>n (r1.length.symm.trans ((q:vs.length=us.length).trans r2.length));exact⟨RcAt.lists_lengths hl hl2 hne hu1,RcNeAt.lists_lengths hl hl2 hne hu1⟩
   refine⟨?_,key.1,key.2⟩
   by_cases hne:a=c
   ·cases hne;cases same rfl;exact EqAt.same _
   ·exact EqAt.of_refs hne key.1
end
section
variable {V:Vw}(O:V.Ok){A:Po}{E:Pr}{s:Pg}{θ:Pn}{D:Pn->Prop}{Q:Pr}
theorem tQ(c:Nat):∀(k:Nat) (a:Array Nat),(List.replicate k (#[c]:Array Nat)).foldl (·++·) a=a++Array.replicate k c
 |0,a=>by simp
 |k+1,a=>by rw[List.replicate_succ,List.foldl_cons,tQ c k,Array.append_assoc];congr 1;apply Array.ext';simp [List.replicate_succ]
theorem Cm(h0:0<=n)(hn:n<=1000):n.toNat<=sizeLine/\Builtin.Str.tooLong (1*n.toNat)=false/\(0<n->¬(((1:Nat):Int)>(2 ^ 63-1)/n)):=by refine⟨by refine Eq.symm sizeLine_eq▸?_;lia,decide_eq_false (by refine Eq.symm sizeLine_eq▸?_;lia),λh=>Int.not_lt.mpr ((Int.le_ediv_iff_mul_le h).mpr (by lia))⟩
theorem Ke(h1:x.length=1)(h0:0<=n)(hn:n<=1000)(h:∀t' k,Q (.str ⟨Array.replicate n.toNat (x.cps.getD 0 0)⟩ t') {s with toks:=k}):
  wpAny (model V.prog V.w) A (binaryOp .Mult (.str x t) (.int n u)) Q E s:=by
 obtain⟨cps⟩:=x;obtain⟨l⟩:=cps;obtain⟨c,rfl⟩:=List.length_eq_one_iff.mp (show l.length=1 from h1);obtain⟨m1,m2,m3⟩:=Cm h0 hn;refine PySem.P.mul_str (by simp;omega) (λq _=>m3 (by omega)) (λ_ _=>m2) ?_;split
 ·rename_i hn1;cases Int.le_antisymm (by omega) h0;exact⟨Nat.zero_le _,h _ _⟩
 ·split
  ·rename_i h2;rcases Bool.or_eq_true_iff.mp h2 with h3|h3
   ·cases beq_iff_eq.mp h3;exact h _ _
   ·exact Bool.noConfusion h3
  ·rw[tQ,Array.empty_append];exact⟨by show(Array.replicate n.toNat c).size<=sizeLine;rw[Array.size_replicate];exact m1,h _ _⟩
variable {a b c:MV}{va vb:Ph}
theorem mZ(hf:∀{i j k:Int} {t u:Tok},f i j=some k->(∀t' n,Q (.int k t') {s with toks:=n})->wpAny (model V.prog V.w) A (binaryOp op (.int i t) (.int j u)) Q E s)
  (h:Ca f a b=some c) (W:Wd V s) (ra:Rp V.W9 θ D s.heap a va) (rb:Rp V.W9 θ D s.heap b vb) (hQ:∀v s',St V none9 s s'->Rp V.W9 θ D s'.heap c v->Q v s'):wpAny (model V.prog V.w) A (binaryOp op va vb) Q E s:=by
 ext i h1 h;ext j h2 h;refine mpE (λk h3 e2z=>?_) h;subst e2z;obtain⟨t,rfl⟩:=eH h1 ra;obtain⟨u,rfl⟩:=eH h2 rb;exact hf h3 λt' n=>hQ _ _ (.toks W _ _) ⟨_,rfl⟩
include O
theorem add_lists{x y:List MV}{a b:Pn}{vs us:List Ph}(W:Wd V s)(B:Bnd D s)(sz:x.length+y.length<=1000)(hl:s.heap.IsList a vs.toArray)(hm:s.heap.IsList b us.toArray)(r1:RpL V.W9 θ D s.heap x vs)(r2:RpL V.W9 θ D s.heap y us)
  (hQ:∀v s',St V none9 s s'->Rp V.W9 θ D s'.heap (.list (x++y)) v->Q v s'):wpAny (model V.prog V.w) A (binaryOp .Add (.ref a) (.ref b)) Q E s:=by
 have sz:vs.toArray.size+us.toArray.size<=sizeLine:=by rw[List.size_toArray,List.size_toArray,r1.length,r2.length,sizeLine_eq];exact OA sz (by left)
 obtain⟨⟨cls,dd,data,sl⟩,ho,hc,n,hd⟩:=id hl;obtain⟨⟨cls2,dd2,data2,sl2⟩,ho2,hc2,n2,hd2⟩:=id hm;cases hc;cases hd;cases hc2;cases hd2;refine concat_meets ⟨_,ho,rfl⟩ ⟨_,ho2,rfl⟩ noFill_list_add seq_list_add PySem.F.slot_list_add PySem.F.entry_list_add (PySem.F.args_list_add_2 _ _) (list_addW a b _ _ n n2 dd dd2 sl sl2 sz) ⟨ho,ho2,?_⟩;rw[List.append_toArray];have k:=Keep.push none9 s.heap {cls:= .type "list",data:= .seq (List.toArray (vs++us))};exact hQ _ _ (.push O W _ _) ⟨_,_,rfl,B.new,W.newTab,⟨_,OE _ rfl,rfl,_,rfl⟩,(RpL.keep0 k _ _ r1).append (RpL.keep0 k _ _ r2)⟩
theorem qt(op:Operator)(h:ib op a b=some c)(W:Wd V s)(B:Bnd D s)(ra:Rp V.W9 θ D s.heap a va)(rb:Rp V.W9 θ D s.heap b vb)
  (hQ:∀v s',St V none9 s s'->Rp V.W9 θ D s'.heap c v->Q v s'):wpAny (model V.prog V.w) A (binaryOp op va vb) Q E s:=by
 cases op<;>first|exact af h|skip
 ·change L8 a b=some c at h;cases a<;>first|exact af h|skip
  ·refine mpE (λj h2 e2z=>?_) h;subst e2z;obtain⟨t,rfl⟩:=ra;obtain⟨u,rfl⟩:=eH h2 rb;exact add_int (hQ _ _ (.toks W _ _) ⟨_,rfl⟩)
  ·ext j h2 h;injections hz h;cases h;obtain⟨t,rfl⟩:=ra;obtain⟨u,rfl⟩:=cL h2 rb;exact add_str (λt' tk=>hQ _ _ (.toks W _ _) ⟨_,rfl⟩) hz
  ·ext m h2 h;injections hz h;cases h;obtain⟨l,vs,rfl,d1,t1,hl,r1⟩:=ra;obtain⟨m,us,rfl,d2,t2,hm,r2⟩:=nB h2 rb;exact add_lists O W B (O5 (OR.mp hz).2) hl hm r1 r2 hQ
 ·exact mZ (λe hq=>by cases e;exact sub_int' (hq _ _)) h W ra rb hQ
 ·ext n h2 h;obtain⟨u,rfl⟩:=eH h2 rb;cases a<;>first|exact af h|skip
  ·injections hz h;cases h;obtain⟨t,rfl⟩:=ra;obtain⟨z1,z2⟩:=OR.mp hz;exact mul_int (hQ _ _ (.toks W _ _) ⟨_,rfl⟩) (IntMulOk.of_left (intBits_le_64 (Int.lt_trans (by left) (O5 z1)) (Int.lt_trans (O5 z2) (by left))))
  ·injections hz h;cases h;obtain⟨t,rfl⟩:=ra;exact Ke hz.1 hz.2.1 hz.2.2 λt' k=>hQ _ _ (.toks W _ _) ⟨_,rfl⟩
 ·refine mZ (λ{i j k t u} e hq=>?_) h W ra rb hQ;injections hz e;cases e;exact mod_int' (Int.ne_of_gt hz) ((Int.fmod_eq_emod_of_nonneg i (Int.le_of_lt hz)).symm▸hq _ _)
 ·refine mZ (λ{i j k t u} e hq=>?_) h W ra rb hQ;injections hz e;cases e;obtain⟨h0,h8,hs⟩:=hz;obtain⟨z1,z2⟩:=OR.mp hs;refine pow_int h0 ?_ (hq _ _);have h1:(Builtin.Int.intBits i:Int)<=64:=by have:=intBits_le_64 (Int.lt_trans (by left) (O5 z1)) (Int.lt_trans (O5 z2) (by left));omega
  have h2:=Int.mul_le_mul_of_nonneg_right h1 h0;omega
 ·refine mZ (λ{i j k t u} e hq=>?_) h W ra rb hQ;injections hz e;cases e;exact floordiv_int (Int.ne_of_gt hz.1) ((Int.fdiv_eq_ediv_of_nonneg i (Int.le_of_lt hz.1)).symm▸hq _ _) (Or.inl (PyProof.noPylong_small (by omega)))
end
section
variable {V:Vw}(O:V.Ok){A:Po}{E:Pr}{s:Pg}{θ:Pn}{D:Pn->Prop}{a b c:MV}{va vb:Ph}
theorem nJ(hl:s.heap.IsList x (List.toArray vs))(r1:RpL V.W9 θ D s.heap l vs)(h:(if l.length<=1000000 then some (!l.isEmpty) else none)=some r)(W:Wd V s)
  (hQ:∀s',St V none9 s s'->Q r s'):wpAny (model V.prog V.w) A (truthy (.ref x)) Q E s:=by
 injections hz h;cases h
 have e:(!(List.toArray vs).isEmpty)= !l.isEmpty:=by
  cases l with
  |nil=>cases r1;rfl
  |cons _ _=>obtain⟨_,_,rfl,_⟩:=r1;rfl
 refine wpAny_truthy_list hl (by rw[List.size_toArray,r1.length];lia) ?_;refine Eq.symm e▸?_;exact hQ _ (.toks W _ _)
set_option tactic.hygienic true in
theorem iq(h:truth a=some r)(W:Wd V s)(ra:Rp V.W9 θ D s.heap a va)
  (hQ:∀s',St V none9 s s'->Q r s'):wpAny (model V.prog V.w) A (truthy va) Q E s:=by
 cases a<;>first|exact af h|skip
 ·cases h;cases ra;exact wpAny_truthy_bool (hQ s (.refl W _))
 ·cases h;obtain⟨t,rfl⟩:=ra;exact PyProof.Rows.truthy_int (hQ s (.refl W _))
 ·rename_i x;injections hz h;cases h;obtain⟨t,rfl⟩:=ra;refine PySem.P.truthy_str (by rw[sizeLine_eq]at hz;lia) ?_;have e:((x.length:Int) != 0)=(x.length != 0):=by cases x.length<;>rfl
  exact e▸hQ _ (.toks W _ _)
 ·obtain⟨x,vs,rfl,d1,t1,hl,r1⟩:=ra;exact nJ hl r1 h W hQ
 ·obtain⟨x,vs,rfl,d1,t1,hl,r1⟩:=ra;exact nJ hl.isList r1 h W hQ
variable {Q:Pr}
theorem i9{value slice:Pm}{o i:Ph}{T id:String}(hT:s.TypeIs o T)
  (hl:typeLookup (.type T) "__getitem__"=pure (some (.builtin id))) (h:wpAny (model V.prog V.w) A (getItem o i) Q E s)
  (hs:subscripted slice false o i=operate [o,i] (getItem o i)\/subscripted slice false o i=operate [i,o] (getItem o i)):
  wpAny (model V.prog V.w) A (subscriptTail value slice o i) Q E s:=by
 unfold subscriptTail;refine OB ?_;refine Eq.symm (getitemInPython_of_ne hT.not_modules)▸?_;refine OB (OY hT hl ?_)
 have fin:wpAny (model V.prog V.w) A (subscripted slice false o i) (λr w96=>wpAny (model V.prog V.w) A (letTemporaryGo value o r>>=λ_=>pure r) Q E w96) E s:=by
  rcases hs with hs|hs<;>
  ·rw[hs];exact wpAny_operating (OV h (λr w96 w94=>OB (wpAny_letTemporaryGo (Oz w94))) λ_ _ x=>x)
 first
  |exact Oz (OB fin)
  |exact OB (Oz (OB fin))
  |exact OB fin
theorem g9(value slice:Pm)(pos:Pos)(env:Env):eval (.Subscript value slice pos) env=(do
  let o <-eval value env
  let i <-holding [o] (eval slice env)
  standAt pos
  subscriptTail value slice o i):=rfl
theorem cO(h:jW slice=true):subscripted slice false o i=operate [o,i] (getItem o i):=by cases slice<;>first|rfl|exact Bool.noConfusion h
theorem nK(h:seqIndex? k n=some j):(0<=k->k.toNat=j/\j<n)/\(k<0->(k+n).toNat=j/\  -(n:Int)<=k/\j<n):=by
 unfold seqIndex? at h;dsimp only at h;rcases Int.lt_or_le k 0 with hk|hk
 ·rw[if_pos hk]at h;refine ifP (λhb e=>?_) h;cases e;simp only [Bool.and_eq_true,decide_eq_true_eq]at hb;exact⟨λh=>O8 hk (Int.not_lt.mpr h),λ_=>⟨rfl,by omega⟩⟩
 ·rw[if_neg (Int.not_lt.mpr hk)]at h;refine ifP (λhb e=>?_) h;cases e;simp only [Bool.and_eq_true,decide_eq_true_eq]at hb;exact⟨λ_=>⟨rfl,by omega⟩,λh=>O8 h (Int.not_lt.mpr hk)⟩
theorem item_list(hl:s.heap.IsList x (List.toArray vs))(r1:RpL V.W9 θ D s.heap l vs)(h:(if(cX i&&aa l)=true then(seqIndex? i l.length).bind (l[·]?) else none)=some c)
  (hQ:∀v,Rp V.W9 θ D s.heap c v->Q v s):wpAny (model V.prog V.w) A (getItem (.ref x) (.int i t)) Q E s:=by
 injections hp h;obtain⟨h1,h2⟩:=OR.mp (OR.mp hp).1;ext j hj h;obtain⟨v,hv,rv⟩:=r1.get h;obtain⟨b1,b2⟩:=nK hj;have sz:(List.toArray vs).size=l.length:=(List.size_toArray ..).trans r1.length;have gv:(List.toArray vs)[j]?=some v:=(List.getElem?_toArray ..).trans hv;rcases Int.lt_or_le i 0 with h0|h0
 ·exact wpAny_getItem_list_neg hl h0 (sz▸(b2 h0).2.1) (O5 h1) (by refine Eq.symm sz▸Eq.symm ((b2 h0).1)▸?_;exact gv) (hQ v rv)
 ·exact wpAny_getItem_list hl h0 (O5 h2) (by refine Eq.symm ((b1 h0).1)▸?_;exact gv) (hQ v rv)
theorem wW(h:gK a b=some c)(W:Wd V s)(B:Bnd D s)(hsl:jW slice=true)(ra:Rp V.W9 θ D s.heap a va)(rb:Rp V.W9 θ D s.heap b vb)
  (hQ:∀v s',St V none9 s s'->Rp V.W9 θ D s'.heap c v->Q v s'):wpAny (model V.prog V.w) A (subscriptTail value slice va vb) Q E s:=by
 ext i hi h;obtain⟨u,rfl⟩:=eH hi rb;cases a<;>first|exact af h|skip
 ·obtain⟨t,rfl⟩:=ra;injections hp h;refine mpE (λk hj e2z=>?_) h;subst e2z;exact i9 (T:="str") (OX s _ t) F.slot_str_getitem.lookup (getItem_str (by obtain⟨h1,h2⟩:=OR.mp hp;have:=O5 h1;have:=O5 h2;simp;lia) hj (hQ _ _ (.toks W _ _) ⟨_,rfl⟩)) (.inl (cO hsl))
 ·obtain⟨x,vs,rfl,d1,t1,hl,r1⟩:=ra;exact i9 hl.typeIs slot_list_getitem.lookup (item_list hl r1 h λv q=>hQ _ _ (.refl W _) q) (.inl (cO hsl))
 ·obtain⟨x,vs,rfl,d1,t1,hl,r1⟩:=ra;injections hp h;obtain⟨h1,h2⟩:=OR.mp (OR.mp hp).1;ext j hj h;obtain⟨v,hv,rv⟩:=r1.get h;exact i9 (T:="tuple") (hl.elim λo q=>⟨o,q.1,q.2.1⟩) F.slot_tuple_getitem.lookup (PyProof.Rows.getItem_tuple hl (O5 h1) (O5 h2) (((List.size_toArray ..).trans r1.length).symm▸hj) ((List.getElem?_toArray ..).trans hv) (hQ _ _ (.refl W _) rv)) (.inl (cO hsl))
 ·obtain⟨x,vs,rfl,d1,t1,hl,r1⟩:=ra;exact i9 hl.isList.typeIs slot_list_getitem.lookup (item_list hl.isList r1 h λv q=>hQ _ _ (.refl W _) q) (.inl (cO hsl))
theorem zZ(h:RcAt A s x y r)(hQ:Q (.bool r) s):wpAny (model V.prog V.w) A (compareOp .Eq x y) Q E s:=h V.prog V.w E Q hQ
theorem tR(h:RcNeAt A s x y r)(hQ:Q (.bool r) s):wpAny (model V.prog V.w) A (compareOp .NotEq x y) Q E s:=h V.prog V.w E Q hQ
noncomputable def GN(y:Str):Ph->Bool
 | .str z _=>z==y
 |_=>false
noncomputable def Kf(y:Int):Ph->Bool
 | .int z _=>z==y
 |_=>false
noncomputable def Co(y:Bool):Ph->Bool
 | .bool z=>z==y
 |_=>false
theorem wX{α:Type}{f:MV->Pj α}{k:α->Ph->Prop}{W:World9}{e:Ph->Bool}{q:α->Bool}{y:Ph}(hf:∀{x:MV} {i:α} {v:Ph},f x=some i->Rp W θ D s.heap x v->e v=q i/\EqAt A s v y (e v))(all:List MV->Pj (List α))(h0:all []=some [])(hc:∀x l,all (x::l)=(f x).bind λs=>(all l).map (s::·)):
  ∀{l:List MV} {ys:List α} {vs:List Ph},all l=some ys->RpL W θ D s.heap l vs->vs.any e=ys.any q/\∀v∈vs,EqAt A s v y (e v):=by
 intro l;induction l with
 |nil=>intro ys vs h r;cases h0.symm.trans h;cases r;exact⟨rfl,λv h=>nomatch h⟩
 |cons x l ih=>intro ys vs h r;obtain⟨z,e1,h⟩:=tJ ((hc x l).symm.trans h);refine mpE (λzs e2 e2z=>?_) h;subst e2z;obtain⟨v,r',rfl,r1,r2⟩:=r;obtain⟨i1,i2⟩:=ih e2 r2;obtain⟨j1,j2⟩:=hf e1 r1;exact⟨by rw[List.any_cons,List.any_cons,i1,j1],λu hu=>(OT.mp hu).elim (λe=>e▸j2) (i2 u)⟩
theorem yY{y:Str}{u:Tok}{W:World9}{l:List MV}{ys:List Str}{vs:List Ph}(h:strsOf l=some ys)(r:RpL W θ D s.heap l vs):vs.any (GN y)=ys.any (·==y)/\∀v∈vs,EqAt A s v (.str y u) (GN y v):=
 wX (k:=λ_ _=>True) (λe r=>by obtain⟨t,rfl⟩:=cL e r;exact⟨rfl,EqAt.str_str _ _ _ _⟩) strsOf rfl (λ_ _=>rfl) h r
theorem ints_in{y:Int}{u:Tok}{W:World9}{l:List MV}{ys:List Int}{vs:List Ph}(h:intsOf l=some ys)(r:RpL W θ D s.heap l vs):vs.any (Kf y)=ys.any (·==y)/\∀v∈vs,EqAt A s v (.int y u) (Kf y v):=
 wX (k:=λ_ _=>True) (λe r=>by obtain⟨t,rfl⟩:=eH e r;exact⟨rfl,EqAt.int_int _ _ _ _⟩) intsOf rfl (λ_ _=>rfl) h r
theorem Cp{W:World9}{l:List MV}{ys:List Bool}{vs:List Ph}(h:boolsOf l=some ys)(r:RpL W θ D s.heap l vs):vs.any (Co true)=ys.any id/\∀v∈vs,EqAt A s v (.bool true) (Co true v):=
 wX (k:=λ_ _=>True) (λ{x i v} e r=>by cases rG e r;exact⟨by cases i<;>rfl,EqAt.bool_bool _ _⟩) boolsOf rfl (λ_ _=>rfl) h r
theorem yZ(hf:∀{i j:Int} {t u:Tok},Q (.bool (f i j)) s->wpAny (model V.prog V.w) A (compareOp op (.int i t) (.int j u)) Q E s)(h:tL f a b=some r)(ra:Rp V.W9 θ D s.heap a va)(rb:Rp V.W9 θ D s.heap b vb)(hq:Q (.bool r) s):wpAny (model V.prog V.w) A (compareOp op va vb) Q E s:=by ext i h1 h;refine mpE (λj h2 e2z=>?_) h;subst e2z;obtain⟨t,rfl⟩:=eH h1 ra;obtain⟨u,rfl⟩:=eH h2 rb;exact hf hq
set_option tactic.hygienic true in
theorem j0{y:MV}{b:Pn}(h:yT y=some b):y= .ex (.ref b):=by
 cases y<;>first|exact af h|skip
 rename_i v;cases v<;>first|exact af h|exact ON (λa=>MV.ex (.ref a)) (OH h)
theorem ir(h:qp y=true):y= .opq:=by cases y<;>first|rfl|exact Bool.noConfusion h
theorem tT{r:Bool}(h:mis a b=some r)(ra:Rp V.W9 θ D s.heap a va)(rb:Rp V.W9 θ D s.heap b vb):(r=true/\∃x,va= .ref x/\vb= .ref x)\/(r=false/\∃y t x,va= .str y t/\vb= .ref x):=by
 cases a<;>first|exact af h|skip
 ·obtain⟨t,rfl⟩:=ra;injections hc h;refine .inr ⟨(OH h).symm,?_⟩;rcases hc with hc|hc
  ·cases ir hc;exact⟨_,t,θ,rfl,rb⟩
  ·obtain⟨x,hx⟩:=Pf.mp hc;cases j0 hx;exact⟨_,t,x,rfl,rb⟩
 ·injections hc h;cases ir hc;exact .inl ⟨(OH h).symm,θ,ra,rb⟩
 ·ext x h1 h;ext y h2 h;refine ifP (λe g=>?_) h;cases e;cases j0 h2;cases j0 (y:= .ex _) h1;exact .inl ⟨(OH g).symm,x,ra,rb⟩
set_option tactic.hygienic true in
theorem Cq(h:mIn a b=some r)(ra:Rp V.W9 θ D s.heap a va)(rb:Rp V.W9 θ D s.heap b vb)(hq:Q (.bool r) s):wpAny (model V.prog V.w) A (compareOp .In va vb) Q E s:=by
 cases a<;>first|exact af h|skip
 ·injections hc h;ext l h1 h;refine mpE (λys h2 e2z=>?_) h;subst e2z;cases hc;cases ra;obtain⟨y,vs,rfl,d1,t1,hl,r1⟩:=nB h1 rb;obtain⟨i1,i2⟩:=Cp (A:=A.in1) h2 r1;exact in_listAt (Co true) hl (λv hv=>i2 v (List.mem_toArray.mp hv)) ((List.any_toArray.trans i1).symm▸hq)
 ·rename_i x;ext l h1 h;refine mpE (λys h2 e2z=>?_) h;subst e2z;obtain⟨t,rfl⟩:=ra;obtain⟨y,vs,rfl,d1,t1,hl,r1⟩:=nB h1 rb;obtain⟨i1,i2⟩:=ints_in (A:=A.in1) (y:=x) (u:=t) h2 r1;exact in_listAt (Kf x) hl (λv hv=>i2 v (List.mem_toArray.mp hv)) ((List.any_toArray.trans i1).symm▸hq)
 ·rename_i x;obtain⟨t,rfl⟩:=ra;cases b<;>first|exact af h|skip
  ·cases h;obtain⟨u,rfl⟩:=rb;exact PyProof.Rows.in_str hq
  ·refine mpE (λys h2 e2z=>?_) h;subst e2z;obtain⟨y,vs,rfl,d1,t1,hl,r1⟩:=rb;obtain⟨i1,i2⟩:=yY (A:=A.in1) (y:=x) (u:=t) h2 r1;exact in_listAt (GN x) hl (λv hv=>i2 v (List.mem_toArray.mp hv)) ((List.any_toArray.trans i1).symm▸hq)
  ·refine mpE (λys h2 e2z=>?_) h;subst e2z;obtain⟨y,vs,rfl,d1,t1,hl,r1⟩:=rb;obtain⟨i1,i2⟩:=yY (A:=A.in1) (y:=x) (u:=t) h2 r1;exact in_tupleAt (GN x) hl (λv hv=>i2 v (List.mem_toArray.mp hv)) ((List.any_toArray.trans i1).symm▸hq)
theorem z0(op:CmpOp)(h:fL op a b=some r)(W:Wd V s)(hu:A.units+8<cLine)(ra:Rp V.W9 θ D s.heap a va)(rb:Rp V.W9 θ D s.heap b vb)
  (hQ:∀s',St V none9 s s'->Q (.bool r) s'):wpAny (model V.prog V.w) A (compareOp op va vb) Q E s:=by
 have hq:=hQ s (.refl W _);have hu:A.units+5<cLine:=O9 (Nat.add_le_add_left (by left) _) hu;cases op
 ·exact zZ (Ck 5 h ra rb hu).2.1 hq
 ·refine mpE (λc h2 e2z=>?_) h;subst e2z;exact tR (Ck 5 h2 ra rb hu).2.2 hq
 ·exact yZ PyProof.Rows.lt_int h ra rb hq
 ·exact yZ PyProof.Rows.le_int h ra rb hq
 ·cases a<;>first|exact yZ PyProof.Rows.gt_int h ra rb hq|skip
  refine mpE (λy h2 e2z=>?_) h;subst e2z;obtain⟨t,rfl⟩:=ra;obtain⟨u,rfl⟩:=cL h2 rb;exact PySem.P.gt_str hq
 ·exact yZ PyProof.Rows.ge_int h ra rb hq
 ·rcases tT h ra rb with⟨rfl,x,rfl,rfl⟩|⟨rfl,y,t,x,rfl,rfl⟩
  ·exact wpAny_is_ref_self hq
  ·exact wpAny_is_other rfl (λe=>Value.noConfusion e) hq
 ·refine mpE (λc h2 e2z=>?_) h;subst e2z;rcases tT h2 ra rb with⟨rfl,x,rfl,rfl⟩|⟨rfl,y,t,x,rfl,rfl⟩
  ·exact wpAny_isNot_ref_self hq
  ·exact wpAny_isNot_other rfl (λe=>Value.noConfusion e) hq
 ·exact Cq h ra rb hq
 ·ext x h1 h;refine mpE (λy h2 e2z=>?_) h;subst e2z;obtain⟨t,rfl⟩:=cL h1 ra;obtain⟨u,rfl⟩:=cL h2 rb;exact PySem.P.notIn_str hq
theorem Cr(r:RpL W θ D h l vs)(lo hi:Pj Int):RpL W θ D h (de l lo hi) (de vs lo hi):=by unfold de;refine Eq.symm r.length▸?_;exact(r.drop _).take _
theorem qv(h:nF m=some p)(r:Rp W θ D s.heap m v):∃q:Pj (Int×Tok),v=partValue q/\q.map (·.1)=p/\IsPart v p:=by
 cases m<;>first|exact af h|skip
 ·cases h;cases r;exact⟨none,rfl,rfl,.none⟩
 ·cases h;obtain⟨t,rfl⟩:=r;exact⟨some (_,t),rfl,rfl,.int _ _⟩
theorem tU{α:Type}(xs:List α)(a:Nat):∀k:Nat,((List.range k).map (a+·)).filterMap (λi=>xs[i]?)=(xs.drop a).take k
 |0=>by simp
 |k+1=>by
  rw[List.range_succ,List.map_append,List.filterMap_append,tU xs a k,List.take_add_one]
  congr 1
  simp only [List.map_cons,List.map_nil,List.filterMap_cons,List.filterMap_nil,List.getElem?_drop];cases xs[a+k]?<;>rfl
theorem Cs(lo hi:Pj Int)(n:Nat):Builtin.Str.strSliceIndices lo hi 1 n=(List.range (kms_hi hi n-kms_lo lo n)).map (kms_lo lo n+·):=by rw[show Builtin.Str.strSliceIndices lo hi 1 n=(let b:=sliceBounds lo hi none n;sliceRange b.1 b.2.1 b.2.2) from rfl,kms_bounds];exact sliceRange_one ..
theorem Ct(x:Str)(lo hi:Pj Int):(⟨((Builtin.Str.strSliceIndices lo hi 1 x.length).filterMap (x.cps[·]?)).toArray⟩:Str)=jT x lo hi:=by
 have hn:x.length=x.cps.toList.length:=by show x.cps.size=_;simp
 rw[Cs];unfold jT de;have e:(λ(i:Nat)=>x.cps[i]?)=λ(i:Nat)=>x.cps.toList[i]?:=by funext i;simp
 rw[e,tU,hn]
theorem qw{α:Type}(l:List α)(lo hi:Pj Int):List.Sublist (de l lo hi) l:=(List.take_sublist ..).trans (List.drop_sublist ..)
theorem z6(x:Str)(lo hi:Pj Int):(jT x lo hi).length<=x.length:=by refine(?_:(List.toArray _).size<=x.cps.size);refine Eq.symm List.size_toArray▸?_;exact(qw ..).length_le
theorem z7(hi:Pj Int)(n:Nat):kms_hi hi n<=n:=by
 cases hi with
 |none=>exact OP _
 |some i=>
  by_cases h:i<0
  ·exact OA (Nat.le_of_eq (if_pos h:kms_hi (some i) n=_)) (Nat.sub_le ..)
  ·exact OA (Nat.le_of_eq (if_neg h:kms_hi (some i) n=_)) (Nat.min_le_right ..)
theorem wY{α:Type}(l:List α)(lo hi:Pj Int)(h:kms_hi hi l.length-kms_lo lo l.length=l.length):de l lo hi=l:=by refine(qw l lo hi).eq_of_length ?_;have h2:=h▸Nat.sub_le_sub_right (z7 hi l.length) (kms_lo lo l.length);rw[de,List.length_take,List.length_drop,h];exact Nat.min_eq_left h2
theorem wZ(x:Str)(lo hi:Pj Int)(h:(Builtin.Str.strSliceIndices lo hi 1 x.length).length=x.length):jT x lo hi=x:=by rw[Cs,List.length_map,List.length_range]at h;exact ON (λl=>(⟨List.toArray l⟩:Str)) (wY x.cps.toList lo hi h)
include O
set_option tactic.hygienic true in
theorem tV{value slice:Pm}{lo hi:Pj Int}{vl vu:Ph}{l u:MV}(h:dh a lo hi=some c)(W:Wd V s)(B:Bnd D s)(ra:Rp V.W9 θ D s.heap a va)
  (pl:nF l=some lo) (pu:nF u=some hi) (rl:Rp V.W9 θ D s.heap l vl) (ru:Rp V.W9 θ D s.heap u vu)
  (hsl:∀o i,subscripted slice false o i=operate [i,o] (getItem o i))
  (hQ:∀v s',St V none9 s s'->Rp V.W9 θ D s'.heap c v->Q v s'):
  wpAny (model V.prog V.w) A (subscriptTail value slice va (.ref s.heap.objs.size)) Q E {s with heap:=s.heap.push {cls:= .type "slice",data:= .fields #[vl,vu,.none]}}:=by
 obtain⟨ql,rfl,el,il⟩:=qv (s:=s) pl rl;obtain⟨qu,rfl,eu,iu⟩:=qv (s:=s) pu ru;have st1:=St.push O W none9 {cls:= .type "slice",data:= .fields #[partValue ql,partValue qu,.none]};cases a<;>first|exact af h|skip
 ·rename_i x;injections hsz h;cases h;obtain⟨t,rfl⟩:=ra;refine i9 (T:="str") (OX _ x t) F.slot_str_getitem.lookup (wpAny_getItem_str_slice (l:=ql) (u:=qu) (st:=none) ⟨_,OE _ rfl,rfl,rfl⟩ rfl ?_) (.inr (hsl _ _));unfold sliceMade;rw[show slicePicked x ql qu none=Builtin.Str.strSliceIndices lo hi 1 x.length by rw[slicePicked,el,eu];rfl];split
  ·rename_i hfull;exact hQ _ _ st1 ⟨_,ON (Value.str · t) (wZ x lo hi (beq_iff_eq.mp (OR.mp hfull).2)).symm⟩
  ·rw[Ct];exact⟨OA (z6 x lo hi) hsz,hQ _ _ (st1.trans (.toks st1.wd _ _)) ⟨_,rfl⟩⟩
 ·injections hz h;cases h;obtain⟨x,vs,rfl,d1,t1,hl,r1⟩:=ra;have hlp:=hl.push {cls:= .type "slice",data:= .fields #[partValue ql,partValue qu,.none]};refine i9 hlp.typeIs slot_list_getitem.lookup (wpAny_getItem_list_slice hlp (Heap.IsSliceOf.new ..) il iu .none (by simp) ?_ (by rw[List.size_toArray,r1.length,sizeLine_eq];exact OA (O5 (OR.mp hz).2) (by left))) (.inr (hsl _ _));rw[kms_pick_eq];have st:=st1.trans (St.push O st1.wd none9 {cls:= .type "list",data:= .seq (List.toArray (de vs lo hi))});exact hQ _ _ st ⟨_,_,rfl,(B.st st1).new,st1.wd.newTab,⟨_,OE _ rfl,rfl,_,rfl⟩,RpL.keep0 st.keep _ _ (Cr r1 lo hi)⟩
end
def fM(k:Pj NameKind):Prop:=k=some .cell\/k=some .free
noncomputable def w0(a:Pn):Obj:={cls:= .type "builtin_function_or_method",data:= .fields #[.builtin "list.append",.ref a]}
noncomputable def dy:MV->Bool
 | .grow _| .iter _=>true
 |_=>false
structure LocOk (W:World9) (θ:Pn) (D:Pn->Prop) (h:Pp) (sc:Sc) (ρ:Rho) (m:Str->Pj Ph) (La:Pn):Prop where
 val:∀x mv,ρ.lookup x=some mv->sc.lookup x=some .local->∃v,m x=some v/\Rp W θ D h mv v
 add:∀x y,ρ.lookup x=some (.adder y)->sc.lookup x=some .local->∃b a,m x=some (.ref b)/\m y=some (.ref a)/\¬D b/\¬aJ b/\h.get? b=some (w0 a)
 aft:∀x u a,ρ.lookup x=some u->dy u=true->sc.lookup x=some .local->m x=some (.ref a)->La<a
 one:∀x y u v a,ρ.lookup x=some u->ρ.lookup y=some v->dy u=true->dy v=true->sc.lookup x=some .local->sc.lookup y=some .local->m x=some (.ref a)->m y=some (.ref a)->x=y
noncomputable def Own(D:Pn->Prop)(L:Pn):Pn->Prop:=λa=>D a/\L<=a
structure FrX (V:Vw) (θ:Pn) (D:Pn->Prop) (sc:Sc) (ρ:Rho) (env:Env) (s:Pg):Prop where
 kind:env.scope.kind= .function
 cod:dx sc=true->env.code= .ref 78
 glob:env.globals=Pb
 bi:env.builtins=Pc
 scl:∀x,sc.lookup x=some .local->env.kindOf x=some .local
 scc:∀x,fM (sc.lookup x)->fM (env.kindOf x)
 sck:∀x,sc.lookup x=some .cell->env.kindOf x=some .cell
 scg:∀x,sc.lookup x=some .globalImplicit->env.kindOf x=some .globalImplicit
 loc:∃m,s.heap.Ns env.locals m/\LocOk V.W9 θ D s.heap sc ρ m env.locals
 cl:∀x,fM (sc.lookup x)->∃c,env.cells.lookup x=some c
 cv:∀x mv c,ρ.lookup x=some mv->fM (sc.lookup x)->env.cells.lookup x=some c->mv.plain=true/\∃v,s.heap.IsCell c (some v)/\Rp V.W9 θ D s.heap mv v
 ct:∀x c,fM (sc.lookup x)->env.cells.lookup x=some c->175<=c
 dl:D env.locals
 dc:∀x c,sc.lookup x=some .cell->env.cells.lookup x=some c->D c/\∃v,s.heap.IsCell c v
 du:∀x y c,sc.lookup x=some .cell->fM (sc.lookup y)->env.cells.lookup x=some c->env.cells.lookup y=some c->x=y
 ca:∀x c,sc.lookup x=some .cell->env.cells.lookup x=some c->env.locals<=c
 bnd:Bnd D s
 ok:∀x mv,ρ.lookup x=some mv->okv mv=true
theorem aY{a:Pn}(h:175<=a):¬aJ a:=λt=>by rcases t with t|t<;>(replace h:=t▸h;exact O8 h (by left))
theorem LocOk.keep0{W:World9}{θ:Pn}{D:Pn->Prop}{h h':Pp}{sc:Sc}{ρ:Rho}{m:Str->Pj Ph}{La:Pn}(x:LocOk W θ D h sc ρ m La)(k:Keep none9 h h'):LocOk W θ D h' sc ρ m La where
 val:=λy mv e l=>by obtain⟨v,h1,h2⟩:=x.val y mv e l;exact⟨v,h1,h2.keep0 k⟩
 add:=λy z e l=>by obtain⟨b,a,h1,h2,h3,h4,h5⟩:=x.add y z e l;exact⟨b,a,h1,h2,h3,h4,k.keep b _ (λq=>q) h4 h5⟩
 aft:=x.aft
 one:=x.one
theorem IsCell.keepAt{h h':Pp}{c:Pn}{v}(x:h.IsCell c v)(k:∀o,h.get? c=some o->h'.get? c=some o):h'.IsCell c v:=by obtain⟨o,ho,r⟩:=x;exact⟨o,k o ho,r⟩
theorem Ns.keepAt{h h':Pp}{a:Pn}{m}(x:h.Ns a m)(k:∀o,h.get? a=some o->h'.get? a=some o):h'.Ns a m:=by obtain⟨o,es,ep,ho,r⟩:=x;exact⟨o,es,ep,k o ho,r⟩
theorem FrX.keep0{V:Vw}{θ:Pn}{D:Pn->Prop}{sc:Sc}{ρ:Rho}{env:Env}{s s':Pg}(F:FrX V θ D sc ρ env s)(k:Keep none9 s.heap s'.heap):FrX V θ D sc ρ env s':={F with
 loc:=by obtain⟨m,h1,h2⟩:=F.loc;exact⟨m,Ns.keepAt h1 λo e=>k.keep _ o (λq=>q) (aY (F.bnd _ F.dl).1) e,h2.keep0 k⟩
 cv:=λx mv c e l hc=>by obtain⟨p,v,h1,h2⟩:=F.cv x mv c e l hc;exact⟨p,v,IsCell.keepAt h1 λo e=>k.keep _ o (λq=>q) (aY (F.ct x c l hc)) e,h2.keep0 k⟩
 dc:=λx c e hc=>by obtain⟨d,v,h1⟩:=F.dc x c e hc;exact⟨d,v,IsCell.keepAt h1 λo e=>k.keep _ o (λq=>q) (aY (F.bnd _ d).1) e⟩
 bnd:=λa d=>⟨(F.bnd a d).1,OD (F.bnd a d).2 k.size⟩}
theorem FrX.st{V:Vw}{θ:Pn}{D:Pn->Prop}{sc:Sc}{ρ:Rho}{env:Env}{s s':Pg}(F:FrX V θ D sc ρ env s)(k:St V none9 s s'):FrX V θ D sc ρ env s':=F.keep0 k.keep
def bl(V:Vw)(n:Nat)(sc:Sc)(ρ:Rho)(e:Pm)(mv:MV):Prop:=
 ∀(A:Po) (θ:Pn) (D:Pn->Prop) (env:Env) (s:Pg) (Q:Ph->Pg->Prop) (E:Ph->Pg->Prop),Room A n->Wd V s->1<=s.toks->FrX V θ D sc ρ env s->
  (∀v s',St V none9 s s'->1<=s'.toks->Rp V.W9 θ D s'.heap mv v->Q v s')->wpAny (model V.prog V.w) A (eval e env) Q E s
def w1(V:Vw)(n:Nat)(sc:Sc)(ρ:Rho)(e:Pm)(b:Bool):Prop:=
 ∀(A:Po) (θ:Pn) (D:Pn->Prop) (env:Env) (s:Pg) (Q:Bool->Pg->Prop) (E:Ph->Pg->Prop),Room A n->Wd V s->1<=s.toks->FrX V θ D sc ρ env s->
  (∀s',St V none9 s s'->1<=s'.toks->Q b s')->wpAny (model V.prog V.w) A (isTrue e env (eval e env)) Q E s
structure SndP (V:Vw) (n:Nat) (p:P):Prop where
 ev:∀sc ρ e mv,p.ev sc ρ e=some mv->bl V n sc ρ e mv
 tst:∀sc ρ e b,p.tst sc ρ e=some b->w1 V n sc ρ e b
section
variable {V:Vw}(O:V.Ok){n:Nat}{sc:Sc}{ρ:Rho}
theorem cP{α:Type}{M:Model}{A:Po}{t:Sem α}{Q:α->Pg->Prop}{E:Pr}{s:Pg}(ht:1<=s.toks)
  (h:wpAny M A t (λa s'=>1<=s'.toks->Q a s') (λe s'=>1<=s'.toks->E e s') s):wpAny M A t Q E s:=wpAny_with_toks ht h
theorem rS{c:Const}{k:Nat}{pos:Pos}{mv:MV}(h:(match c with| .none=>some MV.none| .bool b=>some (.bool b)| .int i=>some (.int i)| .str s=>some (.str s)|_=>none)=some mv):
  bl V n sc ρ (.Constant c k pos) mv:=by
 intro A θ D env s Q E R W tk F hQ;refine cP tk ?_;cases c<;>first|exact af h|cases h
 ·exact Oz λt=>hQ _ _ (.refl W _) t rfl
 ·exact Oz λt=>hQ _ _ (.refl W _) t rfl
 ·exact wpAny_mkInt λt=>hQ _ _ (.toks W _ _) t ⟨_,rfl⟩
 ·exact O3 λt=>hQ _ _ (.toks W _ _) t ⟨_,rfl⟩
theorem tW{A:Po}{θ:Pn}{D:Pn->Prop}{env:Env}{s:Pg}{Q:Pr}{E:Pr}{x:Str}{pos:Pos}{mv:MV}(W:Wd V s)(tk:1<=s.toks)(F:FrX V θ D sc ρ env s)
  (hd1:(x==("__debug__":Str))=false) (hd2:(x==("__classdict__":Str))=false) (hk:fM (sc.lookup x)) (h:(ρ.lookup x).bind (λv=>if ez v then some v else none)=some mv)
  (hQ:∀v s',St V none9 s s'->1<=s'.toks->Rp V.W9 θ D s'.heap mv v->Q v s'):wpAny (model V.prog V.w) A (eval (.Name x pos) env) Q E s:=by
 ext v hv h;revert h;refine ifP λ_ h=>?_;cases(h);obtain⟨c,hc⟩:=F.cl x hk;obtain(⟨p,u,hcell,hr⟩):=F.cv x mv c hv hk hc;rcases F.scc x hk with k|k
 ·exact wpAny_Name (wpAny_loadName_cell F.kind k hc hcell (hQ _ _ (.refl W _) tk hr)) hd1
 ·exact wpAny_Name (wpAny_loadName_free F.kind k hc hcell (hQ _ _ (.refl W _) tk hr) hd2) hd1
include O
theorem z8{A:Po}{θ:Pn}{D:Pn->Prop}{env:Env}{s:Pg}{Q:Pr}{E:Pr}{x:Str}{pos:Pos}{mv:MV}(W:Wd V s)(F:FrX V θ D sc ρ env s)
  (hd1:(x==("__debug__":Str))=false) (hk:sc.lookup x=some .globalImplicit) (h:glob x=some mv) (hQ:∀v,Rp V.W9 θ D s.heap mv v->Q v s):wpAny (model V.prog V.w) A (eval (.Name x pos) env) Q E s:=by
 refine Name_function_global F.kind (F.scg x hk) ?_ hd1;obtain⟨mg,hg,hv⟩:=O.glob _ x mv W.K h;rcases hv with⟨v,hv,hm⟩|⟨hv,hn,v,hb2,hm⟩
 ·refine loadGlobal_global (show s.heap.Ns env.globals mg from F.glob▸hg) hv (hQ v ?_);rcases hm with rfl|⟨y,t,rfl,rfl⟩
  ·rfl
  ·exact⟨_,rfl⟩
 ·obtain⟨mb,hb,hbb⟩:=W.b;exact loadGlobal_builtin (show s.heap.Ns env.globals mg from F.glob▸hg) hv (show s.heap.Ns env.builtins mb from F.bi▸hb) ((hbb x hn).trans hb2) (hQ v (hm▸rfl))
theorem iv{x:Str}{pos:Pos}{mv:MV}(hd:¬(x=sx "__debug__"\/x=sx "__classdict__"))
  (h:(match sc.lookup x with
  |some .globalImplicit=>glob x
  |some .local|some .cell|some .free=>(ρ.lookup x).bind λv=>if ez v then some v else none
  |_=>none)=some mv):bl V n sc ρ (.Name x pos) mv:=by
 intro A θ D env s Q E R W tk F hQ;have hd1:(x==("__debug__":Str))=false:=beq_eq_false_iff_ne.mpr λe=>hd (.inl e);cases hk:sc.lookup x with
 |none=>rw[hk]at h;exact af h
 |some k=>
  rw[hk]at h;cases k<;>first|exact af h|skip
  ·ext v hv h;revert h;refine ifP λ_ h=>?_;cases(h);obtain⟨m,hn,L⟩:=F.loc;obtain(⟨u,hm,hr⟩):=L.val x mv hv hk;exact wpAny_Name (wpAny_loadName_local F.kind (F.scl x hk) hn hm (hQ _ _ (.refl W _) tk hr)) hd1
  ·exact tW W tk F hd1 (beq_eq_false_iff_ne.mpr λe=>hd (.inr e)) (.inl hk) h hQ
  ·exact tW W tk F hd1 (beq_eq_false_iff_ne.mpr λe=>hd (.inr e)) (.inr hk) h hQ
  ·exact z8 O W F hd1 hk h λv r=>hQ v s (.refl W _) tk r
omit O
theorem Room.pred{A:Po}{n:Nat}(r:Room A (n+1)):Room A n:=r.le (O7 n)
theorem kX{op:CmpOp}{r:Pm}(h:bx r=true):behindInMarks op r=false:=by cases r<;>first|rfl|exact Bool.noConfusion h
variable {p:P}(I:SndP V n p)
include I
theorem z9{l r:Pm}{op:Operator}{pos:Pos}{mv:MV}(h:((p.ev sc ρ l).bind λa=>(p.ev sc ρ r).bind λb=>ib op a b)=some mv)(O:V.Ok):bl V (n+1) sc ρ (.BinOp l op r pos) mv:=by intro A θ D env s Q E R W tk F hQ;ext a h1 h;ext b h2 h;refine wpAny_BinOp (I.ev _ _ _ _ h1 A θ D env s _ E R.pred W tk F λv w99 st1 t1 r1=>?_);refine I.ev _ _ _ _ h2 A θ D env w99 _ E R.pred st1.wd t1 (F.st st1) λu w98 st2 t2 r2=>?_;exact cP t2 (qt O op h st2.wd ((F.st st1).st st2).bnd (r1.keep0 st2.keep) r2 λx w96 st3 r3 t3=>hQ _ _ ((st1.trans st2).trans st3) t3 r3)
theorem l5{l r:Pm}{op:CmpOp}{pos:Pos}{b:Bool}(hr:bx r=true)(h:((p.ev sc ρ l).bind λa=>(p.ev sc ρ r).bind λb=>fL op a b)=some b):bl V (n+1) sc ρ (.Compare l [op] [r] pos) (.bool b)/\w1 V (n+1) sc ρ (.Compare l [op] [r] pos) b:=by
 ext a h1 h;ext c h2 h;have go:∀(A:Po) (θ:Pn) (D:Pn->Prop) (env:Env) (s:Pg) (Q:Ph->Pg->Prop) (E:Ph->Pg->Prop),Room A (n+1)->Wd V s->1<=s.toks->FrX V θ D sc ρ env s->(∀s',St V none9 s s'->1<=s'.toks->Q (.bool b) s')->
   wpAny (model V.prog V.w) A (eval l env) (λv w99=>wpAny (model V.prog V.w) A (eval r env) (λu w98=>wpAny (model V.prog V.w) A (compareOp op v u) Q E w98) E w99) E s:=λA θ D env s Q E R W tk F hQ=>by
  refine I.ev _ _ _ _ h1 A θ D env s _ E R.pred W tk F λv w99 st1 t1 r1=>?_;refine I.ev _ _ _ _ h2 A θ D env w99 _ E R.pred st1.wd t1 (F.st st1) λu w98 st2 t2 r2=>?_;exact cP t2 (z0 op h st2.wd (O9 (Nat.add_le_add_left (Nat.le_mul_of_pos_right 8 (Nat.succ_pos n)) _) R.units) (r1.keep0 st2.keep) r2 λw96 st3 t3=>hQ _ ((st1.trans st2).trans st3) t3)
 exact⟨λA θ D env s Q E R W tk F hQ=>wpAny_Compare1 (go A θ D env s Q E R W tk F λs' st t=>hQ _ s' st t rfl) (kX hr),
  λA θ D env s Q E R W tk F hQ=>wpAny_isTrue_Compare1 (go A θ D env s _ E R W tk F λs' st t=>wpAny_truthy_bool (hQ s' st t)) (kX hr)⟩
theorem Aa{t b o:Pm}{pos:Pos}{mv:MV}(h:((p.tst sc ρ t).bind λc=>if c then p.ev sc ρ b else p.ev sc ρ o)=some mv):bl V (n+1) sc ρ (.IfExp t b o pos) mv:=by
 intro A θ D env s Q E R W tk F hQ;rcases ew h with⟨h1,h⟩|⟨h1,h⟩<;>
 exact wpAny_IfExp (I.tst _ _ _ _ h1 A θ D env s _ E R.pred W tk F λw99 st1 t1=>I.ev _ _ _ _ h A θ D env w99 _ E R.pred st1.wd t1 (F.st st1) λu w98 st2 t2 r2=>hQ _ _ (st1.trans st2) t2 r2)
theorem w3{t b o:Pm}{pos:Pos}{r:Bool}(h:((p.tst sc ρ t).bind λc=>if c then p.tst sc ρ b else p.tst sc ρ o)=some r):w1 V (n+1) sc ρ (.IfExp t b o pos) r:=by
 intro A θ D env s Q E R W tk F hQ;refine(?_:wpAny _ A (do if <-isTrue t env (eval t env) then isTrue b env (eval b env) else isTrue o env (eval o env)) Q E s);rcases ew h with⟨h1,h⟩|⟨h1,h⟩<;>
 exact OB (I.tst _ _ _ _ h1 A θ D env s _ E R.pred W tk F λw99 st1 t1=>I.tst _ _ _ _ h A θ D env w99 _ E R.pred st1.wd t1 (F.st st1) λw98 st2 t2=>hQ _ (st1.trans st2) t2)
theorem GO{x:Pm}{pos:Pos}{mv:MV}(h:((p.ev sc ρ x).bind truth).map (λb=>MV.bool !b)=some mv):bl V (n+1) sc ρ (.UnaryOp .Not x pos) mv:=by intro A θ D env s Q E R W tk F hQ;refine mpE (λb g e2z=>?_) h;subst e2z;refine bdE (λa h1 h2=>?_) g;refine wpAny_UnaryOp (I.ev _ _ _ _ h1 A θ D env s _ E R.pred W tk F λv w99 st1 t1 r1=>not_of ?_);exact cP t1 (iq h2 st1.wd r1 λw98 st2 t2=>hQ _ _ (st1.trans st2) t2 rfl)
theorem Cu{x:Pm}{pos:Pos}{b:Bool}(h:(p.tst sc ρ x).map (!·)=some b):w1 V (n+1) sc ρ (.UnaryOp .Not x pos) b:=by intro A θ D env s Q E R W tk F hQ;refine mpE (λc h1 e2z=>?_) h;subst e2z;exact wpAny_isTrue_Not (I.tst _ _ _ _ h1 A θ D env s _ E R.pred W tk F λw99 st1 t1=>hQ _ st1 t1)
theorem Cv{x:Pm}{pos:Pos}{mv:MV}(h:((p.ev sc ρ x).bind intOf).map (λi=>MV.int (-i))=some mv):bl V (n+1) sc ρ (.UnaryOp .USub x pos) mv:=by intro A θ D env s Q E R W tk F hQ;refine mpE (λi g e2z=>?_) h;subst e2z;refine bdE (λa h1 h2=>?_) g;refine wpAny_UnaryOp (I.ev _ _ _ _ h1 A θ D env s _ E R.pred W tk F λv w99 st1 t1 r1=>?_);obtain⟨t,rfl⟩:=eH h2 r1;exact cP t1 (PyProof.Rows.neg_int λt2=>hQ _ _ (st1.trans (.toks st1.wd _ _)) t2 ⟨_,rfl⟩)
theorem ft{e:Pm}{b:Bool}(h:(p.ev sc ρ e).bind truth=some b)(he:∀env whole,isTrue e env whole=(do let v <-whole;standAt e.pos;holding [v] (truthy v))):w1 V (n+1) sc ρ e b:=by intro A θ D env s Q E R W tk F hQ;ext a h1 h;refine wpAny_isTrue_value (I.ev _ _ _ _ h1 A θ D env s _ E R.pred W tk F λv w99 st1 t1 r1=>?_) (he env _);exact cP t1 (iq h st1.wd r1 λw98 st2 t2=>hQ _ (st1.trans st2) t2)
theorem Ab{op:BoolOp}{vs:List Pm}:∀{b:Bool},wN p sc ρ op vs=some b->∀(A:Po) (θ:Pn) (D:Pn->Prop) (env:Env) (s:Pg) (Q:Bool->Pg->Prop) (E:Ph->Pg->Prop),Room A n->Wd V s->1<=s.toks->FrX V θ D sc ρ env s->
  (∀s',St V none9 s s'->1<=s'.toks->Q b s')->wpAny (model V.prog V.w) A (allTrue op vs env) Q E s:=by
 induction vs with
 |nil=>
  intro b h A θ D env s Q E R W tk F hQ;cases h;cases op
  ·exact wpAny_allTrue_And_nil (hQ _ (.refl W _) tk)
  ·exact wpAny_allTrue_Or_nil (hQ _ (.refl W _) tk)
 |cons e r ih=>
  intro b h A θ D env s Q E R W tk F hQ;ext c h1 h;cases op
  ·refine wpAny_allTrue_And_cons (I.tst _ _ _ _ h1 A θ D env s _ E R W tk F λw99 st1 t1=>?_);cases c
   ·cases h;exact hQ _ st1 t1
   ·exact ih h A θ D env w99 Q E R st1.wd t1 (F.st st1) λw98 st2 t2=>hQ _ (st1.trans st2) t2
  ·refine wpAny_allTrue_Or_cons (I.tst _ _ _ _ h1 A θ D env s _ E R W tk F λw99 st1 t1=>?_);cases c
   ·exact ih h A θ D env w99 Q E R st1.wd t1 (F.st st1) λw98 st2 t2=>hQ _ (st1.trans st2) t2
   ·cases h;exact hQ _ st1 t1
theorem Ac{op:BoolOp}{pos:Pos}{vs:List Pm}:∀{mv:MV},kU p sc ρ op vs=some mv->∀(A:Po) (θ:Pn) (D:Pn->Prop) (env:Env) (s:Pg) (Q:Ph->Pg->Prop) (E:Ph->Pg->Prop),Room A n->Wd V s->1<=s.toks->FrX V θ D sc ρ env s->
  (∀v s',St V none9 s s'->1<=s'.toks->Rp V.W9 θ D s'.heap mv v->Q v s')->wpAny (model V.prog V.w) A (boolOp pos op (evalEach vs env)) Q E s:=by
 induction vs with
 |nil=>exact λh=>af h
 |cons e r ih=>
  intro mv h A θ D env s Q E R W tk F hQ;cases r with
  |nil=>exact I.ev _ _ _ _ h A θ D env s Q E R W tk F hQ
  |cons e' r=>
   ext a h1 h;ext c h2 h
   show wpAny _ A (do
    let v <-eval e env
    standAt pos
    let t <-holding [v] (truthy v)
    match op,t with
    | .And,false| .Or,true=>pure v
    |_,_=>boolOp pos op (evalEach (e'::r) env)) Q E s
   refine OB (I.ev _ _ _ _ h1 A θ D env s _ E R W tk F λv w99 st1 t1 r1=>OB (OZ (OB (OJ ?_))));refine cP t1 (iq h2 st1.wd r1 λw98 st2 t2=>?_);have stop:some a=some mv->Q v w98:=λq=>hQ _ _ (st1.trans st2) t2 (OH q▸r1.keep0 st2.keep);have go:=λ(h':kU p sc ρ op (e'::r)=some mv)=>ih h' A θ D env w98 Q E R st2.wd t2 ((F.st st1).st st2) λu w96 st3 t3 r3=>hQ _ _ ((st1.trans st2).trans st3) t3 r3;cases op<;>cases c
   ·exact Oz (stop h)
   ·exact go h
   ·exact go h
   ·exact Oz (stop h)
end
theorem aW(h:notStar e=true):starEach (e::r) env=(false,eval e env)::starEach r env:=by cases e<;>first|rfl|exact Bool.noConfusion h
section
variable {V:Vw}{n:Nat}{sc:Sc}{ρ:Rho}{p:P}
theorem jD(h:aT p sc ρ (e::r)=some as):notStar e=true/\∃a bs,p.ev sc ρ e=some a/\aT p sc ρ r=some bs/\as=a::bs:=by injections hs h;ext a h1 h;refine mpE (λbs h2 e=>?_) h;exact⟨hs,a,bs,h1,h2,e.symm⟩
variable (I:SndP V n p)
include I
theorem j3:∀{as:List MV},aT p sc ρ es=some as->∀(A:Po) (θ:Pn) (D:Pn->Prop) (env:Env) (s:Pg) (Q:List Ph->Pg->Prop) (E:Ph->Pg->Prop),Room A n->Wd V s->1<=s.toks->FrX V θ D sc ρ env s->
  (∀vs s',St V none9 s s'->1<=s'.toks->RpL V.W9 θ D s'.heap as vs->Q vs s')->wpAny (model V.prog V.w) A (spliced (backTo pos (starEach es env))) Q E s:=by
 induction es with
 |nil=>intro as h A θ D env s Q E R W tk F hQ;cases h;exact spliced_nil (hQ _ _ (.refl W _) tk rfl)
 |cons e r ih=>intro as h A θ D env s Q E R W tk F hQ;obtain⟨hs,a,bs,h1,h2,rfl⟩:=jD h;rw[aW hs];refine spliced_cons (x:=eval e env) (I.ev _ _ _ _ h1 A θ D env s _ E R W tk F λv w99 st1 t1 r1=>?_);exact ih h2 A θ D env w99 _ E R st1.wd t1 (F.st st1) λvs w98 st2 t2 r2=>hQ _ _ (st1.trans st2) t2 ⟨v,vs,rfl,r1.keep0 st2.keep,r2⟩
theorem bz(h:aT p sc ρ es=some as)(A:Po)(θ:Pn)(D:Pn->Prop)(env:Env)(s:Pg)(Q:Args->Pg->Prop)(E:Ph->Pg->Prop)
  (R:Room A n) (W:Wd V s) (tk:1<=s.toks) (F:FrX V θ D sc ρ env s)
  (hQ:∀vs s',St V none9 s s'->1<=s'.toks->RpL V.W9 θ D s'.heap as vs->Q ⟨vs,[]⟩ s'):wpAny (model V.prog V.w) A (evalArgs f true (backTo pos (starEach es env)) []) Q E s:=by
 have g:=j3 I (pos:=pos) h A θ D env s (λvs s'=>Q ⟨vs,[]⟩ s') E R W tk F hQ;cases es with
 |nil=>cases h;exact PyProof.Rows.evalArgs_none (hQ _ _ (.refl W _) tk rfl)
 |cons e r=>rw[aW (jD h).1]at g ⊢;exact evalArgs_plain g
theorem nM(h:jY p sc ρ es=some l):aT p sc ρ es=some l/\aa l=true/\l.length<=1000:=by revert h;refine bdE λl' h1 h=>?_;injections hp h;cases h;exact⟨h1,hp⟩
theorem qx(h:jY p sc ρ es=some l)(r:RpL W θ D hp l vs):vs.length<=sizeLine:=by rw[r.length,sizeLine_eq];exact OA (nM I h).2.2 (by left)
theorem Cw(O:V.Ok)(h:(jY p sc ρ es).map MV.list=some mv):bl V (n+1) sc ρ (.List es pos) mv:=by intro A θ D env s Q E R W tk F hQ;refine mpE (λl h1 e2z=>?_) h;subst e2z;refine wpAny_List_spliced (j3 I (nM I h1).1 A θ D env s _ E R.pred W tk F λvs w99 st1 t1 r1=>⟨qx I h1 r1,?_⟩);have st2:=St.push O st1.wd none9 {cls:= .type "list",data:= .seq (List.toArray vs)};exact hQ _ _ (st1.trans st2) t1 ⟨_,_,rfl,(F.st st1).bnd.new,st1.wd.newTab,⟨_,OE _ rfl,rfl,_,rfl⟩,r1.keep0 st2.keep⟩
theorem Ad(O:V.Ok)(h:(jY p sc ρ es).map MV.tup=some mv):bl V (n+1) sc ρ (.Tuple es k pos) mv:=by intro A θ D env s Q E R W tk F hQ;refine mpE (λl h1 e2z=>?_) h;subst e2z;refine wpAny_Tuple_spliced (j3 I (nM I h1).1 A θ D env s _ E R.pred W tk F λvs w99 st1 t1 r1=>⟨qx I h1 r1,?_⟩);have st2:=St.push O st1.wd none9 {cls:= .type "tuple",data:= .seq (List.toArray vs)};exact hQ _ _ (st1.trans st2) t1 ⟨_,_,rfl,(F.st st1).bnd.new,st1.wd.newTab,⟨_,OE _ rfl,rfl,_,rfl⟩,r1.keep0 st2.keep⟩
theorem Cx(O:V.Ok)(hsl:jW i=true)(h:((p.ev sc ρ o).bind λv=>(p.ev sc ρ i).bind λk=>gK v k)=some mv):bl V (n+1) sc ρ (.Subscript o i pos) mv:=by intro A θ D env s Q E R W tk F hQ;ext a h1 h;ext c h2 h;rw[g9];refine OB (I.ev _ _ _ _ h1 A θ D env s _ E R.pred W tk F λv w99 st1 t1 r1=>OB (OJ ?_));refine I.ev _ _ _ _ h2 A θ D env w99 _ E R.pred st1.wd t1 (F.st st1) λu w98 st2 t2 r2=>OB (OZ ?_);exact cP t2 (wW h st2.wd ((F.st st1).st st2).bnd hsl (r1.keep0 st2.keep) r2 λx w96 st3 r3 t3=>hQ _ _ ((st1.trans st2).trans st3) t3 r3)
theorem tX(h:ig p sc ρ e=some q)(A:Po)(θ:Pn)(D:Pn->Prop)(env:Env)(s:Pg)(Q:Ph->Pg->Prop)(E:Ph->Pg->Prop)
  (R:Room A n) (W:Wd V s) (tk:1<=s.toks) (F:FrX V θ D sc ρ env s)
  (hQ:∀v s' m,St V none9 s s'->1<=s'.toks->nF m=some q->Rp V.W9 θ D s'.heap m v->Q v s'):wpAny (model V.prog V.w) A (valueOrNone (evalOpt e env)) Q E s:=by
 cases e with
 |none=>cases h;exact Oz (hQ _ _ .none (.refl W _) tk rfl rfl)
 |some e=>ext m h1 h;exact I.ev _ _ _ _ h1 A θ D env s _ E R W tk F λv w99 st1 t1 r1=>hQ v w99 m st1 t1 h r1
theorem Ae{o:Pm}{lo hi:Pj Pm}{pp pos:Pos}{mv:MV}(O:V.Ok)(h:((p.ev sc ρ o).bind λv=>(ig p sc ρ lo).bind λa=>(ig p sc ρ hi).bind λb=>dh v a b)=some mv):bl V (n+1) sc ρ (.Subscript o (.Slice lo hi none pp) pos) mv:=by intro A θ D env s Q E R W tk F hQ;ext a h1 h;ext x h2 h;ext y h3 h;rw[g9];refine OB (I.ev _ _ _ _ h1 A θ D env s _ E R.pred W tk F λv w99 st1 t1 r1=>OB (OJ ?_));refine OB (tX I h2 A θ D env w99 _ E R.pred st1.wd t1 (F.st st1) λvl w98 ml st2 t2 p2 r2=>OB (OJ ?_));refine tX I h3 A θ D env w98 _ E R.pred st2.wd t2 ((F.st st1).st st2) λvu w96 mu st3 t3 p3 r3=>OB (OJ (Oz ?_));refine wpAny_newObj_type (OB (OZ ?_)) (by size_fits);exact cP (by exact t3) (tV O h st3.wd (((F.st st1).st st2).st st3).bnd ((r1.keep0 st2.keep).keep0 st3.keep) p2 p3 (r2.keep0 st3.keep) r3 (λo i=>rfl) λx w9Z st4 r4 t4=>hQ _ _ (((st1.trans st2).trans st3).trans st4) t4 r4)
end
def aC(V:Vw)(a:Pn)(k:Nat)(g:List MV->Pj MV):Prop:=
 ∀(A:Po) (θ:Pn) (D:Pn->Prop) (s:Pg) (Q:Ph->Pg->Prop) (E:Ph->Pg->Prop) (as:List MV) (vs:List Ph) (r:MV),Room A k->Wd V s->1<=s.toks->Bnd D s->
  RpL V.W9 θ D s.heap as vs->aa as=true->g as=some r->(∀v s',St V none9 s s'->1<=s'.toks->Rp V.W9 θ D s'.heap r v->r.plain=true->Q v s')->wpAny (model V.prog V.w) A (call (.ref a) vs) Q E s
structure FnsOk (V:Vw) (F:Fns):Prop where
 go:∀a k g,F.f a=some (k,g)->aC V a k g
 fn:∀a k g,F.f a=some (k,g)->∃o fd,V.K.lookup a=some o/\o.data= .func fd
structure SubsOk (V:Vw) (S:Subs):Prop where
 crlf:∀(A:Po) (s:Pg) (Q:Ph->Pg->Prop) (E:Ph->Pg->Prop) (x:Str) (t u:Tok),Room A 1->Wd V s->1<=s.toks->x.length<=1000->
  (∀t' s',St V none9 s s'->1<=s'.toks->Q (.str (S.crlf x) t') s')->wpAny (model V.prog V.w) A (call (.builtin "re.Pattern.sub") [.ref 41,.str (sx "\r\n") t,.str x u]) Q E s
 dots:∀(A:Po) (s:Pg) (Q:Ph->Pg->Prop) (E:Ph->Pg->Prop) (x:Str) (t u:Tok),Room A 1->Wd V s->1<=s.toks->x.length<=3000->
  (∀t' s',St V none9 s s'->1<=s'.toks->Q (.str (S.dots x) t') s')->wpAny (model V.prog V.w) A (call (.builtin "re.Pattern.sub") [.ref 36,.str (sx "..") t,.str x u]) Q E s
 spec:∀n sc ρ p e mv,SndP V n p->S.spec n sc (p.ev sc ρ) e=some mv->bl V (n+1) sc ρ e mv
 isP:∀h,V.K.In h->∀a,a=41\/a=36->∃o,h.get? a=some o/\o.cls= .type "re.Pattern"/\o.dict=none
section
variable {V:Vw}{n:Nat}{sc:Sc}{ρ:Rho}{p:P}(I:SndP V n p)
theorem empty_append(x:Str):Str.empty++x=x:=Str.append_left_empty (by rfl)
theorem append_assoc'(x y z:Str):x++y++z=x++(y++z):=by obtain⟨a⟩:=x;obtain⟨b⟩:=y;obtain⟨c⟩:=z;show Str.mk (a++b++c)=Str.mk (a++(b++c));rw[Array.append_assoc]
theorem dJ(x y:Str):(x++y).length=x.length+y.length:=by obtain⟨a⟩:=x;obtain⟨b⟩:=y;show(a++b).size=a.size+b.size;simp
include I
theorem Af:∀{x acc:Str},lW p sc ρ es=some x->(acc++x).length<=1000->∀(A:Po) (θ:Pn) (D:Pn->Prop) (env:Env) (s:Pg) (Q:Str->Pg->Prop) (E:Ph->Pg->Prop),Room A n->Wd V s->1<=s.toks->FrX V θ D sc ρ env s->
  (∀s',St V none9 s s'->1<=s'.toks->Q (acc++x) s')->Joins (model V.prog V.w) A E (evalEach es env) acc Q s:=by
 induction es with
 |nil=>intro x acc h hz A θ D env s Q E R W tk F hQ;cases h;exact(show acc++Str.empty=acc from Str.append_right_empty (by rfl))▸hQ _ (.refl W _) tk
 |cons e r ih=>
  intro x acc h hz A θ D env s Q E R W tk F hQ;have room:∀{y z:Str},(acc++y++z).length<=1000->acc.length+y.length<=1000:=λq=>by rw[dJ,dJ]at q;exact OA (OI ..) q
  have text:∀{y z:Str} {t:Tok} {k:Nat},lW p sc ρ r=some z->y++z=x->1<=k->(acc++y).length<=sizeLine/\Joins (model V.prog V.w) A E (evalEach r env) (acc++y) Q {s with toks:=k}:=λ{y z t k} h2 e h3=>by subst e;rw[<-append_assoc']at hz hQ;have h:=room hz;exact⟨by rw[dJ,sizeLine_eq];lia,ih h2 hz A θ D env _ Q E R (W.toks _) h3 (F.st (.toks W _ _)) λw98 st2 t2=>hQ _ ((St.toks W none9 _).trans st2) t2⟩
  show wpAny _ A (eval e env) _ _ s
  have other:((Cd e).bind λe=>((p.ev sc ρ e).bind strOf).bind λx=>(lW p sc ρ r).map (x++·))=some x->wpAny (model V.prog V.w) A (eval e env) (λv w99=>∃y t,v= .str y t/\(acc++y).length<=sizeLine/\Joins (model V.prog V.w) A E (evalEach r env) (acc++y) Q w99) E s:=λh=>by refine bdE (λe' he g1=>?_) h;refine bdE (λy g2 g3=>?_) g1;refine bdE (λv h1 h3=>?_) g2;refine mpE (λz h2 e2z=>?_) g3;subst e2z;obtain⟨q,rfl⟩:=Ce he;rw[<-append_assoc']at hz hQ;have hr:=room hz;refine cP tk (wpAny_FormattedValue_plain (I.ev _ _ _ _ h1 A θ D env s _ _ R W tk F λv w99 st1 t1 r1=>?_));obtain⟨t,rfl⟩:=cL h3 r1;exact formatField_str (λt' tk' t2=>⟨y,_,rfl,by rw[dJ,sizeLine_eq];lia,ih h2 hz A θ D env _ Q E R (st1.wd.toks _) t2 (F.st (st1.trans (.toks st1.wd _ _))) λw98 st2 t3=>hQ _ ((st1.trans (.toks st1.wd _ _)).trans st2) t3⟩) (by refine Eq.symm sizeLine_eq▸?_;lia)
  unfold lW at h;cases hv:aN e<;>rw[hv]at h<;>first|exact other h|skip
  obtain rfl:e= .Constant (.str _) _ _:=aL hv;refine mpE (λz h2 e=>?_) h;exact cP tk (O3 λt=>⟨_,_,rfl,text (t:=0) h2 e t⟩)
theorem pO(h:((lW p sc ρ vs).bind λs=>if s.length<=1000/\2<=vs.length then some (MV.str s) else none)=some mv):bl V (n+1) sc ρ (.JoinedStr vs pos) mv:=by
 intro A θ D env s Q E R W tk F hQ;ext x h1 h;injections hz h;cases h;obtain _|⟨w9h,_|⟨w9g,rest⟩⟩:=vs
 ·exact O8 hz.2 (Nat.not_succ_le_zero 1)
 ·exact O8 hz.2 (Nat.not_succ_le_self 1)
 refine wpAny_JoinedStr (Af I (acc:=Str.empty) h1 ((empty_append x).symm▸hz.1) A θ D env s _ _ R.pred W tk F λw99 st1 t1=>?_);rw[empty_append];exact⟨by refine Eq.symm sizeLine_eq▸?_;exact OA hz.1 (by left),hQ _ _ (st1.trans (.toks st1.wd _ _)) (OK t1) ⟨_,rfl⟩⟩
omit I in
set_option tactic.hygienic true in
theorem dF(h:baseOk o=true):attributeBase o m env whole=whole:=by
 cases o<;>first|rfl|skip
 rename_i f as ks _;cases as with
 |nil=>cases ks<;>exact Bool.noConfusion h
 |cons _ _=>cases f<;>rfl
omit I in
theorem eB:∀{as:List MV},aT p sc ρ es=some as->(backTo pos (starEach es env)).all (λx=> !x.1)=true/\(backTo pos (starEach es env)).any (·.1)=false:=by
 induction es with
 |nil=>exact λ_=>⟨rfl,rfl⟩
 |cons e r ih=>intro as h;obtain⟨hs,a,bs,h1,h2,rfl⟩:=jD h;rw[aW hs];exact ih h2
omit I in
theorem w4(h:aT p sc ρ es=some as)(hz:es.length<=20):
  ((backTo pos (starEach es env)).all (λx=> !x.1)&&(backToKw pos (keywordEach [] env)).all (λx=>x.1.isSome)&&decide (es.length+([]:List Keyword).length+(if([]:List Keyword).isEmpty then 0 else 1)<30))=true:=by
 rw[(eB h).1];exact Pa (O9 hz (by left))
omit I in
theorem Cy(h:aT p sc ρ es=some as)(hz:es.length<=20):(backTo pos (starEach es env)).any (·.1)=false:=(eB h).2
end
theorem iw:PlainAttrs "re.Pattern":=
 ⟨⟨"object.__getattribute__",by rw[typeLookup_type,builtinLookup_eq_fast];symm,by right⟩,by rw[typeLookup_type,builtinLookup_eq_fast];symm⟩
theorem cY:Slot "re.Pattern" "sub" "re.Pattern.sub":=
 .of (owner:="re.Pattern") (n:="sub") (by rw[typeLookup_type,builtinLookup_eq_fast];symm) (by right) (by right) (by right)
  (by first|exact .inl (by right)|exact .inr (by right)) (by rw[isSubtype_type];symm)
theorem j4:typeOf (.builtin "re.Pattern.sub")=pure (.type "method_descriptor"):=by show builtinType _=_;refine Eq.symm builtinType_eq_fast▸?_;symm
section
variable {V:Vw}{n:Nat}{sc:Sc}{ρ:Rho}{p:P}(I:SndP V n p)
include I
theorem dn(id:String)(slot:Slot "str" m id)(ty:typeOf (.builtin id)=pure (.type "method_descriptor"))
  (hl:(apos.endLine==pos.line)=true) (hz:es.length<=20) (hb:baseOk o=true) (h1:p.ev sc ρ o=some (.str x)) (h2:aT p sc ρ es=some as)
  (go:∀(A:Po) (θ:Pn) (D:Pn->Prop) (s:Pg) (Q:Ph->Pg->Prop) (E:Ph->Pg->Prop) (t:Tok) (vs:List Ph),Room A 1->Wd V s->Bnd D s->1<=s.toks->RpL V.W9 θ D s.heap as vs->
   (∀v s',St V none9 s s'->1<=s'.toks->Rp V.W9 θ D s'.heap mv v->Q v s')->wpAny (model V.prog V.w) A (call (.builtin id) (.str x t::vs)) Q E s):
  bl V (n+1) sc ρ (.Call (.Attribute o m apos) es [] pos) mv:=by
 intro A θ D env s Q E R W tk F hQ;refine wpAny_Call_method_late (dF hb) (w4 h2 hz) hl rfl (I.ev _ _ _ _ h1 A θ D env s _ E R.pred W tk F λv w99 st1 t1 r1=>?_);obtain⟨t,rfl⟩:=r1;refine⟨"str",id,PySem.F.plainAttrs_str,slot,ty,OX _ _ _,(λa e=>by cases e),?_⟩;refine callWith_builtin (Cy h2 hz) (bz I h2 A θ D env w99 _ E R.pred st1.wd t1 (F.st st1) λvs w98 st2 t2 r2=>?_);exact go A θ D w98 Q E t vs (R.le (by lia)) st2.wd ((F.st st1).st st2).bnd t2 r2 λv w96 st3 t3 r3=>hQ v w96 ((st1.trans st2).trans st3) t3 r3
theorem jt(SO:SubsOk V S)(ha:a=41\/a=36)
  (hl:(apos.endLine==pos.line)=true) (hz:es.length<=20) (hb:baseOk o=true) (h1:p.ev sc ρ o=some (.ex (.ref a))) (h2:aT p sc ρ es=some as)
  (go:∀(A:Po) (θ:Pn) (D:Pn->Prop) (s:Pg) (Q:Ph->Pg->Prop) (E:Ph->Pg->Prop) (vs:List Ph),Room A 1->Wd V s->Bnd D s->1<=s.toks->RpL V.W9 θ D s.heap as vs->
   (∀v s',St V none9 s s'->1<=s'.toks->Rp V.W9 θ D s'.heap mv v->Q v s')->wpAny (model V.prog V.w) A (call (.builtin "re.Pattern.sub") (.ref a::vs)) Q E s):
  bl V (n+1) sc ρ (.Call (.Attribute o (sx "sub") apos) es [] pos) mv:=by
 intro A θ D env s Q E R W tk F hQ;refine wpAny_Call_method_late (dF hb) (w4 h2 hz) hl rfl (I.ev _ _ _ _ h1 A θ D env s _ E R.pred W tk F λv w99 st1 t1 r1=>?_);cases r1;obtain⟨ob,ho,hc,hd⟩:=SO.isP _ st1.wd.K a ha;refine⟨"re.Pattern","re.Pattern.sub",iw,cY,j4,⟨ob,ho,hc⟩,λb e=>by cases e;exact⟨ob,ho,hd⟩,?_⟩;refine callWith_builtin (Cy h2 hz) (bz I h2 A θ D env w99 _ E R.pred st1.wd t1 (F.st st1) λvs w98 st2 t2 r2=>?_);exact go A θ D w98 Q E vs (R.le (by lia)) st2.wd ((F.st st1).st st2).bnd t2 r2 λv w96 st3 t3 r3=>hQ v w96 ((st1.trans st2).trans st3) t3 r3
omit I in
theorem tY:∀(l:List (Str×Tok)),RpL W θ D h ((l.map (·.1)).map MV.str) (strValues l)
 | []=>rfl
 |(x,t)::r=>⟨_,_,rfl,⟨t,rfl⟩,tY r⟩
omit I in
theorem tZ(O:V.Ok)(W:Wd V s)(B:Bnd D s)(tk:1<=s.toks)
  (hy:(y.length==0)=false) (hx:x.length<=100000) (hQ:∀v s',St V none9 s s'->1<=s'.toks->Rp V.W9 θ D s'.heap (.list ((Txt.split x y).map .str)) v->Q v s'):
  wpAny (model V.prog V.w) A (call (.builtin "str.split") [.str x t,.str y u]) Q E s:=by
 have fin:∀(l:List (Str×Tok)) (k:Nat),s.toks<=k->l.map (·.1)=Txt.split x y->Q (.ref s.heap.objs.size) {s with toks:=k,heap:=s.heap.push {cls:= .type "list",data:= .seq (strValues l).toArray}}:=λl k hk e=>by refine hQ _ _ (St.push O W none9 _ k) (OA tk hk) ⟨_,_,rfl,B.new,W.newTab,⟨_,OE _ rfl,rfl,_,rfl⟩,?_⟩;refine e▸?_;exact tY l
 have hs:x.length<=sizeLine:=by rw[sizeLine_eq];lia
 have hs2:(Builtin.Str.partsBetween x (Builtin.Str.occurrences x y 0 x.length (x.length+1)) y.length).length<=sizeLine:=by rw[len_partsBetween,sizeLine_eq];have:=StrLaws.occ_length_le x y 0 x.length (x.length+1);lia
 have hsp:Txt.split x y=if(decide (x.length<y.length)||decide (Builtin.Str.strKind x<Builtin.Str.strKind y))=true then [x] else
  if(Builtin.Str.occurrences x y 0 x.length (x.length+1)).isEmpty=true then [x] else Builtin.Str.partsBetween x (Builtin.Str.occurrences x y 0 x.length (x.length+1)) y.length:=rfl
 cases h1:(decide (x.length<y.length)||decide (Builtin.Str.strKind x<Builtin.Str.strKind y))
 ·rw[h1]at hsp;cases hf:(Builtin.Str.occurrences x y 0 x.length (x.length+1)).isEmpty
  ·rw[hf]at hsp;refine call_meets PySem.F.slot_str_split (OX _ _ _) PySem.F.entry_str_split (PySem.F.args_str_split_2 _ _) (meets_str_split_sep x y t u h1 hy hf hs hs2) ?_;have:=fin (numbered s.toks (Builtin.Str.partsBetween x (Builtin.Str.occurrences x y 0 x.length (x.length+1)) y.length)) (s.toks+(Builtin.Str.partsBetween x (Builtin.Str.occurrences x y 0 x.length (x.length+1)) y.length).length) (OI _ _) (by rw[numbered_texts,hsp];rfl);rw[<-strsFrom_eq]at this;exact this
  ·rw[hf]at hsp;exact call_meets PySem.F.slot_str_split (OX _ _ _) PySem.F.entry_str_split (PySem.F.args_str_split_2 _ _) (meets_str_split_not_found x y t u h1 hy hf) (fin [(x,t)] s.toks (OP _) (by rw[hsp];rfl))
 ·rw[h1]at hsp;exact call_meets PySem.F.slot_str_split (OX _ _ _) PySem.F.entry_str_split (PySem.F.args_str_split_2 _ _) (meets_str_split_cannot_occur x y t u h1) (fin [(x,t)] s.toks (OP _) (by rw[hsp];rfl))
theorem GP(O:V.Ok)(hl:(apos.endLine==pos.line)=true)(hz:es.length<=20)(hb:baseOk o=true)(h1:p.ev sc ρ o=some (.str x))(h2:aT p sc ρ es=some [a])(ha:strOf a=some y)(h:L9 m x y=some mv):
  bl V (n+1) sc ρ (.Call (.Attribute o m apos) es [] pos) mv:=by
 replace h:=di h;rcases h with⟨rfl,h⟩|⟨_,h⟩
 ·revert h;refine ifN λhk h=>?_;cases h;refine dn I "str.split" PySem.F.slot_str_split PySem.F.type_str_split hl hz hb h1 h2 λA θ D s Q E t vs R W B tk r hQ=>?_;obtain⟨u,q,rfl,ru,rq⟩:=r;obtain⟨t2,rfl⟩:=cL ha ru;cases rq;exact tZ O W B tk (beq_eq_false_iff_ne.mpr λe=>hk (.inl e)) (OU.mp λe=>hk (.inr e)) hQ
 ·injections e0z h;subst e0z;injections hk h;cases h;refine dn I "str.lstrip" PySem.F.slot_str_lstrip PySem.F.type_str_lstrip hl hz hb h1 h2 λA θ D s Q E t vs R W B tk r hQ=>?_;obtain⟨u,q,rfl,ru,rq⟩:=r;obtain⟨t2,rfl⟩:=cL ha ru;cases rq;exact cP tk (PySem.SC.lstripChars (λt' k t1=>hQ _ _ (.toks W _ _) t1 ⟨_,rfl⟩) hk)
omit I in
theorem ua(e:itemsOf a=some l)(r:Rp W θ D h a v):∃b vs,v= .ref b/\¬aJ b/\h.IsList b (List.toArray vs)/\RpL W θ D h l vs:=by
 cases a<;>first|exact af e|skip
 ·cases e;obtain⟨b,vs,e,_,t,hl,r⟩:=r;exact⟨b,vs,e,t,hl,r⟩
 ·cases e;obtain⟨b,vs,e,_,t,hl,r⟩:=r;exact⟨b,vs,e,t,hl.isList,r⟩
theorem Cz(O:V.Ok)(hl:(apos.endLine==pos.line)=true)(hz:es.length<=20)(hb:baseOk o=true)(h1:p.ev sc ρ o=some (.str x))(h2:aT p sc ρ es=some [a])
  (h:(((itemsOf a).bind strsOf).bind λys=>if bF ys+ys.length*x.length<=16777216 then some (.str (Txt.join x ys)) else none)=some mv):bl V (n+1) sc ρ (.Call (.Attribute o (sx "join") apos) es [] pos) mv:=by
 ext ys h3 h;refine bdE (λl hi hs=>?_) h3;injections hk h;cases h;refine dn I "str.join" PySem.F.slot_str_join PySem.F.type_str_join hl hz hb h1 h2 λA θ D s Q E t vs R W B tk r hQ=>?_;obtain⟨u,q,rfl,ru,rq⟩:=r;obtain⟨b,us,rfl,_,hu,r'⟩:=ua hi ru;cases rq;exact cP tk (PyProof.Rows.join_list hu (nH hs r') hk λt' k t1=>hQ _ _ (.toks W _ _) t1 ⟨_,rfl⟩)
theorem GQ(SO:SubsOk V S)(hl:(apos.endLine==pos.line)=true)(hz:es.length<=20)(hb:baseOk o=true)(h1:p.ev sc ρ o=some (.ex (.ref a)))(h2:aT p sc ρ es=some [u,v])
  (hu:strOf u=some r) (hv:strOf v=some x) (h:yU S a r x=some mv):bl V (n+1) sc ρ (.Call (.Attribute o (sx "sub") apos) es [] pos) mv:=by
 replace h:=di h;rcases h with⟨rfl,h⟩|⟨_,h⟩
 ·injections e0z h;obtain⟨rfl,hk⟩:=e0z;cases h;refine jt I SO (.inl rfl) hl hz hb h1 h2 λA θ D s Q E vs R W B tk r hQ=>?_;obtain⟨w,q,rfl,r1,w2,q2,rfl,r2,rq⟩:=r;obtain⟨t1,rfl⟩:=cL hu r1;obtain⟨t2,rfl⟩:=cL hv r2;cases rq;exact SO.crlf A s Q E _ _ _ R W tk hk λt' s' st1 t1=>hQ _ _ st1 t1 ⟨_,rfl⟩
 ·injections e0z h;subst e0z;injections e0z h;obtain⟨rfl,hk⟩:=e0z;cases h;refine jt I SO (.inr rfl) hl hz hb h1 h2 λA θ D s Q E vs R W B tk r hQ=>?_;obtain⟨w,q,rfl,r1,w2,q2,rfl,r2,rq⟩:=r;obtain⟨t1,rfl⟩:=cL hu r1;obtain⟨t2,rfl⟩:=cL hv r2;cases rq;exact SO.dots A s Q E _ _ _ R W tk hk λt' s' st1 t1=>hQ _ _ st1 t1 ⟨_,rfl⟩
theorem w5(SO:SubsOk V S)(O:V.Ok)
  (hl:(apos.endLine==pos.line)=true) (hz:es.length<=20) (hb:baseOk o=true)
  (h:((p.ev sc ρ o).bind λv=>(aT p sc ρ es).bind λas=>jq S m v as)=some mv):bl V (n+1) sc ρ (.Call (.Attribute o m apos) es [] pos) mv:=by
 ext v h1 h;ext as h2 h;cases v with
 |str sep=>
  ext a ha h;obtain rfl:=bf ha;replace h:=di h;rcases h with⟨rfl,h⟩|⟨_,h⟩
  ·exact Cz I O hl hz hb h1 h2 h
  ·ext y hy h;exact GP I O hl hz hb h1 h2 hy h
 |ex w=>
  ext a hw h;obtain rfl:w= .ref a:=by cases w<;>first|exact af hw|exact ON Value.ref (OH hw)
  ext e0z ha h;obtain⟨u,v⟩:=e0z;obtain rfl:=d6 ha;ext r hu h;ext x hv h;injections e0z h;subst e0z;exact GQ I SO hl hz hb h1 h2 hu hv h
 |_=>exact af h
end
section
variable {V:Vw}{n:Nat}{sc:Sc}{ρ:Rho}{p:P}(I:SndP V n p)
structure Vw.Booked (V:Vw):Prop where
 no:∀h,V.K.In h->NoneBooked h
include I
theorem ub(O:V.Ok)(BK:V.Booked)
  (hl:(apos.endLine==pos.line)=true) (hb:baseOk o=true) (h1:p.ev sc ρ o=some (.str x))
  (h:(if x.length<=1000/\z.length<=1000/\(y==z)=false then some (MV.str (Txt.replace x y z)) else none)=some mv):
  bl V (n+1) sc ρ (.Call (.Attribute o (sx "replace") apos) [.Constant (.str y) k1 q1,.Constant (.str z) k2 q2] [] pos) mv:=by
 injections hk h;cases h;intro A θ D env s Q E R W tk F hQ;refine wpAny_Call_method2_late (dF hb) hl rfl (I.ev _ _ _ _ h1 A θ D env s _ E R.pred W tk F λv w99 st1 t1 r1=>?_);obtain⟨t,rfl⟩:=r1;refine⟨"str","str.replace",PySem.F.plainAttrs_str,PySem.F.slot_str_replace,PySem.F.type_str_replace,OX _ _ _,(λa e=>Value.noConfusion e),?_⟩;refine callWith_builtin rfl (evalArgs_plain (spliced_cons (x:=eval (.Constant (.str y) k1 q1) env) ?_));refine O3 (spliced_cons (x:=eval (.Constant (.str z) k2 q2) env) ?_);refine O3 (spliced_nil ?_);have hk3:(x.length+1)*z.length<=1001*1000:=Nat.mul_le_mul (Nat.succ_le_succ hk.1) hk.2.1;have st2:=St.toks st1.wd none9 (w99.toks+1+1)
 exact cP (show 1<=w99.toks+1+1 from Nat.succ_le_succ (Nat.zero_le _)) (PySem.SC.replaceA (Nat.ne_of_gt t1) (Nat.succ_ne_zero _) (Nat.ne_of_lt (O6 _)) (OA (Nat.add_le_add hk.1 hk3) (by left))
   (λt' k t3=>hQ _ _ ((st1.trans st2).trans (.toks st2.wd _ _)) t3 ⟨_,rfl⟩) (BK.no _ st1.wd.K))
def rT(V:Vw)(d:List (Str×Str))(l:List (Ph×Ph))(kvs:List (Str×Ph)):Prop:=
 Carries (strKind V.prog V.w) l kvs/\kvs.map (·.1)=d.map (·.1)/\∀x,(valueAt kvs x).isSome=(d.lookup x).isSome/\∀y,d.lookup x=some y->∃t,valueAt kvs x=some (.str y t)
omit I in
theorem rT.cons(c:rT V d l kvs)(a b:Str)(t u:Tok):rT V ((a,b)::d) ((.str a t,.str b u)::l) ((a,.str b u)::kvs):=by
 refine⟨⟨by simp [PySem.strKind,Value.isStrOf],rfl,c.1⟩,ON (a::·) c.2.1,λx=>?_⟩;unfold valueAt;rw[List.find?_cons,List.lookup_cons]
 by_cases hx:a=x
 ·subst hx;simp
 ·refine Eq.symm (beq_eq_false_iff_ne.mpr λe=>hx e.symm)▸Eq.symm (decide_eq_false hx)▸?_;exact c.2.2 x
omit I in
theorem uc:∀{vs:List Pm} {d:List (Str×Str)},qq ks vs=some d->ks.all (·.isSome)=true/\ks.length=vs.length/\d.length=ks.length/\
  ∀(A:Po) (s:Pg) (Q:List (Ph×Ph)->Pg->Prop) (E:Ph->Pg->Prop),(∀l kvs k,s.toks<=k->rT V d l kvs->Q l {s with toks:=k})->wpAny (model V.prog V.w) A (evalPairs (pairTrees ks vs env pos)) Q E s:=by
 induction ks with
 |nil=>
  intro vs d h;cases vs with
  |nil=>cases h;exact⟨rfl,rfl,rfl,λA s Q E hq=>Oz (hq [] [] s.toks (OP _) ⟨trivial,rfl,λx=>⟨rfl,λy e=>af e⟩⟩)⟩
  |cons _ _=>exact af h
 |cons k ks ih=>
  intro vs d h;cases vs with
  |nil=>exact af h
  |cons v vs=>
   revert h;refine bdE λk' e1z h=>?_;subst e1z;ext a ha h;ext b hb h;revert h;refine mpE λr h1 e2z=>?_;subst e2z;obtain⟨_,_,rfl⟩:=i8 ha;obtain⟨_,_,rfl⟩:=i8 hb;obtain⟨i1,i2,i3,i4⟩:=ih h1;refine⟨i1,ON (·+1) i2,ON (·+1) i3,λA s Q E hq=>?_⟩
   show wpAny _ A (do
    let kv <-constValue env (.str a)
    let vv <-holding [kv] (do let x <-constValue env (.str b);standAt pos;pure x)
    return (kv,vv)::(<-holding [kv,vv] (evalPairs (pairTrees ks vs env pos)))) _ _ _
   refine wpB (O3 (wpB (OJ (wpB (O3 (wpB (OZ (Oz (wpB (OJ ?_))))))))));exact i4 A _ _ E λl kvs k' hk c=>Oz (hq _ _ k' (OA (OI s.toks 2) hk) (c.cons a b _ _))
omit I in
theorem rU{K:Type}[DecidableEq K](more:List (K×Ph)):∀(kvs:List (K×Ph)),((kvs++more).map (·.1)).Nodup->merged kvs more=kvs++more:=by
 induction more with
 |nil=>exact λkvs _=>(List.append_nil kvs).symm
 |cons p r ih=>
  intro kvs h;obtain⟨k,v⟩:=p;refine(?_:merged (stored kvs k v) r=_)
  have hn:kvs.any (λkv=>kv.1=k)=false:=by
   rw[List.any_eq_false]
   rintro ⟨a,b⟩ hab
   simp only [decide_eq_true_eq]
   rintro rfl
   rw[List.map_append,List.nodup_append]at h;exact h.2.2 a (OS.mpr ⟨_,hab,rfl⟩) a (by simp) rfl
  have e:stored kvs k v=kvs++[(k,v)]:=by unfold stored;rw[hn];rfl
  rw[e,ih (kvs++[(k,v)]) (by rw[List.append_assoc];exact h),List.append_assoc]
  rfl
theorem GR{ks:List (Pj Pm)}{vs:List Pm}{q apos pos:Pos}{a b:Pm}{d:List (Str×Str)}{mv:MV}(O:V.Ok)(hd:qq ks vs=some d)(hl:(apos.endLine==pos.line)=true)(h:Mb p sc ρ d a b=some mv):
  bl V (n+1) sc ρ (.Call (.Attribute (.Dict ks vs q) (sx "get") apos) [a,b] [] pos) mv:=by
 revert I O hd hl h;exists V,n,sc,ρ,p,ks,vs,q,apos,pos,a,b,d,mv;injections hk h;ext x h1 h;revert h;refine mpE λy h2 e2z=>?_;subst e2z;revert h1;refine bdE λva h1 ha=>?_;revert h2;refine bdE λvb h2 hb=>?_;intro A θ D env s Q E R W tk F hQ;have hbt:backTo pos (starEach [a,b] env)=[(false,eval a env),(false,eval b env)]:=by rw[aW hk.2.2.2.1,aW hk.2.2.2.2];rfl
 refine wpAny_Call_method2_late (dF rfl) hl hbt ?_;obtain⟨i1,i2,i3,i4⟩:=uc (V:=V) (env:=env) (pos:=q) hd;have sz15:ks.length<=15:=i3▸hk.1;refine wpAny_Dict_walk (knd:=strKind V.prog V.w) i1 i2 (λe=>by rw[e]at i3;rw[List.length_eq_zero_iff.mp i3]at hk;exact Bool.noConfusion hk.2.1) (by omega) ?_;refine i4 A _ _ E λl kvs k hk1 c=>⟨kvs,c.1,?_,?_⟩
 ·exact Heap.DictOf.new _
 ·intro h' hd' hs';rw[rU kvs [] (by rw[List.nil_append,c.2.1];exact hk.2.2.1),List.nil_append]at hd'
  have st1:St V none9 s {s with heap:=h',toks:=k+l.length}:=by
   have kp:∀a o,s.heap.get? a=some o->h'.get? a=some o:=λa o ho=>(hs'.2 a (Nat.ne_of_lt (OF ho))).trans (OC _ ho);have sz:s.heap.objs.size<=h'.objs.size:=by rw[hs'.1];show _<=(s.heap.push _).objs.size;rw[Heap.size_push];exact O7 _
   exact⟨.ofAll none9 sz kp,W.grown O (s':={s with heap:=h',toks:=k+l.length}) sz kp⟩
  have t1:1<=k+l.length:=OA tk (OA hk1 (OI _ _));have hsys:(s.heap.objs.size==sysModules)=false:=beq_eq_false_iff_ne.mpr (Nat.ne_of_gt (OD (show(sysModules:Nat)<175 by left) W.size));refine⟨"dict","dict.get",PySem.F.plainAttrs_dict,PySem.F.slot_dict_get,PySem.F.type_dict_get,hd'.mapOf.typeIs,hd'.mapOf.noDict,?_⟩;refine wpAny_dict_get2 (knd:=PySem.strKind V.prog V.w) hsys (I.ev _ _ _ _ h1 A θ D env {s with heap:=h',toks:=k+l.length} _ E R.pred st1.wd t1 (F.st st1) λv w99 st2 t2 r2=>?_);refine I.ev _ _ _ _ h2 A θ D env w99 _ E R.pred st2.wd t2 ((F.st st1).st st2) λu w98 st3 t3 r3=>?_;obtain⟨tx,rfl⟩:=cL ha r2;obtain⟨ty,rfl⟩:=cL hb r3;refine⟨x,valueAt kvs,by simp [PySem.strKind,Value.isStrOf],?_,?_⟩
  ·rw[Heap.dictOf_iff]at hd';obtain⟨o,ho,r⟩:=hd';exact(Heap.dictOf_iff.mpr ⟨o,(st2.trans st3).keep.keep _ o (λq=>q) W.newTab ho,r⟩:w98.heap.DictOf (PySem.strKind V.prog V.w) s.heap.objs.size kvs).mapOf
  ·refine hQ _ _ (((st1.trans st2).trans st3).trans (.toks st3.wd _ _)) (OK t3) ?_;obtain⟨f1,f2⟩:=c.2.2 x;cases hx:d.lookup x with
   |some z=>obtain⟨t,ht⟩:=f2 z hx;exact⟨t,by rw[ht];rfl⟩
   |none=>rw[hx]at f1;exact⟨ty,by rw[Option.isSome_eq_false_iff.mp f1 |> Option.isNone_iff_eq_none.mp];rfl⟩
omit I in
theorem Ag(h:Ma m=some mv)(W:Wd V s)(r:Rp V.W9 θ D s.heap m u)(hQ:∀v s',St V none9 s s'->1<=s'.toks->Rp V.W9 θ D s'.heap mv v->Q v s'):wpAny (model V.prog V.w) A (call (.builtin "len") [u]) Q E s:=by
 have lst:∀a' (vs:List Ph) (l:List MV),l.length<=1000->s.heap.IsList a' (List.toArray vs)->RpL V.W9 θ D s.heap l vs->mv= .int l.length->wpAny (model V.prog V.w) A (call (.builtin "len") [.ref a']) Q E s:=λa' vs l hz hl r' e=>by have hn:(List.toArray vs).size=l.length:=(List.size_toArray ..).trans r'.length;refine PyProof.Rows.len_list hl (by refine Eq.symm hn▸?_;lia) ?_;refine Eq.symm hn▸?_;exact hQ _ _ (.toks W _ _) (Nat.le_add_left ..) (e▸⟨_,rfl⟩)
 cases m<;>first|exact af h|skip
 ·injections hz h;cases h;obtain⟨t,rfl⟩:=r;exact PySem.P.len_str (by replace hz:=sizeLine_eq▸hz;lia) (hQ _ _ (.toks W _ _) (Nat.le_add_left ..) ⟨_,rfl⟩)
 ·injections hz h;obtain⟨a',vs,rfl,_,_,hl,r'⟩:=r;exact lst a' vs _ hz hl r' (OH h).symm
 ·injections hz h;obtain⟨a',vs,rfl,_,_,hl,r'⟩:=r;exact lst a' vs _ hz hl.isList r' (OH h).symm
omit I in
theorem rV(e:intsOf (m::ms)=some is)(r:RpL W θ D h (m::ms) vs):∃i is' t q,is=i::is'/\vs= .int i t::q/\intsOf ms=some is'/\RpL W θ D h ms q:=by ext i h1 e;revert e;refine mpE λis' h2 e=>?_;obtain⟨v,q,rfl,r1,r2⟩:=r;obtain⟨t,rfl⟩:=eH h1 r1;exact⟨i,is',t,q,e.symm,rfl,h2,r2⟩
omit I in
theorem ud{A:Po}{θ:Pn}{D:Pn->Prop}{s:Pg}{Q:Pr}{E:Pr}{as:List MV}{mv:MV}{vs:List Ph}(O:V.Ok)(h:Cc as=some mv)(W:Wd V s)(B:Bnd D s)(tk:1<=s.toks)(r:RpL V.W9 θ D s.heap as vs)
  (hQ:∀v s',St V none9 s s'->1<=s'.toks->Rp V.W9 θ D s'.heap mv v->Q v s'):wpAny (model V.prog V.w) A (call (.type "range") vs) Q E s:=by
 revert O h W B tk r hQ;exists V,A,θ,D,s,Q,E,as,mv,vs;ext is h1 h;obtain _|⟨m,ms⟩:=as
 ·cases h1;exact af h
 obtain⟨a,is1,t,q,rfl,rfl,h2,r1⟩:=rV h1 r;obtain _|⟨m2,ms⟩:=ms
 ·cases h2;cases r1;revert h;refine ifP λ_ h=>?_;cases h;exact call_range_1 (hQ _ _ (St.push O W none9 _ _) (Nat.le_add_left ..) ⟨_,_,_,_,rfl,B.new,W.newTab,IsRange.new _ _ _ _ _ _ _⟩)
 obtain⟨b,is2,u,q,rfl,rfl,h3,r2⟩:=rV h2 r1;ext c hc h;obtain rfl:=bf hc;obtain _|⟨m3,ms⟩:=ms
 ·cases h3
 obtain⟨c',is3,w,q,e,rfl,h4,r3⟩:=rV h3 r2;cases e;obtain _|⟨m4,ms⟩:=ms
 ·cases r3;injections hr h;cases h;obtain⟨l,hr⟩:=Pf.mp hr;refine ifP (λhh _=>?_) hr;exact call_range_3 hh.1 (hQ _ _ (St.push O W none9 _ _) tk ⟨_,_,_,_,rfl,B.new,W.newTab,IsRange.new _ _ _ _ _ _ _⟩) (.inl (PyProof.noPylong_small (by omega)))
 ·obtain⟨_,_,_,_,e,_⟩:=rV h4 r3;cases e
omit I in
theorem ue(O:V.Ok)(h:lV f as=some mv):(f= .builtin "len"\/f= .type "range")/\∀(A:Po) (θ:Pn) (D:Pn->Prop) (s:Pg) (Q:Ph->Pg->Prop) (E:Ph->Pg->Prop) (vs:List Ph),Wd V s->Bnd D s->1<=s.toks->RpL V.W9 θ D s.heap as vs->
   (∀v s',St V none9 s s'->1<=s'.toks->Rp V.W9 θ D s'.heap mv v->Q v s')->wpAny (model V.prog V.w) A (call f vs) Q E s:=by
 revert O h;exists V,f,as,mv;replace h:=di h;rcases h with⟨rfl,h⟩|⟨_,h⟩
 ·ext m h1 h;obtain rfl:=bf h1;refine⟨.inl rfl,λA θ D s Q E vs W B tk r hQ=>?_⟩;obtain⟨u,q,rfl,r1,rq⟩:=r;cases rq;exact Ag h W r1 hQ
 ·injections e0z h;subst e0z;exact⟨.inr rfl,λA θ D s Q E vs W B tk r hQ=>ud O h W B tk r hQ⟩
theorem rW{F:Fns}{x:Str}{q pos:Pos}{es:List Pm}{mv:MV}(O:V.Ok)(FO:FnsOk V F)
  (h:((p.ev sc ρ (.Name x q)).bind λv=>(aT p sc ρ es).bind λas=>(kW v).bind λu=>wO F n u as)=some mv):bl V (n+1) sc ρ (.Call (.Name x q) es [] pos) mv:=by
 revert I O FO h;exists V,n,sc,ρ,p,F,x,q,pos,es,mv;ext v h1 h;ext as h2 h;ext u h3 h;obtain rfl:v= .ex u:=by cases v<;>first|exact af h3|exact ON MV.ex (OH h3)
 intro A θ D env s Q E R W tk F' hQ;refine wpAny_Call_NameR (I.ev _ _ _ _ h1 A θ D env s _ E R.pred W tk F' λv w99 st1 t1 r1=>?_);cases(r1);have args:=λ(Q:Args->Pg->Prop) (hq:∀vs s',St V none9 w99 s'->1<=s'.toks->RpL V.W9 θ D s'.heap as vs->Q ⟨vs,[]⟩ s')=>bz I (f:=u) (pos:=pos) h2 A θ D env w99 Q E R.pred st1.wd t1 (F'.st st1) hq;unfold wO at h;cases hv:wM u with
 |some a=>
  replace h:=hv▸h;obtain rfl:u= .ref a:=by cases u<;>first|exact af hv|exact ON Value.ref (OH hv)
  ext e0z hf h;obtain⟨k,g⟩:=e0z;injections hk h;obtain⟨o,fd,ho,hd⟩:=FO.fn a k g hf;refine callWith_function (o:=o) (fd:=fd) (args _ λvs w98 st2 t2 r2=>⟨⟨st2.wd.K a o ho,hd⟩,?_⟩);exact FO.go a k g hf A θ D w98 Q E as vs mv (R.le (OK hk.1)) st2.wd t2 ((F'.st st1).st st2).bnd r2 hk.2 h λv w96 st3 t3 r3 _=>hQ v w96 ((st1.trans st2).trans st3) t3 r3
 |none=>
  replace h:=hv▸h;obtain⟨hb,go⟩:=ue O h;have fin:=args (λa w99=>wpAny (model V.prog V.w) A (call u ([]++a.pos) a.kw) Q E w99) λvs w98 st2 t2 r2=>go A θ D w98 Q E vs st2.wd ((F'.st st1).st st2).bnd t2 r2 λv w96 st3 t3 r3=>hQ v w96 ((st1.trans st2).trans st3) t3 r3;rcases hb with rfl|rfl
  ·exact callWith_builtin (eB h2).2 fin
  ·exact PySem.callWith_type (eB h2).2 fin
end
end
end
section
open PySem
theorem uf(h:Pp)(a:Pn)(f:Obj->Obj):(h.update a f).objs.size=h.objs.size:=(OO h a f).1
theorem kY{M:Model}{Γ:Ctx}{p:Pos}{t:Sem Fin}{fs:List Frame}{s s':Pg}{e:End}(h:Runs M Γ p t fs s e s'):s.heap.objs.size<=s'.heap.objs.size:=by induction h<;>(try simp only [Shared.setGen,uf,Heap.size_push]at*)<;>lia
theorem rX{M:Model}{Γ:Ctx}{p:Pos}{s s':Pg}{r:Result}(h:Returns M Γ p s r s'):s.heap.objs.size<=s'.heap.objs.size:=kY h
theorem w6{M:Model}{Γ:Ctx}{p:Pos}{g:Nat}{r:Resume}{s s':Pg}{res:GenResult}(h:Wakes M Γ p g r s res s'):s.heap.objs.size<=s'.heap.objs.size:=by
 unfold Wakes at h;split at h
 ·exact h.elim
 ·split at h
  ·obtain⟨w9W,w99,hr,_,_,rfl⟩:=h;exact(kY hr:(s.setGen g .running).heap.objs.size<=w99.heap.objs.size)
  ·refine Eq.symm h.2▸?_;exact OP _
  ·refine Eq.symm h.2▸?_;exact OP _
 ·obtain⟨w9W,w99,hr,_,_,rfl⟩:=h;exact(kY hr:(s.setGen g .running).heap.objs.size<=w99.heap.objs.size)
 ·refine Eq.symm h.2▸?_;exact OP _
 ·refine Eq.symm h.2▸?_;exact OP _
open Sem in
theorem GS{α:Type}(M:Model)(Γ:Ctx)(n:Nat)(t:Sem α):∀(Q:α->Pos->Pg->Prop) (E:Ph->Pos->Pg->Prop) (p:Pos) (s:Pg),n<=s.heap.objs.size->wp M Γ t Q E p s->
  wp M Γ t (λa p' s'=>n<=s'.heap.objs.size/\Q a p' s') (λe p' s'=>n<=s'.heap.objs.size/\E e p' s') p s:=by
 induction t with
 |pure a=>intro Q E p s hn h;exact⟨hn,h⟩
 |raise e=>intro Q E p s hn h;exact⟨hn,h⟩
 |unsupported _=>intro Q E p s _ h;exact h
 |finish _=>intro Q E p s _ h;exact h
 |rule _ k ih=>intro Q E p s hn h;exact ih () Q E p s hn h
 |«at» p' k ih=>intro Q E p s hn h;exact ih () Q E p' s hn h
 |load a _ k ih=>intro Q E p s hn h;obtain⟨o,ho,h⟩:=h;exact⟨o,ho,ih o Q E p s hn h⟩
 |update a _ f k ih=>intro Q E p s hn h;exact⟨h.1,ih () Q E p _ (by show n<=(s.heap.update _ _).objs.size;rw[uf];exact hn) h.2⟩
 |loadIfAlive a k ih=>intro Q E p s hn h;exact ih _ Q E p s hn h
 |point _ k ih=>intro Q E p s hn h;exact ih () Q E p s hn h
 |register _ _=>intro Q E p s _ h;exact h
 |alloc o k ih=>intro Q E p s hn h;exact ih _ Q E p _ (by show n<=(s.heap.push _).objs.size;rw[Heap.size_push];lia) h
 |fresh k ih=>intro Q E p s hn h;exact ih _ Q E p _ hn h
 |ask k ih=>intro Q E p s hn h;exact ih _ Q E p s hn h
 |choose src m k ih=>intro Q E p s hn h;exact⟨h.1,ih _ Q E p _ hn h.2⟩
 |os q _ k ih=>intro Q E p s hn h;exact ih _ Q E p _ hn h
 |call c hd _ _ k ih=>intro Q E p s hn h;obtain⟨r,s',hr,h⟩:=h;exact⟨r,s',hr,ih r Q E p s' (OA hn (rX hr)) h⟩
 |handled own k ih=>intro Q E p s hn h;exact ih _ Q E p s hn h
 |genState g k ih=>intro Q E p s hn h;obtain⟨st,hs,h⟩:=h;exact⟨st,hs,ih _ Q E p s hn h⟩
 |newGen c k ih=>intro Q E p s hn h;exact ih _ Q E p _ hn h
 |resume g r _ k ih=>intro Q E p s hn h;obtain⟨res,s',hw,h⟩:=h;exact⟨res,s',hw,ih res Q E p s' (OA hn (w6 hw)) h⟩
 |yield _ _ _ _=>intro Q E p s _ h;exact h
 |stack k ih=>intro Q E p s hn h;exact ih _ Q E p s hn h
 |fork _ _=>intro Q E p s _ h;exact h
 |thread k ih=>intro Q E p s hn h;exact ih _ Q E p s hn h
 |await _ _ _ _ _=>intro Q E p s _ h;exact h
theorem l6{α:Type}{M:Model}{A:Po}{s:Pg}{t:Sem α}{Q:α->Pg->Prop}{E:Pr}
  (h:wpAny M A t (λa s'=>s.heap.objs.size<=s'.heap.objs.size->Q a s') (λe s'=>s.heap.objs.size<=s'.heap.objs.size->E e s') s):wpAny M A t Q E s:=
 λΓ p w9T=>Sem.wp_mono M Γ t (λ_ _ _ x=>x.2 x.1) (λ_ _ _ x=>x.2 x.1) p s (GS M Γ s.heap.objs.size t _ _ p s (OP _) (h Γ p w9T))
end
end Mine.Internal
section
namespace Mine.Internal
open PySem PySem.Calls PyProof.Rows PySem.W PySem.MeetsSeq PySem.SeqAt
structure KeepIt (h h':Pp):Prop where
 size:h.objs.size<=h'.objs.size
 keep:∀a o,h.get? a=some o->¬jo o->h'.get? a=some o
mutual
theorem gN:∀(x:MV),x.plain=true->noIt x=true
 | .none,_| .bool _,_| .int _,_| .str _,_| .rng _ _ _,_| .opq,_| .ex _,_| .kcls,_=>rfl
 | .grow _,h| .iter _,h| .adder _,h=>Bool.noConfusion h
 | .list l,h=>bM l h
 | .tup l,h=>bM l h
 | .kobj x,h=>gN x h
theorem bM:∀(l:List MV),aa l=true->cw l=true
 | [],_=>rfl
 |m::ms,h=>OR.mpr ⟨gN m (ba h).1,bM ms (ba h).2⟩
end
theorem w7(c:bt o):¬jo o:=by
 rintro ⟨_,q⟩
 obtain⟨_,_,e|e⟩:=c<;>rw[e]at q<;>rcases q with q|q<;>simp at q
theorem bu.it(x:bu W D h C)(k:KeepIt h h'):bu W D h' C:=by obtain⟨l,hs,hl⟩:=x;exact⟨l,hs,λp hp=>⟨(hl p hp).1,(hl p hp).2.1,k.keep _ _ (hl p hp).2.2 λq=>W.noIt C l hs p hp q⟩⟩
theorem KeepIt.move(k:KeepIt h h'):Move W θ θ D D h h' true false true:=⟨λa ob d _ e n=>⟨d,k.keep a ob e n⟩,λ_ a ob d _ e n=>⟨d,k.keep a ob e n⟩,λe=>Bool.noConfusion e,λ_=>rfl,λC x=>x.it k⟩
theorem Rp.it(k:KeepIt h h')(x:MV)(v:Ph)(p:noIt x=true)(r:Rp W θ D h x v):Rp W θ D h' x v:=Rp.move k.move x v p r
theorem RpL.it(k:KeepIt h h')(l:List MV)(vs:List Ph)(p:cw l=true)(r:RpL W θ D h l vs):RpL W θ D h' l vs:=RpL.move k.move l vs p r
theorem IsList.it{xs}(x:h.IsList a xs)(k:KeepIt h h'):h'.IsList a xs:=x.elim λo q=>q.2.2.elim λ_ e=>⟨o,k.keep a o q.1 (gn e),q.2⟩
structure Moved9 (it:Pn) (s s':Pg):Prop where
 size:s.heap.objs.size<=s'.heap.objs.size
 keep:∀a o,a≠it->s.heap.get? a=some o->s'.heap.get? a=some o
 was:∀o,s.heap.get? it=some o->jo o
 gens:s'.gens=s.gens
 os:s'.os=s.os
theorem Moved9.it{it:Pn}{s s':Pg}(m:Moved9 it s s'):KeepIt s.heap s'.heap:=⟨m.size,λa o e n=>m.keep a o (λq=>n (m.was o (q▸e))) e⟩
theorem Moved9.st{V:Vw}(O:V.Ok){it:Pn}{s s':Pg}(m:Moved9 it s s')(W:Wd V s)(h:175<=it):St V (λa=>a=it) s s' where
 keep:=⟨m.size,λa o d _ e=>m.keep a o d e,λa o _ c e=>m.keep a o (λq=>w7 c (m.was o (q▸e))) e⟩
 wd:={
  K:=λb o e=>m.keep b o (Nat.ne_of_lt (OD (O.far b o e).2 h)) (W.K b o e)
  b:=by obtain⟨mb,h1,h2⟩:=W.b;exact⟨mb,Ns.keepAt h1 λo e=>m.keep _ o (Nat.ne_of_lt (OD (show(Pc:Nat)<175 by left) h)) e,h2⟩
  size:=OA W.size m.size
  bare:=m.gens▸W.bare
  tabs:=O.tabKeep _ _ W.tabs λb o e c=>m.keep b o (λq=>c.elim (λc=>by have:=m.was o (q▸e);obtain⟨vs,_,hc⟩:=c;rcases this.2 with z|z<;>rcases hc with y|y<;>simp [z]at y) λc=>O8 (q▸c:it<175) (OU.mpr h)) e
  os:=m.os.trans W.os}
theorem ug(h:dg ρ=true)(e:ρ.lookup x=some mv):noIt mv=true:=by
 induction ρ with
 |nil=>cases e
 |cons p r ih=>
  obtain⟨y,v⟩:=p;have h':noIt v=true/\dg r=true:=OR.mp h;rw[List.lookup_cons]at e;split at e
  ·cases e;exact h'.1
  ·exact ih h'.2 e
theorem FrX.moved(F:FrX V θ D sc ρ env s)(m:Moved9 it s s')(hd:¬D it)(hn:∀x mv,ρ.lookup x=some mv->noIt mv=true):FrX V θ D sc ρ env s':={F with
 loc:=by
  obtain⟨f,h1,h2⟩:=F.loc;refine⟨f,Ns.keepAt h1 λo e=>m.keep _ o (λq=>hd (q▸F.dl)) e,?_⟩
  exact {
   val:=λy mv e l=>by obtain⟨v,h3,h4⟩:=h2.val y mv e l;exact⟨v,h3,h4.it m.it _ _ (hn _ _ e)⟩
   add:=λy z e l=>by obtain⟨b,a,h3,h4,h5,h6,h7⟩:=h2.add y z e l;exact⟨b,a,h3,h4,h5,h6,m.it.keep b _ h7 (kT (t:="builtin_function_or_method") rfl (by left) (by left))⟩
   aft:=h2.aft
   one:=h2.one}
 cv:=λx mv c e l hc=>by obtain⟨p,v,⟨o,ho,hv⟩,h2⟩:=F.cv x mv c e l hc;refine⟨p,v,⟨o,m.it.keep c o ho (λq=>?_),hv⟩,h2.it m.it _ _ (hn _ _ e)⟩;obtain⟨⟨vs,e⟩,_⟩:=q;rw[hv]at e;cases e
 dc:=λx c e hc=>by obtain⟨d,v,h1⟩:=F.dc x c e hc;exact⟨d,v,IsCell.keepAt h1 λo e=>m.keep _ o (λq=>hd (q▸d)) e⟩
 bnd:=λa d=>⟨(F.bnd a d).1,OD (F.bnd a d).2 m.size⟩}
inductive Itr (W:World9) (θ:Pn) (D:Pn->Prop) (h:Pp) (it:Pn):List MV->Prop
 |list {c:Pn} {vs:List Ph} {i:Nat} {l:List MV} (hi:h.IsListIter it c i) (hc:¬D c) (tc:¬aJ c) (hl:h.IsList c (List.toArray vs)) (r:RpL W θ D h l (vs.drop i)) (p:cw l=true) (p2:aa l=true):Itr W θ D h it l
 |rng {a c:Int} {k m:Nat} (hi:IsRangeIter h it (a+(k:Int)*c) ((m:Int)-k) c) (hk:k<=m):Itr W θ D h it (((List.range m).drop k).map λ(i:Nat)=>MV.int (a+(i:Int)*c))
theorem Itr.obj(I:Itr W θ D h it l):∃o,h.get? it=some o/\jo o:=by
 cases I with
 |list hi=>obtain⟨o,ho,hc,hd⟩:=hi;exact⟨o,ho,⟨_,hd⟩,.inl hc⟩
 |rng hi=>exact⟨_,hi,⟨_,rfl⟩,.inr rfl⟩
theorem Itr.plain(I:Itr W θ D h it l):aa l=true:=by
 cases I with
 |list _ _ _ _ _ _ p=>exact p
 |rng=>
  generalize (List.range _).drop _=q;induction q with
  |nil=>rfl
  |cons a r ih=>exact ih
theorem Itr.keep(I:Itr W θ D h it l)(k:Keep D' h h')(m:∀a,D' a->D a)(hd:¬D' it)(ht:¬aJ it):Itr W θ D h' it l:=by
 cases I with
 |list hi hc tc hl r p p2=>exact .list (hi.at λo ho=>k.keep it o hd ht ho) hc tc (IsList.keepAt hl λo ho=>k.keep _ o (λq=>hc (m _ q)) tc ho) (RpL.keep k m _ _ p2 r) p p2
 |rng hi hk=>exact .rng (k.keep it _ hd ht hi) hk
section
variable {V:Vw}{A:Po}{θ:Pn}{D:Pn->Prop}{s:Pg}{E:Pr}
set_option tactic.hygienic true in
theorem j5(hh:A.handled=none)(I:Itr V.W9 θ D s.heap it l)(tk:1<=s.toks)
  (h0:l=[]->∀s',Moved9 it s s'->1<=s'.toks->Q none s')
  (h1:∀x r,l=x::r->∀v s',Moved9 it s s'->1<=s'.toks->Itr V.W9 θ D s'.heap it r->Rp V.W9 θ D s'.heap x v->Q (some v) s'):
  wpAny (model V.prog V.w) A (pyNext (.ref it)) Q E s:=by
 have was:=I.obj;obtain⟨ob,hob,hio⟩:=was;have wasf:∀o,s.heap.get? it=some o->jo o:=λo e=>by replace e:=hob▸e;cases e;exact hio
 cases I with
 |list hi hc tc hl r p p2=>
  rename_i c vs i
  have hne:c≠it:=by
   rintro rfl
   obtain⟨o,ho,_,n,hd⟩:=hl;replace ho:=hob▸ho;cases ho;exact gn hd hio
  cases l with
  |nil=>have hv:vs.drop i=[]:=r;refine l6 (wpAny_pyNext_list_end hh hi hl (by simpa using List.drop_eq_nil_iff.mp hv) λh' he hsz=>?_);exact h0 rfl _ ⟨hsz,λa o ha e=>he a o ha e,wasf,rfl,rfl⟩ tk
  |cons x xs=>
   obtain⟨v,q,e,r1,r2⟩:=r;have hx:vs[i]?=some v:=by rw[<-List.head?_drop,e];rfl
   refine wpAny_pyNext_list_item hi hl (x:=v) (by simpa using hx) λh' hit' hs'=>?_;have M:Moved9 it s {s with heap:=h'}:=⟨Nat.le_of_eq hs'.1.symm,λa o ha e=>(hs'.2 a ha).trans e,wasf,rfl,rfl⟩;have pp:noIt x=true/\cw xs=true:=ba p;have pp2:x.plain=true/\aa xs=true:=ba p2;refine h1 x xs rfl v _ M tk (.list hit' hc tc (IsList.it hl M.it) ?_ pp.2 pp2.2) (r1.it M.it _ _ pp.1);have:vs.drop (i+1)=q:=by rw[<-List.drop_drop,e];rfl
   refine Eq.symm this▸?_;exact r2.it M.it _ _ pp.2
 |rng hi hk=>
  rename_i a c k m
  by_cases hlt:k<m
  ·have e:(List.range m).drop k=k::(List.range m).drop (k+1):=by
    rw[List.drop_eq_getElem_cons (by simpa using hlt)];simp
   refine wpAny_pyNext_range_item hi (by lia) λh' hit' hs'=>?_;have M:Moved9 it s {s with heap:=h',toks:=s.toks+1}:=⟨Nat.le_of_eq hs'.1.symm,λa o ha e=>(hs'.2 a ha).trans e,wasf,rfl,rfl⟩;refine h1 (.int (a+(k:Int)*c)) (((List.range m).drop (k+1)).map λ(i:Nat)=>MV.int (a+(i:Int)*c)) (by rw[e];rfl) _ _ M (OK tk) (.rng (k:=k+1) ?_ hlt) ⟨_,rfl⟩;have e1:a+((k+1:Nat):Int)*c=a+(k:Int)*c+c:=by push_cast;rw[Int.add_mul,Int.one_mul,Int.add_assoc]
   have e2:(m:Int)-((k+1:Nat):Int)=(m:Int)-(k:Int)-1:=by push_cast;lia
   refine Eq.symm e1▸Eq.symm e2▸?_;exact hit'
  ·have hkm:k=m:=by lia
   subst hkm;refine l6 (wpAny_pyNext_range_end hh hi (by lia) λh' he hsz=>?_);exact h0 (by simp) _ ⟨hsz,λa o ha e=>he a o ha e,wasf,rfl,rfl⟩ tk
end
end Mine.Internal
end
namespace Mine.Internal
section
open PySem PySem.Calls PyProof.Rows PySem.W
section
open PySem.MeetsSeq PySem.SeqAt
theorem bS{α:Type}(f:Str->Bool):∀(ρ:List (Str×α)) (y:Str),(ρ.filter λp=>f p.1).lookup y=if f y then ρ.lookup y else none
 | [],y=>by simp
 |(x,v)::r,y=>by
  have ih:=bS f r y;rw[List.filter_cons]
  by_cases hxy:y=x
  ·subst hxy
   by_cases hf:f y
   ·simp [hf]
   ·simp only [hf,Bool.false_eq_true,if_false];rw[ih];simp [hf]
  ·have hb:(y==x)=false:=by simpa using hxy
   split
   ·rw[List.lookup_cons,hb,List.lookup_cons,hb];exact ih
   ·rw[List.lookup_cons,hb];exact ih
theorem az(h:(ae ρ x v).lookup y=some u):(y=x/\u=v)\/(y≠x/\ρ.lookup y=some u/\eT x u=false):=by
 unfold ae at h;rw[List.lookup_cons]at h
 by_cases hxy:y=x
 ·subst hxy;simp at h;exact .inl ⟨rfl,h.symm⟩
 ·have hb:(y==x)=false:=by simpa using hxy
  rw[hb]at h;dsimp only at h;rw[bS (λz=>z != x&& !eT x ((ρ.lookup z).getD .none))]at h
  by_cases hc:(y != x&& !eT x ((ρ.lookup y).getD .none))=true
  ·rw[if_pos hc]at h;rw[h]at hc;refine .inr ⟨hxy,h,?_⟩;simp at hc;exact hc.2
  ·rw[if_neg hc]at h;cases h
def d7(ρ:Rho):Prop:=∀x mv,ρ.lookup x=some mv->mv.plain=true
theorem kZ(h:d7 ρ)(e:ρ.lookup x=some mv):mv.plain=true:=h x mv e
theorem dz(h:d7 ρ)(p:mv.plain=true):d7 (ae ρ x mv):=λy u e=>by
 rcases az e with⟨_,rfl⟩|⟨_,e',_⟩
 ·exact p
 ·exact h y u e'
theorem l7(h:d7 ρ):∀x mv,ρ.lookup x=some mv->noIt mv=true:=λx mv e=>gN _ (h x mv e)
section
variable {V:Vw}{θ:Pn}{D:Pn->Prop}{sc:Sc}{ρ:Rho}{env:Env}{s s':Pg}
theorem FrX.change{X:Pn->Prop}(F:FrX V θ D sc ρ env s)(k:Keep X s.heap s'.heap)(m:∀a,X a->D a)(hl:¬X env.locals)(hc:∀c,X c->∀o,s.heap.get? c=some o->∀v,o.data≠ .cell v)(hp:d7 ρ):
  FrX V θ D sc ρ env s':={F with
 loc:=by
  obtain⟨f,h1,h2⟩:=F.loc;refine⟨f,Ns.keepAt h1 λo e=>k.keep _ o hl (aY (F.bnd _ F.dl).1) e,?_⟩
  exact {
   val:=λy mv e l=>by obtain⟨v,h3,h4⟩:=h2.val y mv e l;exact⟨v,h3,h4.keep k m _ _ (kZ hp e)⟩
   add:=λy z e l=>by have:=kZ hp e;cases this
   aft:=h2.aft
   one:=h2.one}
 cv:=λx mv c e l hcl=>by obtain⟨p,v,⟨o,ho,hv⟩,h2⟩:=F.cv x mv c e l hcl;exact⟨p,v,⟨o,k.keep c o (λq=>hc c q o ho _ hv) (aY (F.ct x c l hcl)) ho,hv⟩,h2.keep k m _ _ p⟩
 dc:=λx c e hcl=>by obtain⟨d,v,⟨o,ho,hv⟩⟩:=F.dc x c e hcl;exact⟨d,v,⟨o,k.keep c o (λq=>hc c q o ho _ hv) (aY (F.bnd _ d).1) ho,hv⟩⟩
 bnd:=λa d=>⟨(F.bnd a d).1,OD (F.bnd a d).2 k.size⟩}
theorem jE{h:Pp}{a:Pn}(x:∀o,h.get? a=some o->(∃es ep,o.data= .dict es ep)\/(∃v,o.data= .cell v)):∀o,h.get? a=some o->¬bt o:=by
 rintro o e ⟨vs,q,_⟩
 rcases x o e with⟨_,_,z⟩|⟨_,z⟩<;>(rw[q]at z;cases z)
theorem Rp.own{W:World9}{h h':Pp}{a:Pn}(hs:Heap.SameBut a h h')(d:D a)(hL:∀o,h.get? a=some o->(∃es ep,o.data= .dict es ep)\/(∃v,o.data= .cell v)){mv:MV}{v:Ph}(ok:okv mv=true)(r:Rp W θ D h mv v):Rp W θ D h' mv v:=by
 have k:Keep (λb=>b=a) h h':= .same hs rfl (jE hL);have m:∀b,b=a->D b:=λb e=>e▸d;have go:∀mv,mv.plain=true->Rp W θ D h mv v->Rp W θ D h' mv v:=λmv p r=>r.keep k m _ _ p
 have seq:∀b xs n o,h.get? b=some o->o.data= .seq xs n->b≠a:=λb xs n o ho hd e=>by subst e;rcases hL o ho with⟨_,_,z⟩|⟨_,z⟩<;>(rw[hd]at z;cases z)
 have fld:∀b xs o,h.get? b=some o->o.data= .fields xs->b≠a:=λb xs o ho hd e=>by subst e;rcases hL o ho with⟨_,_,z⟩|⟨_,z⟩<;>(rw[hd]at z;cases z)
 cases mv with
 |grow l=>obtain⟨b,vs,e,d1,t,hl,r'⟩:=r;exact⟨b,vs,e,d1,t,GL.keepAt hl λo ho=>(by obtain⟨o',ho',_,_,n,hd⟩:=hl;exact(hs.2 b (seq b _ _ o' ho' hd)).trans ho),RpL.keep k m _ _ ok r'⟩
 |iter l=>obtain⟨b,c,vs,i,e,d1,t,hi,nc,tc,hl,r'⟩:=r;refine⟨b,c,vs,i,e,d1,t,hi.at λo ho=>(by obtain⟨o',ho',_,hd⟩:=hi;exact(hs.2 b (fld b _ o' ho' hd)).trans ho),nc,tc,IsList.keepAt hl λo ho=>k.keep c o (λq=>nc (m _ q)) tc ho,RpL.keep k m _ _ ok r'⟩
 |adder _=>trivial
 |none=>exact r
 |bool _=>exact r
 |int _=>exact r
 |str _=>exact r
 |opq=>exact r
 |ex _=>exact r
 |list l=>exact go _ ok r
 |tup l=>exact go _ ok r
 |rng a b c=>exact go (.rng a b c) rfl r
 |kcls=>exact go .kcls rfl r
 |kobj x=>exact go _ ok r
theorem bH(h:mv.plain=true):okv mv=true:=by cases mv<;>first|exact h|exact Bool.noConfusion h
theorem FrX.store(F:FrX V θ D sc ρ env s)(hn0:s.heap.Ns env.locals m)(L:LocOk V.W9 θ D s.heap sc ρ m env.locals)
  (hn:h'.Ns env.locals λy=>if y=x then some v else m y) (hs:Heap.SameBut env.locals s.heap h') (hx:sc.lookup x=some .local) (r:Rp V.W9 θ D s.heap mv v) (ok:okv mv=true)
  (hg:dy mv=true->∀a,v= .ref a->∀y u,y≠x->ρ.lookup y=some u->dy u=true->sc.lookup y=some .local->m y≠some (.ref a))
  (hl:dy mv=true->∀a,v= .ref a->env.locals<a)
  (ha:∀y,mv= .adder y->y≠x/\∃b a,v= .ref b/\m y=some (.ref a)/\¬D b/\¬aJ b/\s.heap.get? b=some (w0 a)):
  FrX V θ D sc (ae ρ x mv) env {s with heap:=h',toks:=tk}:=by
 revert F hn0 L hn hs hx r ok hg hl ha;exists V,θ,D,sc,ρ,env,s,m,h',x,mv,v,tk;have k:Keep (λb=>b=env.locals) s.heap h':= .same hs rfl (by obtain⟨_,h1,_⟩:=F.loc;exact cy h1);have mD:∀b,b=env.locals->D b:=λb e=>e▸F.dl
 have hL:∀o,s.heap.get? env.locals=some o->(∃es ep,o.data= .dict es ep)\/(∃v,o.data= .cell v):=λo e=>by obtain⟨o',es,ep,ho,hd,_⟩:=hn0;rw[ho]at e;cases e;exact .inl ⟨_,_,hd⟩
 have cellNe:∀c v,s.heap.IsCell c v->c≠env.locals:=λc v ⟨o,ho,hd⟩ e=>by obtain⟨o',es,ep,ho',hd',_⟩:=hn0;rw[e]at ho;rw[ho]at ho';cases ho';rw[hd]at hd';cases hd'
 exact {F with
  loc:=⟨_,hn,{
   val:=λy u e l=>by
    rcases az e with⟨rfl,rfl⟩|⟨hne,e',_⟩
    ·exact⟨v,by simp,r.own hs F.dl hL ok⟩
    ·obtain⟨w,h1,h2⟩:=L.val y u e' l;exact⟨w,by simp [hne,h1],h2.own hs F.dl hL (F.ok y u e')⟩
   add:=λy z e l=>by
    rcases az e with⟨rfl,e2⟩|⟨hne,e',hz⟩
    ·obtain⟨hzx,b,a,e3,e4,nd,nt,hb⟩:=ha z e2.symm;exact⟨b,a,by simp [e3],by simp [hzx,e4],nd,nt,k.keep b _ (λq=>nd (mD _ q)) nt hb⟩
    ·obtain⟨b,a,h1,h2,nd,nt,hb⟩:=L.add y z e' l
     have hzx:z≠x:=by intro q;subst q;simp [eT]at hz
     exact⟨b,a,by simp [hne,h1],by simp [hzx,h2],nd,nt,k.keep b _ (λq=>nd (mD _ q)) nt hb⟩
   aft:=λy u a e g l h1=>by
    rcases az e with⟨rfl,rfl⟩|⟨hne,e',_⟩
    ·simp at h1;exact hl g a h1
    ·simp [hne]at h1;exact L.aft y u a e' g l h1
   one:=λy z u w a e1 e2 g1 g2 l1 l2 h1 h2=>by
    rcases az e1 with⟨rfl,rfl⟩|⟨hne1,e1',_⟩<;>rcases az e2 with⟨rfl,rfl⟩|⟨hne2,e2',_⟩
    ·rfl
    ·simp at h1;simp [hne2]at h2;exact O8 h2 (hg g1 a h1 z w hne2 e2' g2 l2)
    ·simp at h2;simp [hne1]at h1;exact O8 h1 (hg g2 a h2 y u hne1 e1' g1 l1)
    ·simp [hne1]at h1;simp [hne2]at h2;exact L.one y z u w a e1' e2' g1 g2 l1 l2 h1 h2}⟩
  cv:=λy u c e l hcl=>by
   rcases az e with⟨rfl,rfl⟩|⟨hne,e',_⟩
   ·rw[hx]at l;rcases l with l|l<;>cases l
   ·obtain⟨p,w,h1,h2⟩:=F.cv y u c e' l hcl;exact⟨p,w,IsCell.keepAt h1 λo ho=>(hs.2 c (cellNe c _ h1)).trans ho,h2.own hs F.dl hL (bH p)⟩
  dc:=λy c e hcl=>by obtain⟨d,w,h1⟩:=F.dc y c e hcl;exact⟨d,w,IsCell.keepAt h1 λo ho=>(hs.2 c (cellNe c _ h1)).trans ho⟩
  bnd:=λa d=>⟨(F.bnd a d).1,by show a<h'.objs.size;rw[hs.1];exact(F.bnd a d).2⟩
  ok:=λy u e=>by
   rcases az e with⟨rfl,rfl⟩|⟨_,e',_⟩
   ·exact ok
   ·exact F.ok y u e'}
end
noncomputable def w8(elt:Pm)(acc:Ph)(env:Env)(k:Sem Fin):Sem Fin:=(do let _ <-call (.builtin "list.append") [acc,<-eval elt env]:Sem Unit)>>=λ_=>k
noncomputable def y0(elt iter':Pm)(gens:List Comprehension)(scope:Scope)(pos:Pos)(depth:Nat)(acc:Ph)(env:Env)(k:Sem Fin):Sem Fin:=do
 let x <-eval iter' env
 standAt iter'.pos
 let x <-foldedSetIterable iter' env x
 let i <-holding [x] (pyIter x)
 let _ <-runOwn (.compStart (.ListComp elt gens scope pos) (depth+1) i acc env) env
 k
noncomputable def gx(bw:Sem Fin->Sem Fin)(e:Pm)(depth:Nat)(target iter:Pm)(ifs:List Pm)(it acc:Ph)(env:Env):Sem Fin:=do
 standAt iter.pos
 match <-pyNext it with
 |none=>pure (.done .next)
 |some v=>
  letOwnedTupleGo target it v
  assign target env v
  let ok <-forIn ifs true λc r=>if r=true then do let ok <-PySem.isTrue c env (eval c env);pure (ForInStep.yield ok) else pure (ForInStep.yield r)
  if ok=true then bw (again (.compLoop e depth it acc env)) else again (.compLoop e depth it acc env)
theorem pP(hg:gens[depth]?=some ⟨target,iter,ifs,0⟩)(hl:gens[depth+1]?=none):
  compTurn (.ListComp elt gens scope pos) depth it acc env=gx (w8 elt acc env) (.ListComp elt gens scope pos) depth target iter ifs it acc env:=by
 unfold compTurn;simp only [hg,hl]
 rfl
theorem nO(hg:gens[depth]?=some ⟨target,iter,ifs,0⟩)(hl:gens[depth+1]?=some ⟨target',iter',ifs',0⟩):
  compTurn (.ListComp elt gens scope pos) depth it acc env=gx (y0 elt iter' gens scope pos depth acc env) (.ListComp elt gens scope pos) depth target iter ifs it acc env:=by
 revert hg hl;exists elt,gens,scope,pos,depth,target,iter,target',iter',ifs,ifs',it,acc,env;unfold compTurn;simp only [hg,hl]
 rfl
section
variable {V:Vw}{n:Nat}{sc:Sc}{ρ:Rho}{p:P}(I:SndP V n p)
theorem qy:∀(ifs:List Pm) (s:Pg),Q false s->
  wpAny M A (forIn ifs false λc r=>if r=true then do let ok <-isTrue c env (eval c env);pure (ForInStep.yield ok) else pure (ForInStep.yield r)) Q E s
 | [],s,h=>Oz h
 |c::r,s,h=>by simp only [List.forIn_cons,Bool.false_eq_true,if_false];exact wpB (Oz (qy r s h))
include I
theorem qz:∀{b:Bool},f9 p sc ρ ifs=some b->∀(A:Po) (θ:Pn) (D:Pn->Prop) (env:Env) (s:Pg) (Q:Bool->Pg->Prop) (E:Ph->Pg->Prop),Room A n->Wd V s->1<=s.toks->FrX V θ D sc ρ env s->
  (∀s',St V none9 s s'->1<=s'.toks->Q b s')->wpAny (model V.prog V.w) A (forIn ifs true λc r=>if r=true then do let ok <-isTrue c env (eval c env);pure (ForInStep.yield ok) else pure (ForInStep.yield r)) Q E s:=by
 induction ifs with
 |nil=>intro b h A θ D env s Q E R W tk F hQ;cases h;exact Oz (hQ _ (.refl W _) tk)
 |cons c r ih=>
  intro b h A θ D env s Q E R W tk F hQ;rw[List.forIn_cons];rcases ew h with⟨h1,h⟩|⟨h1,h⟩
  ·exact wpB (wpB (I.tst _ _ _ _ h1 A θ D env s _ E R W tk F λw99 st1 t1=>Oz (ih h A θ D env w99 Q E R st1.wd t1 (F.st st1) λw98 st2 t2=>hQ _ (st1.trans st2) t2)))
  ·cases h;exact wpB (wpB (I.tst _ _ _ _ h1 A θ D env s _ E R W tk F λw99 st1 t1=>Oz (qy r w99 (hQ _ st1 t1))))
end
structure CompSt (V:Vw) (θ:Pn) (D:Pn->Prop) (sc:Sc) (ρ:Rho) (env:Env) (acc:Pn) (l0:List MV) (s:Pg):Prop where
 W:Wd V s
 tk:1<=s.toks
 F:FrX V θ D sc ρ env s
 A:∃vs,s.heap.IsList acc (List.toArray vs)/\RpL V.W9 θ D s.heap l0 vs
 p:aa l0=true
 pr:d7 ρ
 d:D acc
 ne:acc≠env.locals
noncomputable def CA(env:Env)(acc:Pn):Pn->Prop:=λa=>a=env.locals\/a=acc
noncomputable def CAI(env:Env)(acc it:Pn):Pn->Prop:=λa=>a=env.locals\/a=acc\/a=it
theorem Room.mark(r:Room A n):Room (A.mark none) n:=⟨r.hd,r.depth,r.units⟩
section
variable {V:Vw}{n:Nat}{sc:Sc}{ρ:Rho}{p:P}{θ:Pn}{D:Pn->Prop}{env:Env}{acc:Pn}
theorem CompSt.st(c:CompSt V θ D sc ρ env acc l0 s)(st:St V none9 s s')(t:1<=s'.toks):CompSt V θ D sc ρ env acc l0 s':={c with
 W:=st.wd,tk:=t,F:=c.F.st st
 A:=by obtain⟨vs,h1,h2⟩:=c.A;exact⟨vs,IsList.keepAt h1 λo e=>st.keep.keep acc o (λq=>q) (aY (c.F.bnd _ c.d).1) e,h2.keep0 st.keep⟩}
theorem cI(h1:aa l=true)(h2:aa r=true):aa (l++r)=true:=by
 induction l with
 |nil=>exact h2
 |cons a q ih=>have p':a.plain=true/\aa q=true:=ba h1;exact OR.mpr ⟨p'.1,ih p'.2⟩
def xa(V:Vw)(n:Nat)(θ:Pn)(D:Pn->Prop)(sc:Sc)(env:Env)(acc:Pn)(bw:Sem Fin->Sem Fin)(ρ:Rho)(l:List MV):Prop:=
 ∀(A:Po) (s:Pg) (l0:List MV) (k:Sem Fin) (Q:Fin->Pg->Prop) (E:Ph->Pg->Prop),Room A n->CompSt V θ D sc ρ env acc l0 s->l0.length+l.length<=1000->
  (∀s',Keep (CA env acc) s.heap s'.heap->CompSt V θ D sc ρ env acc (l0++l) s'->wpAny (model V.prog V.w) A k Q E s')->wpAny (model V.prog V.w) A (bw k) Q E s
theorem GU(I:SndP V n p)(O:V.Ok)(h:p.ev sc ρ elt=some v)(hv:v.plain=true):
  xa V n θ D sc env acc (w8 elt (.ref acc) env) ρ [v]:=by
 intro A s l0 k Q E R c hz hQ;refine wpB (wpB (I.ev _ _ _ _ h A θ D env s _ E R c.W c.tk c.F λu w99 st1 t1 r1=>?_));have c1:=c.st st1 t1;obtain⟨vs,hl,r⟩:=c1.A;have hlen:vs.length=l0.length:=r.length;refine wpB (wpAny_list_append hl (λh' hl' hs'=>Oz ?_) (by rw[List.size_toArray,hlen,sizeLine_eq];have:l0.length+1<=1000:=hz;lia));have hge:175<=acc:=(c1.F.bnd _ c1.d).1;have st2:St V (λa=>a=acc) w99 {w99 with heap:=h'}:=St.same O (D:=λa=>a=acc) st1.wd hs' rfl hge w99.toks (eU hl);have k2:∀a,a=acc->D a:=λa e=>e▸c1.d
 refine hQ _ ((st1.keep.any).trans (st2.keep.mono λa e=> .inr e)) {
  W:=st2.wd,tk:=t1
  F:=c1.F.change st2.keep k2 (λe=>c.ne e.symm) (λc' e o ho v hd=>by subst e;obtain⟨o',ho',_,m',hd'⟩:=hl;rw[ho]at ho';cases ho';rw[hd]at hd';cases hd') c.pr
  A:=⟨vs++[u],by simpa using hl',(RpL.keep st2.keep k2 _ _ c.p r).append ⟨u,[],rfl,Rp.keep st2.keep k2 _ _ hv r1,rfl⟩⟩
  p:=cI c.p (OR.mpr ⟨hv,rfl⟩),pr:=c.pr,d:=c.d,ne:=c.ne}
theorem forget(F:FrX V θ D sc (ae ρ x v) env s)(hx:ρ.lookup x=none)(hp:d7 ρ):FrX V θ D sc ρ env s:=by
 have up:∀y u,ρ.lookup y=some u->(ae ρ x v).lookup y=some u:=λy u e=>by
  have hne:y≠x:=λq=>by rw[q,hx]at e;cases e
  have hb:(y==x)=false:=by simpa using hne
  unfold ae;rw[List.lookup_cons,hb];dsimp only;rw[bS (λz=>z != x&& !eT x ((ρ.lookup z).getD .none))];have hu:=kZ hp e;have:eT x u=false:=by cases u<;>first|rfl|exact Bool.noConfusion hu
  simp [hne,e,this]
 exact {F with
  loc:=by obtain⟨m,h1,L⟩:=F.loc;exact⟨m,h1,{
   val:=λy u e l=>L.val y u (up y u e) l
   add:=λy z e l=>L.add y z (up _ _ e) l
   aft:=λy u a e=>L.aft y u a (up _ _ e)
   one:=λy z u w a e1 e2=>L.one y z u w a (up _ _ e1) (up _ _ e2)}⟩
  cv:=λy u c e=>F.cv y u c (up _ _ e)
  ok:=λy u e=>F.ok y u (up _ _ e)}
theorem uh(I:SndP V n p)(O:V.Ok){elt:Pm}{gens:List Comprehension}{scope:Scope}{pos:Pos}{depth:Nat}{iter:Pm}{x:Str}{px:Pos}{ifs:List Pm}{it:Pn}{bw:Sem Fin->Sem Fin}{step:Rho->Pj (List MV)}
  (hturn:∀it,compTurn (.ListComp elt gens scope pos) depth it (.ref acc) env=gx bw (.ListComp elt gens scope pos) depth (.Name x px) iter ifs it (.ref acc) env)
  (hstep:∀ρ' l,step ρ'=some l->xa V n θ D sc env acc bw ρ' l) (hx:sc.lookup x=some .local) (hx0:ρ.lookup x=none) (hd:¬D it) (hge:175<=it):
  ∀(items:List MV) (l l0:List MV) (A:Po) (s:Pg) (Rz:Result->Pg->Prop),jr p sc step x ifs ρ items=some l->Room A n->CompSt V θ D sc ρ env acc l0 s->l0.length+l.length<=1000->Itr V.W9 θ D s.heap it items->
  (∀s',Keep (CAI env acc it) s.heap s'.heap->CompSt V θ D sc ρ env acc (l0++l) s'->Rz (.ok .next) s')->
  codeAny (model V.prog V.w) A (.compLoop (.ListComp elt gens scope pos) depth (.ref it) (.ref acc) env) Rz s:=by
 intro items;induction items with
 |nil=>intro l l0 A s Rz h R c hz J hQ;refine codeAny_of_tree ?_;show wpAny _ A ((compTurn (.ListComp elt gens scope pos) depth (.ref it) (.ref acc) env).onRaise (λx=>do noteFrame x env;theTreesLotGoes x)) _ _ s;refine wpAny_noted ?_;rw[hturn];unfold gx;refine wpB (OZ (wpB ?_));refine j5 R.hd J c.tk (λ_ s' m t=>Oz ?_) (λa r e=>by cases e);cases h;have st:=m.st O c.W hge;refine hQ _ (st.keep.mono λa e=> .inr (.inr e)) ?_;rw[List.append_nil];exact {c with W:=st.wd,tk:=t,F:=c.F.moved m hd (l7 c.pr),A:=by obtain⟨vs,h1,h2⟩:=c.A;exact⟨vs,IsList.it h1 m.it,h2.it m.it _ _ (bM _ c.p)⟩}
 |cons v vs ih=>
  intro l l0 A s Rz h R c hz J hQ;refine codeAny_of_tree ?_;show wpAny _ A ((compTurn (.ListComp elt gens scope pos) depth (.ref it) (.ref acc) env).onRaise (λx=>do noteFrame x env;theTreesLotGoes x)) _ _ s;refine wpAny_noted ?_;rw[hturn];unfold gx;refine wpB (OZ (wpB ?_));have hpv:aa (v::vs)=true:=J.plain;have hpv':v.plain=true/\aa vs=true:=ba hpv;refine j5 R.hd J c.tk (λe=>by cases e) λa r e u w99 m t1 J1 r1=>?_;cases e;have st:=m.st O c.W hge;have F1:=c.F.moved m hd (l7 c.pr);obtain⟨f,hn,L⟩:=F1.loc;refine wpB (Oz (wpB ?_));refine wpAny_assign_Name (wpAny_storeName_local (F1.scl x hx) hn (λw93 w9Q w91=>?_) (by rw[F1.kind];rfl));have F2:=F1.store (tk:=w99.toks+1) hn L w9Q w91 hx r1 (bH hpv'.1) (λg=>by cases v<;>first|exact Bool.noConfusion g|exact Bool.noConfusion hpv'.1) (λg=>by cases v<;>first|exact Bool.noConfusion g|exact Bool.noConfusion hpv'.1) (λy e=>by subst e;exact Bool.noConfusion hpv'.1);have st2:St V (λa=>a=env.locals) w99 {w99 with heap:=w93,toks:=w99.toks+1}:=St.same O (D:=λa=>a=env.locals) st.wd w91 rfl (F1.bnd _ F1.dl).1 _ (cy hn);have k12:Keep (CAI env acc it) s.heap w93:=(st.keep.mono λa e=> .inr (.inr e)).trans (st2.keep.mono λa e=> .inl e);have mL:∀a,a=env.locals->D a:=λa e=>e▸F1.dl
  have c2:CompSt V θ D sc (ae ρ x v) env acc l0 {w99 with heap:=w93,toks:=w99.toks+1}:={
   W:=st2.wd,tk:=OK t1,F:=F2
   A:=by obtain⟨vs,h1,h2⟩:=c.A;refine⟨vs,IsList.keepAt (IsList.it h1 m.it) λo e=>st2.keep.keep acc o c.ne (aY (c.F.bnd _ c.d).1) e,RpL.keep st2.keep mL _ _ c.p (h2.it m.it _ _ (bM _ c.p))⟩
   p:=c.p,pr:=dz c.pr hpv'.1,d:=c.d,ne:=c.ne}
  have itNe:it≠env.locals:=λe=>hd (e▸F1.dl);have itNe2:it≠acc:=λe=>hd (e▸c.d);have J2:Itr V.W9 θ D w93 it vs:=J1.keep (D':=λa=>a=env.locals) st2.keep mL itNe (aY hge);have next:∀(l1 l2:List MV) (w96:Pg),jr p sc step x ifs ρ vs=some l2->l=l1++l2->Keep (CA env acc) w93 w96.heap->CompSt V θ D sc (ae ρ x v) env acc (l0++l1) w96->
    codeAny (model V.prog V.w) A (.compLoop (.ListComp elt gens scope pos) depth (.ref it) (.ref acc) env) Rz w96:=λl1 l2 w96 hl e k3 c3=>by
   have mCA:∀a,CA env acc a->D a:=λa e=>e.elim (λe=>e▸F1.dl) λe=>e▸c.d;refine ih l2 (l0++l1) A w96 Rz hl R {c3 with F:=forget c3.F hx0 c.pr,pr:=c.pr} (by rw[e,List.length_append]at hz;rw[List.length_append];lia) (J2.keep (D':=CA env acc) k3 mCA (λq=>q.elim itNe itNe2) (aY hge)) λs' k4 c4=>?_;refine hQ s' ((k12.trans (k3.mono λa e=>e.elim .inl λe=> .inr (.inl e))).trans k4) ?_;rw[e,<-List.append_assoc];exact c4
  rcases ew h with⟨ht,h⟩|⟨ht,h⟩
  ·ext l1 hl1 h;revert h;refine mpE λl2 hl2 e2z=>?_;subst e2z;rw[List.length_append]at hz;refine wpB (qz I ht A θ D env _ _ _ R c2.W c2.tk c2.F λw96 st3 t3=>?_);refine hstep _ _ hl1 A w96 l0 _ _ _ R (c2.st st3 t3) (OA (Nat.add_le_add_left (OI ..) _) hz) λw9Z k4 c4=>Oz ⟨rfl,?_⟩;exact next l1 l2 w9Z hl2 rfl (st3.keep.any.trans k4) c4
  ·refine wpB (qz I ht A θ D env _ _ _ R c2.W c2.tk c2.F λw96 st3 t3=>Oz ⟨rfl,?_⟩);refine next [] l w96 h rfl st3.keep.any ?_;rw[List.append_nil];exact c2.st st3 t3
end
section
variable {V:Vw}{n:Nat}{sc:Sc}{ρ:Rho}{p:P}{θ:Pn}{D:Pn->Prop}{env:Env}{acc:Pn}
theorem la(a b c:Int):0<=Builtin.Range.rangeSize a b c:=by unfold Builtin.Range.rangeSize;split<;>split<;>first|lia|(have:=Int.ediv_nonneg (a:=b-a-1) (b:=c) (by lia) (by lia);lia)|(have:=Int.ediv_nonneg (a:=a-b-1) (b:= -c) (by lia) (by lia);lia)
set_option tactic.hygienic true in
theorem jF(O:V.Ok)(h:aM mv=some items)(W:Wd V s)(B:Bnd D s)(tk:1<=s.toks)(r:Rp V.W9 θ D s.heap mv v)
  (hQ:∀s',St V none9 s s'->1<=s'.toks->s.heap.objs.size<s'.heap.objs.size->Itr V.W9 θ D s'.heap s.heap.objs.size items->Q (.ref s.heap.objs.size) s'):wpAny (model V.prog V.w) A (pyIter v) Q E s:=by
 have lt:∀o:Obj,s.heap.objs.size<(s.heap.push o).objs.size:=λo=>by rw[Heap.size_push];exact O6 _
 cases mv<;>first|exact af h|skip
 ·injections hp h;cases h;obtain⟨a,vs,rfl,d,t,hl,r'⟩:=r;refine wpAny_pyIter_list hl (hQ _ (St.push O W none9 _) tk (lt _) ?_);exact .list (c:=a) (vs:=vs) (i:=0) ⟨_,OE _ rfl,rfl,rfl⟩ d t (hl.push _) (r'.keep0 (.push none9 _ _)) (bM _ hp) hp
 ·rename_i a b c;injections hk h;cases h;obtain⟨x,t,u,z,rfl,d,q,hr⟩:=r;refine wpAny_pyIter_range hr hk.2.2.2.2.2.2.2.1 (hQ _ (St.push O W none9 _) tk (lt _) ?_);refine Itr.rng (a:=a) (c:=c) (k:=0) (m:=(Builtin.Range.rangeSize a b c).toNat) ?_ (Nat.zero_le _);rw[show a+((0:Nat):Int)*c=a by rw[Int.natCast_zero,Int.zero_mul,Int.add_zero],show(((Builtin.Range.rangeSize a b c).toNat:Int)-(0:Nat))=Builtin.Range.rangeSize a b c by rw[Int.toNat_of_nonneg (la a b c),Int.natCast_zero,Int.sub_zero]];exact OE _ rfl
theorem ju
  (hg:gens[depth]?=some ⟨target,iter,ifs,0⟩) (J:Itr V.W9 θ D s.heap it items) (h:codeAny (model V.prog V.w) A (.compLoop (.ListComp elt gens scope pos) depth (.ref it) av env) R s):
  codeAny (model V.prog V.w) A (.compStart (.ListComp elt gens scope pos) depth (.ref it) av env) R s:=by
 refine codeAny_of_tree ?_;show wpAny _ _ ((compStart (.ListComp elt gens scope pos) depth (.ref it) av env).onRaise (λx=>do noteFrame x env;standAt theWindowsPlace)) _ _ s;refine wpAny_notedAt ?_;unfold compStart;have hc:clausesOf (.ListComp elt gens scope pos)=gens:=rfl;refine Eq.symm hc▸Eq.symm hg▸?_;refine(?_:wpAny _ _ (ask>>=_) _ _ s);refine wpB (wpAny_askSetting (wpAny_ite ?_))
 have self:∀(Q:Ph->Pg->Prop) (E:Ph->Pg->Prop),Q (.ref it) s->wpAny (model V.prog V.w) A (pyIter (.ref it)) Q E s:=λQ E hq=>by
  cases J with
  |list hi=>exact wpAny_pyIter_listiter hi hq
  |rng hi=>exact wpAny_pyIter_rangeiter hi hq
 split
 ·first
   |exact wpB (Oz (Oz (And.intro rfl h)))
   |exact Oz (And.intro rfl h)
 ·refine wpB (wpAny_rule ?_);refine(?_:wpAny _ _ (standAt iter.pos>>=_) _ _ s);exact wpB (OZ (wpB (self _ _ (Oz (And.intro rfl h)))))
noncomputable def Mk(elt:Pm)(gens:List Comprehension)(scope:Scope)(pos:Pos)(depth:Nat)(acc:Ph)(env:Env):List Comprehension->Sem Fin->Sem Fin
 | []=>w8 elt acc env
 |g::_=>y0 elt g.iter gens scope pos depth acc env
theorem nP{α:Type}{l:List α}{k:Nat}{x:α}{r:List α}(h:l.drop k=x::r):l[k]?=some x:=by rw[<-List.head?_drop,h];rfl
theorem Ah{α:Type}{l:List α}{k:Nat}(h:l.drop k=[]):l[k]?=none:=by rw[<-List.head?_drop,h];rfl
theorem y5{elt:Pm}{gens:List Comprehension}{scope:Scope}{pos:Pos}{depth:Nat}{target iter:Pm}{ifs:List Pm}{gs:List Comprehension}{av:Ph}(hg:gens[depth]?=some ⟨target,iter,ifs,0⟩)(hd:gens.drop (depth+1)=gs)(ha:(gs.all λg=>g.is_async==0)=true)(it:Ph):
  compTurn (.ListComp elt gens scope pos) depth it av env=gx (Mk elt gens scope pos depth av env gs) (.ListComp elt gens scope pos) depth target iter ifs it av env:=by
 cases gs with
 |nil=>exact pP hg (Ah hd)
 |cons g r=>obtain⟨t',i',f',a'⟩:=g;cases(beq_iff_eq.mp (OR.mp ha).1:a'=0);exact nO hg (nP hd)
theorem rY(h:bx e=true):∀x,foldedSetIterable e env x=pure x:=λx=>by cases e<;>first|rfl|exact Bool.noConfusion h
theorem GV(I:SndP V n p)(O:V.Ok){elt:Pm}{gens:List Comprehension}{scope:Scope}{pos:Pos}:∀(gs:List Comprehension) (depth:Nat),gens.drop (depth+1)=gs->(gs.all λg=>g.is_async==0)=true->
  ∀ρ l,tM p sc elt gs ρ=some l->xa V n θ D sc env acc (Mk elt gens scope pos depth (.ref acc) env gs) ρ l:=by
 intro gs;induction gs with
 |nil=>intro depth hd ha ρ l h;ext v hv h;injections hp h;cases h;exact GU I O hv hp
 |cons g gs ih=>
  intro depth hd ha ρ l h;obtain⟨t',i',f',a'⟩:=g;replace ha:=OR.mp ha;have ha1:a'=0:=beq_iff_eq.mp ha.1;have ha2:=ha.2;subst ha1;have hd2:gens.drop (depth+1+1)=gs:=by rw[<-List.drop_drop,hd];rfl
  ext x hx h;ext items hi h;injections hk h;obtain⟨px,ht⟩:=cM hx;cases(show t'= .Name x px from ht);ext mv h1 hi;intro A s l0 k Q E R c hz hQ;refine wpB (I.ev _ _ _ _ h1 A θ D env s _ E R c.W c.tk c.F λv w99 st1 t1 r1=>wpB (OZ (wpB (OG (rY hk.2.2.1 v) (wpB (OJ ?_))))));refine jF O hi st1.wd (c.F.st st1).bnd t1 r1 λw98 st2 t2 hlt J=>?_;refine wpB (wpAny_runOwn ?_);refine ju (nP hd) J ?_;refine uh I O (y5 (nP hd) hd2 ha2) (ih (depth+1) hd2 ha2) hk.2.1 (Option.isNone_iff_eq_none.mp hk.2.2.2) (c.F.st st1).bnd.new st1.wd.size items l l0 (A.mark none) w98 _ h R.mark ((c.st st1 t1).st st2 t2) hz J λw96 k3 c3=>hQ w96 ?_ c3;refine⟨OA (st1.trans st2).keep.size k3.size,λa o hca ht e=>?_,λa o t c e=>k3.code a o t c ((st1.trans st2).keep.code a o t c e)⟩;refine k3.keep a o (λq=>?_) ht ((st1.trans st2).keep.keep a o (λq=>q) ht e);rcases q with q|q|q
  ·exact hca (.inl q)
  ·exact hca (.inr q)
  ·exact O8 (OF (q▸e)) (OU.mpr st1.keep.size)
end
theorem lookup_mem{α:Type}{l:List (Str×α)}{x:Str}{k:α}(h:l.lookup x=some k):(x,k)∈l:=by
 induction l with
 |nil=>exact af h
 |cons p r ih=>
  obtain⟨y,v⟩:=p;rw[List.lookup_cons]at h;cases hb:x==y<;>rw[hb]at h
  ·exact List.mem_cons_of_mem _ (ih h)
  ·have e:=eq_of_beq hb;cases h;subst e;exact List.mem_cons_self
theorem nQ{env:Env}(names:List (Str×NameKind))(x:Str):
  (names.map λ(n,k)=>if(k==NameKind.free&&env.scope.kind== .function&&env.kindOf n==some .cell) then(n,NameKind.cell) else(n,k)).lookup x=
   (names.lookup x).map λk=>if(k==NameKind.free&&env.scope.kind== .function&&env.kindOf x==some .cell)=true then NameKind.cell else k:=by
 exists env,names,x;induction names with
 |nil=>rfl
 |cons p r ih=>
  obtain⟨n,k⟩:=p;refine Eq.symm List.map_cons▸?_;refine(?_:List.lookup x ((if(k==NameKind.free&&env.scope.kind== .function&&env.kindOf n==some .cell)=true then(n,NameKind.cell) else(n,k))::_)=_)
  have e:(if(k==NameKind.free&&env.scope.kind== .function&&env.kindOf n==some .cell)=true then(n,NameKind.cell) else(n,k))=(n,if(k==NameKind.free&&env.scope.kind== .function&&env.kindOf n==some .cell)=true then NameKind.cell else k):=by split<;>rfl
  rw[e,List.lookup_cons,List.lookup_cons];cases hx:x==n with
  |true=>
   have:x=n:=by simpa using hx
   subst this;rfl
  |false=>exact ih
noncomputable def cR(env:Env):List (Str×NameKind)->List (Str×Pn)->List (Str×Pn)
 | [],cs=>cs
 |(x,k)::r,cs=>cR env r (if k== .free then(x,(env.cells.lookup x).getD 0)::cs else cs)
noncomputable def j6(env:Env)(x:Str×NameKind)(r:List (Str×Pn)):Sem (ForInStep (List (Str×Pn))):=
 if(x.2==NameKind.free)=true then do let c <-cellOf env x.1;pure (ForInStep.yield ((x.1,c)::r)) else pure (ForInStep.yield r)
theorem ui(h:k= .free->∃c,env.cells.lookup x=some c):
  j6 env (x,k) cs=pure (.yield (if(k==NameKind.free)=true then(x,(env.cells.lookup x).getD 0)::cs else cs)):=by
 unfold j6
 by_cases hk:k= .free
 ·subst hk;obtain⟨c,hc⟩:=h rfl;have e1:cellOf env x=pure c:=by unfold cellOf;rw[hc]
  show(if(NameKind.free==NameKind.free)=true then(do let c <-cellOf env x;pure (ForInStep.yield ((x,c)::cs))) else _)=_;rw[if_pos (by rfl),if_pos (by rfl),e1,hc];rfl
 ·have hb:(k==NameKind.free)=false:=by cases k<;>first|rfl|exact O8 rfl hk
  show(if(k==NameKind.free)=true then _ else pure (ForInStep.yield cs))=_;rw[hb,if_neg (by simp),if_neg (by simp)]
theorem y6:∀(names:List (Str×NameKind)) (cs:List (Str×Pn)),(∀x∈names,x.2= .free->∃c,env.cells.lookup x.1=some c)->
   (forIn names cs (j6 env):Sem (List (Str×Pn)))=pure (cR env names cs)
 | [],cs,_=>rfl
 |(x,k)::r,cs,h=>by rw[List.forIn_cons,ui λe=>h (x,k) List.mem_cons_self e];exact y6 r _ λz hz=>h z (List.mem_cons_of_mem _ hz)
theorem jv(h:∀x∈scope.names,x.2= .free->∃c,env.cells.lookup x.1=some c):closureFor scope env=pure (cR env scope.names []):=by refine(?_:((forIn scope.names [] (j6 env):Sem (List (Str×Pn)))>>=λs=>pure s)=_);rw[y6 scope.names [] h];rfl
theorem mR(names:List (Str×NameKind)):∀(cs:List (Str×Pn)),(cR env names cs).lookup x=if(∃k∈names,k.1=x/\k.2= .free) then some ((env.cells.lookup x).getD 0) else cs.lookup x:=by
 induction names with
 |nil=>exact λcs=>(if_neg λq=>q.elim λk q=>nomatch q.1).symm
 |cons p r ih=>
  intro cs;obtain⟨y,k⟩:=p;unfold cR;rw[ih]
  by_cases h1:∃k∈r,k.1=x/\k.2= .free
  ·rw[if_pos h1,if_pos];obtain⟨z,hz,e⟩:=h1;exact⟨z,List.mem_cons_of_mem _ hz,e⟩
  ·rw[if_neg h1]
   by_cases hk:k= .free
   ·subst hk;rw[if_pos (by rfl),List.lookup_cons]
    by_cases hxy:x=y
    ·subst hxy;rw[if_pos ⟨(x,.free),List.mem_cons_self,rfl,rfl⟩];simp
    ·have hb:(x==y)=false:=by simpa using hxy
     rw[hb,if_neg]
     rintro ⟨z,hz,e,f⟩
     rcases OT.mp hz with rfl|hz
     ·exact hxy e.symm
     ·exact h1 ⟨z,hz,e,f⟩
   ·have hb:(k==NameKind.free)=false:=by cases k<;>first|rfl|exact O8 rfl hk
    rw[hb,if_neg (by simp),if_neg]
    rintro ⟨z,hz,e,f⟩
    rcases OT.mp hz with rfl|hz
    ·exact hk f
    ·exact h1 ⟨z,hz,e,f⟩
section
variable {V:Vw}{n:Nat}{sc:Sc}{ρ:Rho}{p:P}{θ:Pn}{D:Pn->Prop}{env:Env}
theorem d8(h:aK sc scope=true):scope.kind= .function/\∀y∈scope.names,(y.2= .local/\scope.names.lookup y.1=some .local)\/(y.2= .free/\fM (sc.lookup y.1)/\scope.names.lookup y.1=some .free)\/(y.2= .globalImplicit/\scope.names.lookup y.1=some .globalImplicit):=by
 unfold aK at h;rw[Bool.and_eq_true,Bool.and_eq_true]at h;refine⟨by simpa using h.1.1,λy hy=>?_⟩;have:=OQ.mp h.2 y hy;obtain⟨x,k⟩:=y;cases k with
 |«local»=>exact .inl ⟨rfl,by simpa using this⟩
 |free=>
  refine .inr (.inl ⟨rfl,?_,?_⟩)
  ·have h1:=(Bool.and_eq_true _ _▸this).1;cases hs:sc.lookup x with
   |none=>simp [hs]at h1
   |some k=>
    cases k<;>simp [hs]at h1
    ·exact .inl rfl
    ·exact .inr rfl
  ·have h1:=(Bool.and_eq_true _ _▸this).2;simpa using h1
 |globalImplicit=>exact .inr (.inr ⟨rfl,by simpa using this⟩)
 |cell=>simp at this
 |globalExplicit=>simp at this
theorem pQ(h:aK sc scope=true):dx scope.names=false:=by unfold aK at h;rw[Bool.and_eq_true,Bool.and_eq_true]at h;simpa using h.1.2
theorem xb{scope:Scope}{s s':Pg}{C acc:Pn}{m:Str->Pj Ph}(F:FrX V θ D sc ρ env s)(ok:aK sc scope=true)(k:Keep none9 s.heap s'.heap)(hC:s.heap.objs.size<=C)(hA:s.heap.objs.size<=acc)
  (hC2:C<s'.heap.objs.size) (hA2:acc<s'.heap.objs.size) (W:Wd V s) (hn:s'.heap.Ns C m) (gl:Pn:=env.globals):
  FrX V θ (λa=>D a\/a=C\/a=acc) scope.names (ao scope ρ) (compEnvC scope (cR env scope.names []) C env) s':=by
 obtain⟨hk,hs⟩:=d8 ok;have kind:∀x,(compEnvC scope (cR env scope.names []) C env).kindOf x=(scope.names.lookup x).map λk=>if(k==NameKind.free&&env.scope.kind== .function&&env.kindOf x==some .cell)=true then NameKind.cell else k:=λx=>nQ scope.names x
 have free:∀x,fM (scope.names.lookup x)->scope.names.lookup x=some .free/\fM (sc.lookup x):=λx h=>by
  rcases h with h|h
  ·rcases hs _ (lookup_mem h) with⟨e,_⟩|⟨e,_,_⟩|⟨e,_⟩<;>cases e
  ·rcases hs _ (lookup_mem h) with⟨e,_⟩|⟨_,e,_⟩|⟨e,_⟩
   ·cases e
   ·exact⟨h,e⟩
   ·cases e
 have noCell:∀x,scope.names.lookup x≠some .cell:=λx h=>by rcases hs _ (lookup_mem h) with⟨e,_⟩|⟨e,_,_⟩|⟨e,_⟩<;>cases e
 have cells:∀x,fM (scope.names.lookup x)->∀c,env.cells.lookup x=some c->(cR env scope.names []).lookup x=some c:=λx h c hc=>by rw[mR,if_pos ⟨(x,.free),lookup_mem (free x h).1,rfl,rfl⟩,hc];rfl
 have cells':∀x,fM (scope.names.lookup x)->∀c,(cR env scope.names []).lookup x=some c->env.cells.lookup x=some c:=λx h c hc=>by obtain⟨c',hc'⟩:=F.cl x (free x h).2;rw[cells x h c' hc']at hc;cases hc;exact hc'
 have ru:∀x mv,(ao scope ρ).lookup x=some mv->scope.names.lookup x=some .free/\ρ.lookup x=some mv:=λx mv h=>by
  unfold ao at h;rw[bS (λz=>scope.names.lookup z==some .free)]at h;split at h
  ·rename_i hb;exact⟨by simpa using hb,h⟩
  ·cases h
 have hge:175<=s.heap.objs.size:=W.size
 have plain:∀x mv,(ao scope ρ).lookup x=some mv->mv.plain=true:=λx mv h=>by obtain⟨h1,h2⟩:=ru x mv h;obtain⟨c,hc⟩:=F.cl x (free x (.inr h1)).2;exact(F.cv x mv c h2 (free x (.inr h1)).2 hc).1
 exact {
  kind:=hk,glob:=F.glob,bi:=F.bi
  scl:=λx h=>by rw[kind,h];rfl
  scc:=λx h=>by
   rw[kind,(free x h).1];simp only [Option.map_some];split
   ·exact .inl rfl
   ·exact .inr rfl
  sck:=λx h=>O8 h (noCell x)
  scg:=λx h=>by rw[kind,h];rfl
  loc:=⟨m,hn,{
   val:=λx mv e l=>by rw[(ru x mv e).1]at l;cases l
   add:=λx y e l=>by rw[(ru x _ e).1]at l;cases l
   aft:=λx u a e g l=>by rw[(ru x _ e).1]at l;cases l
   one:=λx y u v a e1 e2 g1 g2 l1 l2=>by rw[(ru x _ e1).1]at l1;cases l1}⟩
  cl:=λx h=>by obtain⟨c,hc⟩:=F.cl x (free x h).2;exact⟨c,cells x h c hc⟩
  cv:=λx mv c e h hc=>by
   obtain⟨p,v,h1,h2⟩:=F.cv x mv c (ru x mv e).2 (free x h).2 (cells' x h c hc);refine⟨p,v,IsCell.keepAt h1 λo ho=>k.keep c o (λq=>q) (aY (F.ct x c (free x h).2 (cells' x h c hc))) ho,?_⟩;refine Rp.keep0 k _ _ (Rp.wide (D:=D) (λa ha q=>?_) _ _ p h2);rcases q with q|q|q
   ·exact q
   ·subst q;exact O8 ha (OU.mpr hC)
   ·subst q;exact O8 ha (OU.mpr hA)
  ct:=λx c h hc=>F.ct x c (free x h).2 (cells' x h c hc)
  dl:= .inr (.inl rfl)
  dc:=λx c h=>O8 h (noCell x)
  du:=λx y c h=>O8 h (noCell x)
  ca:=λx c h=>O8 h (noCell x)
  cod:=λh=>by rw[pQ ok]at h;cases h
  bnd:=λa q=>by
   rcases q with q|q|q
   ·exact⟨(F.bnd a q).1,OD (F.bnd a q).2 k.size⟩
   ·subst q;exact⟨OA hge hC,hC2⟩
   ·subst q;exact⟨OA hge hA,hA2⟩
  ok:=λx mv e=>bH (plain x mv e)}
end
section
variable {V:Vw}{n:Nat}{sc:Sc}{ρ:Rho}{p:P}
theorem l8{step:Rho->Pj (List MV)}{x:Str}{ifs:List Pm}(hs:∀ρ l,step ρ=some l->aa l=true):∀(items:List MV) l,jr p sc step x ifs ρ items=some l->aa l=true:=by
 intro items;induction items with
 |nil=>intro l h;cases h;rfl
 |cons v vs ih=>
  intro l h;rcases ew h with⟨_,h⟩|⟨_,h⟩
  ·ext a ha h;refine mpE (λb hb e=>?_) h;exact e▸cI (hs _ _ ha) (ih _ hb)
  ·exact ih _ h
theorem uj:∀(gs:List Comprehension) ρ l,tM p sc elt gs ρ=some l->aa l=true:=by
 intro gs;induction gs with
 |nil=>intro ρ l h;revert h;refine bdE λv _ h=>?_;injections hv h;cases h;exact OR.mpr ⟨hv,rfl⟩
 |cons g gs ih=>intro ρ l h;revert h;refine bdE λx _ h=>?_;revert h;refine bdE λitems _ h=>?_;exact l8 ih items l (eG h).2
theorem uk(e:(ao scope ρ).lookup x=some mv):scope.names.lookup x=some .free/\ρ.lookup x=some mv:=by unfold ao at e;rw[bS (λz=>scope.names.lookup z==some .free)]at e;replace e:=eG e;exact⟨beq_iff_eq.mp e.1,e.2⟩
theorem um(ok:aK sc scope=true)(h:scope.names.lookup x=some .free):fM (sc.lookup x):=by
 rcases(d8 ok).2 _ (lookup_mem h) with e|e|e
 ·exact NameKind.noConfusion e.1
 ·exact e.2.1
 ·exact NameKind.noConfusion e.1
theorem CB{elt:Pm}{gens:List Comprehension}{scope:Scope}{mv:MV}(h:dj p sc ρ elt scope gens=some mv):
  ∃x px i f gs v items l,gens=⟨.Name x px,i,f,0⟩::gs/\p.ev sc ρ i=some v/\aM v=some items/\aK sc scope=true/\(gs.all λg=>g.is_async==0)=true/\scope.names.lookup x=some .local/\bx i=true/\
   jr p scope.names (tM p scope.names elt gs) x f (ao scope ρ) items=some l/\l.length<=1000/\mv= .list l:=by
 revert h;exists sc,ρ,p,elt,gens,scope,mv;cases gens with
 |nil=>exact af h
 |cons g gs=>obtain⟨t,i,f,a⟩:=g;ext x hx h;ext items hi h;injections e0z h;obtain⟨h1,h2,h3,h4,h5⟩:=e0z;ext l hl h;injections hz h;ext v hv hi;obtain⟨px,ht⟩:=cM hx;exact⟨x,px,i,f,gs,v,items,l,by rw[show t= .Name x px from ht,show a=0 from h3],hv,hi,h1,h2,h4,h5,hl,hz,(OH h).symm⟩
noncomputable abbrev CD(D:Pn->Prop)(n:Nat):Pn->Prop:=λa=>D a\/a=n+1\/a=n
theorem CD.old(ha:a<n)(q:CD D n a):D a:=by
 rcases q with q|q|q
 ·exact q
 ·exact O8 ha (q▸OU.mpr (O7 n))
 ·exact O8 ha (q▸OM n)
theorem xc(O:V.Ok)(ok:aK sc scope=true)(F:FrX V θ D sc ρ env s)(W:Wd V s)(tk:1<=k)(hn:h.Ns (s.heap.objs.size+1) m)
  (hs:Heap.SameBut (s.heap.objs.size+1) ((s.heap.push {cls:= .type "list",dict:=none,data:= .seq ([]:List Ph).toArray}).push o) h) (J:Itr V.W9 θ D s.heap it items):
  St V none9 s {s with heap:=h,toks:=k}/\CompSt V θ (CD D s.heap.objs.size) scope.names (ao scope ρ) (compEnvC scope (cR env scope.names []) (s.heap.objs.size+1) env) s.heap.objs.size [] {s with heap:=h,toks:=k}/\Itr V.W9 θ (CD D s.heap.objs.size) h it items:=by
 have old:∀b o,s.heap.get? b=some o->h.get? b=some o:=λb o e=>(hs.2 b (Nat.ne_of_lt (Nat.lt_succ_of_lt (OF e)))).trans (OC _ (OC _ e));have sz:h.objs.size=s.heap.objs.size+2:=by rw[hs.1,Heap.size_push,Heap.size_push]
 have sle:s.heap.objs.size<=h.objs.size:=sz▸OI _ 2;have st:St V none9 s {s with heap:=h,toks:=k}:=⟨.ofAll none9 sle old,W.grown O (s':={s with heap:=h,toks:=k}) sle old⟩;refine⟨st,?_,?_⟩
 ·exact {
   W:=st.wd,tk:=tk
   F:=xb (s':={s with heap:=h,toks:=k}) (C:=s.heap.objs.size+1) (acc:=s.heap.objs.size) F ok st.keep (O7 _) (OP _) (sz▸O6 _) (sz▸Nat.lt_add_of_pos_right (by left)) W hn
   A:=⟨[],⟨_,(hs.2 _ (Nat.ne_of_lt (O6 _))).trans (OC _ (OE _ rfl)),rfl,_,rfl⟩,rfl⟩,p:=rfl
   pr:=λx mv e=>by obtain⟨h1,h2⟩:=uk e;obtain⟨c,hc⟩:=F.cl x (um ok h1);exact(F.cv x mv c h2 (um ok h1) hc).1
   d:= .inr (.inr rfl),ne:=Nat.ne_of_lt (O6 _)}
 ·cases J with
  |list hi hc tc hl r p p2=>exact .list (hi.at λo ho=>old _ o ho) (λq=>hc (q.old (IsList.lt hl))) tc (IsList.keepAt hl λo ho=>old _ o ho) (RpL.keep0 st.keep _ _ (RpL.wide (λa ha q=>q.old ha) _ _ p2 r)) p p2
  |rng hj hk=>exact .rng (old _ _ hj) hk
theorem qA(I:SndP V n p)(O:V.Ok)(h:dj p sc ρ elt scope gens=some mv):
  ∃g gs,gens=g::gs/\g.is_async=0/\bx g.iter=true/\aK sc scope=true/\mv.plain=true/\∀(A:Po) (θ:Pn) (D:Pn->Prop) (env:Env) (s:Pg) (E:Ph->Pg->Prop) (RR:Ph->Pn->Result->Pg->Prop),Room A n->Wd V s->1<=s.toks->FrX V θ D sc ρ env s->
   (∀acc C s',s.heap.objs.size<=C->s.heap.objs.size<=acc->acc≠C->St V none9 s s'->1<=s'.toks->(∃m,s'.heap.Ns C m)->Rp V.W9 θ (λa=>D a\/a=C) s'.heap mv (.ref acc)->RR (.ref acc) C (.ok .next) s')->
   wpAny (model V.prog V.w) A (eval g.iter env) (λx w99=>wpAny (model V.prog V.w) A (pyIter x) (λit w98=>wpAny (model V.prog V.w) A (newList []) (λacc w96=>
    wpAny (model V.prog V.w) A (newFunctionEnv scope env.globals (cR env scope.names []) [] env.qual none .none (some env)) (λcenv w9Z=>
     codeAny (model V.prog V.w) A (.compStart (.ListComp elt gens scope pos) 0 it acc {cenv with scope:=relabel scope env}) (RR acc cenv.locals) w9Z) E w96) E w98) E w99) E s:=by
 obtain⟨x,px,i,f,gs,v,items,l,rfl,hv,hi,hok,hall,hxl,hns,hl,hz,rfl⟩:=CB h;have hpl:=l8 (uj gs) items l hl;refine⟨_,_,rfl,rfl,hns,hok,hpl,λA θ D env s E RR R W tk F hQ=>?_⟩;refine I.ev _ _ _ _ hv A θ D env s _ E R W tk F λv w99 st1 t1 r1=>?_;refine jF O hi st1.wd (F.st st1).bnd t1 r1 λw98 st2 t2 ltIt J=>?_;have st12:=st1.trans st2;refine wpAny_newObj_type (wpAny_newFunctionEnv (λy hy e=>?_) (λy hy=>nomatch hy) (λw95 w9P w9O=>?_) (d8 hok).1)
 ·rcases(d8 hok).2 y hy with q|q|q<;>exact NameKind.noConfusion (e.symm.trans q.1)
 have hC:∀o,(w98.heap.push o).objs.size=w98.heap.objs.size+1:=λo=>Heap.size_push ..;dsimp only at w9P w9O ⊢;rw[hC]at w9P w9O ⊢;obtain⟨st3,c0,J3⟩:=xc O (k:=w98.toks+([]:List (Str×Ph)).length) hok (F.st st12) st2.wd t2 w9P w9O J;have hg0:((⟨.Name x px,i,f,0⟩:Comprehension)::gs)[0]?=some ⟨.Name x px,i,f,0⟩:=rfl;have sle:=st12.keep.size;refine ju hg0 J3 ?_;refine uh I O (y5 hg0 rfl hall) (GV I O gs 0 rfl hall) hxl ?_ (λq=>(F.st st1).bnd.new (q.old ltIt)) st1.wd.size items l [] A _ _ hl R c0 ((Nat.zero_add _).symm▸hz) J3 λw9N k5 c5=>?_
 ·cases hu:(ao scope ρ).lookup x with
  |none=>rfl
  |some u=>exact NameKind.noConfusion (OH (hxl.symm.trans (uk hu).1))
 ·have keep:Keep none9 s.heap w9N.heap:=by
   refine⟨OA (OA sle st3.keep.size) k5.size,λa o d t e=>?_,λa o t c e=>k5.code a o t c (st3.keep.code a o t c (st12.keep.code a o t c e))⟩;have ha:=OF e;refine k5.keep a o (λq=>?_) t (st3.keep.keep a o d t (st12.keep.keep a o d t e));rcases q with q|q|q
   ·exact O8 (OD ha sle) (q▸OU.mpr (O7 _))
   ·exact O8 (OD ha sle) (q▸OM _)
   ·exact O8 (OD ha st1.keep.size) (q▸OM _)
  obtain⟨vs,hl5,r5⟩:=c5.A;obtain⟨m5,hn5,_⟩:=c5.F.loc;refine hQ w98.heap.objs.size (w98.heap.objs.size+1) w9N (OK sle) sle (Nat.ne_of_lt (O6 _)) ⟨keep,c5.W⟩ c5.tk ⟨m5,hn5⟩ ⟨_,vs,rfl,?_,aY (OA W.size sle),hl5,?_⟩
  ·exact λq=>q.elim (λq=>OM _ ((F.st st12).bnd _ q).2) λq=>Nat.ne_of_lt (O6 _) q
  ·exact RpL.wide (λa _ q=>q.elim .inl λq=> .inr (.inl q)) _ _ hpl r5
theorem rZ(I:SndP V n p)(O:V.Ok){elt:Pm}{gens:List Comprehension}{scope:Scope}{pos:Pos}{mv:MV}(h:dj p sc ρ elt scope gens=some mv):bl V (n+1) sc ρ (.ListComp elt gens scope pos) mv:=by
 revert I O h;exists V,n,sc,ρ,p,elt,gens,scope,pos,mv;obtain⟨g,gs,rfl,h0,hns,hok,hp,walk⟩:=qA (pos:=pos) I O h;obtain⟨t',i',f',a'⟩:=g;simp only at h0;subst h0;intro A θ D env s Q E R W tk F hQ;obtain⟨hkind,hs⟩:=d8 hok;rw[eval_ListComp];refine wpAny_comprehension_free (use:=none) rfl (rY hns) (jv λx hx e=>?_) hkind (λy hy e=>?_) (walk A θ D env s E _ R.pred W tk F λacc C s' hC hA hne st t hn r=>?_)
 ·rcases hs x hx with⟨e',_⟩|⟨_,e',_⟩|⟨e',_⟩
  ·rw[e]at e';cases e'
  ·exact F.cl _ e'
  ·rw[e]at e';cases e'
 ·rcases hs y hy with⟨_,e'⟩|⟨e',_,_⟩|⟨e',_⟩
  ·exact e'
  ·rw[e]at e';cases e'
  ·rw[e]at e';cases e'
 ·obtain⟨m,hn⟩:=hn;refine⟨m,hn,λh' hs'=>?_⟩;have hge:175<=C:=OA W.size hC;have st2:St V (λa=>a=C) s' {s' with heap:=h'}:=St.same O (D:=λa=>a=C) st.wd hs' rfl hge s'.toks (cy hn);refine hQ _ _ ⟨⟨OA st.keep.size st2.keep.size,λa o d t e=>?_,λb ob t c e=>st2.keep.code b ob t c (st.keep.code b ob t c e)⟩,st2.wd⟩ t ?_
  ·refine st2.keep.keep a o (λq=>?_) t (st.keep.keep a o d t e);have q':a=C:=q;subst q';exact O8 (OF e) (OU.mpr hC)
  ·exact Rp.wide (λa _ q=> .inl q) _ _ hp (Rp.keep st2.keep (λa e=> .inr e) _ _ hp r)
end
section
variable {V:Vw}{n:Nat}{p:P}{F:Fns}{S:Subs}
set_option tactic.hygienic true in
theorem CE(I:SndP V n p)(O:V.Ok)(BK:V.Booked)(FO:FnsOk V F)(SO:SubsOk V S)(h:Cf F S n p sc ρ f args pos=some mv):bl V (n+1) sc ρ (.Call f args [] pos) mv:=by
 revert I O BK FO SO h;exists V,n,p,F,S,sc,ρ,f,args,pos,mv
 have meth:∀{o:Pm} {m:Str} {apos:Pos},yV S p sc ρ o m apos pos args=some mv->bl V (n+1) sc ρ (.Call (.Attribute o m apos) args [] pos) mv:=λ{o m apos} g=>by
  revert g;refine ifN λhc g=>?_;have h1:(apos.endLine==pos.line)=true:=by cases e:(apos.endLine==pos.line)<;>first|rfl|exact O8 (.inl e) hc
  have h2:baseOk o=true:=by cases e:baseOk o<;>first|rfl|exact O8 (.inr (.inr e)) hc
  rcases di g with⟨e,g⟩|⟨_,g⟩
  ·ext x hx g;ext v hv hx;ext e0z hab g;obtain⟨a,b⟩:=e0z;ext y hy g;ext z hz g;obtain⟨k1,q1,e1⟩:=i8 hy;obtain⟨k2,q2,e2⟩:=i8 hz;rw[d6 hab,show a=_ from e1,show b=_ from e2,e];exact ub I O BK h1 h2 (aF hx▸hv) g
  ·exact w5 I SO O h1 (OU.mp λe=>hc (.inr (.inl e))) h2 g
 unfold Cf at h;cases hv:aN f<;>rw[hv]at h<;>first|exact af h|(rw[aL hv])
 ·exact rW I O FO h
 ·rename_i o m apos;dsimp only at h;cases ho:aN o<;>rw[ho]at h<;>first|exact meth h|skip
  injections hm h;ext d hd h;ext e0z hab h;obtain⟨a,b⟩:=e0z;rw[d6 hab,hm.1,aL ho];exact GR I O hd hm.2 h
theorem GW(I:SndP V n p)(h:((one ops).bind λop=>(one rs).bind λr=>if bx r then(p.ev sc ρ l).bind λa=>(p.ev sc ρ r).bind λb=>fL op a b else none)=some b):
  bl V (n+1) sc ρ (.Compare l ops rs pos) (.bool b)/\w1 V (n+1) sc ρ (.Compare l ops rs pos) b:=by
 ext op ho h;ext r hr h;injections hs h;rw[bf ho,bf hr];exact l5 I hs h
theorem GX(I:SndP V n p)(O:V.Ok)(BK:V.Booked)(FO:FnsOk V F)(SO:SubsOk V S):∀sc ρ e mv,zV F S n p sc ρ e=some mv->bl V (n+1) sc ρ e mv:=by
 intro sc ρ e mv h;cases e with
 |Constant c k pos=>exact rS h
 |Name x q=>exact iv O (BZ h).1 (BZ h).2
 |BinOp l op r pos=>exact z9 I h O
 |UnaryOp op x pos=>
  cases op with
  |Not=>exact GO I h
  |USub=>exact Cv I h
  |_=>exact af h
 |IfExp t b o pos=>exact Aa I h
 |BoolOp op vs pos=>exact λA θ D env s Q E R W tk F hQ=>Ac I (pos:=pos) h A θ D env s Q E R.pred W tk F hQ
 |Compare l ops rs pos=>ext op ho h;ext r hr h;injections hs h;ext a h1 h;ext b h2 h;refine mpE (λc h3 e=>?_) h;rw[bf ho,bf hr,<-e];exact(l5 I hs (by refine Eq.symm h1▸Eq.symm h2▸?_;exact h3)).1
 |List es pos=>exact Cw I O h
 |Tuple es k pos=>exact Ad I O h
 |Subscript o i pos=>
  cases i with
  |Slice lo hi st q=>
   cases st with
   |none=>exact Ae I O h
   |some _=>exact af h
  |_=>exact Cx I O rfl h
 |ListComp elt gens scope pos=>exact rZ I O h
 |JoinedStr vs pos=>exact pO I h
 |Call f args kws pos=>
  cases kws with
  |cons _ _=>exact af h
  |nil=>exact CE I O BK FO SO h
 |_=>exact af h
theorem Kg(I:SndP V n p)(O:V.Ok)(BK:V.Booked)(FO:FnsOk V F)(SO:SubsOk V S):∀sc ρ e mv,evF F S n p sc ρ e=some mv->bl V (n+1) sc ρ e mv:=by
 intro sc ρ e mv h;unfold evF at h;cases hv:S.spec n sc (p.ev sc ρ) e with
 |some v=>rw[hv]at h;exact SO.spec _ _ _ _ _ _ I (hv.trans h)
 |none=>rw[hv]at h;exact GX I O BK FO SO sc ρ e mv h
theorem GY(I:SndP V n p):∀sc ρ e b,Mc p sc ρ e=some b->w1 V (n+1) sc ρ e b:=by
 intro sc ρ e b h;cases e with
 |UnaryOp op x pos=>injections ho h;refine Eq.symm ho▸?_;exact Cu I h
 |BoolOp op vs pos=>exact λA θ D env s Q E R W tk F hQ=>Ab I h A θ D env s Q E R.pred W tk F hQ
 |IfExp t b o pos=>exact w3 I h
 |Compare l ops rs pos=>exact(GW I h).2
 |BinOp _ _ _ _=>exact ft I h λ_ _=>rfl
 |Call _ _ _ _=>exact ft I h λ_ _=>rfl
 |Constant _ _ _=>exact ft I h λ_ _=>rfl
 |Subscript _ _ _=>exact ft I h λ_ _=>rfl
 |Name _ _=>exact ft I h λ_ _=>rfl
 |_=>exact af h
theorem l9(O:V.Ok)(BK:V.Booked)(FO:FnsOk V F)(SO:SubsOk V S):∀n,SndP V n (me F S n)
 |0=>⟨λ_ _ _ _ h=>(nomatch h),λ_ _ _ _ h=>(nomatch h)⟩
 |n+1=>⟨Kg (l9 O BK FO SO n) O BK FO SO,GY (l9 O BK FO SO n)⟩
end
end
end
section
open PySem PySem.Calls PyProof.Rows
theorem iy:Slot "method_descriptor" "__get__" "method_descriptor.__get__":=
 .of (owner:="method_descriptor") (n:="__get__") (by rw[typeLookup_type,builtinLookup_eq_fast];symm) (by right) (by right) (by right)
  (by first|exact .inl (by right)|exact .inr (by right)) (by rw[isSubtype_type];symm)
theorem sd:entryFor table "method_descriptor.__get__"=some Builtin.«method_descriptor.__get__»:=entryFor_of_tree nofun
theorem uo(a b c:Ph):argsOk "method_descriptor.__get__" ⟨[a,b,c],[]⟩:=by unfold argsOk;symm
theorem iz:typeOf (.builtin "list.append")=pure (.type "method_descriptor"):=by show builtinType _=_;rw[builtinType_eq_fast];symm
theorem nR:typeLookup (.type "list") "append"=pure (some (.builtin "list.append")):=by rw[typeLookup_type,builtinLookup_eq_fast];symm
theorem Ai:typeLookup (.type "method_descriptor") "__set__"=pure none:=by rw[typeLookup_type,builtinLookup_eq_fast];symm
theorem Aj:typeLookup (.type "method_descriptor") "__delete__"=pure none:=by rw[typeLookup_type,builtinLookup_eq_fast];symm
theorem xd:(".".intercalate ("list.append".cutAt '.').dropLast)="list":=by right
theorem se:isSubtype (.type "list") (.type (".".intercalate ("list.append".cutAt '.').dropLast))=pure true:=by rw[xd,isSubtype_type];symm
section
variable {prog:Program}{w:World}{A:Po}{E:Pr}{h:Pp}{g:Array GenState}{d:Drawn}{t:Nat}{os:OsState}{a:Pn}{o:Obj}
noncomputable def bm(a:Pn):Obj:={cls:= .type "builtin_function_or_method",data:= .fields #[.builtin "list.append",.ref a]}
theorem GZ(hx:h.get? a=some o)(hc:o.cls= .type "list")(hq:R (.ok (.ret (.ref h.objs.size))) ⟨h.push (bm a),g,d,t,os⟩):
  codeAny (model prog w) A (.call (.builtin "method_descriptor.__get__") ⟨[.builtin "list.append",.ref a,.type "list"],[]⟩) R ⟨h,g,d,t,os⟩:=by
 have hT:(⟨h,g,d,t,os⟩:Pg).TypeIs (.ref a) "list":=⟨_,hx,hc⟩;have hT5:(⟨h,g,d,t,os⟩:Pg).TypeIs (.builtin "list.append") "method_descriptor":=iz;have f8:=se;refine codeAny_call_builtin iy.plain sd (iy.check _ _ _ _ _ _ _ _ hT5 (uo _ _ _) ?_);unfold Builtin.«method_descriptor.__get__»
 repeat (any_goals (first|assumption|wp_step))
theorem Ak(hx:h.get? a=some o)(hc:o.cls= .type "list")(hdc:o.dict=none)(hdat:o.data= .seq xs k)(hq:Q (.done (.ret (.ref h.objs.size))) ⟨h.push (bm a),g,d,t,os⟩):
  wpAny (model prog w) A (Builtin.«object.__getattribute__» ⟨[.ref a,.str "append" tk],[]⟩) Q E ⟨h,g,d,t,os⟩:=by
 revert hx hc hdc hdat hq;exists prog,w,A,E,h,g,d,t,os,a,o,tk,xs,k,Q;have hT:(⟨h,g,d,t,os⟩:Pg).TypeIs (.ref a) "list":=⟨_,hx,hc⟩;have hT5:(⟨h,g,d,t,os⟩:Pg).TypeIs (.builtin "list.append") "method_descriptor":=iz;have f4:=nR;have f5:=iz;have f6:=iy.lookup;have f7:=Ai;have f8:=Aj;obtain⟨oc,od,odat,osl⟩:=o;simp only at hc hdc hdat;subst hc hdc hdat
 repeat (any_goals (first|assumption|wp_step))
 refine GZ hx rfl ?_
 repeat (any_goals (first|assumption|wp_step))
theorem CF(hx:h.get? a=some o)(hc:o.cls= .type "list")(hdc:o.dict=none)(hdat:o.data= .seq xs k)(hq:R (.ok (.ret (.ref h.objs.size))) ⟨h.push (bm a),g,d,t,os⟩):
  codeAny (model prog w) A (.call (.builtin "list.__getattribute__") ⟨[.ref a,.str "append" tk],[]⟩) R ⟨h,g,d,t,os⟩:=
 codeAny_call_builtin PySem.F.slot_list_getattribute.plain PySem.F.entry_list_ga (PySem.F.slot_list_getattribute.check _ _ _ _ _ _ _ _ (show(⟨h,g,d,t,os⟩:Pg).TypeIs (.ref a) "list" from⟨_,hx,hc⟩) (PySem.F.args_list_getattribute_2 _ _) (Ak hx hc hdc hdat hq))
theorem Kh(hx:h.get? a=some o)(hc:o.cls= .type "list")(hdc:o.dict=none)(hdat:o.data= .seq xs k)(hq:Q (.ref h.objs.size) ⟨h.push (bm a),g,d,t,os⟩):wpAny (model prog w) A (getAttrBy (.ref a) (.str "append" tk) true true) Q E ⟨h,g,d,t,os⟩:=by
 have hT:(⟨h,g,d,t,os⟩:Pg).TypeIs (.ref a) "list":=⟨_,hx,hc⟩;have f2:=PySem.F.slot_list_getattribute.lookup;have f3:=PySem.F.slot_list_getattribute.bind (.ref a);have hb:(h.push (bm a)).get? h.objs.size=some (bm a):=OE _ rfl
 repeat (any_goals (first|assumption|wp_step))
 refine CF hx hc hdc hdat ?_
 repeat (any_goals (first|assumption|wp_step))
end
section
variable {prog:Program}{w:World}{M:Model}{A:Po}{E:Pr}{s:Pg}
theorem NB{α:Type}(hc:c=true)(h:wpAny M A a Q E s):wpAny M A (if c=true then a else b) Q E s:=by subst hc;exact h
theorem G1(hl:∃o,s.heap.get? l=some o/\o.cls= .type "list"/\o.dict=none/\∃k,o.data= .seq items k)
  (h:Q (.ref s.heap.objs.size) {s with heap:=s.heap.push (bm l),toks:=s.toks+1}):wpAny (model prog w) A (getAttr (.ref l) "append" true) Q E s:=by
 obtain⟨o,ho,hc,hd,k,hk⟩:=hl;unfold getAttr;exact OB (O3 (Kh (h:=s.heap) (g:=s.gens) (d:=s.drawn) (t:=s.toks+1) (os:=s.os) ho hc hd hk h))
theorem uq(hplain:args.any (·.1)=false)
  (h:wpAny M A (evalArgs (.ref u) true args []) (λx w99=>w99.heap.get? u=some (bm l)/\wpAny M A (call (.ref u) (first++x.pos) x.kw) Q E w99) E s):wpAny M A (callWith pos (.ref u) first args []) Q E s:=by
 unfold callWith;refine OB (OJ (OV h (λx w99 w95=>OB (OZ ?_)) λ_ _ x=>x));obtain⟨ho,hcall⟩:=w95;rw[hplain];refine OB (m:=keeperOf (.ref u)) ?_;unfold keeperOf;refine OB (wpAny_load ho ?_);refine wpT (show(Value.type "builtin_function_or_method" != Value.type "method")=true by left) (OG (a:=Keeper.machine) (ON pure (if_pos (show(Value.type "builtin_function_or_method"==Value.type "builtin_function_or_method"||Value.type "builtin_function_or_method"==Value.type "method-wrapper")=true by left))) ?_);exact OB (OV hcall (λr w98 hr=>OB (OJ (wpAny_point (Oz hr)))) λ_ _ x=>x)
noncomputable def CG:Manifest.Signature:=(Manifest.sig_list.lookup "append").getD ⟨.keywords,"","",.self,[]⟩
theorem G2:Manifest.signature? "list.append"=some CG:=by rw[signature?_of (id:="list.append") (n:=['d','n','e','p','p','a']) (o:=['t','s','i','l']) nofun PySem.F.owner_list];symm
theorem CH(a b:Ph):Bind.checkArgs "list.append" {CG with full:="list.append"} ⟨[a,b],[]⟩=pure ():=nofun
theorem CI:builtinKind "list.append"=some .method:=by right
theorem G3:Manifest.varargsMethods.contains "list.append"=false:=by right
theorem G5:isSubtype (.type "list") (.type "module")=pure false:=by rw[isSubtype_type];symm
theorem CJ{M:Model}{l:Pn}{v:Ph}{items:Array Ph}{Q:Unit->Pg->Prop}(hl:s.heap.IsList l items)(h:Q () s):wpAny M A (checkBoundCall "list.append" ⟨[.ref l,v],[]⟩) Q E s:=by revert hl h;exists A,E,s,M,l,v,items,Q;obtain⟨o,ho,hc,n,hd⟩:=id hl;unfold checkBoundCall;rw[G2,CI];refine OB (wpAny_isInstance (T:="list") ⟨o,ho,hc⟩ G5 ?_);refine wpF (by rw[G3];rfl) ?_;refine OB (m:=isType (.ref l)) ?_;have hT:s.TypeIs (.ref l) "list":=⟨o,ho,hc⟩;unfold isType loadHead;refine OB (wpAny_loadPart ho ?_);rw[hd];refine Oz (wpF rfl ?_);exact OB (wpAny_typeOf hT (OG (CH _ _) h))
theorem iA(o:Obj)(f:Array Ph->Array Ph):(o.mapSeq f).dict=o.dict:=by obtain⟨c,d,dt,sl⟩:=o;cases dt<;>rfl
theorem G6(hu:s.heap.get? u=some (bm l))(hl:GL s.heap l items)
  (hQ:∀h',GL h' l (items.push v)->Heap.SameBut l s.heap h'->Q .none {s with heap:=h'}) (hsz:items.size<=sizeLine):wpAny (model prog w) A (call (.ref u) [v]) Q E s:=by
 obtain⟨o,ho,hc,hdc,n,hd⟩:=id hl;obtain⟨n',hd'⟩:=Obj.data_mapSeq hd (·.push v);refine OW (codeAny_of_tree ?_);refine(?_:wpAny _ A.in1 (callAny (.ref u) ⟨[v],[]⟩) _ _ s);unfold callAny;refine OB (wpAny_load hu (wpT (show(Value.type "builtin_function_or_method"==Value.type "method"||Value.type "builtin_function_or_method"==Value.type "builtin_function_or_method"||Value.type "builtin_function_or_method"==Value.type "method-wrapper")=true by left) ?_));refine wpT (show(Value.type "builtin_function_or_method" != Value.type "method")=true by left) ?_;refine OB (CJ hl.isList ?_);refine OB (Oz (Oz ?_));refine⟨Code.quiet_builtin _ (by right),codeAny_builtin entry_list_append ?_⟩;refine(?_:wpAny _ _ (updateSeq l (·.push v)>>=λ_=>ret .none) _ _ s);refine OB ?_;refine wpAny_updateSeq ho hd (Oz (hQ _ ?_ (OO ..)));exact⟨_,O4 _ ho (Obj.isFreed_of_seq hd'),(Obj.cls_mapSeq ..).trans hc,(iA ..).trans hdc,n',hd'⟩
theorem Al(hl:GL s.heap l items)
  (hQ:∀h',GL h' l (items.push x)->Heap.SameBut l s.heap h'->Q .none {s with heap:=h'}) (hsz:items.size<=sizeLine):wpAny (model prog w) A (call (.builtin "list.append") [.ref l,x]) Q E s:=by
 obtain⟨o,ho,hc,hdc,n,hd⟩:=id hl;obtain⟨n',hd'⟩:=Obj.data_mapSeq hd (·.push x);refine wpAny_call_entry slot_list_append hl.isList.typeIs entry_list_append ?_ (args_list_append _ _);show wpAny _ _ (updateSeq l (·.push x)>>=λ_=>ret .none) _ _ s;refine OB ?_;refine wpAny_updateSeq ho hd (Oz ⟨.none,rfl,hQ _ ?_ (OO ..)⟩);exact⟨_,O4 _ ho (Obj.isFreed_of_seq hd'),(Obj.cls_mapSeq ..).trans hc,(iA ..).trans hdc,n',hd'⟩
end
end
section
open PySem PySem.Calls PyProof.Rows PySem.Spec
theorem mro_object:mroOf (.type "object")=pure [.type "object"]:=by rw[mroOf_type];symm
theorem pR:typeLookup (.type "object") "__new__"=pure (some (.builtin "object.__new__")):=by rw[typeLookup_type,builtinLookup_eq_fast];symm
theorem slot_object_init:Slot "object" "__init__" "object.__init__":=
 .of (owner:="object") (n:="__init__") (by rw[typeLookup_type,builtinLookup_eq_fast];symm) (by right) (by right) (by right)
  (by first|exact .inl (by right)|exact .inr (by right)) (by rw[isSubtype_type];symm)
theorem pS:TypeCalled "object" "object.__new__" "object.__init__":=
 ⟨by right,by right,⟨_,_,mro_object⟩,madeBy_type mro_object pR (by right),by right,by rw[isSubtype_type];symm,slot_object_init⟩
theorem mU:checkTypeCall "object" ⟨[],[]⟩=pure ():=nofun
theorem nS:checkBuiltinCall "object.__new__" ⟨[.type "object"],[]⟩=pure ():=nofun
theorem pT:entryFor table "object.__new__"=some Builtin.«object.__new__»:=entryFor_of_tree nofun
theorem lb:Meets (Builtin.«object.__new__» ⟨[.type "object"],[]⟩) (λ_ R s=>R (.ok (.ret (Value.ref s.heap.objs.size))) {s with heap:=s.heap.push {cls:= .type "object"}}):=
 .of_wp λprog w A R s h=>by
  obtain⟨hp,g,d,tk,os⟩:=s;unfold Builtin.«object.__new__»;have e1:isType (.type "object")=pure true:=rfl;have e2:Bind.madeHere "object.__new__" (.type "object")=pure ():=nofun
  have e3:((Manifest.find? "object").elim false (·.mro.any λt=>(Manifest.find? t).elim false (·.noNew)))=false:=by right
  have e4:typeHasDict (.type "object")=false:=by right
  have e5:diesByItsTypesDel "object"=false:=by right
  simp only [e1,pure_bind,e3,e2,e4,e5,Bool.not_true,Bool.false_eq_true,if_false,List.isEmpty_nil,Bool.or_self];refine OB (wpAny_newObj_type (Oz ⟨_,rfl,h⟩) (by size_fits))
section
variable {prog:Program}{w:World}{A:Po}{E:Pr}{s:Pg}
theorem CK(self:Ph):Meets (Builtin.«object.__init__» ⟨[self],[]⟩) (λ_ R s=>R (.ok (.ret .none)) s):=
 .of_wp λprog w A R s h=>Oz ⟨_,rfl,h⟩
theorem ur(h:Q (.ref s.heap.objs.size) {s with heap:=s.heap.push {cls:= .type "object"}}):wpAny (model prog w) A (call (.type "object") []) Q E s:=
 callType_meets pS mU nS pT PySem.F.entry_object_init lb (Q₁:=λv w99=>w99.TypeIs v "object"/\Q v w99) ⟨⟨_,OE _ rfl,rfl⟩,h⟩
  λobj w99 hq=>⟨hq.1,PySem.F.args_object_init_1 obj,_,CK obj,rfl,hq.2⟩
theorem Am(hl:s.heap.IsList l items)
  (hQ:Q (.ref s.heap.objs.size) {s with heap:=s.heap.push {cls:= .type "list_iterator",data:= .fields #[.ref l,.int 0 0]}}):wpAny (model prog w) A (call (.builtin "iter") [.ref l]) Q E s:=by
 refine call_function_entry (by right) (by right) W.kdk_entry_iter (W.kdk_args_iter _) ?_;unfold Builtin.«iter»;refine OB (m:=someArgs "iter" 1 2 _) (OG (a:=[Value.ref l]) (by first|rfl|kernel_rfl!) ?_);refine(?_:wpAny _ _ (pyIter (.ref l)>>=_) _ _ _);exact OB (wpAny_pyIter_list hl (Oz ⟨_,rfl,hQ⟩))
theorem An(hit:s.heap.IsListIter it l i)(hl:s.heap.IsList l items)(hx:items[i]?=some x)
  (hQ:∀h',h'.IsListIter it l (i+1)->Heap.SameBut it s.heap h'->Q x {s with heap:=h'}):wpAny (model prog w) A (call (.builtin "next") [.ref it]) Q E s:=by
 revert hit hl hx hQ;exists prog,w,A,E,s,it,l,i,items,x,Q;obtain⟨o,ho,hc,hd⟩:=id hit;obtain⟨ol,hol,_,nl,hdl⟩:=id hl;refine call_function_entry (by right) (by right) W.kdk_entry_next (W.kdk_args_next _) ?_;unfold Builtin.«next»;refine OB (m:=someArgs "next" 1 2 _) (OG (a:=[Value.ref it]) (by first|rfl|kernel_rfl!) ?_)
 skip
 refine OB (OY (name:=Pd "__next__") hit.typeIs slot_listiter_next.lookup ?_);refine wpAny_ite_split (λhab=>O8 hab (by left)) (λ_=>?_)
 refine OB (wpAny_callSpecial?_slot (name:=Pd "__next__") hit.typeIs slot_listiter_next
  (wpAny_call_entry slot_listiter_next hit.typeIs entry_listiter_next ?_ (args_listiter_next _)))
 refine(?_:wpAny _ _ (field (.ref it) 0>>=_) _ _ s);refine OB (wpAny_field ho hd (x:= .ref l) rfl ?_);refine(?_:wpAny _ _ (if(Value.ref l==Value.none)=true then _ else _) _ _ s);refine wpAny_ite_false (decide_eq_false (show ¬((Value.ref l==Value.none)=true) from Bool.false_ne_true)) ?_;refine(?_:wpAny _ _ (field (.ref it) 1>>=_) _ _ s);refine OB (wpAny_field ho hd (x:= .int i 0) rfl ?_);refine(?_:wpAny _ _ (seqItems? (.ref l)>>=_) _ _ s);refine OB (wpAny_seqItems hol hdl ?_);simp only [Int.toNat_natCast,hx];refine OB (wpAny_setField ho hd (by simp) (Oz ⟨x,rfl,Oz ⟨_,rfl,hQ _ ?_ (OO ..)⟩⟩))
 exact⟨_,O4 _ ho (Obj.isFreed_of_fields (Obj.data_mapFields hd _)),(Obj.cls_mapFields ..).trans hc,by rw[Obj.data_mapFields hd];simp [rawInt]⟩
end
end
section
open PySem PySem.Calls PyProof.Rows PySem.W
section
open PySem.MeetsSeq PySem.SeqAt
section
variable {V:Vw}{n:Nat}{sc:Sc}{ρ:Rho}{p:P}{θ:Pn}{D:Pn->Prop}{env:Env}{s:Pg}
theorem Rp.wideOk(m:∀a,a<h.objs.size->D' a->D a)(up:∀a,D a->D' a)(ok:okv mv=true)(r:Rp W θ D h mv v):Rp W θ D' h mv v:=by
 cases mv with
 |grow l=>obtain⟨a,vs,e,d,t,hl,r'⟩:=r;exact⟨a,vs,e,up a d,t,hl,RpL.wide m _ _ ok r'⟩
 |iter l=>obtain⟨a,c,vs,i,e,d,t,hi,nc,tc,hl,r'⟩:=r;exact⟨a,c,vs,i,e,up a d,t,hi,λq=>nc (m c (IsList.lt hl) q),tc,hl,RpL.wide m _ _ ok r'⟩
 |adder _=>trivial
 |none=>exact r
 |bool _=>exact r
 |int _=>exact r
 |str _=>exact r
 |opq=>exact r
 |ex _=>exact r
 |list l=>exact Rp.wide m (.list l) _ ok r
 |tup l=>exact Rp.wide m (.tup l) _ ok r
 |rng a b c=>exact Rp.wide m (.rng a b c) _ rfl r
 |kcls=>exact Rp.wide m .kcls _ rfl r
 |kobj x=>exact Rp.wide m (.kobj x) _ ok r
theorem FrX.widenSt(F:FrX V θ D sc ρ env s)(k:Keep none9 s.heap s'.heap)(m:∀a,a<s.heap.objs.size->D' a->D a)(up:∀a,D a->D' a)(b:Bnd D' s'):FrX V θ D' sc ρ env s':={F with
 loc:=by obtain⟨f,h1,L⟩:=F.loc;exact⟨f,Ns.keepAt h1 λo e=>k.keep _ o (λq=>q) (aY (F.bnd _ F.dl).1) e,{
  val:=λy u e l=>by obtain⟨v,h2,h3⟩:=L.val y u e l;exact⟨v,h2,Rp.keep0 k _ _ (h3.wideOk m up (F.ok y u e))⟩
  add:=λy z e l=>by obtain⟨b,a,h1,h2,h3,h4,h5⟩:=L.add y z e l;exact⟨b,a,h1,h2,λq=>h3 (m b (OF h5) q),h4,k.keep b _ (λq=>q) h4 h5⟩
  aft:=L.aft
  one:=L.one}⟩
 cv:=λx mv c e l hc=>by obtain⟨p,v,h1,h2⟩:=F.cv x mv c e l hc;exact⟨p,v,IsCell.keepAt h1 λo e=>k.keep _ o (λq=>q) (aY (F.ct x c l hc)) e,Rp.keep0 k _ _ (h2.wideOk m up (bH p))⟩
 dl:=up _ F.dl
 dc:=λx c e hc=>by obtain⟨d,v,h1⟩:=F.dc x c e hc;exact⟨up _ d,v,IsCell.keepAt h1 λo e=>k.keep _ o (λq=>q) (aY (F.bnd _ d).1) e⟩
 bnd:=b}
theorem FrX.other(F:FrX V θ D sc ρ env s)(hs:Heap.SameBut c s.heap h')(d:D c)(hc:s.heap.Ns c m)(hne:env.locals≠c):FrX V θ D sc ρ env {s with heap:=h',toks:=tk}:=by
 have hL:∀o,s.heap.get? c=some o->(∃es ep,o.data= .dict es ep)\/(∃v,o.data= .cell v):=λo e=>by obtain⟨o',es,ep,ho,hd,_⟩:=hc;rw[ho]at e;cases e;exact .inl ⟨_,_,hd⟩
 have k:Keep (λb=>b=c) s.heap h':= .same hs rfl (jE hL);have mD:∀b,b=c->D b:=λb e=>e▸d
 have cellNe:∀c' v,s.heap.IsCell c' v->c'≠c:=λc' v ⟨o,ho,hd⟩ e=>by obtain⟨o',es,ep,ho',hd',_⟩:=hc;rw[e]at ho;rw[ho]at ho';cases ho';rw[hd]at hd';cases hd'
 exact {F with
  loc:=by obtain⟨f,h1,L⟩:=F.loc;exact⟨f,Ns.keepAt h1 λo e=>(hs.2 _ hne).trans e,{
   val:=λy u e l=>by obtain⟨v,h2,h3⟩:=L.val y u e l;exact⟨v,h2,h3.own hs d hL (F.ok y u e)⟩
   add:=λy z e l=>by obtain⟨b,a,h2,h3,nd,nt,hb⟩:=L.add y z e l;exact⟨b,a,h2,h3,nd,nt,k.keep b _ (λq=>nd (mD _ q)) nt hb⟩
   aft:=L.aft
   one:=L.one}⟩
  cv:=λx mv c' e l hcl=>by obtain⟨p,v,h1,h2⟩:=F.cv x mv c' e l hcl;exact⟨p,v,IsCell.keepAt h1 λo e=>(hs.2 c' (cellNe _ _ h1)).trans e,h2.own hs d hL (bH p)⟩
  dc:=λx c' e hcl=>by obtain⟨d',v,h1⟩:=F.dc x c' e hcl;exact⟨d',v,IsCell.keepAt h1 λo e=>(hs.2 c' (cellNe _ _ h1)).trans e⟩
  bnd:=λa d=>⟨(F.bnd a d).1,by show a<h'.objs.size;rw[hs.1];exact(F.bnd a d).2⟩}
theorem qB(h:jC ρ=true)(e:ρ.lookup x=some mv):qr mv=true:=by
 induction ρ with
 |nil=>cases e
 |cons p r ih=>
  obtain⟨y,v⟩:=p;have h':qr v=true/\jC r=true:=OR.mp h;rw[List.lookup_cons]at e;split at e
  ·cases e;exact h'.1
  ·exact ih h'.2 e
theorem FrX.star(F:FrX V θ D sc ρ env s)(h:jC ρ=true):FrX V w97 D sc ρ env s:={F with
 loc:=by obtain⟨f,h1,L⟩:=F.loc;exact⟨f,h1,{
  val:=λy u e l=>by obtain⟨v,h2,h3⟩:=L.val y u e l;exact⟨v,h2,Rp.star _ _ (qB h e) h3⟩
  add:=L.add
  aft:=L.aft
  one:=L.one}⟩
 cv:=λx mv c e l hc=>by obtain⟨p,v,h1,h2⟩:=F.cv x mv c e l hc;exact⟨p,v,h1,Rp.star _ _ (qB h e) h2⟩}
theorem FrX.storeCell{h':Pp}{x:Str}{c:Pn}{mv:MV}{v:Ph}{tk:Nat}(F:FrX V θ D sc ρ env s)(hx:sc.lookup x=some .cell)(hc:env.cells.lookup x=some c)
  (hn:h'.IsCell c (some v)) (hs:Heap.SameBut c s.heap h') (r:Rp V.W9 θ D s.heap mv v) (p:mv.plain=true):FrX V θ D sc (ae ρ x mv) env {s with heap:=h',toks:=tk}:=by
 revert F hx hc hn hs r p;exists V,sc,ρ,θ,D,env,s,h',x,c,mv,v,tk;obtain⟨d,v0,ho0⟩:=F.dc x c hx hc
 have hL:∀o,s.heap.get? c=some o->(∃es ep,o.data= .dict es ep)\/(∃v,o.data= .cell v):=λo e=>by obtain⟨o',ho,hd⟩:=ho0;rw[ho]at e;cases e;exact .inr ⟨_,hd⟩
 have k:Keep (λb=>b=c) s.heap h':= .same hs rfl (jE hL);have mD:∀b,b=c->D b:=λb e=>e▸d
 have locNe:env.locals≠c:=λe=>by obtain⟨f,⟨o',es,ep,ho',hd',_⟩,_⟩:=F.loc;obtain⟨o,ho,hd⟩:=ho0;rw[e]at ho';rw[ho']at ho;cases ho;rw[hd']at hd;cases hd
 exact {F with
  loc:=by
   obtain⟨f,h1,L⟩:=F.loc;refine⟨f,Ns.keepAt h1 λo e=>(hs.2 _ locNe).trans e,?_⟩
   exact {
    val:=λy u e l=>by
     rcases az e with⟨rfl,_⟩|⟨hne,e',_⟩
     ·rw[hx]at l;cases l
     ·obtain⟨w,h2,h3⟩:=L.val y u e' l;exact⟨w,h2,h3.own hs d hL (F.ok y u e')⟩
    add:=λy z e l=>by
     rcases az e with⟨rfl,_⟩|⟨hne,e',_⟩
     ·rw[hx]at l;cases l
     ·obtain⟨b,a,h2,h3,nd,nt,hb⟩:=L.add y z e' l;exact⟨b,a,h2,h3,nd,nt,k.keep b _ (λq=>nd (mD _ q)) nt hb⟩
    aft:=λy u a e g l h1=>by
     rcases az e with⟨rfl,_⟩|⟨hne,e',_⟩
     ·rw[hx]at l;cases l
     ·exact L.aft y u a e' g l h1
    one:=λy z u w a e1 e2 g1 g2 l1 l2 h1 h2=>by
     rcases az e1 with⟨rfl,_⟩|⟨hne1,e1',_⟩
     ·rw[hx]at l1;cases l1
     ·rcases az e2 with⟨rfl,_⟩|⟨hne2,e2',_⟩
      ·rw[hx]at l2;cases l2
      ·exact L.one y z u w a e1' e2' g1 g2 l1 l2 h1 h2}
  cv:=λy u c' e l hcl=>by
   rcases az e with⟨rfl,rfl⟩|⟨hne,e',_⟩
   ·rw[hc]at hcl;cases hcl;exact⟨p,v,hn,r.own hs d hL (bH p)⟩
   ·obtain⟨p',w,h1,h2⟩:=F.cv y u c' e' l hcl;have:c'≠c:=λq=>hne (F.du x y c hx l hc (q▸hcl)).symm;exact⟨p',w,IsCell.keepAt h1 λo ho=>(hs.2 c' this).trans ho,h2.own hs d hL (bH p')⟩
  dc:=λy c' e hcl=>by
   by_cases q:c'=c
   ·subst q;exact⟨d,_,hn⟩
   ·obtain⟨d',w,h1⟩:=F.dc y c' e hcl;exact⟨d',w,IsCell.keepAt h1 λo ho=>(hs.2 c' q).trans ho⟩
  bnd:=λa d=>⟨(F.bnd a d).1,by show a<h'.objs.size;rw[hs.1];exact(F.bnd a d).2⟩
  ok:=λy u e=>by
   rcases az e with⟨rfl,rfl⟩|⟨_,e',_⟩
   ·exact bH p
   ·exact F.ok y u e'}
theorem aX(p:mv.plain=true):dy mv=false:=by cases mv<;>first|rfl|exact Bool.noConfusion p
theorem cx(O:V.Ok)(F:FrX V θ D sc ρ env s)(W:Wd V s)(tk:1<=s.toks)(hc:aR sc x=true)(p:mv.plain=true)(r:Rp V.W9 θ D s.heap mv v)
  (hQ:∀s',St V (Own D env.locals) s s'->1<=s'.toks->s'.heap.objs.size=s.heap.objs.size->FrX V θ D sc (ae ρ x mv) env s'->Q () s'):wpAny (model V.prog V.w) A (storeName env x v) Q E s:=by
 unfold aR at hc
 have hk:sc.lookup x=some .local\/sc.lookup x=some .cell:=by
  cases hx:sc.lookup x with
  |none=>rw[hx]at hc;exact Bool.noConfusion hc
  |some k=>rw[hx]at hc;cases k<;>first|exact Bool.noConfusion hc|exact .inl rfl|exact .inr rfl
 rcases hk with hx|hx
 ·obtain⟨f,hn,L⟩:=F.loc;refine wpAny_storeName_local (F.scl x hx) hn (λh' hn' hs'=>?_) (by rw[F.kind];rfl);refine hQ _ (St.same O W hs' ⟨F.dl,OP _⟩ (F.bnd _ F.dl).1 _ (cy hn)) (OK tk) hs'.1 ?_;exact F.store hn L hn' hs' hx r (bH p) (λg=>Bool.noConfusion ((aX p).symm.trans g)) (λg=>Bool.noConfusion ((aX p).symm.trans g)) (λy e=>by subst e;exact Bool.noConfusion p)
 ·obtain⟨c,hcl⟩:=F.cl x (.inl hx);obtain⟨d,v0,ho⟩:=F.dc x c hx hcl;refine wpAny_storeName_cell F.kind (F.sck x hx) hcl ho λh' hn' hs'=>?_;refine hQ _ (St.same O W hs' ⟨d,F.ca x c hx hcl⟩ (F.ct x c (.inl hx) hcl) _ (rR ho)) tk hs'.1 ?_;exact F.storeCell (tk:=s.toks) hx hcl hn' hs' r p
theorem j7(O:V.Ok):∀{ts:List (Ph->Sem Unit)} {ms:List MV} {vs:List Ph} {ρ:Rho} {s:Pg} {Q:Unit->Pg->Prop},
  (∀(i:Nat) t x v Q E s',ts[i]?=some t->xs[i]?=some x->wpAny (model V.prog V.w) A (storeName env x v) Q E s'->wpAny (model V.prog V.w) A (t v) Q E s')->ts.length=xs.length->ms.length=xs.length->
  FrX V θ D sc ρ env s->Wd V s->1<=s.toks->(∀x∈xs,aR sc x=true)->aa ms=true->RpL V.W9 θ D s.heap ms vs->
  (∀s',St V (Own D env.locals) s s'->1<=s'.toks->FrX V θ D sc (gM ρ xs ms) env s'->Q () s')->wpAny (model V.prog V.w) A (assignInOrder ts vs) Q E s:=by
 induction xs with
 |nil=>
  intro ts ms vs ρ s Q ht l1 l2 F W tk hc p r hQ;cases ts with
  |cons _ _=>exact Nat.noConfusion l1
  |nil=>
   cases ms with
   |cons _ _=>exact Nat.noConfusion l2
   |nil=>cases r;exact Oz (hQ _ (.refl W _) tk F)
 |cons x xs ih=>
  intro ts ms vs ρ s Q ht l1 l2 F W tk hc p r hQ;cases ts with
  |nil=>exact Nat.noConfusion l1
  |cons t ts=>
   cases ms with
   |nil=>exact Nat.noConfusion l2
   |cons m ms=>obtain⟨v,vr,rfl,r1,r2⟩:=r;have p':m.plain=true/\aa ms=true:=ba p;refine(?_:wpAny _ A (do holding vr (t v);assignInOrder ts vr) _ _ _);refine OB (OJ (ht 0 t x v _ _ _ rfl rfl (cx O F W tk (hc x List.mem_cons_self) p'.1 r1 λw99 st1 t1 _ F1=>?_)));exact ih (λi t x v Q E s' h1 h2=>ht (i+1) t x v Q E s' h1 h2) (Nat.succ.inj l1) (Nat.succ.inj l2) F1 st1.wd t1 (λy hy=>hc y (List.mem_cons_of_mem _ hy)) p'.2 (RpL.keep st1.keep (λ_ d=>d.1) _ _ p'.2 r2) λw98 st2 t2 F2=>hQ _ (st1.trans st2) t2 F2
theorem lg(h:bg x=true):(x==("__debug__":Str))=false/\(x==("__classdict__":Str))=false:=by unfold bg at h;rw[Bool.and_eq_true]at h;have a:=h.1;have b:=h.2;simp only [bne_iff_ne,ne_eq]at a b;exact⟨beq_eq_false_iff_ne.mpr a,beq_eq_false_iff_ne.mpr b⟩
theorem d9(F:FrX V θ D sc ρ env s)(hx:sc.lookup x=some .local)(hn:bg x=true)(h:ρ.lookup x=some mv)
  (hQ:∀m v,s.heap.Ns env.locals m->LocOk V.W9 θ D s.heap sc ρ m env.locals->m x=some v->Rp V.W9 θ D s.heap mv v->Q v s):wpAny (model V.prog V.w) A (eval (.Name x pos) env) Q E s:=by
 obtain⟨m,h1,L⟩:=F.loc;obtain⟨u,hm,hr⟩:=L.val x mv h hx;exact wpAny_Name (wpAny_loadName_local F.kind (F.scl x hx) h1 hm (hQ m u h1 L hm hr)) (lg hn).1
end
structure Out (V:Vw) (st:Bool) (θ:Pn) (D:Pn->Prop) (s:Pg) (sc:Sc) (ρ':Rho) (env:Env) (w97:Pn) (D':Pn->Prop) (s':Pg):Prop where
 sta:St V (Own D env.locals) s s'
 tk:1<=s'.toks
 up:∀a,D a->a<env.locals->D' a
 new:∀a,D' a->D a\/s.heap.objs.size<=a
 F:FrX V w97 D' sc ρ' env s'
 th:w97=θ\/st=true
noncomputable def FlR(V:Vw)(θ:Pn)(D:Pn->Prop)(s:Pg)(L:Pn):MFl->Flow->Prop
 | .next,.next=>True
 | .brk,.brk=>True
 | .ret v,.ret u=>v.plain=true/\∀w9V:Pn->Prop,(∀a,w9V a->D a)->(∀a,w9V a->a<L)->Rp V.W9 θ w9V s.heap v u
 |_,_=>False
theorem Out.of{V:Vw}{st:Bool}{θ:Pn}{D:Pn->Prop}{s s':Pg}{sc:Sc}{ρ':Rho}{env:Env}(x:St V (Own D env.locals) s s')(t:1<=s'.toks)(F:FrX V θ D sc ρ' env s'):Out V st θ D s sc ρ' env θ D s':=
 ⟨x,t,λ_ d _=>d,λ_ d=> .inl d,F,.inl rfl⟩
theorem Out.trans{V:Vw}{st:Bool}{θ w9M w9L:Pn}{D w9K w9J:Pn->Prop}{s w99 w98:Pg}{sc:Sc}{w92 w9I:Rho}{env:Env}(x:Out V st θ D s sc w92 env w9M w9K w99)(y:Out V st w9M w9K w99 sc w9I env w9L w9J w98):Out V st θ D s sc w9I env w9L w9J w98 where
 sta:=⟨⟨OA x.sta.keep.size y.sta.keep.size,λa o d t e=>y.sta.keep.keep a o (λq=>(x.new a q.1).elim (λz=>d ⟨z,q.2⟩) λz=>O8 (OF e) (OU.mpr z)) t (x.sta.keep.keep a o d t e),λa o t c e=>y.sta.keep.code a o t c (x.sta.keep.code a o t c e)⟩,y.sta.wd⟩
 tk:=y.tk
 up:=λa d l=>y.up a (x.up a d l) l
 new:=λa d=>(y.new a d).elim (x.new a) λz=> .inr (OA x.sta.keep.size z)
 F:=y.F
 th:=by
  rcases y.th with h|h
  ·rcases x.th with h'|h'
   ·exact .inl (h.trans h')
   ·exact .inr h'
  ·exact .inr h
def dX(V:Vw)(n:Nat)(st:Bool)(sc:Sc)(ρ:Rho)(t:Env->Sem Flow)(fl:MFl)(ρ':Rho):Prop:=
 ∀(A:Po) (θ:Pn) (D:Pn->Prop) (env:Env) (s:Pg) (Q:Flow->Pg->Prop) (E:Ph->Pg->Prop),Room A n->Wd V s->1<=s.toks->FrX V θ D sc ρ env s->
  (∀f w97 D' s',Out V st θ D s sc ρ' env w97 D' s'->FlR V w97 D' s' env.locals fl f->Q f s')->wpAny (model V.prog V.w) A (t env) Q E s
structure SndX (V:Vw) (n:Nat) (x:X):Prop where
 ex:∀sc ρ b fl ρ',x.ex sc ρ b=some (fl,ρ')->dX V n x.st sc ρ (execs b) fl ρ'
section
variable {V:Vw}{n:Nat}{sc:Sc}{ρ:Rho}{p:P}{x:X}(I:SndP V n p)
theorem FrX.sub(F:FrX V θ D sc ρ env s)(up:∀y u,ρ'.lookup y=some u->ρ.lookup y=some u):FrX V θ D sc ρ' env s:={F with
  loc:=by obtain⟨m,h1,L⟩:=F.loc;exact⟨m,h1,{
   val:=λy u e l=>L.val y u (up y u e) l
   add:=λy z e l=>L.add y z (up _ _ e) l
   aft:=λy u a e=>L.aft y u a (up _ _ e)
   one:=λy z u w a e1 e2=>L.one y z u w a (up _ _ e1) (up _ _ e2)}⟩
  cv:=λy u c e=>F.cv y u c (up _ _ e)
  ok:=λy u e=>F.ok y u (up _ _ e)}
include I
theorem Ki{X':SndX V n x}{t:Pm}{b o:List Pq}{pos:Pos}{fl:MFl}{ρ':Rho}(h:((p.tst sc ρ t).bind λc=>if c then x.ex sc ρ b else x.ex sc ρ o)=some (fl,ρ')):dX V (n+1) x.st sc ρ (exec (.If t b o pos)) fl ρ':=by
 intro A θ D env s Q E R W tk F hQ;rcases ew h with⟨h1,h⟩|⟨h1,h⟩<;>
 exact wpAny_If (I.tst _ _ _ _ h1 A θ D env s _ E R.pred W tk F λw99 st1 t1=>X'.ex _ _ _ _ _ h A θ D env w99 Q E R.pred st1.wd t1 (F.st st1) λf w97 D' s' o fr=>hQ f w97 D' s' ((Out.of st1.any t1 (F.st st1)).trans o) fr)
theorem xe{st:Bool}{t:Pm}{m:Pj Pm}{pos:Pos}(h:p.tst sc ρ t=some true):dX V (n+1) st sc ρ (exec (.Assert t m pos)) .next ρ:=by intro A θ D env s Q E R W tk F hQ;exact wpAny_Assert_holds (I.tst _ _ _ _ h A θ D env s _ E R.pred W tk F λw99 st1 t1=>⟨rfl,hQ _ _ _ _ (Out.of st1.any t1 (F.st st1)) trivial⟩)
theorem xf{st:Bool}{e:Pm}{pos:Pos}{v:MV}(h:p.ev sc ρ e=some v)(hp:v.plain=true):dX V (n+1) st sc ρ (exec (.Return (some e) pos)) (.ret v) ρ:=by intro A θ D env s Q E R W tk F hQ;exact wpAny_Return_some (I.ev _ _ _ _ h A θ D env s _ E R.pred W tk F λu w99 st1 t1 r1=>hQ _ _ _ _ (Out.of st1.any t1 (F.st st1)) ⟨hp,λw9V up _=>Rp.wide (λa _ q=>up a q) _ _ hp r1⟩)
omit I in
theorem nU{st:Bool}{z:Str}{q pos:Pos}{l:List MV}(hz:sc.lookup z=some .local)(hn:bg z=true)(h:ρ.lookup z=some (.grow l))(hp:aa l=true):dX V (n+1) st sc ρ (exec (.Return (some (.Name z q)) pos)) (.ret (.list l)) ρ:=by intro A θ D env s Q E R W tk F hQ;refine wpAny_Return_some (d9 F hz hn h λm v hm L hv r=>hQ _ _ _ _ (Out.of (.refl W _) tk F) ⟨hp,λw9V up lt=>?_⟩);obtain⟨a,vs,rfl,d,t,hl,r'⟩:=r;exact⟨a,vs,rfl,λq=>O8 (lt a q) (OU.mpr (OL (L.aft z _ a h rfl hz hv))),t,hl.isList,RpL.wide (λa _ q=>up a q) _ _ hp r'⟩
theorem Ao(F:FrX V θ D sc ρ env s)(hc:aR sc y=true)(h:ρ.lookup y=some mv)(hy:bg y=true)
  (hQ:∀v,Rp V.W9 θ D s.heap mv v->Q v s):wpAny (model V.prog V.w) A (loadName env y) Q E s:=by
 unfold aR at hc;split at hc
 ·rename_i hx;obtain⟨m,h1,L⟩:=F.loc;obtain⟨u,hm,hr⟩:=L.val y mv h hx;exact wpAny_loadName_local F.kind (F.scl y hx) h1 hm (hQ u hr)
 ·rename_i hx;obtain⟨c,hcl⟩:=F.cl y (.inl hx);obtain⟨_,v,h1,h2⟩:=F.cv y mv c h (.inl hx) hcl;exact wpAny_loadName_cell F.kind (F.sck y hx) hcl h1 (hQ v h2)
 ·cases hc
theorem G7{st:Bool}(O:V.Ok){y:Str}{e:Pm}{q pos:Pos}{a b:Int}(hc:aR sc y=true)(hy:bg y=true)(h1:ρ.lookup y=some (.int a))(h2:p.ev sc ρ e=some (.int b)):
  dX V (n+1) st sc ρ (exec (.AugAssign (.Name y q) .Add e pos)) .next (ae ρ y (.int (a+b))):=by
 intro A θ D env s Q E R W tk F hQ;refine wpAny_AugAssign_Name (Ao I F hc h1 hy λv r=>?_);obtain⟨t,rfl⟩:=r;refine I.ev _ _ _ _ h2 A θ D env s _ E R.pred W tk F λu w99 st1 t1 r1=>?_;obtain⟨t',rfl⟩:=r1;refine cP t1 (PySem.P.iadd_int λt2=>?_);have st2:=st1.trans (.toks st1.wd _ (w99.toks+1));refine cx O (F.st st2) st2.wd t2 hc (mv:= .int (a+b)) rfl ⟨_,rfl⟩ λw98 st3 t3 _ F3=>?_;exact hQ _ _ _ _ (Out.of (st2.any.trans st3) t3 F3) trivial
theorem nV{st:Bool}(O:V.Ok){y:Str}{e:Pm}{q pos:Pos}{v:MV}(hc:aR sc y=true)(h:p.ev sc ρ e=some v)(hp:v.plain=true)(hs:∀env,env.scope.kind= .function->(sc.lookup y=some .cell->env.kindOf y=some .cell)->(sc.lookup y=some .local->env.kindOf y=some .local)->swapsWith e (some (.Name y q)) pos.line env=pure false):
  dX V (n+1) st sc ρ (exec (.Assign [.Name y q] e pos)) .next (ae ρ y v):=by
 intro A θ D env s Q E R W tk F hQ;refine wpAny_Assign_Name (I.ev _ _ _ _ h A θ D env s _ E R.pred W tk F λu w99 st1 t1 r1=>?_) (hs env F.kind (F.sck y) (F.scl y));exact cx O (F.st st1) st1.wd t1 hc hp r1 λw98 st2 t2 _ F2=>hQ _ _ _ _ (Out.of (st1.any.trans st2) t2 F2) trivial
theorem nW{st:Bool}(O:V.Ok){y:Str}{elt:Pm}{gens:List Comprehension}{scope:Scope}{cp q pos:Pos}{v:MV}(hy:sc.lookup y=some .local)(hu:eA scope y q.line cp.line=true)(h:dj p sc ρ elt scope gens=some v):
  dX V (n+1) st sc ρ (exec (.Assign [.Name y q] (.ListComp elt gens scope cp) pos)) .next (ae ρ y v):=by
 revert I O hy hu h;exists V,n,sc,ρ,p,st,y,elt,gens,scope,cp,q,pos,v;obtain⟨g,gs,rfl,h0,hns,hok,hp,walk⟩:=qA (pos:=cp) I O h;obtain⟨t',i',f',a'⟩:=g;simp only at h0;subst h0;intro A θ D env s Q E R W tk F hQ;obtain⟨hkind,hs⟩:=d8 hok
 have hsw:swapsWith (.ListComp elt (⟨t',i',f',0⟩::gs) scope cp) (some (.Name y q)) pos.line env=pure true:=by
  unfold eA at hu;rw[Bool.and_eq_true]at hu;have hbk:env.blockKind= .function:=by unfold Env.blockKind;rw[F.kind];rfl
  refine(?_:(pure (env.blockKind== .function&&env.kindOf y==some .local&&q.line==cp.line&& !(scope.names.any λ(n,k)=>n==y&&(k== .local||k== .cell))):Sem Bool)=pure true);rw[hbk,F.scl y hy,hu.1,hu.2];rfl
 rw[exec_Assign_Name_used _ _ _ _ hsw];refine wpB (OZ (wpB ?_));refine(?_:wpAny _ A (do let _ <-comprehension (.ListComp elt (⟨t',i',f',0⟩::gs) scope cp) scope env _ (newList []) false (eval i' env) (some (assign (.Name y q) env))) _ _ s);refine wpB (OV (Q:=λ_ s'=>Q .next s') (E:=E) (wpAny_comprehension_free (use:=some (assign (.Name y q) env)) rfl (rY hns) (jv λx hx e=>?_) hkind (λy hy e=>?_) (walk A θ D env s E _ R.pred W tk F λacc C s' hC hA hne st' t hn r=>?_)) (λ_ s' hq=>Oz (Oz hq)) λ_ _ e=>e)
 ·rcases hs x hx with⟨e',_⟩|⟨_,e',_⟩|⟨e',_⟩
  ·rw[e]at e';cases e'
  ·exact F.cl _ e'
  ·rw[e]at e';cases e'
 ·rcases hs y hy with⟨_,e'⟩|⟨e',_,_⟩|⟨e',_⟩
  ·exact e'
  ·rw[e]at e';cases e'
  ·rw[e]at e';cases e'
 ·obtain⟨m,hn⟩:=hn;refine(?_:wpAny _ A (assign (.Name y q) env (.ref acc)) _ _ _)
  have cD:∀a,D a->a≠C:=λa d q=>by subst q;exact O8 (F.bnd _ d).2 (OU.mpr hC)
  have hge:175<=C:=OA W.size hC;have F1:FrX V θ (λa=>D a\/a=C) sc ρ env s':=F.widenSt st'.keep (λa ha q=>q.elim id λe=>O8 ha (by subst e;exact OU.mpr hC)) (λa d=> .inl d) (λa q=>q.elim (λd=>⟨(F.bnd a d).1,OD (F.bnd a d).2 st'.keep.size⟩) λe=>by subst e;exact⟨hge,hn.lt⟩);refine wpAny_assign_Name ?_;obtain⟨f,hn1,L⟩:=F1.loc;refine wpAny_storeName_local (F.scl y hy) hn1 (λw93 w9Q w91=>?_) (by rw[F.kind];rfl);have st2:St V (Own D env.locals) s' {s' with heap:=w93,toks:=s'.toks+1}:=St.same O st'.wd w91 ⟨F.dl,OP _⟩ (F.bnd _ F.dl).1 _ (cy hn1);have F2:FrX V θ (λa=>D a\/a=C) sc (ae ρ y v) env {s' with heap:=w93,toks:=s'.toks+1}:=F1.store hn1 L w9Q w91 hy r (bH hp) (λg=>Bool.noConfusion ((aX hp).symm.trans g)) (λg=>Bool.noConfusion ((aX hp).symm.trans g)) (λy e=>by subst e;exact Bool.noConfusion hp);have hnC:w93.Ns C m:=hn.sameBut w91 λq=>cD _ F.dl q.symm;refine⟨m,hnC,λw94 w9H=>?_⟩;have st3:St V (λa=>a=C) {s' with heap:=w93,toks:=s'.toks+1} {s' with heap:=w94,toks:=s'.toks+1}:=St.same O (D:=λa=>a=C) st2.wd w9H rfl hge _ (cy hnC);have F3:=F2.other (tk:=s'.toks+1) w9H (.inr rfl) hnC (cD _ F.dl);refine hQ _ θ (λa=>D a\/a=C) _ {sta:=⟨⟨OA st'.keep.size (OA st2.keep.size st3.keep.size),λa o d t e=>?_,λa o t c e=>st3.keep.code a o t c (st2.keep.code a o t c (st'.keep.code a o t c e))⟩,st3.wd⟩,tk:=OK t,up:=λa d _=> .inl d,new:=λa q=>q.elim .inl λe=> .inr (e▸hC),F:=F3,th:= .inl rfl} trivial;refine st3.keep.keep a o (λq=>?_) t (st2.keep.keep a o d t (st'.keep.keep a o (λq=>q) t e));have q':a=C:=q;subst q';exact O8 (OF e) (OU.mpr hC)
end
section
variable {V:Vw}{n:Nat}{sc:Sc}{ρ:Rho}{p:P}{θ:Pn}{D:Pn->Prop}{env:Env}{s:Pg}
theorem Rp.grow_lt{W:World9}{h:Pp}{mv:MV}{a:Pn}(g:dy mv=true)(r:Rp W θ D h mv (.ref a)):a<h.objs.size/\D a/\∃o,h.get? a=some o/\((∃xs k,o.data= .seq xs k)\/(∃xs,o.data= .fields xs)/\o.cls= .type "list_iterator"):=by
 revert g r;exists θ,D,W,h,mv,a;cases mv<;>first|(cases g;done)|skip
 ·obtain⟨b,vs,e,d,t,⟨o,ho,hc,hdc,k,hd⟩,r'⟩:=r;cases e;exact⟨OF ho,d,o,ho,.inl ⟨_,_,hd⟩⟩
 ·obtain⟨b,c,vs,i,e,d,t,⟨o,ho,hc,hd⟩,r'⟩:=r;cases e;exact⟨OF ho,d,o,ho,.inr ⟨⟨_,hd⟩,hc⟩⟩
theorem FrX.upd{ρ':Rho}{h':Pp}{z:Str}{mv mv':MV}{a:Pn}{m:Str->Pj Ph}{tk:Nat}(F:FrX V θ D sc ρ env s)(hn:s.heap.Ns env.locals m)(L:LocOk V.W9 θ D s.heap sc ρ m env.locals)
  (hz:sc.lookup z=some .local) (h:ρ.lookup z=some mv) (g:dy mv=true) (hm:m z=some (.ref a)) (r0:Rp V.W9 θ D s.heap mv (.ref a)) (hs:Heap.SameBut a s.heap h') (g':dy mv'=true) (ok':okv mv'=true) (r:Rp V.W9 θ D h' mv' (.ref a))
  (hup:∀x u,ρ'.lookup x=some u->(x=z/\u=mv')\/(x≠z/\ρ.lookup x=some u)):FrX V θ D sc ρ' env {s with heap:=h',toks:=tk}:=by
 revert F hn L hz h g hm r0 hs g' ok' r hup;exists V,sc,ρ,θ,D,env,s,ρ',h',z,mv,mv',a,m,tk;obtain⟨hlt,hd,o,ho,hdat⟩:=Rp.grow_lt g r0;have k:Keep (λb=>b=a) s.heap h':= .same hs rfl (λo' e=>by rw[ho]at e;cases e;rintro ⟨vs,q,q'⟩;rcases hdat with⟨_,_,z⟩|⟨_,z⟩;(rw[q]at z;cases z);rw[z]at q';simp at q');have mD:∀b,b=a->D b:=λb e=>e▸hd
 have locNe:env.locals≠a:=λe=>by obtain⟨o',es,ep,ho',hd',_⟩:=hn;rw[e,ho]at ho';cases ho';rcases hdat with⟨xs,k,z⟩|⟨⟨xs,z⟩,_⟩<;>(rw[hd']at z;cases z)
 have cellNe:∀c v,s.heap.IsCell c v->c≠a:=λc v ⟨o',ho',hd'⟩ e=>by rw[e,ho]at ho';cases ho';rcases hdat with⟨xs,k,z⟩|⟨⟨xs,z⟩,_⟩<;>(rw[hd']at z;cases z)
 have other:∀x u v,x≠z->ρ.lookup x=some u->sc.lookup x=some .local->m x=some v->Rp V.W9 θ D s.heap u v->Rp V.W9 θ D h' u v:=λx u v hne e l hv r1=>by
  have ok:=F.ok x u e
  by_cases gu:dy u=true
  ·have ne:∀b,v= .ref b->b≠a:=λb e' q=>hne (L.one x z u mv a e h gu g l hz (by rw[hv,e',q]) hm);cases u<;>first|(cases gu;done)|skip
   ·obtain⟨b,vs,e1,d1,t1,hl,r'⟩:=r1;exact⟨b,vs,e1,d1,t1,hl.keepAt λo ho=>(hs.2 b (ne b e1)).trans ho,RpL.keep k mD _ _ ok r'⟩
   ·obtain⟨b,c,vs,i,e1,d1,t1,hi,nc,tc,hl,r'⟩:=r1;exact⟨b,c,vs,i,e1,d1,t1,hi.at λo ho=>(hs.2 b (ne b e1)).trans ho,nc,tc,IsList.keepAt hl λo ho=>k.keep c o (λq=>nc (mD _ q)) tc ho,RpL.keep k mD _ _ ok r'⟩
  ·cases u<;>first|exact Rp.keep k mD _ _ ok r1|exact O8 rfl gu|trivial
 exact {F with
  loc:=⟨m,Ns.keepAt hn λo e=>(hs.2 _ locNe).trans e,{
   val:=λx u e l=>by
    rcases hup x u e with⟨rfl,rfl⟩|⟨hne,e'⟩
    ·exact⟨_,hm,r⟩
    ·obtain⟨v,h1,h2⟩:=L.val x u e' l;exact⟨v,h1,other x u v hne e' l h1 h2⟩
   add:=λx y e l=>by
    rcases hup x _ e with⟨rfl,q⟩|⟨hne,e'⟩
    ·subst q;cases g'
    ·obtain⟨b,c,h1,h2,nd,nt,hb⟩:=L.add x y e' l;exact⟨b,c,h1,h2,nd,nt,k.keep b _ (λq=>nd (mD _ q)) nt hb⟩
   aft:=λx u c e gu l h1=>by
    rcases hup x u e with⟨rfl,rfl⟩|⟨hne,e'⟩
    ·exact L.aft _ mv c h g hz h1
    ·exact L.aft x u c e' gu l h1
   one:=λx y u w c e1 e2 g1 g2 l1 l2 h1 h2=>by
    rcases hup x u e1 with⟨rfl,rfl⟩|⟨hne1,e1'⟩<;>rcases hup y w e2 with⟨rfl,rfl⟩|⟨hne2,e2'⟩
    ·rfl
    ·exact L.one _ y mv w c h e2' g g2 hz l2 h1 h2
    ·exact L.one x _ u mv c e1' h g1 g l1 hz h1 h2
    ·exact L.one x y u w c e1' e2' g1 g2 l1 l2 h1 h2}⟩
  cv:=λx u c e l hc=>by
   rcases hup x u e with⟨rfl,rfl⟩|⟨hne,e'⟩
   ·rw[hz]at l;rcases l with l|l<;>cases l
   ·obtain⟨p,v,h1,h2⟩:=F.cv x u c e' l hc;exact⟨p,v,IsCell.keepAt h1 λo ho=>(hs.2 c (cellNe c _ h1)).trans ho,Rp.keep k mD _ _ p h2⟩
  dc:=λx c e hc=>by obtain⟨d,v,h1⟩:=F.dc x c e hc;exact⟨d,v,IsCell.keepAt h1 λo ho=>(hs.2 c (cellNe c _ h1)).trans ho⟩
  bnd:=λb d=>⟨(F.bnd b d).1,by show b<h'.objs.size;rw[hs.1];exact(F.bnd b d).2⟩
  ok:=λx u e=>by
   rcases hup x u e with⟨rfl,rfl⟩|⟨hne,e'⟩
   ·exact ok'
   ·exact F.ok x u e'}
theorem qC(O:V.Ok){st:Bool}{A:Po}{y:Str}{mv:MV}{ob:Obj}{Q:Flow->Pg->Prop}{E:Pr}{tk:Nat}(F:FrX V θ D sc ρ env s)(W:Wd V s)(htk:1<=tk)(hy:sc.lookup y=some .local)(ok:okv mv=true)(hna:∀z,mv≠ .adder z)
  (r:(∀a,D a->a<s.heap.objs.size)->(s.heap.push ob).get? s.heap.objs.size=some ob->Rp V.W9 θ (λa=>D a\/a=s.heap.objs.size) (s.heap.push ob) mv (.ref s.heap.objs.size)) (hfr:ob.isFreed=false)
  (hQ:∀f w97 D' s',Out V st θ D s sc (ae ρ y mv) env w97 D' s'->FlR V w97 D' s' env.locals .next f->Q f s'):
  wpAny (model V.prog V.w) A (storeName env y (.ref s.heap.objs.size)) (λ_=>Q .next) E {s with heap:=s.heap.push ob,toks:=tk}:=by
 have st1:St V none9 s {s with heap:=s.heap.push ob,toks:=tk}:=St.push O W none9 ob tk;have hge:175<=s.heap.objs.size:=W.size;have F1:FrX V θ (λa=>D a\/a=s.heap.objs.size) sc ρ env {s with heap:=s.heap.push ob,toks:=tk}:=
  F.widenSt st1.keep (λa ha q=>q.elim id λe=>O8 ha (by subst e;exact OM _)) (λa d=> .inl d)
   (λa q=>q.elim (λd=>⟨(F.bnd a d).1,OD (F.bnd a d).2 st1.keep.size⟩) λe=>by subst e;exact⟨hge,by show _<(s.heap.push ob).objs.size;rw[Heap.size_push];exact O6 _⟩)
 obtain⟨f,hn,L⟩:=F1.loc;obtain⟨f0,hn0,L0⟩:=F.loc
 have ff:∀x,f x=f0 x:=λx=>by obtain⟨o,es,ep,ho,hd,hk,hf⟩:=hn;obtain⟨o',es',ep',ho',hd',hk',hf'⟩:=hn0;have:(s.heap.push ob).get? env.locals=some o':=OC _ ho';have ho2:(s.heap.push ob).get? env.locals=some o:=ho;rw[this]at ho2;cases ho2;rw[hd']at hd;cases hd;rw[<-hf x,<-hf' x]
 refine wpAny_storeName_local (F.scl y hy) hn (λh' hn' hs'=>?_) (by rw[F.kind];rfl);have st2:St V (Own D env.locals) {s with heap:=s.heap.push ob,toks:=tk} {s with heap:=h',toks:=tk+1}:=St.same O st1.wd hs' ⟨F.dl,OP _⟩ (F.bnd _ F.dl).1 _ (cy hn);have F2:=F1.store (tk:=tk+1) hn L hn' hs' hy (r (λa d=>(F.bnd a d).2) (OE _ hfr)) ok
  (λg a e x u hne hu gu hx hm=>by cases e;rw[ff]at hm;obtain⟨v,hv,hr⟩:=L0.val x u hu hx;rw[hm]at hv;cases hv;exact O8 (Rp.grow_lt gu hr).1 (OM _))
  (λg a e=>by cases e;exact(F.bnd _ F.dl).2)
  (λz e=>O8 e (hna z))
 exact hQ _ θ (λa=>D a\/a=s.heap.objs.size) _ {sta:=st1.any.trans st2,tk:=OK htk,up:=λa d _=> .inl d,new:=λa q=>q.elim .inl λe=> .inr (e▸OP _),F:=F2,th:= .inl rfl} trivial
theorem uu(O:V.Ok){st:Bool}{y:Str}{q lp pos:Pos}(hy:sc.lookup y=some .local):dX V (n+1) st sc ρ (exec (.Assign [.Name y q] (.List [] lp) pos)) .next (ae ρ y (.grow [])):=by intro A θ D env s Q E R W tk F hQ;refine wpAny_Assign_Name ?_;refine wpAny_List_spliced (spliced_nil ⟨by simp,?_⟩);exact qC O (tk:=s.toks) F W tk hy (mv:= .grow []) rfl (λz e=>nomatch e) (λlt hg=>⟨_,[],rfl,.inr rfl,W.newTab,⟨_,hg,rfl,rfl,_,rfl⟩,rfl⟩) rfl hQ
theorem CL(O:V.Ok)(hc:aR sc y=true)(hno:jC ρ=true):dX V (n+1) true sc ρ (exec (.Assign [.Name y q] (.List [.Constant (.str x) k cp] lp) pos)) .next (ae ρ y .opq):=by intro A θ D env s Q E R W tk F hQ;refine wpAny_Assign_Name ?_;refine wpAny_List_spliced (spliced_cons (x:=eval (.Constant (.str x) k cp) env) ?_);refine(?_:wpAny _ A (constValue env (.str x)) _ _ s);refine O3 (spliced_nil ⟨by simp;rw[sizeLine_eq];lia,?_⟩);have st1:=St.push O (W.toks (s.toks+1)) none9 {cls:= .type "list",data:= .seq (List.toArray [Value.str x s.toks])};have F1:FrX V s.heap.objs.size D sc ρ env {s with toks:=s.toks+1,heap:=s.heap.push {cls:= .type "list",data:= .seq (List.toArray [Value.str x s.toks])}}:=FrX.keep0 (s':={s with toks:=s.toks+1,heap:=s.heap.push {cls:= .type "list",data:= .seq (List.toArray [Value.str x s.toks])}}) (F.star hno) st1.keep;refine cx O (mv:= .opq) F1 st1.wd (by simp) hc rfl rfl λw98 st2 t2 _ F2=>?_;exact hQ _ s.heap.objs.size D _ {sta:=((St.toks W none9 (s.toks+1)).trans st1).any.trans st2,tk:=t2,up:=λa d _=>d,new:=λa d=> .inl d,F:=F2,th:= .inr rfl} trivial
theorem xg(O:V.Ok)(hc:aR sc y=true)(hno:jC ρ=true)(hg:sc.lookup (sx "object")=some .globalImplicit):
  dX V (n+1) true sc ρ (exec (.Assign [.Name y q] (.Call (.Name (sx "object") fq) [] [] u) pos)) .next (ae ρ y .opq):=by
 intro A θ D env s Q E R W tk F hQ;refine wpAny_Assign_Name (wpAny_Call_NameR ?_);refine iv O (mv:= .ex (.type "object")) (n:=n) (by left) (by rw[hg];rfl) A θ D env s _ E R.pred W tk F λv w99 st1 t1 r1=>?_;cases r1;refine PySem.callWith_type rfl (PyProof.Rows.evalArgs_none (ur ?_));have st2:=St.push O st1.wd none9 {cls:= .type "object"};have F1:FrX V w99.heap.objs.size D sc ρ env {w99 with heap:=w99.heap.push {cls:= .type "object"}}:=FrX.keep0 (s':={w99 with heap:=w99.heap.push {cls:= .type "object"}}) ((F.st st1).star hno) st2.keep;refine cx O (mv:= .opq) F1 st2.wd t1 hc rfl rfl λw98 st3 t2 _ F2=>?_;exact hQ _ w99.heap.objs.size D _ {sta:=(st1.any.trans st2.any).trans st3,tk:=t2,up:=λa d _=>d,new:=λa d=> .inl d,F:=F2,th:= .inr rfl} trivial
theorem uv(I:SndP V n p)(O:V.Ok){st:Bool}{y:Str}{q fq u pos:Pos}{e:Pm}{l:List MV}(hy:sc.lookup y=some .local)(hg:sc.lookup (sx "iter")=some .globalImplicit)(hs:notStar e=true)(h:p.ev sc ρ e=some (.list l))(hp:aa l=true):
  dX V (n+1) st sc ρ (exec (.Assign [.Name y q] (.Call (.Name (sx "iter") fq) [e] [] u) pos)) .next (ae ρ y (.iter l)):=by
 intro A θ D env s Q E R W tk F hQ;refine wpAny_Assign_Name (wpAny_Call_NameR ?_);refine iv O (mv:= .ex (.builtin "iter")) (n:=n) (by left) (by rw[hg];rfl) A θ D env s _ E R.pred W tk F λv w99 st1 t1 r1=>?_;cases r1;rw[aW hs];refine callWith_builtin rfl (evalArgs_plain (spliced_cons (x:=eval e env) (I.ev _ _ _ _ h A θ D env w99 _ E R.pred st1.wd t1 (F.st st1) λv w98 st2 t2 r2=>spliced_nil ?_)));obtain⟨a,vs,rfl,d,t,hl,r'⟩:=r2;refine Am hl ?_;have F2:=(F.st st1).st st2;refine qC O (tk:=w98.toks) F2 st2.wd t2 hy (mv:= .iter l) hp (λz e=>nomatch e) (λlt hg=>?_) rfl λf w97 D' s' o fr=>hQ f w97 D' s' ((Out.of (st1.trans st2).any t2 F2).trans o) fr;refine⟨_,a,vs,0,rfl,.inr rfl,st2.wd.newTab,⟨_,hg,rfl,rfl⟩,λq=>q.elim d λe=>?_,t,hl.push _,?_⟩
 ·subst e;exact OM _ (IsList.lt hl)
 ·exact RpL.keep0 (.push none9 _ _) _ _ (RpL.wide (D:=D) (λa ha q=>q.elim id λe=>by subst e;exact O8 ha (OM _)) _ _ hp r')
end
section
variable {V:Vw}{n:Nat}{sc:Sc}{ρ:Rho}{p:P}
theorem Ap(O:V.Ok){st:Bool}{y z:Str}{q zq aq pos:Pos}{l:List MV}(hy:sc.lookup y=some .local)(hz:sc.lookup z=some .local)(hne:y≠z)(hn:bg z=true)(h:ρ.lookup z=some (.grow l)):
  dX V (n+1) st sc ρ (exec (.Assign [.Name y q] (.Attribute (.Name z zq) (sx "append") aq) pos)) .next (ae ρ y (.adder z)):=by
 intro A θ D env s Q E R W tk F hQ;refine wpAny_Assign_Name (Attribute_name (d9 F hz hn h λm v hm L hv r=>?_));obtain⟨a,vs,rfl,d,t,hl,r'⟩:=r;refine G1 hl ?_;have st1:=St.push O W none9 (bm a) (s.toks+1);have F1:=F.st st1;obtain⟨f,hnf,Lf⟩:=F1.loc;have hb:(s.heap.push (bm a)).get? s.heap.objs.size=some (w0 a):=OE _ rfl
 have ff:∀x,f x=m x:=λx=>by obtain⟨o,es,ep,ho,hd,hk,hf⟩:=hnf;obtain⟨o',es',ep',ho',hd',hk',hf'⟩:=hm;have:(s.heap.push (bm a)).get? env.locals=some o':=OC _ ho';have ho2:(s.heap.push (bm a)).get? env.locals=some o:=ho;rw[this]at ho2;cases ho2;rw[hd']at hd;cases hd;rw[<-hf x,<-hf' x]
 refine wpAny_storeName_local (F.scl y hy) hnf (λh' hn' hs'=>?_) (by rw[F.kind];rfl);have st2:St V (Own D env.locals) {s with heap:=s.heap.push (bm a),toks:=s.toks+1} {s with heap:=h',toks:=s.toks+1+1}:=St.same O st1.wd hs' ⟨F.dl,OP _⟩ (F.bnd _ F.dl).1 _ (cy hnf);have F2:=F1.store (tk:=s.toks+1+1) hnf Lf hn' hs' hy (mv:= .adder z) (v:= .ref s.heap.objs.size) trivial rfl (λg=>nomatch g) (λg=>nomatch g)
  (λy' e=>by cases e;exact⟨λq=>hne q.symm,_,a,rfl,by rw[ff,hv],F.bnd.new,W.newTab,hb⟩)
 exact hQ _ _ _ _ (Out.of (st1.any.trans st2) (by simp) F2) trivial
theorem qD(O:V.Ok){st:Bool}{θ:Pn}{D:Pn->Prop}{env:Env}{s:Pg}{y:Str}{l:List MV}{v:MV}{Q:Flow->Pg->Prop}{m:Str->Pj Ph}{a:Pn}{vs:List Ph}{u:Ph}{h':Pp}
  (F:FrX V θ D sc ρ env s) (W:Wd V s) (tk:1<=s.toks) (hm:s.heap.Ns env.locals m) (L:LocOk V.W9 θ D s.heap sc ρ m env.locals) (hy:sc.lookup y=some .local) (h:ρ.lookup y=some (.grow l)) (hv:m y=some (.ref a))
  (d:D a) (t:¬aJ a) (hl:GL s.heap a (List.toArray vs)) (r:RpL V.W9 θ D s.heap l vs) (ru:Rp V.W9 θ D s.heap v u) (hp:v.plain=true) (hl':GL h' a ((List.toArray vs).push u)) (hs:Heap.SameBut a s.heap h')
  (hQ:∀f w97 D' s',Out V st θ D s sc ((y,.grow (l++[v]))::ρ.filter λp=>p.1 != y) env w97 D' s'->FlR V w97 D' s' env.locals .next f->Q f s'):Q .next {s with heap:=h'}:=by
 have k:Keep (λb=>b=a) s.heap h':= .same hs rfl (eU hl.isList);have mD:∀b,b=a->D b:=λb e=>e▸d;have hpl:aa l=true:=F.ok y _ h;have st1:St V (Own D env.locals) s {s with heap:=h'}:=St.same O W hs ⟨d,OL (L.aft y _ a h rfl hy hv)⟩ (F.bnd _ d).1 s.toks (eU hl.isList);refine hQ _ _ _ _ (Out.of st1 tk (F.upd (tk:=s.toks) hm L hy h rfl hv ⟨a,vs,rfl,d,t,hl,r⟩ hs (mv':= .grow (l++[v])) rfl ?_ ⟨a,vs++[u],rfl,d,t,by simpa using hl',(RpL.keep k mD _ _ hpl r).append ⟨u,[],rfl,Rp.keep k mD _ _ hp ru,rfl⟩⟩ λx w e=>?_)) trivial
 ·exact cI hpl (OR.mpr ⟨hp,rfl⟩)
 ·rw[List.lookup_cons]at e
  by_cases hx:x=y
  ·subst hx;simp at e;exact .inl ⟨rfl,e.symm⟩
  ·have hb:(x==y)=false:=by simpa using hx
   rw[hb]at e;dsimp only at e;rw[bS (λz=>z != y)]at e;rw[if_pos (by simpa using hx)]at e;exact .inr ⟨hx,e⟩
theorem ja(hs:notStar e=true)(h:p.ev sc ρ e=some v):aT p sc ρ [e]=some [v]:=by unfold aT;rw[if_pos hs,h];rfl
theorem xh(I:SndP V n p)(O:V.Ok){st:Bool}{y:Str}{yq apos cpos pos:Pos}{e:Pm}{l:List MV}{v:MV}(hy:sc.lookup y=some .local)(hn:bg y=true)(hl:(apos.endLine==cpos.line)=true)(h:ρ.lookup y=some (.grow l))(he:p.ev sc ρ e=some v)(hp:v.plain=true)(hs:notStar e=true)(hz:l.length<=1000):
  dX V (n+1) st sc ρ (exec (.Expr (.Call (.Attribute (.Name y yq) (sx "append") apos) [e] [] cpos) pos)) .next ((y,.grow (l++[v]))::ρ.filter λp=>p.1 != y):=by
 intro A θ D env s Q E R W tk F hQ;have hm1:=ja hs he;refine wpAny_Expr_any ?_ (by unfold interactive;rw[F.kind];rfl) rfl;refine wpAny_Call_method_late (dF rfl) (w4 hm1 (by simp)) hl rfl (d9 F hy hn h λm0 v0 hm0 L0 hv0 r0=>?_);obtain⟨a,vs,rfl,d,t,hgl,r'⟩:=r0;refine⟨"list","list.append",PySem.F.plainAttrs_list,PySem.slot_list_append,PySem.F.type_list_append,hgl.isList.typeIs,(λb q=>by cases q;obtain⟨o,ho,_,hd,_⟩:=hgl;exact⟨o,ho,hd⟩),?_⟩;refine callWith_builtin (eB hm1).2 (bz I hm1 A θ D env s _ E R.pred W tk F λus w99 st1 t1 r1=>?_);obtain⟨u,q,rfl,ru,rq⟩:=r1;cases rq;have F1:=F.st st1;obtain⟨m,hm,L⟩:=F1.loc;obtain⟨v1,hv1,rv1⟩:=L.val y _ h hy;obtain⟨a',vs',rfl,d',t',hgl',r''⟩:=rv1
 have ea:a'=a:=by obtain⟨o,es,ep,ho,hd,hk,hf⟩:=hm;obtain⟨o',es',ep',ho',hd',hk',hf'⟩:=hm0;have:w99.heap.get? env.locals=some o':=st1.keep.keep _ _ (λq=>q) (aY (F.bnd _ F.dl).1) ho';rw[this]at ho;cases ho;rw[hd']at hd;cases hd;rw[<-hf,hf' y,hv0]at hv1;cases hv1;rfl
 subst ea;have hlen:vs'.length=l.length:=r''.length;refine Al hgl' (λh' hl' hs'=>?_) (by rw[List.size_toArray,hlen,sizeLine_eq];lia);exact qD O F1 st1.wd t1 hm L hy h hv1 d' t' hgl' r'' ru hp hl' hs' λf w97 D' s' o fr=>hQ f w97 D' s' ((Out.of st1.any t1 F1).trans o) fr
theorem G8(I:SndP V n p)(O:V.Ok){st:Bool}{y f:Str}{fq cpos pos:Pos}{e:Pm}{l:List MV}{v:MV}(hy:sc.lookup y=some .local)(hf:sc.lookup f=some .local)(hn:bg f=true)(ha:ρ.lookup f=some (.adder y))(h:ρ.lookup y=some (.grow l))(he:p.ev sc ρ e=some v)(hp:v.plain=true)(hs:notStar e=true)(hz:l.length<=1000):
  dX V (n+1) st sc ρ (exec (.Expr (.Call (.Name f fq) [e] [] cpos) pos)) .next ((y,.grow (l++[v]))::ρ.filter λp=>p.1 != y):=by
 intro A θ D env s Q E R W tk F hQ;have hm1:=ja hs he;refine wpAny_Expr_any ?_ (by unfold interactive;rw[F.kind];rfl) rfl;obtain⟨m0,hm0,L0⟩:=F.loc;obtain⟨b,a0,hb0,hy0,nb,tb,gb⟩:=L0.add f y ha hf;refine wpAny_Call_NameR (wpAny_Name (wpAny_loadName_local F.kind (F.scl f hf) hm0 hb0 ?_) (lg hn).1);refine uq (eB hm1).2 (bz I hm1 A θ D env s _ E R.pred W tk F λus w99 st1 t1 r1=>⟨st1.keep.keep b _ (λq=>q) tb gb,?_⟩);obtain⟨u,q,rfl,ru,rq⟩:=r1;cases rq;have F1:=F.st st1;obtain⟨m,hm,L⟩:=F1.loc;obtain⟨v1,hv1,rv1⟩:=L.val y _ h hy;obtain⟨a',vs',rfl,d',t',hgl',r''⟩:=rv1
 have ea:a'=a0:=by obtain⟨o,es,ep,ho,hd,hk,hf⟩:=hm;obtain⟨o',es',ep',ho',hd',hk',hf'⟩:=hm0;have:w99.heap.get? env.locals=some o':=st1.keep.keep _ _ (λq=>q) (aY (F.bnd _ F.dl).1) ho';rw[this]at ho;cases ho;rw[hd']at hd;cases hd;rw[<-hf,hf' y,hy0]at hv1;cases hv1;rfl
 subst ea;have hlen:vs'.length=l.length:=r''.length;refine G6 (l:=a') (st1.keep.keep b _ (λq=>q) tb gb) hgl' (λh' hl' hs'=>?_) (by rw[List.size_toArray,hlen,sizeLine_eq];lia);exact qD O F1 st1.wd t1 hm L hy h hv1 d' t' hgl' r'' ru hp hl' hs' λf w97 D' s' o fr=>hQ f w97 D' s' ((Out.of st1.any t1 F1).trans o) fr
theorem CM(O:V.Ok){st:Bool}{y z:Str}{yq gq zq cq aq pos:Pos}{h0:ExceptHandler}{hr:List ExceptHandler}{v:MV}{r:List MV}(hg:sc.lookup (sx "next")=some .globalImplicit)(hc:aR sc y=true)(hz:sc.lookup z=some .local)(hne:y≠z)(hn:bg z=true)(h:ρ.lookup z=some (.iter (v::r)))(hp:v.plain=true):
  dX V (n+1) st sc ρ (exec (.Try [.Assign [.Name y yq] (.Call (.Name (sx "next") gq) [.Name z zq] [] cq) aq] (h0::hr) [] [] pos)) .next (ae (ae ρ z (.iter r)) y v):=by
 intro A θ D env s Q E R W tk F hQ;refine wpAny_Try_except (wpAny_execs_cons (wpAny_Assign_Name (wpAny_Call_NameR ?_)));refine iv O (mv:= .ex (.builtin "next")) (n:=n) (by left) (by rw[hg];rfl) A θ D env s _ _ R.pred W tk F λu w99 st1 t1 r1=>?_;cases r1;have F1:=F.st st1;refine callWith_builtin rfl (evalArgs_plain (spliced_cons (x:=eval (.Name z zq) env) (d9 F1 hz hn h λm w hm L hw rw=>spliced_nil ?_)));have r0:=rw;obtain⟨it,c,vs,i,rfl,d,t,hi,nc,tc,hl,r'⟩:=rw;obtain⟨x,q,e,rx,rq⟩:=r';have hx:vs[i]?=some x:=by rw[<-List.head?_drop,e];rfl
 have hpl:aa (v::r)=true:=F1.ok z _ h;have hpl':v.plain=true/\aa r=true:=ba hpl;refine An hi hl (x:=x) (by simpa using hx) λh' hit' hs'=>?_;have k:Keep (λb=>b=it) w99.heap h':= .same hs' rfl (by obtain⟨_,ho,hcl,_⟩:=hi;exact bK ho hcl (by left));have mD:∀b,b=it->D b:=λb e=>e▸d
 have st2:St V (Own D env.locals) w99 {w99 with heap:=h'}:=St.same O st1.wd hs' ⟨d,OL (L.aft z _ it h rfl hz hw)⟩ (F1.bnd _ d).1 w99.toks (by obtain⟨o,ho,hcl,hd⟩:=hi;exact bK ho hcl (by left))
 have hdr:vs.drop (i+1)=q:=by rw[<-List.drop_drop,e];rfl
 have F2:FrX V θ D sc (ae ρ z (.iter r)) env {w99 with heap:=h'}:=F1.upd (tk:=w99.toks) hm L hz h rfl hw r0 hs' (mv':= .iter r) rfl hpl'.2
  ⟨it,c,vs,i+1,rfl,d,t,hit',nc,tc,IsList.keepAt hl λo ho=>k.keep c o (λq=>nc (mD _ q)) tc ho,by rw[hdr];exact RpL.keep k mD _ _ hpl'.2 rq⟩
  λx u e=>by
   rcases az e with q|⟨a,b,_⟩
   ·exact .inl q
   ·exact .inr ⟨a,b⟩
 refine cx O F2 st2.wd t1 hc hp (Rp.keep k mD _ _ hp rx) λw96 st3 t3 _ F3=>?_;refine(?_:wpAny _ A (execs [] env) _ _ w96);refine wpAny_execs_nil ?_;refine(?_:wpAny _ A (execs [] env) _ _ w96);exact wpAny_execs_nil (hQ _ _ _ _ (Out.of ((st1.any.trans st2).trans st3) t3 F3) trivial)
end
section
variable {V:Vw}{n:Nat}{sc:Sc}{ρ:Rho}{p:P}{x:X}{θ:Pn}{D:Pn->Prop}{env:Env}
theorem RpL.reverse:∀{l:List MV} {vs:List Ph},RpL W θ D h l vs->RpL W θ D h l.reverse vs.reverse
 | [],_,r=>by cases r;rfl
 |a::l,_,⟨v,q,e,r1,r2⟩=>by subst e;rw[List.reverse_cons,List.reverse_cons];exact r2.reverse.append ⟨v,[],rfl,r1,rfl⟩
theorem iB:∀{l:List MV},aa l=true->aa l.reverse=true
 | [],_=>rfl
 |a::l,h=>by have h':a.plain=true/\aa l=true:=ba h;refine Eq.symm List.reverse_cons▸?_;exact cI (iB h'.2) (OR.mpr ⟨h'.1,rfl⟩)
theorem jH:∀{ys:List Str},namesOf ts=some ys->(assignEach ts env).length=ts.length/\ts.length=ys.length/\(assignEach ts env).findIdx? (·.1)=none/\
  ∀(i:Nat) t,((assignEach ts env).map (·.2))[i]?=some t->∃y q,ys[i]?=some y/\t=assign (.Name y q) env:=by
 induction ts with
 |nil=>intro ys h;cases h;exact⟨rfl,rfl,rfl,λi t e=>nomatch e⟩
 |cons e r ih=>
  intro ys h;ext y hy h;refine mpE (λzs h1 e2z=>?_) h;subst e2z;obtain⟨q,rfl⟩:=cM hy;obtain⟨a,b,c,d⟩:=ih h1;refine⟨ON (·+1) a,ON (·+1) b,?_,λi t ht=>?_⟩
  ·refine(?_:((false,assign (.Name y q) env)::assignEach r env).findIdx? (·.1)=none);rw[List.findIdx?_cons,c];rfl
  ·cases i with
   |zero=>exact⟨y,q,rfl,(OH ht).symm⟩
   |succ i=>exact d i t ht
theorem nX(e:Heap.ExtBut h.objs.size h h'):∀a o,h.get? a=some o->h'.get? a=some o:=λa o ho=>e a o (Nat.ne_of_lt (OF ho)) ho
theorem sf(O:V.Ok)(hys:namesOf ts=some ys)(hlen:ys.length=l.length)
  (F:FrX V θ D sc ρ env s) (W:Wd V s) (tk:1<=s.toks) (hc:∀x∈ys,aR sc x=true) (p:aa l=true) (r:RpL V.W9 θ D s.heap l vs)
  (hQ:∀s',St V (Own D env.locals) s s'->1<=s'.toks->FrX V θ D sc (gM ρ ys l) env s'->Q () s'):wpAny (model V.prog V.w) A (assignInOrder ((assignEach ts env).map (·.2)) vs) Q E s:=by
 obtain⟨a,b,c,d⟩:=jH (env:=env) hys;refine j7 O (xs:=ys) (λi t x v Q E s' h1 h2 h3=>?_) ((List.length_map ..).trans (a.trans b)) hlen.symm F W tk hc p r hQ;obtain⟨y,q,hy,rfl⟩:=d i t h1;rw[h2]at hy;cases hy;exact wpAny_assign_Name h3
theorem xi{x1}(hh:A.handled=none)(ht:s.heap.IsTuple t items)
  (hn:(assignEach elts env).length=items.size) (hstar:(assignEach elts env).findIdx? (·.1)=none)
  (h:∀h',Heap.ExtBut s.heap.objs.size s.heap h'->s.heap.objs.size<=h'.objs.size->wpAny (model V.prog V.w) A (assignInOrder ((assignEach elts env).map (·.2)) items.toList) Q E {s with heap:=h'}):
  wpAny (model V.prog V.w) A (assign (.Tuple elts x1 pos) env (.ref t)) Q E s:=by
 rw[arm_assign_Tuple];refine OB (OZ ?_);unfold unpack;rw[hn,hstar];exact OB (OJ (l6 (wpAny_unpackItems_tuple hh ht λh' he hsz=>h h' he hsz)))
theorem j8(O:V.Ok)(h:bB sc ρ t mv=some w92)(hh:A.handled=none)(F:FrX V θ D sc ρ env s)(W:Wd V s)(tk:1<=s.toks)
  (r:Rp V.W9 θ D s.heap mv v) (hQ:∀s',St V (Own D env.locals) s s'->1<=s'.toks->FrX V θ D sc w92 env s'->Q () s'):wpAny (model V.prog V.w) A (assign t env v) Q E s:=by
 unfold bB at h;cases hv:aN t<;>rw[hv]at h<;>first|exact af h|(rw[aL hv])
 ·injections hk h;cases h;exact wpAny_assign_Name (cx O F W tk hk.1 hk.2 r λs' st t _ F'=>hQ s' st t F')
 ·ext ys hys h;ext l hl0 h;injections hk h;cases h;cases jZ hl0;obtain⟨a,vs,rfl,d,tt,hl,r'⟩:=r;obtain⟨e1,e2,e3,e4⟩:=jH (env:=env) hys;refine xi hh hl (e1.trans (e2.trans (hk.2.1.trans (r'.length.symm.trans (List.size_toArray ..).symm)))) e3 λh' he hsz=>?_;have kp:=nX he;have st1:St V none9 s {s with heap:=h'}:=⟨.ofAll none9 hsz kp,W.grown O (s':={s with heap:=h'}) hsz kp⟩;exact sf O hys hk.2.1 (F.st st1) st1.wd tk (λx hx=>OQ.mp hk.1 x hx) hk.2.2 (r'.keep0 st1.keep) λs' st t F'=>hQ s' (st1.any.trans st) t F'
theorem Kj(ho:s.heap.get? it=some o)(hi:jo o)(h:Q () s):wpAny (model V.prog V.w) A (letOwnedTupleGo t (.ref it) u) Q E s:=by
 obtain⟨⟨vs,hd⟩,hc⟩:=hi
 have fin:∀a,wpAny (model V.prog V.w) A (do
   let o <-load it
   match o.cls,o.data with
   | .type n,.fields vs=>
    if ["enumerate","zip","dict_itemiterator","dict_reverseitemiterator","odict_iterator","itertools.zip_longest","itertools.pairwise"].contains n&&vs[0]?==some (rawInt a) then
     rule "for.unpacks-the-owned-tuple"
     updateField it 0 .none
   |_,_=>pure ()) Q E s:=λa=>by
  refine OB (wpAny_load ho ?_);refine Eq.symm hd▸?_;rcases hc with hc|hc
  ·rw[hc];exact Oz h
  ·rw[hc];exact Oz h
 unfold letOwnedTupleGo;cases t<;>first|exact Oz h|skip
 ·cases u<;>first|exact Oz h|exact fin _
 ·cases u<;>first|exact Oz h|exact fin _
end
section
variable {V:Vw}{n:Nat}{sc:Sc}{p:P}{x:X}{env:Env}
structure OutI (V:Vw) (st:Bool) (θ:Pn) (D:Pn->Prop) (it:Pn) (s:Pg) (sc:Sc) (ρ':Rho) (env:Env) (w97:Pn) (D':Pn->Prop) (s':Pg):Prop where
 sta:St V (λa=>Own D env.locals a\/a=it) s s'
 tk:1<=s'.toks
 up:∀a,D a->a<env.locals->D' a
 new:∀a,D' a->D a\/s.heap.objs.size<=a
 F:FrX V w97 D' sc ρ' env s'
 th:w97=θ\/st=true
theorem Itr.move{W:World9}{θ w97:Pn}{D D':Pn->Prop}{h h':Pp}{it:Pn}{l:List MV}(J:Itr W θ D h it l){K:Pn->Prop}(k:Keep K h h')(mk:∀a,K a->D a)(hd:¬D it)(ht:¬aJ it)(new:∀a,D' a->D a\/h.objs.size<=a)(th:w97=θ\/rJ l=true):Itr W w97 D' h' it l:=by
 cases J with
 |list hi hc tc hl r p p2=>have r1:RpL W w97 D h l _:=th.elim (λe=>e▸r) λe=>RpL.star _ _ e r;refine .list (hi.at λo ho=>k.keep it o (λq=>hd (mk _ q)) ht ho) (λq=>(new _ q).elim hc λz=>O8 (IsList.lt hl) (OU.mpr z)) tc (IsList.keepAt hl λo ho=>k.keep _ o (λq=>hc (mk _ q)) tc ho) ?_ p p2;exact RpL.wide (D:=λa=>D a\/h.objs.size<=a) (λa _ q=>new a q) _ _ p2 (RpL.keep k (λa d=> .inl (mk _ d)) _ _ p2 (RpL.wide (D:=D) (λa ha q=>q.elim id λz=>O8 ha (OU.mpr z)) _ _ p2 r1))
 |rng hi hk=>exact .rng (k.keep it _ (λq=>hd (mk _ q)) ht hi) hk
theorem OutI.trans{st:Bool}{θ w97 w9Y:Pn}{D D' D'':Pn->Prop}{it:Pn}{s s' s'':Pg}{ρ' w9G:Rho}(o1:OutI V st θ D it s sc ρ' env w97 D' s')(o2:OutI V st w97 D' it s' sc w9G env w9Y D'' s''):OutI V st θ D it s sc w9G env w9Y D'' s'' where
 sta:=⟨⟨OA o1.sta.keep.size o2.sta.keep.size,λa ob d t e=>o2.sta.keep.keep a ob (λq=>q.elim (λq=>(o1.new a q.1).elim (λz=>d (.inl ⟨z,q.2⟩)) λz=>O8 (OF e) (OU.mpr z)) λq=>d (.inr q)) t (o1.sta.keep.keep a ob d t e),λa o t c e=>o2.sta.keep.code a o t c (o1.sta.keep.code a o t c e)⟩,o2.sta.wd⟩
 tk:=o2.tk
 up:=λa d l=>o2.up a (o1.up a d l) l
 new:=λa d=>(o2.new a d).elim (o1.new a) λz=> .inr (OA o1.sta.keep.size z)
 F:=o2.F
 th:=o2.th.elim (λh=>o1.th.imp (λh'=>h.trans h') id) .inr
theorem OutI.of{st:Bool}{θ:Pn}{D:Pn->Prop}{it:Pn}{s w99 w98 s':Pg}{ρ':Rho}{w97:Pn}{D':Pn->Prop}(st1:St V (λa=>a=it) s w99)(st2:St V (Own D env.locals) w99 w98)(o:Out V st θ D w98 sc ρ' env w97 D' s'):OutI V st θ D it s sc ρ' env w97 D' s' where
 sta:=(st1.mono λa e=> .inr e).trans ((st2.trans o.sta).mono λa d=> .inl d)
 tk:=o.tk
 up:=o.up
 new:=λa d=>(o.new a d).elim .inl λz=> .inr (OA (OA st1.keep.size st2.keep.size) z)
 F:=o.F
 th:=o.th
theorem uw(X':SndX V n x)(O:V.Ok){t:Pm}{body:List Pq}{it:Pn}{fl:MFl}{ρ':Rho}:∀(items:List MV) (ρ:Rho) (A:Po) (θ:Pn) (D:Pn->Prop) (s:Pg) (Rz:Result->Pg->Prop),
  ij x sc t body items ρ=some (fl,ρ')->Room A n->Wd V s->1<=s.toks->FrX V θ D sc ρ env s->Itr V.W9 θ D s.heap it items->¬D it->175<=it->
  (∀f w97 D' s',OutI V x.st θ D it s sc ρ' env w97 D' s'->FlR V w97 D' s' env.locals fl f->Rz (.ok f) s')->
  codeAny (model V.prog V.w) A (.forLoop t (.ref it) body [] env) Rz s:=by
 intro items;induction items with
 |nil=>intro ρ A θ D s Rz h R W tk F J hd hge hQ;injections hno h;cases h;refine codeAny_of_tree (wpAny_noted (wpB (OZ (wpB (wpAny_onRaise ?_)))));refine j5 R.hd J tk (λ_ s' m t=>Oz ⟨rfl,codeAny_block (wpAny_execs_nil ?_)⟩) (λa r e=>nomatch e);exact hQ .next θ D s' {sta:=(m.st O W hge).mono λa e=> .inr e,tk:=t,up:=λa d _=>d,new:=λa d=> .inl d,F:=F.moved m hd λx mv e=>ug hno e,th:= .inl rfl} trivial
 |cons v vs ih=>
  intro ρ A θ D s Rz h R W tk F J hd hge hQ;injections e0z h;obtain⟨hno,hst⟩:=e0z;ext w92 h1 h;ext e0z hx h;obtain⟨f1,w90⟩:=e0z;refine codeAny_of_tree (wpAny_noted (wpB (OZ (wpB (wpAny_onRaise ?_)))));refine j5 R.hd J tk (λe=>nomatch e) λa r e u w99 m t1 J1 r1=>?_;cases e;have st1:=m.st O W hge;obtain⟨ob,hob,hio⟩:=J1.obj;refine wpB (Kj hob hio (wpB ?_));refine j8 O h1 R.hd (F.moved m hd λx mv e=>ug hno e) st1.wd t1 r1 λw98 st2 t2 F2=>?_;refine wpB (X'.ex _ _ _ _ _ hx A θ D env w98 _ _ R st2.wd t2 F2 λf w97 D' w96 o fr=>?_);have o1:=OutI.of st1 st2 o;cases f1 with
  |next=>
   cases f<;>first|exact fr.elim|skip
   have J2:Itr V.W9 θ D w98.heap it vs:=J1.move st2.keep (λ_ q=>q.1) hd (aY hge) (λa d=> .inl d) (.inl rfl);have J3:Itr V.W9 w97 D' w96.heap it vs:=J2.move o.sta.keep (λ_ q=>q.1) hd (aY hge) o.new (o.th.imp id λe=>hst.elim (λq=>Bool.noConfusion (q.symm.trans e)) λq=>(ba q).2)
   have hd':¬D' it:=λq=>(o.new it q).elim hd λz=>by obtain⟨ob,hob,_⟩:=J2.obj;exact O8 (OF hob) (OU.mpr z)
   exact Oz ⟨rfl,ih w90 A w97 D' w96 Rz h R o.sta.wd o.tk o.F J3 hd' hge λf w9Y D'' w9Z o2 fr2=>hQ f w9Y D'' w9Z (o1.trans o2) fr2⟩
  |brk=>
   cases h;cases f<;>first|exact fr.elim|skip
   exact Oz (hQ .next w97 D' w96 o1 trivial)
  |ret w=>
   cases h;cases f<;>first|exact fr.elim|skip
   exact Oz (hQ _ w97 D' w96 o1 fr)
theorem xj(I:SndP V n p)(X':SndX V n x):∀(k:Nat) (ρ:Rho) (A:Po) (θ:Pn) (D:Pn->Prop) (s:Pg) (Rz:Result->Pg->Prop),
  rK p x sc t body k ρ=some (fl,ρ')->Room A n->Wd V s->1<=s.toks->FrX V θ D sc ρ env s->
  (∀f w97 D' s',Out V x.st θ D s sc ρ' env w97 D' s'->FlR V w97 D' s' env.locals fl f->Rz (.ok f) s')->
  codeAny (model V.prog V.w) A (.whileLoop t body [] env) Rz s:=by
 intro k;induction k with
 |zero=>intro ρ A θ D s Rz h;exact af h
 |succ k ih=>
  intro ρ A θ D s Rz h R W tk F hQ;refine codeAny_of_tree (wpAny_noted ?_);rcases ew h with⟨h1,h⟩|⟨h1,h⟩
  ·ext e0z hx h;obtain⟨f1,w90⟩:=e0z;refine wpB (I.tst _ _ _ _ h1 A θ D env s _ _ R W tk F λw99 st1 t1=>?_);have o0:Out V x.st θ D s sc ρ env θ D w99:=Out.of st1.any t1 (F.st st1);refine wpB (X'.ex _ _ _ _ _ hx A θ D env w99 _ _ R st1.wd t1 (F.st st1) λf w97 D' w98 o fr=>?_);cases f1 with
   |next=>
    cases f<;>first|exact fr.elim|skip
    exact Oz ⟨rfl,ih w90 A w97 D' w98 Rz h R o.sta.wd o.tk o.F λf w9Y D'' w96 o2 fr2=>hQ f w9Y D'' w96 ((o0.trans o).trans o2) fr2⟩
   |brk=>
    cases h;cases f<;>first|exact fr.elim|skip
    exact Oz (hQ .next w97 D' w98 (o0.trans o) trivial)
   |ret w=>
    cases h;cases f<;>first|exact fr.elim|skip
    exact Oz (hQ _ w97 D' w98 (o0.trans o) fr)
  ·cases h;refine wpB (I.tst _ _ _ _ h1 A θ D env s _ _ R W tk F λw99 st1 t1=>?_);exact wpB (wpAny_execs_nil (Oz (hQ .next θ D w99 (Out.of st1.any t1 (F.st st1)) trivial)))
end
section
variable {V:Vw}{n:Nat}{sc:Sc}{ρ:Rho}{p:P}{x:X}
theorem Aq(I:SndP V n p)(X':SndX V n x)(h:rK p x sc t body k ρ=some (fl,ρ')):dX V (n+1) x.st sc ρ (exec (.While t body [] pos)) fl ρ':=by intro A θ D env s Q E R W tk F hQ;exact wpAny_While (xj I X' k ρ A θ D s _ h R.pred W tk F λf w97 D' s' o fr=>hQ f w97 D' s' o fr)
theorem G9(I:SndP V n p)(X':SndX V n x)(O:V.Ok)(hi:p.ev sc ρ i=some mv)(hl:aM mv=some l)(hs:bx i=true)(h:ij x sc t body l ρ=some (fl,ρ')):
  dX V (n+1) x.st sc ρ (exec (.For t i body [] pos)) fl ρ':=by
 intro A θ D env s Q E R W tk F hQ;refine wpAny_For (I.ev _ _ _ _ hi A θ D env s _ E R.pred W tk F λv w99 st1 t1 r1=>?_) (rY hs);refine jF O hl st1.wd (F.st st1).bnd t1 r1 λw98 st2 t2 hlt J=>?_;have st12:=st1.trans st2;refine uw X' O l ρ A θ D w98 _ h R.pred st2.wd t2 (F.st st12) J (F.st st1).bnd.new (st1.wd.size) λf w97 D' s' o fr=>?_;refine hQ f w97 D' s' {sta:=⟨⟨OA st12.keep.size o.sta.keep.size,λa ob d t e=>o.sta.keep.keep a ob (λq=>q.elim d λq=>?_) t (st12.keep.keep a ob (λq=>q) t e),λa ob t c e=>o.sta.keep.code a ob t c (st12.keep.code a ob t c e)⟩,o.sta.wd⟩,tk:=o.tk,up:=o.up,new:=λa d=>(o.new a d).elim .inl λz=> .inr (OA st12.keep.size z),F:=o.F,th:=o.th} fr;subst q;exact O8 (OF e) (OU.mpr st1.keep.size)
theorem cz(h:(dk ρ z).lookup y=some u):y≠z/\ρ.lookup y=some u:=by
 unfold dk at h;rw[bS (λw=>w != z)]at h
 by_cases hy:y=z
 ·subst hy;simp at h
 ·rw[if_pos (by simpa using hy)]at h;exact⟨hy,h⟩
theorem ux(X':SndX V n x)(O:V.Ok)(hz:sc.lookup z=some .local)(hn:bg z=true)(hv:ρ.lookup z=some (.iter l))(hno:dg (dk ρ z)=true)(h:ij x sc t body l (dk ρ z)=some (fl,ρ')):
  dX V (n+1) x.st sc ρ (exec (.For t (.Name z q) body [] pos)) fl ρ':=by
 intro A θ D env s Q E R W tk F hQ;refine wpAny_For (d9 F hz hn hv λm v hm L hv' r=>?_);have r0:=r;obtain⟨it,c,vs,i,rfl,d,tt,hi,nc,tc,hl,r'⟩:=r;refine wpAny_pyIter_listiter hi ?_;have hpl:aa l=true:=F.ok z _ hv;have ob:=hi;obtain⟨oi,hoi,hci,hdi⟩:=ob;have hitge:175<=it:=(F.bnd _ d).1;have D1sub:∀a,(D a/\a≠it)->D a:=λa q=>q.1
 have typ:∀b o',s.heap.get? b=some o'->(∀xs,o'.data≠ .fields xs)->b≠it:=λb o' ho' hd' e=>by subst e;rw[hoi]at ho';cases ho';exact hd' _ hdi
 have F1:FrX V θ (λa=>D a/\a≠it) sc (dk ρ z) env s:={F with
  loc:=⟨m,hm,{
   val:=λy u e l=>by
    obtain⟨hne,e'⟩:=cz e;obtain⟨w,h1,h2⟩:=L.val y u e' l;refine⟨w,h1,?_⟩;have ok:=F.ok y u e'
    by_cases gu:dy u=true
    ·have ne:∀b,w= .ref b->b≠it:=λb e1 e2=>hne (L.one y z u _ it e' hv gu rfl l hz (by rw[h1,e1,e2]) hv');cases u<;>first|(cases gu;done)|skip
     ·obtain⟨b,vs,e1,d1,t1,hl,r'⟩:=h2;exact⟨b,vs,e1,⟨d1,ne b e1⟩,t1,hl,RpL.wide (λa _ q=>q.1) _ _ ok r'⟩
     ·obtain⟨b,c,vs,i,e1,d1,t1,hi,nc,tc,hl,r'⟩:=h2;exact⟨b,c,vs,i,e1,⟨d1,ne b e1⟩,t1,hi,λq=>nc q.1,tc,hl,RpL.wide (λa _ q=>q.1) _ _ ok r'⟩
    ·cases u<;>first|exact Rp.wide (λa _ q=>q.1) _ _ ok h2|exact O8 rfl gu|trivial
   add:=λy w e l=>by obtain⟨hne,e'⟩:=cz e;obtain⟨b,a,h1,h2,nd,nt,hb⟩:=L.add y w e' l;exact⟨b,a,h1,h2,λq=>nd q.1,nt,hb⟩
   aft:=λy u a e=>L.aft y u a (cz e).2
   one:=λy w u v a e1 e2=>L.one y w u v a (cz e1).2 (cz e2).2}⟩
  cv:=λy u c' e l hc=>by obtain⟨p,v,h1,h2⟩:=F.cv y u c' (cz e).2 l hc;exact⟨p,v,h1,Rp.wide (λa _ q=>q.1) _ _ p h2⟩
  dl:=⟨F.dl,by obtain⟨o',es,ep,ho',hd',_⟩:=hm;exact typ _ o' ho' (λxs e=>by rw[hd']at e;cases e)⟩
  dc:=λy c' e hc=>by obtain⟨d',v,h1⟩:=F.dc y c' e hc;obtain⟨o',ho',hd'⟩:=id h1;exact⟨⟨d',typ _ o' ho' (λxs e=>by rw[hd']at e;cases e)⟩,v,h1⟩
  bnd:=λa q=>F.bnd a q.1
  ok:=λy u e=>F.ok y u (cz e).2}
 have J:Itr V.W9 θ (λa=>D a/\a≠it) s.heap it l:= .list hi (λq=>nc q.1) tc hl (RpL.wide (λa _ q=>q.1) _ _ hpl r') (bM _ hpl) hpl;refine uw X' O l _ A θ _ s _ h R.pred W tk F1 J (λq=>q.2 rfl) hitge λf w97 D' s' o fr=>?_;have hit:env.locals<it:=L.aft z _ it hv rfl hz hv';refine hQ f w97 D' s' {sta:=o.sta.mono λa q=>q.elim (λq=>⟨q.1.1,q.2⟩) λq=>q▸⟨d,OL hit⟩,tk:=o.tk,up:=λa da l=>o.up a ⟨da,λe=>by subst e;exact O8 l (OU.mpr (OL hit))⟩ l,new:=λa d=>(o.new a d).elim (λq=> .inl q.1) .inr,F:=o.F,th:=o.th} fr
theorem mV{env:Env}{l0:Nat}(g:Pm->Pj Str)(hg:∀y q,g (.Name y q)=if(env.kindOf y==some .local&&q.line==l0)=true then some y else none){ts:List Pm}:∀{ys:List Str},namesOf ts=some ys->(∀y∈ys,env.kindOf y=some .local)->((linesOf ts).all λl=>l==l0)=true->
  ts.filterMap g=ys:=by
 induction ts with
 |nil=>intro ys h _ _;cases h;rfl
 |cons e r ih=>intro ys h hk hl;ext y hy h;refine mpE (λzs h1 e2z=>?_) h;subst e2z;obtain⟨q,rfl⟩:=cM hy;obtain⟨hl1,hl2⟩:=OR.mp (show((q.line==l0)&&(linesOf r).all λl=>l==l0)=true from hl);rw[List.filterMap_cons,hg,if_pos (Bool.and_eq_true_iff.mpr ⟨beq_iff_eq.mpr (hk y List.mem_cons_self),hl1⟩),ih h1 (λz hz=>hk z (List.mem_cons_of_mem _ hz)) hl2]
theorem CN(g:Pm->Bool)(hg:∀e,notStar e=true->g e=false){vs:List Pm}(h:(vs.all notStar)=true):vs.any g=false:=by rw[List.any_eq_false];intro e he;rw[hg e (List.all_eq_true.mp h e he)];simp
theorem CO(I:SndP V n p)(O:V.Ok){st:Bool}{ns vs:List Pm}{k k2:Nat}{q q2 pos:Pos}{ys:List Str}{l:List MV}(hs:rO sc ns vs=some ys)(h:p.ev sc ρ (.Tuple vs k2 q2)=some (.tup l))(hlen:ys.length=l.length)(hp:aa l=true):
  dX V (n+1) st sc ρ (exec (.Assign [.Tuple ns k q] (.Tuple vs k2 q2) pos)) .next (gM ρ ys.reverse l.reverse):=by
 ext zs hz hs;injections e0z hs;obtain⟨h1,h2,h3,h4,h5,h6,h7,h8⟩:=e0z;cases(hs);have hloc:∀y∈ys,sc.lookup y=some .local:=λy hy=>beq_iff_eq.mp (OQ.mp h4 y hy);intro A θ D env s Q E R W tk F hQ;have hkl:∀y∈ys,env.kindOf y=some .local:=λy hy=>F.scl y (hloc y hy);have hbk:env.blockKind= .function:=by unfold Env.blockKind;rw[F.kind];rfl
 have hnl:ns.length=ys.length:=(jH (env:=env) hz).2.1
 have hw:swappedStores [.Tuple ns k q] (.Tuple vs k2 q2) env=pure (some ys):=by
  unfold swappedStores;dsimp only
  have c1:(!(ns.length==2||ns.length==3)||vs.length != ns.length||env.blockKind != .function)=false:=by rw[hbk,h2];rcases h1 with h|h<;>rw[h]<;>rfl
  rw[c1,if_neg Bool.false_ne_true,CN _ (λe he=>by cases e<;>first|rfl|exact Bool.noConfusion he) h3,if_neg Bool.false_ne_true,mV (env:=env) (l0:=(ns.head?.map (·.pos.line)).getD 0) _ (λy q=>rfl) hz hkl h6];have c2:(ys.length != ns.length||ys.eraseDups.length != ys.length)=false:=by rw[h5,hnl,Bool.or_false];exact bne_self_eq_false' ..
  rw[c2,if_neg Bool.false_ne_true,h7,if_neg Bool.false_ne_true,h8,if_neg Bool.false_ne_true]
 refine Assign_Tuple_swapped (names:=ys) (I.ev _ _ _ _ h A θ D env s _ E R.pred W tk F λv w99 st1 t1 r1=>?_) rfl hw;obtain⟨a,us,rfl,d,tt,hl,r'⟩:=r1;have e1:ys.length=(List.toArray us).size:=hlen.trans (r'.length.symm.trans (List.size_toArray ..).symm);rw[e1];refine l6 (wpAny_unpackItems_tuple R.hd hl λh' he hsz=>?_);have kp:=nX he;have st2:St V none9 w99 {w99 with heap:=h'}:=⟨.ofAll none9 hsz kp,st1.wd.grown O (s':={w99 with heap:=h'}) hsz kp⟩;refine j7 O (xs:=ys.reverse) (ms:=l.reverse) (λi t x v Q E s' g1 g2 g3=>?_) (List.length_map ..) ((List.length_reverse ..).trans (hlen.symm.trans (List.length_reverse ..).symm)) ((F.st st1).st st2) st2.wd t1 (λy hy=>by unfold aR;rw[hloc y (List.mem_reverse.mp hy)]) (iB hp) ((r'.keep0 st2.keep).reverse) λs' st' t' F'=>?_
 ·rw[List.getElem?_map,g2]at g1;cases g1;exact wpAny_bindName g3
 ·exact hQ _ _ _ _ (Out.of ((st1.trans st2).any.trans st') t' F') trivial
theorem pU(I:SndP V n p)(O:V.Ok){st:Bool}{ns:List Pm}{k:Nat}{q zq pos:Pos}{z:Str}{mv:MV}{w92:Rho}(h:p.ev sc ρ (.Name z zq)=some mv)(ht:bB sc ρ (.Tuple ns k q) mv=some w92):dX V (n+1) st sc ρ (exec (.Assign [.Tuple ns k q] (.Name z zq) pos)) .next w92:=by intro A θ D env s Q E R W tk F hQ;refine Assign_Tuple (I.ev _ _ _ _ h A θ D env s _ E R.pred W tk F λv w99 st1 t1 r1=>?_);exact j8 O ht R.hd (F.st st1) st1.wd t1 r1 λw98 st2 t2 F2=>hQ _ _ _ _ (Out.of (st1.any.trans st2) t2 F2) trivial
end
section
variable {V:Vw}{n:Nat}{sc:Sc}{ρ:Rho}{p:P}{x:X}
theorem fe(h:jX e=true):swapsWith e (some (.Name y q)) l env=pure false:=by cases e<;>first|rfl|exact Bool.noConfusion h
theorem xk(hk:env.scope.kind= .function)(hc:aR sc y=true)(h:¬(sc.lookup y=some .local/\eA scope y q.line cp.line=true))(c1:sc.lookup y=some .cell->env.kindOf y=some .cell):
  swapsWith (.ListComp elt gens scope cp) (some (.Name y q)) l env=pure false:=by
 refine(?_:(pure (env.blockKind== .function&&env.kindOf y==some .local&&q.line==cp.line&& !(scope.names.any λ(n,k)=>n==y&&(k== .local||k== .cell))):Sem Bool)=pure false)
 by_cases hx:sc.lookup y=some .local
 ·have:eA scope y q.line cp.line=false:=Bool.eq_false_iff.mpr λhu=>h ⟨hx,hu⟩;unfold eA at this;rw[Bool.and_assoc,this,Bool.and_false]
 ·have hx2:sc.lookup y=some .cell:=by
   unfold aR at hc;cases e:sc.lookup y with
   |none=>rw[e]at hc;exact Bool.noConfusion hc
   |some k=>rw[e]at hc hx;cases k<;>first|rfl|exact O8 rfl hx|exact Bool.noConfusion hc
  rw[c1 hx2,show(some NameKind.cell==some NameKind.local)=false from rfl,Bool.and_false,Bool.false_and,Bool.false_and]
theorem lh(I:SndP V n p)(O:V.Ok){y:Str}{q pos:Pos}{e:Pm}{ρ':Rho}{st:Bool}(hc:aR sc y=true)(h:rL p sc ρ y e=some ρ')(hs:∀(env:Env) (l:Nat),env.scope.kind= .function->(sc.lookup y=some .cell->env.kindOf y=some .cell)->swapsWith e (some (.Name y q)) l env=pure false):dX V (n+1) st sc ρ (exec (.Assign [.Name y q] e pos)) .next ρ':=by ext v hv h;injections hp h;cases h;exact nV I O hc hv hp λenv hk c1 c2=>hs env _ hk c1
set_option tactic.hygienic true in
theorem xl(I:SndP V n p)(O:V.Ok){y:Str}{q pos:Pos}{e:Pm}{ρ':Rho}{st:Bool}(h:bo p st sc ρ y q.line e=some ρ'):dX V (n+1) st sc ρ (exec (.Assign [.Name y q] e pos)) .next ρ':=by
 revert I O h;exists V,n,sc,ρ,p,y,q,pos,e,ρ',st;revert h;refine ifN λhc0 h=>?_;have hc:aR sc y=true:=by cases e:aR sc y<;>first|rfl|exact O8 e hc0
 have dflt:(if jX e=true then rL p sc ρ y e else none)=some ρ'->dX V (n+1) st sc ρ (exec (.Assign [.Name y q] e pos)) .next ρ':=λh=>lh I O hc (eG h).2 λenv l _ _=>fe (eG h).1;cases hv:aN e<;>rw[hv]at h<;>first|exact dflt h|skip
 ·obtain rfl:e= .Attribute _ _ _:=aL hv;rename_i o m u;dsimp only at h;cases hz:cNm o with
  |none=>rw[hz]at h;exact lh I O hc h λenv l _ _=>fe rfl
  |some z=>rw[hz]at h;injections e0z h;obtain⟨hm,h2,h3,h4,h5⟩:=e0z;revert h;refine mpE λl hl h=>?_;revert hl;refine bdE λv hl hg=>?_;obtain⟨w,rfl⟩:=cM hz;cases nG hg;rw[hm,<-h];exact Ap O h2 h3 h4 h5 hl
 ·obtain rfl:e= .Call _ _ [] _:=aL hv;rename_i f as u;dsimp only at h;cases hf:cNm f with
  |none=>rw[hf]at h;exact lh I O hc h λenv l _ _=>fe rfl
  |some g=>
   rw[hf]at h;obtain⟨w,rfl⟩:=cM hf;revert h;refine eiE (λhg h=>?_) (λ_ h=>?_)
   ·injections e0z h;obtain⟨h1,h2,h3,h4⟩:=e0z;cases h;rw[hg]at h3 ⊢;rw[List.isEmpty_iff.mp h2,h1];exact xg O hc h4 h3
   revert h;refine eiE (λhg h=>?_) (λ_ h=>?_)
   ·ext a ha h;injections e0z h;obtain⟨h1,h2,h3⟩:=e0z;ext l hl h;ext v hv2 hl;injections hp h;cases h;cases bZ hl;rw[hg]at h2 ⊢;rw[bf ha];exact uv I O h1 h2 h3 hv2 hp
   ·exact lh I O hc h λenv l _ _=>fe rfl
 ·obtain rfl:e= .List _ _:=aL hv;rename_i es u;revert h;refine eiE (λhe h=>?_) (λ_ h=>?_)
  ·injections hy h;cases h;rw[List.isEmpty_iff.mp he];exact uu O hy
  replace h:=di h;rcases h with⟨⟨h1,h2⟩,h⟩|⟨_,h⟩
  ·injections e0z h;obtain⟨h3,h4⟩:=e0z;cases h;obtain⟨x,hx⟩:=Pf.mp h3;revert hx;refine bdE λc hc1 hc2=>?_;obtain⟨k,w,rfl⟩:=i8 hc2;rw[bf hc1,h1];rw[h2]at hc ⊢;exact CL O hc h4
  ·exact lh I O hc h λenv l _ _=>fe rfl
 ·obtain rfl:e= .ListComp _ _ _ _:=aL hv;revert h;refine eiE (λhk h=>?_) (λhk h=>?_)
  ·ext v hv2 h;injections hp h;cases h;exact nW I O hk.1 hk.2 hv2
  ·exact lh I O hc h λenv l hkd c1=>xk hkd hc hk c1
theorem y7(h:Cg p sc ρ y a=some (fl,ρ')):∃l v,ρ.lookup y=some (.grow l)/\p.ev sc ρ a=some v/\v.plain=true/\notStar a=true/\l.length<=1000/\fl= .next/\ρ'=(y,.grow (l++[v]))::ρ.filter λp=>p.1 != y:=by revert h;exists sc,p,ρ,y,a,fl,ρ';ext l hl h;ext u hu hl;ext v hv h;injections e0z h;obtain⟨h1,h2,h3⟩:=e0z;cases h;exact⟨l,v,nG hl▸hu,hv,h1,h2,h3,rfl,rfl⟩
theorem y8(h:kept f ρ i=some (z,l)):∃q u,i= .Name z q/\ρ.lookup z=some u/\f u=some l:=by ext x hx h;revert h;refine mpE λm hm h=>?_;ext u hu hm;obtain⟨q,hq⟩:=cM hx;cases h;exact⟨q,u,hq,hu,hm⟩
set_option tactic.hygienic true in
theorem CP(h:asked b=some (y,g,z)):∃q1 q2 q3 q4 q5,b=[.Assign [.Name y q1] (.Call (.Name g q2) [.Name z q3] [] q4) q5]:=by
 revert h;exists b,y,g,z;ext st hb h;cases st<;>first|exact af h|skip
 ext t ht h;revert h;refine bdE λy' hy h=>?_;obtain⟨q1,e1⟩:=cM hy;rename_i e q5;cases hv:aN e<;>rw[hv]at h<;>first|exact af h|skip
 revert h;refine bdE λg' hg h=>?_;ext a ha h;revert h;refine mpE λz' hz h=>?_;obtain⟨q2,e2⟩:=cM hg;obtain⟨q3,e3⟩:=cM hz;cases h;exact⟨q1,q2,q3,_,q5,by rw[bf hb,bf ht,e1,aL hv,EV.back,e2,bf ha,e3]⟩
theorem CQ(I:SndP V n p)(O:V.Ok){st:Bool}{ns:List Pm}{k:Nat}{q pos:Pos}{e:Pm}{fl:MFl}{ρ':Rho}(h:wR p sc ρ (.Tuple ns k q) ns e=some (fl,ρ')):dX V (n+1) st sc ρ (exec (.Assign [.Tuple ns k q] e pos)) fl ρ':=by
 revert I O h;exists V,n,sc,ρ,p,st,ns,k,q,pos,e,fl,ρ';unfold wR at h;cases hv:aN e<;>rw[hv]at h<;>first|exact af h|skip
 ·obtain rfl:e= .Name _ _:=aL hv;ext v h1 h;revert h;refine mpE λr h2 h=>?_;cases h;exact pU I O h1 h2
 ·obtain rfl:e= .Tuple _ _ _:=aL hv;ext ys hs h;ext l hl h;ext v h1 hl;injections hk h;cases h;cases jZ hl;exact CO I O hs h1 hk.1 hk.2
theorem Ha(I:SndP V n p)(O:V.Ok){st:Bool}{f a:Pm}{pos q:Pos}{fl:MFl}{ρ':Rho}(h:Ci p sc ρ f a pos=some (fl,ρ')):dX V (n+1) st sc ρ (exec (.Expr (.Call f [a] [] pos) q)) fl ρ':=by
 unfold Ci at h;cases hv:aN f<;>rw[hv]at h<;>first|exact af h|skip
 ·obtain rfl:f= .Name _ _:=aL hv;ext y hy h;ext u hu hy;injections hk h;cases wQ hy;obtain⟨l,v,hl,hv2,h1,h2,h3,rfl,rfl⟩:=y7 h;exact G8 I O hk.1 hk.2.1 hk.2.2 hu hl hv2 h1 h2 h3
 ·obtain rfl:f= .Attribute _ _ _:=aL hv;ext y hy h;obtain⟨q2,rfl⟩:=cM hy;injections e0z h;obtain⟨hm,h2,h3,h4⟩:=e0z;obtain⟨l,v,hl,hv2,h5,h6,h7,rfl,rfl⟩:=y7 h;refine Eq.symm hm▸?_;exact xh I O h2 h3 h4 hl hv2 h5 h6 h7
set_option tactic.hygienic true in
theorem Kk(I:SndP V n p)(X':SndX V n x)(O:V.Ok){k:Nat}{st:Pq}{fl:MFl}{ρ':Rho}(h:stF p x k sc ρ st=some (fl,ρ')):dX V (n+1) x.st sc ρ (exec st) fl ρ':=by
 revert I X' O h;exists V,n,sc,ρ,p,x,k,st,fl,ρ';cases st<;>first|exact af h|skip
 ·ext e he h;cases he;cases hk:kept lZ ρ e with
  |some zl=>rw[hk]at h;obtain⟨z,l⟩:=zl;obtain⟨q,u,e1,hu,hl⟩:=y8 hk;injections hc h;cases h;cases nG hl;refine Eq.symm e1▸?_;exact nU hc.1 hc.2.1 hu hc.2.2
  |none=>rw[hk]at h;ext v hv h;injections hp h;cases h;exact xf I hv hp
 ·ext t ht h;rw[bf ht];cases hv:aN t<;>rw[hv]at h<;>first|exact af h|skip
  ·obtain rfl:t= .Name _ _:=aL hv;revert h;refine mpE λr h1 h=>?_;cases h;exact xl I O h1
  ·obtain rfl:t= .Tuple _ _ _:=aL hv;exact CQ I O h
 ·ext y hy h;obtain⟨q,rfl⟩:=cM hy;injections e0z h;obtain⟨h1,h2,h3⟩:=e0z;ext a ha h;revert h;refine mpE λb hb h=>?_;ext va ha1 ha;ext vb hb1 hb;cases h;cases fj ha;cases fj hb;refine Eq.symm h3▸?_;exact G7 I O h1 h2 ha1 hb1
 ·injections ho h;rename_i t i b o pos;rw[List.isEmpty_iff.mp ho];cases hk:kept zW ρ i with
  |some zl=>rw[hk]at h;obtain⟨z,l⟩:=zl;obtain⟨q,u,e1,hu,hl⟩:=y8 hk;injections hc h;cases yX hl;refine Eq.symm e1▸?_;exact ux X' O hc.1 hc.2.1 hu hc.2.2 h
  |none=>rw[hk]at h;injections hc h;ext l hl h;ext v hv hl;exact G9 I X' O hv hl hc.1 h
 ·injections ho h;rw[List.isEmpty_iff.mp ho];exact Aq I X' h
 ·exact Ki I (X':=X') h
 ·injections hc h;ext e0z hb h;obtain⟨y,g,z⟩:=e0z;obtain⟨q1,q2,q3,q4,q5,e⟩:=CP hb;injections e0z h;obtain⟨hg,h2,h3,h4,h5,h6⟩:=e0z;ext l hl h;ext u hu hl;cases yX hl;cases l with
  |nil=>exact af h
  |cons v r=>
   injections hp h;cases h;rw[e,List.isEmpty_iff.mp hc.2.1,List.isEmpty_iff.mp hc.2.2];rename_i hs _ _ _;cases hs with
   |nil=>exact Bool.noConfusion hc.1
   |cons _ _=>dsimp only at hg h2;rw[hg]at h2 ⊢;exact CM O h2 h3 h4 h5 h6 hu hp
 ·replace h:=ew h;rcases h with⟨h1,h⟩|⟨_,h⟩
  ·cases h;exact xe I h1
  ·exact af h
 ·rename_i e _;replace h:J7 p sc ρ e=some (fl,ρ'):=h;unfold J7 at h;cases hv:aN e<;>rw[hv]at h<;>first|exact af h|skip
  obtain rfl:e= .Call _ _ [] _:=aL hv;ext a ha h;rw[bf ha];exact Ha I O h
 ·cases h;exact λA θ D env s Q E R W tk F hQ=>wpAny_Break (hQ _ _ _ _ (Out.of (.refl W _) tk F) trivial)
theorem Kl(I:SndP V n p)(X':SndX V n x)(O:V.Ok):∀{ρ ρ':Rho} {fl:MFl},J8 (stF p x k) sc b ρ=some (fl,ρ')->dX V (n+1) x.st sc ρ (execs b) fl ρ':=by
 induction b with
 |nil=>intro ρ ρ' fl h;cases h;exact λA θ D env s Q E R W tk F hQ=>wpAny_execs_nil (hQ _ _ _ _ (Out.of (.refl W _) tk F) trivial)
 |cons st r ih=>
  intro ρ ρ' fl h A θ D env s Q E R W tk F hQ;ext e0z h1 h;obtain⟨f1,w9X⟩:=e0z;refine wpAny_execs_cons (Kk I X' O h1 A θ D env s _ E R W tk F λf w97 D' s' o fr=>?_);cases f1 with
  |next=>
   cases f<;>first|exact fr.elim|skip
   exact ih h A w97 D' env s' Q E R o.sta.wd o.tk o.F λf w9Y D'' s'' o2 fr2=>hQ f w9Y D'' s'' (o.trans o2) fr2
  |brk=>
   cases h;cases f<;>first|exact fr.elim|skip
   exact hQ _ _ _ _ o trivial
  |ret v=>
   cases h;cases f<;>first|exact fr.elim|skip
   exact hQ _ _ _ _ o fr
theorem uy{F:Fns}{S:Subs}{st:Bool}(O:V.Ok)(BK:V.Booked)(FO:FnsOk V F)(SO:SubsOk V S):∀n,SndX V n (mx F S st n)
 |0=>⟨λ_ _ _ _ _ h=>(nomatch h)⟩
 |n+1=>⟨λsc ρ b fl ρ' h=>by
  have:=Kl (l9 O BK FO SO n) (uy (st:=st) O BK FO SO n) O (sc:=sc) (k:=n) h;have e:(mx F S st n).st=(mx F S st (n+1)).st:=by cases n<;>rfl
  rw[e]at this;exact this⟩
theorem ma{F:Fns}{S:Subs}{st:Bool}:∀n,(mx F S st n).st=st
 |0=>rfl
 |_+1=>rfl
end
theorem b0{α:Type}:∀(l r:List (Str×α)) (x:Str),(l++r).lookup x=(l.lookup x).or (r.lookup x)
 | [],r,x=>by simp
 |(y,v)::l,r,x=>by
  rw[List.cons_append,List.lookup_cons,List.lookup_cons];cases x==y with
  |true=>rfl
  |false=>exact b0 l r x
theorem uz(hx:k x=some .local):∀(binds:List (Str×Ph)) (m:Str->Pj Ph),bindL k binds m x=(binds.reverse.lookup x).or (m x)
 | [],m=>by simp [bindL]
 |(y,v)::r,m=>by
  rw[List.reverse_cons,b0,Option.or_assoc];show bindL k r _ x=_;rw[uz hx r]
  congr 1
  by_cases hxy:x=y
  ·subst hxy;simp [hx]
  ·have hb:(x==y)=false:=by simpa using hxy
   rw[List.lookup_cons,hb];split
   ·simp [hxy]
   ·simp
theorem nY(hx:k x≠some .local):∀(binds:List (Str×Ph)) (m:Str->Pj Ph),bindC k binds m x=(binds.reverse.lookup x).or (m x)
 | [],m=>by simp [bindC]
 |(y,v)::r,m=>by
  rw[List.reverse_cons,b0,Option.or_assoc];refine(?_:bindC k r _ x=_);rw[nY hx r]
  congr 1
  by_cases hxy:x=y
  ·subst hxy;simp [hx]
  ·have hb:(x==y)=false:=by simpa using hxy
   rw[List.lookup_cons,hb];split
   ·simp
   ·simp [hxy]
theorem Km(ps:List Str):∀{as:List MV} {vs:List Ph},RpL W θ D h as vs->((ps.zip as).reverse.lookup x=none/\(ps.zip vs).reverse.lookup x=none)\/∃m v,(ps.zip as).reverse.lookup x=some m/\(ps.zip vs).reverse.lookup x=some v/\Rp W θ D h m v:=by
 induction ps with
 |nil=>exact λ_=> .inl ⟨rfl,rfl⟩
 |cons y ps ih=>
  intro as vs r;cases as with
  |nil=>cases r;exact .inl ⟨rfl,rfl⟩
  |cons a as=>
   obtain⟨v,q,rfl,r1,r2⟩:=r;rw[List.zip_cons_cons,List.reverse_cons,b0,List.zip_cons_cons,List.reverse_cons,b0,List.lookup_cons,List.lookup_cons];rcases ih r2 with⟨h1,h2⟩|⟨m,w,h1,h2,h3⟩
   ·rw[h1,h2];cases x==y
    ·exact .inl ⟨rfl,rfl⟩
    ·exact .inr ⟨a,v,rfl,rfl,r1⟩
   ·rw[h1,h2];exact .inr ⟨m,w,rfl,rfl,h3⟩
theorem jI{W:World9}{θ:Pn}{D:Pn->Prop}{h:Pp}{x:Str}{mv:MV}{ps:List Str}{as:List MV}{vs:List Ph}(r:RpL W θ D h as vs)(e:(ps.zip as).reverse.lookup x=some mv):∃v,(ps.zip vs).reverse.lookup x=some v/\Rp W θ D h mv v:=
 (Km ps r).elim (λq=>af (q.1.symm.trans e)) λq=>q.elim λm q=>q.elim λw q=>⟨w,q.2.1,OH (q.1.symm.trans e)▸q.2.2⟩
theorem jJ(names:List (Str×NameKind)):∀(n:Nat) (acc:List (Str×Pn)),(names.lookup x=some .cell\/∃c,acc.lookup x=some c)->∃c,(cellsFrom n names acc).lookup x=some c:=by
 induction names with
 |nil=>exact λn acc h=>h.elim (λq=>af q) id
 |cons p r ih=>
  intro n acc h;obtain⟨y,k⟩:=p;rw[List.lookup_cons]at h;unfold cellsFrom
  by_cases hk:k= .cell
  ·rw[if_pos (beq_iff_eq.mpr hk)];refine ih _ _ ?_;rw[List.lookup_cons];cases hb:x==y
   ·rw[hb]at h;exact h
   ·exact .inr ⟨n,rfl⟩
  ·rw[if_neg λq=>hk (eq_of_beq q)];refine ih _ _ (h.imp (λq=>?_) id);cases hb:x==y
   ·rw[hb]at q;exact q
   ·rw[hb]at q;exact O8 (OH q) hk
theorem uA:∀{l:List (Str×Pn)},l.Pairwise (λx y=>x.2≠y.2)->(x,c)∈l->(y,c)∈l->x=y
 | [],_,h,_=>by cases h
 |z::r,hp,h1,h2=>by
  rw[List.pairwise_cons]at hp;rcases OT.mp h1 with e1|m1<;>rcases OT.mp h2 with e2|m2
  ·rw[<-e2]at e1;cases e1;rfl
  ·exact O8 (show z.2=c by rw[<-e1]) (hp.1 _ m2)
  ·exact O8 (show z.2=c by rw[<-e2]) (hp.1 _ m1)
  ·exact uA hp.2 m1 m2
section
variable {V:Vw}{F:Fns}{S:Subs}
structure IsDef (V:Vw) (a:Pn) (fd:FuncData) (ps:List Str) (body:List Pq) (dv:List Ph):Prop where
 at_:∃o,V.K.lookup a=some o/\o.data= .func fd
 code:∃c o vs t,fd.code= .ref c/\V.K.lookup c=some o/\o.data= .fields vs/\vs[1]?=some (.str fd.qualname t)
 body_:fd.body= .stmts body
 bind:∀vals:List Ph,vals.length+dv.length=ps.length->∀s:Pg,V.K.In s.heap->BindsTo s fd ⟨vals,[]⟩ (ps.zip (vals++dv))
 clo:fd.closure=[]
 kind:fd.scope.kind= .function
 cod:dx fd.scope.names=true->fd.code= .ref 78
 co:fd.scope.isCoroutine=false
 gen:fd.scope.isGenerator=false
 glob:fd.globals=Pb
 bi:fd.builtins=Pc
 pk:∀x∈ps,fd.scope.names.lookup x=some .local\/fd.scope.names.lookup x=some .cell
 nofree:∀x,fd.scope.names.lookup x≠some .free
theorem Room.deeper(r:Room A (n+1)):Room (A.deeper env) n:=by
 refine⟨r.hd,?_,?_⟩
 ·show A.depth+1+n<recursionLimit;have:=r.depth;lia
 ·show A.units+3+8*n<cLine;have:=r.units;lia
theorem j9{α β:Type}{a:α}{b:β}:∀{l:List α} {r:List β},(a,b)∈l.zip r->a∈l:=λh=>(List.of_mem_zip h).1
theorem jb(O:V.Ok)(d:IsDef V a fd ps body dv)(hdm:∀θ D h,RpL V.W9 θ D h dm dv)(hdp:aa dm=true)
  (hl:as.length+dm.length=ps.length) (R:Room A (n+1)) (W:Wd V s) (B:Bnd D s) (ra:RpL V.W9 θ D s.heap as vs) (hp:aa as=true)
  (h:∀env w99,St V none9 s w99->s.toks<=w99.toks->env.frame=some env.locals->env.locals=s.heap.objs.size->s.heap.objs.size<w99.heap.objs.size->FrX V θ (λa=>D a\/(s.heap.objs.size<=a/\a<w99.heap.objs.size)) fd.scope.names (ps.zip (as++dm)).reverse env w99->
   wpAny (model V.prog V.w) (A.deeper env) (execs body env) (λf s'=>Q (match f with| .ret v=>v|_=> .none) s') (λe s'=>wpAny (model V.prog V.w) (A.deeper env) (leaving env e) (λ_ s''=>E e s'') E s') w99):
  wpAny (model V.prog V.w) A (call (.ref a) vs) Q E s:=by
 obtain⟨o,ho,hdata⟩:=d.at_;obtain⟨c,co,cvs,ct,hc1,hc2,hc3,hc4⟩:=d.code;have hdvl:dm.length=dv.length:=((hdm θ D s.heap).length).symm;have hvl:vs.length=as.length:=ra.length;have hbind:=d.bind vs (by rw[hvl,<-hdvl];exact hl);have rall:RpL V.W9 θ D s.heap (as++dm) (vs++dv):=ra.append (hdm θ D s.heap);have pall:aa (as++dm)=true:=cI hp hdp;refine OW (codeAny_call_function (by have:=R.depth;omega) (W.K a o ho) hdata d.co d.gen d.body_ ⟨c,co,cvs,ct,hc1,W.K c co hc2,hc3,hc4⟩ ?_);refine Eq.symm d.clo▸?_;refine hbind s W.K _ _ _ _ (wpAny_with_toks (OP s.toks) (wpAny_newFunctionEnv_cells d.kind (λx hx=>?_) λenv he w99 ic tk1=>?_))
 ·have hm:x.1∈ps:=j9 (b:=x.2) hx;rcases d.pk x.1 hm with h|h
  ·exact .inl h
  ·refine .inr ⟨h,?_⟩;obtain⟨c,hc⟩:=jJ fd.scope.names (s.heap.objs.size+1) [] (.inl h);rw[hc];rfl
 ·have hL:env.locals=s.heap.objs.size:=by rw[he];rfl
  have hscope:env.scope=fd.scope:=by rw[he];rfl
  have hglob:env.globals=Pb:=by rw[he];exact d.glob
  have hbi:env.builtins=Pc:=by rw[he];exact d.bi
  have hko:∀x,env.kindOf x=fd.scope.names.lookup x:=λx=>by unfold Env.kindOf;rw[hscope]
  have hlook:∀x,fd.scope.names.lookup x=some .cell->∃c,env.cells.lookup x=some c:=λx hx=>by rw[he];exact jJ fd.scope.names (s.heap.objs.size+1) [] (.inl hx)
  obtain⟨⟨⟨h',tk',w9W⟩,hns,keep,hle⟩,hcell,hap,hab⟩:=ic;have hsz:s.heap.objs.size<w99.heap.objs.size:=hL▸hns.lt
  have st0:St V none9 s w99:=by subst w9W;exact⟨.ofAll none9 (OL hsz) keep,W.grown O (s':={s with heap:=h',toks:=tk'}) (OL hsz) keep⟩
  have capc:∀x,fM (fd.scope.names.lookup x)->fd.scope.names.lookup x=some .cell:=λx hx=>hx.elim id λe=>O8 e (d.nofree x);have above:∀x c,env.cells.lookup x=some c->s.heap.objs.size<c:=λx c hc=>hL▸hab x c (lookup_mem hc);have wide:∀mv v,mv.plain=true->Rp V.W9 θ D s.heap mv v->Rp V.W9 θ (λa=>D a\/(s.heap.objs.size<=a/\a<w99.heap.objs.size)) w99.heap mv v:=λmv v p r=>
   Rp.keep0 st0.keep _ _ (Rp.wide (λa ha q=>q.elim id λz=>O8 ha (OU.mpr z.1)) _ _ p r)
  have rho:∀x mv,((ps.zip (as++dm)).reverse).lookup x=some mv->mv.plain=true:=λx mv e=>by have:=lookup_mem e;rw[List.mem_reverse]at this;have:=(List.of_mem_zip this).2;obtain⟨i,hi⟩:=List.getElem?_of_mem this;exact fc pall hi
  have Fr:FrX V θ (λa=>D a\/(s.heap.objs.size<=a/\a<w99.heap.objs.size)) fd.scope.names (ps.zip (as++dm)).reverse env w99:={
   cod:=λh=>by rw[he];exact d.cod h
   kind:=by rw[hscope];exact d.kind
   glob:=hglob,bi:=hbi
   scl:=λx h=>by rw[hko];exact h
   scc:=λx h=>by rw[hko];exact h
   sck:=λx h=>by rw[hko];exact h
   scg:=λx h=>by rw[hko];exact h
   loc:=⟨_,hns,{
    val:=λx mv e l=>by obtain⟨v,hv,hr⟩:=jI rall e;refine⟨v,?_,wide mv v (rho x mv e) hr⟩;rw[uz (by rw[hko];exact l),hv];rfl
    add:=λx y e l=>Bool.noConfusion (rho x _ e)
    aft:=λx u c e g l=>Bool.noConfusion ((aX (rho x u e)).symm.trans g)
    one:=λx y u v c e1 e2 g1=>Bool.noConfusion ((aX (rho x u e1)).symm.trans g1)}⟩
   cl:=λx h=>hlook x (capc x h)
   cv:=λx mv c e l hc=>by obtain⟨v,hv,hr⟩:=jI rall e;refine⟨rho x mv e,v,?_,wide mv v (rho x mv e) hr⟩;have:=hcell x c hc;rw[nY (by rw[hko,capc x l];simp),hv]at this;exact this
   ct:=λx c l hc=>OA W.size (OL (above x c hc))
   dl:= .inr ⟨by rw[hL];exact OP _,hL▸hsz⟩
   dc:=λx c l hc=>by obtain⟨o,ho,hd⟩:=hcell x c hc;exact⟨.inr ⟨OL (above x c hc),OF ho⟩,_,o,ho,hd⟩
   du:=λx y c l1 l2 h1 h2=>by exact uA hap (lookup_mem h1) (lookup_mem h2)
   ca:=λx c l hc=>by rw[hL];exact OL (above x c hc)
   bnd:=λb q=>q.elim (λq=>⟨(B b q).1,Nat.lt_trans (B b q).2 hsz⟩) λq=>⟨OA W.size q.1,q.2⟩
   ok:=λx u e=>bH (rho x u e)}
  refine⟨O.nolimit _ st0.wd.K,codeAny_func ?_⟩;exact h env w99 st0 tk1 (by rw[he];rfl) hL hsz Fr
theorem gO(O:V.Ok)(BK:V.Booked)(FO:FnsOk V F)(SO:SubsOk V S)(d:IsDef V a fd ps body dv)(hdm:∀θ D h,RpL V.W9 θ D h dm dv)(hdp:aa dm=true)(st:Bool)(n:Nat):
  aC V a (n+1) (wU F S st n fd.scope.names ps body dm):=by
 intro A θ D s Q E as vs r R W tk B ra hp h hQ;injections hl h;ext e0z hx h;obtain⟨f1,ρ'⟩:=e0z;ext v hv h;injections hst h;cases(h);obtain rfl:f1= .ret r:=by cases f1<;>first|exact af hv|exact ON MFl.ret (OH hv)
 refine jb O d hdm hdp hl.1 R W B ra hp λenv w99 st0 tk0 hf hL hsz Fr=>?_;refine(uy (st:=st) O BK FO SO n).ex _ _ _ _ _ hx (A.deeper env) θ _ env w99 _ _ R.deeper st0.wd (OA tk tk0) Fr λf w97 D' s' o fr=>?_;cases f<;>first|exact fr.elim|skip
 obtain⟨hvp,hvr⟩:=fr;have lt:∀b,D b->b<env.locals:=λb hb=>hL▸(B b hb).2;have hr:=hvr D (λb hb=>o.up b (.inl hb) (lt b hb)) lt;refine hQ _ s' ⟨⟨OA st0.keep.size o.sta.keep.size,λb ob _ t e=>o.sta.keep.keep b ob (λq=>O8 (OF e) (OU.mpr (hL▸q.2))) t (st0.keep.keep b ob (λq=>q) t e),λb ob t c e=>o.sta.keep.code b ob t c (st0.keep.code b ob t c e)⟩,o.sta.wd⟩ o.tk ?_ hvp;rcases o.th with e|e
 ·rw[e]at hr;exact hr
 ·rw[ma]at e;exact Rp.star _ _ (hst.resolve_left λq=>Bool.noConfusion (q.symm.trans e)) hr
end
end
end
end Mine.Internal
section
end
namespace Mine.Internal
section
open PySem PySem.Calls PyProof.Rows PySem.Spec
section
variable {prog:Program}{w:World}{A:Po}{E:Pr}{s:Pg}
theorem next_end(hh:A.handled=none)(hit:s.heap.IsListIter it l i)(hl:s.heap.IsList l items)(hx:items[i]?=none)
  (hE:∀h1 h' e,Heap.SameBut it s.heap h1->Heap.MadeExc h1 h' e "StopIteration" []->E (.ref e) {s with heap:=h'}):wpAny (model prog w) A (call (.builtin "next") [.ref it]) Q E s:=by
 revert hh hit hl hx hE;exists prog,w,A,E,s,it,l,i,items,Q;obtain⟨o,ho,hc,hd⟩:=id hit;obtain⟨ol,hol,_,nl,hdl⟩:=id hl;refine call_function_entry (by right) (by right) W.kdk_entry_next (W.kdk_args_next _) ?_;unfold Builtin.«next»;refine OB (m:=someArgs "next" 1 2 _) (OG (a:=[Value.ref it]) (by first|rfl|kernel_rfl!) ?_)
 skip
 refine OB (OY (name:=Pd "__next__") hit.typeIs slot_listiter_next.lookup ?_);refine wpAny_ite_split (λhab=>O8 hab (by left)) (λ_=>?_)
 refine OB (wpAny_callSpecial?_slot (name:=Pd "__next__") hit.typeIs slot_listiter_next
  (wpAny_call_entry slot_listiter_next hit.typeIs entry_listiter_next ?_ (args_listiter_next _)))
 refine(?_:wpAny _ _ (field (.ref it) 0>>=_) _ _ s);refine OB (wpAny_field ho hd (x:= .ref l) rfl ?_);refine(?_:wpAny _ _ (if(Value.ref l==Value.none)=true then _ else _) _ _ s);refine wpAny_ite_false (decide_eq_false (show ¬((Value.ref l==Value.none)=true) from Bool.false_ne_true)) ?_;refine(?_:wpAny _ _ (field (.ref it) 1>>=_) _ _ s);refine OB (wpAny_field ho hd (x:= .int i 0) rfl ?_);refine(?_:wpAny _ _ (seqItems? (.ref l)>>=_) _ _ s);refine OB (wpAny_seqItems hol hdl ?_);simp only [Int.toNat_natCast,hx];refine OB (wpAny_rule (OB (wpAny_setField ho hd (by simp) ?_)));refine(?_:wpAny _ _ (newExc (.type "StopIteration") []>>=_) _ _ _);refine OB ?_;simp only [newExc,newTuple];refine OB (wpAny_newObj_type ?_ (by size_fits));refine OB (m:=firstArgMember _ _) (OG (a:=Value.none) (by first|rfl|(simp only [firstArgMember];rfl)) ?_);refine wpAny_newObj_type ?_ (by size_fits);refine wpAny_raiseNew_none hh (hE _ _ _ (OO ..) ⟨λb o hb=>OC _ (OC _ hb),Heap.get?_none_of_le (by simp),_,OE _ rfl,Heap.get?_none_of_le (OP _),?_⟩);exact OC _ (OE _ rfl)
end
end
section
open PySem PySem.Calls PyProof.Rows PySem.W
section
open PySem.Spec
theorem pV:entryFor table "proto.unchain"=some Builtin.«proto.unchain»:=entryFor_of_tree nofun
section
variable {prog:Program}{w:World}{A:Po}{E:Pr}{s:Pg}{env:Env}
theorem xm(F:ExcRaiseFacts cls)(hh:A.handled=some (.ref h1))
  (hx:wpAny (model prog w) A x (λv w99=>∃e t oh vh,v= .ref e/\w99.heap.get? e=some {cls:= .type cls,data:= .fields #[.ref t,.none,.none,.none,.bool false,.none]}/\h1≠e/\w99.heap.get? h1=some oh/\oh.data= .fields vh/\vh[2]?=some .none/\
   wpAny (model prog w) A c (λcv w98=>cv= .none/\w98=w99/\∀h',h'.get? e=some {cls:= .type cls,data:= .fields #[.ref t,.none,.ref h1,.none,.bool true,.none]}->Heap.SameBut e w99.heap h'->E (.ref e) {w99 with heap:=h'}) E w99) E s):
  wpAny (model prog w) A (raiseStmt env (some x) (some c)) Q E s:=by
 unfold raiseStmt;refine wpB (OV hx (λv w99 w95=>?_) λ_ _ x=>x);obtain⟨e,t,oh,vh,rfl,he,hne,hoh,hvh,h2,hc⟩:=w95;refine wpB (OJ (OV hc (λcv w98 w93=>?_) λ_ _ x=>x));obtain⟨rfl,rfl,hE⟩:=w93;obtain⟨hp,g,d,tk,os⟩:=w98;refine OB (Oz ?_);have hsub:=F.isExc;have hmeta:=F.plainMeta
 repeat (first|refine wpAny_loadPart he ?_|wp_step)
 have he2:((hp.update e (Obj.mapFields λx=>x.setIfInBounds 3 Value.none)).update e (Obj.mapFields λx=>x.setIfInBounds 4 (Value.bool true))).get? e=some {cls:= .type cls,data:= .fields #[.ref t,.none,.none,.none,.bool true,.none]}:=by have q:=O4 (Obj.mapFields λx=>x.setIfInBounds 3 Value.none) he rfl;exact O4 (Obj.mapFields λx=>x.setIfInBounds 4 (Value.bool true)) q rfl
 have sb:Heap.SameBut e hp ((hp.update e (Obj.mapFields λx=>x.setIfInBounds 3 Value.none)).update e (Obj.mapFields λx=>x.setIfInBounds 4 (Value.bool true))):=(OO ..).trans (OO ..);revert he2 sb;generalize (hp.update e (Obj.mapFields λx=>x.setIfInBounds 3 Value.none)).update e (Obj.mapFields λx=>x.setIfInBounds 4 (Value.bool true))=H;intro he2 sb;have hoh2:H.get? h1=some oh:=(sb.2 h1 hne).trans hoh;unfold raiseNew;refine OB (wpAny_handled ?_);refine Eq.symm hh▸?_;dsimp only;rw[if_pos (show(Value.ref h1 != Value.ref e)=true by simp [hne])];refine wpB (OJ (wpAny_runValue (codeAny_builtin pV ?_)));unfold Builtin.«proto.unchain»
 skip
 refine wpB (wpAny_field hoh2 hvh h2 ?_);refine wpAny_ite_true (Pa (show(Value.none==Value.none)=true from rfl)) ?_;refine Oz ?_;refine(?_:wpAny _ _ _ _ _ _);refine wpB ?_;exact wpAny_setField he2 rfl (show 2<6 by left) (wpAny_throw (hE _ (O4 _ he2 rfl) (sb.trans (OO ..))))
end
def Jk(h1:Pp)(F:List Pn)(h:Pp):Prop:=∀b o,h1.get? b=some o->∃sl,h.get? b=some {o with slots:=sl}/\(b∉F->sl=o.slots)
theorem Jk.refl(h:Pp)(F:List Pn):Jk h F h:=λ_ o e=>⟨o.slots,e,λ_=>rfl⟩
theorem Jk.keeps(x:Jk h1 F h)(k:∀b o,h.get? b=some o->h'.get? b=some o):Jk h1 F h':=λb o e=>by obtain⟨sl,q,z⟩:=x b o e;exact⟨sl,k _ _ q,z⟩
theorem Jk.slots(x:Jk h1 F h)(k:Heap.SlotsOnly S h h')(m:∀b,b∈S->b∈F):Jk h1 F h':=λb o e=>by
 obtain⟨sl,q,z⟩:=x b o e
 by_cases hb:b∈S
 ·obtain⟨sl',q'⟩:=k.2.2 b _ q;exact⟨sl',q',λn=>O8 (m b hb) n⟩
 ·exact⟨sl,(k.2.1 b hb).trans q,z⟩
theorem Jk.but(x:Jk h1 F h)(n:h1.get? a=none)(k:Heap.SameBut a h h'):Jk h1 F h':=λb o e=>by obtain⟨sl,q,z⟩:=x b o e;exact⟨sl,(k.2 b λw=>by rw[w,n]at e;cases e).trans q,z⟩
def hJ(h1:Pp)(F:List Pn)(l:List Env):Prop:=∀env∈l,env.scope.kind≠ .module/\∃L o,env.frame=some L/\L∈F/\h1.get? L=some o/\∀vs,o.data≠ .fields vs
theorem hJ.frames(x:Jk h1 F h):∀{l:List Env},hJ h1 F l->h.FunFrames ({}:Pp) l
 | [],_=>trivial
 |env::l,f=>by obtain⟨k,L,o,e1,_,e3,e4⟩:=f env (.head _);obtain⟨sl,q,_⟩:=x L o e3;exact⟨k,⟨L,_,e1,rfl,q,e4⟩,hJ.frames x λv hv=>f v (.tail _ hv)⟩
theorem hJ.mem(f:hJ h1 F l):∀b,b∈l.filterMap (·.frame)->b∈F:=λb hb=>by obtain⟨env,he,e⟩:=List.mem_filterMap.mp hb;obtain⟨_,L,_,e1,e2,_⟩:=f env he;rw[e1]at e;cases e;exact e2
structure Ex (h1:Pp) (cls c2:Ph) (e:Pn) (fl:Ph) (h:Pp):Prop where
 new:h1.get? e=none
 at_:∃oe vs T oT ts,h.get? e=some oe/\oe.cls=cls/\oe.data= .fields vs/\vs[2]?=some c2/\vs[1]?=some (.ref T)/\T≠e/\h1.get? T=none/\h.get? T=some oT/\oT.data= .fields ts/\ts[3]?=some fl
section
variable {M:Model}{A:Po}{E:Pr}{s:Pg}{h1:Pp}{F:List Pn}
theorem qE
  (hfr:A.frames=some (env::outer)) (f:hJ h1 F (env::outer)) (hf:env.frame=some L) (x:Jk h1 F s.heap) (he:s.heap.get? e=some oe) (hen:h1.get? e=none) (hd:oe.data= .fields vs) (h2:vs[2]?=some c2) (hne:e∉F)
  (h:∀h',Jk h1 F h'->Ex h1 oe.cls c2 e (rawInt L) h'->Q () {s with heap:=h'}):
  wpAny M A (do let a <-frameOf env;let pl <-entryPlaceOf L hadNext;let b <-EntryCells.newEntry head a .none (rawInt L) .none pl;setField (.ref e) 1 b) Q E s:=by
 refine OB (wpAny_frameOf_fun hfr (f.frames x) hf λw95 w9F=>?_);refine OB (wpAny_entryPlaceOf λpl hpl=>?_);unfold EntryCells.newEntry newFields;refine OB (wpAny_newObj_type ?_ (hpl.sizeOk5 _ _ _ _ _));have hsz:2<vs.size:=(Array.getElem?_eq_some_iff.mp h2).1;have w9E:w95.get? e=some oe:=(w9F.2.1 e λq=>hne (f.mem e q)).trans he;have w9D:=x.slots w9F f.mem;have w9C:=OC (h:=w95) {cls:= .type "traceback",dict:=none,data:= .fields ([head,.ref L,.none,rawInt L,.none]++(if pl.isEmpty then List.replicate 6 Value.none else pl)).toArray} w9E;refine wpAny_setField w9C hd (by lia) (h _ (Jk.but (w9D.keeps λb o q=>OC _ q) hen (OO ..)) ⟨hen,?_⟩);have hTe:w95.objs.size≠e:=Nat.ne_of_gt (OF w9E)
 have hnT:h1.get? w95.objs.size=none:=by
  cases q:h1.get? w95.objs.size with
  |none=>rfl
  |some o=>obtain⟨sl,w,_⟩:=w9D _ o q;exact O8 (OF w) (OM _)
 have w9B:=Obj.data_mapFields hd (·.setIfInBounds 1 (Value.ref w95.objs.size));have w9v:=O4 (Obj.mapFields (·.setIfInBounds 1 (Value.ref w95.objs.size))) w9C (Obj.isFreed_of_fields w9B)
 have w9u:=(Heap.get?_update_other (w95.push {cls:= .type "traceback",dict:=none,data:= .fields ([head,.ref L,.none,rawInt L,.none]++(if pl.isEmpty then List.replicate 6 Value.none else pl)).toArray})
  (Obj.mapFields (·.setIfInBounds 1 (Value.ref w95.objs.size))) (Ne.symm hTe)).trans (OE w95 rfl)
 exact⟨_,_,w95.objs.size,_,_,w9v,Obj.cls_mapFields _ _,w9B,by rw[Array.getElem?_setIfInBounds_ne (by left)];exact h2,Array.getElem?_setIfInBounds_self_of_lt (by lia),hTe,hnT,w9u,rfl,by simp⟩
theorem uB
  (hfr:A.frames=some (env::outer)) (f:hJ h1 F (env::outer)) (hf:env.frame=some L) (x:Jk h1 F s.heap) (he:s.heap.get? e=some oe) (hen:h1.get? e=none) (hd:oe.data= .fields vs) (h1':vs[1]?=some .none) (h2:vs[2]?=some c2) (hne:e∉F)
  (h:∀h',Jk h1 F h'->Ex h1 oe.cls c2 e (rawInt L) h'->Q () {s with heap:=h'}):wpAny M A (noteFrame (.ref e) env) Q E s:=by
 unfold noteFrame;simp only [hf];refine OB (wpAny_field he hd h1' ?_);refine wpAny_ite_false (decide_eq_false (by left)) ?_;exact qE hfr f hf x he hen hd h2 hne h
theorem Ar{env:Env}{L e:Pn}{cls c2:Ph}{Q:Unit->Pg->Prop}(hf:env.frame=some L)(X:Ex h1 cls c2 e (rawInt L) s.heap)(h:Q () s):wpAny M A (noteFrame (.ref e) env) Q E s:=by obtain⟨hen,oe,vs,T,oT,ts,he,hcls,hd,h2,h1',hTe,hnT,hT,hdT,h3⟩:=X;unfold noteFrame;simp only [hf];refine OB (wpAny_field he hd h1' ?_);refine wpAny_ite_true (Pa (show(Value.ref T != Value.none)=true from by simp)) ?_;refine OB (wpAny_field hT hdT h3 ?_);refine wpAny_ite_true (Pa (by simp)) ?_;exact Oz h
theorem As
  (hfr:A.frames=some (env::outer)) (f:hJ h1 F (env::outer)) (hf:env.frame=some L) (x:Jk h1 F s.heap) (X:Ex h1 cls c2 e .none s.heap) (hne:e∉F)
  (h:∀h',Jk h1 F h'->Ex h1 cls c2 e (rawInt L) h'->Q () {s with heap:=h'}):wpAny M A (noteFrame (.ref e) env) Q E s:=by
 obtain⟨hen,oe,vs,T,oT,ts,he,rfl,hd,h2,h1',hTe,hnT,hT,hdT,h3⟩:=X;unfold noteFrame;simp only [hf];refine OB (wpAny_field he hd h1' ?_);refine wpAny_ite_true (Pa (show(Value.ref T != Value.none)=true from by simp)) ?_;refine OB (wpAny_field hT hdT h3 ?_);rw[if_neg (show ¬((Value.none==rawInt L)=true) from by simp [rawInt])];refine OB (wpAny_setField hT hdT (Array.getElem?_eq_some_iff.mp h3).1 ?_);exact qE hfr f hf (x.but hnT (OO ..)) ((Heap.get?_update_other _ _ hTe).trans he) hen hd h2 hne h
theorem ll(x:Jk h1 F s.heap)(X:Ex h1 cls c2 e fl s.heap)
  (h:∀h',Jk h1 F h'->Ex h1 cls c2 e (fr.elim .none λf=>rawInt f) h'->Q () {s with heap:=h'}):wpAny M A (setFlight (.ref e) fr) Q E s:=by
 obtain⟨hen,oe,vs,T,oT,ts,he,hcls,hd,h2,h1',hTe,hnT,hT,hdT,h3⟩:=X;unfold setFlight;refine OB (wpAny_field he hd h1' ?_);refine wpAny_ite_true (Pa (show(Value.ref T != Value.none)=true from by simp)) ?_;have hz:=(Array.getElem?_eq_some_iff.mp h3).1;refine wpAny_setField hT hdT hz (h _ (x.but hnT (OO ..)) ⟨hen,oe,vs,T,_,_,(Heap.get?_update_other _ _ hTe).trans he,hcls,hd,h2,h1',hTe,hnT,O4 _ hT (Obj.isFreed_of_fields (Obj.data_mapFields hdT _)),Obj.data_mapFields hdT _,?_⟩);simp [hz]
end
end
end
section
open PySem PySem.Sre
noncomputable def bk:Array Nat:=#[14,4,0,1,1,6,1,16,46,1]
noncomputable def fv:Array Nat:=#[14,9,4,1,2,16,10,16,13,0,7,7,16,13,16,10,15,18,5,16,10,15,13,11,16,13,5,5,0,16,10,1,15,2,0,1]
noncomputable def mkM(code text:Array Nat)(pc ls s:Nat)(must first:Bool)(seen:Seen):M:=
 {code,text,lim:=text.size,start:=s,lastStart:=ls,mustAdvance:=must,pc,pos:=s,handed:=s,outermost:=first,marks:=#[],lastmark:= -1,lastindex:= -1,
  frames:=[{wait:= .nextStart,pc,pos:=s,outermost:=first}],weight:=1,seen}
theorem fw:∀(a b:Nat) (m:M),M.runFor (a+b) m=M.runFor b (M.runFor a m)
 |0,b,m=>by rw[Nat.zero_add];rfl
 |a+1,b,m=>by
  have e:a+1+b=(a+b)+1:=by lia
  refine Eq.symm e▸?_;refine(?_:(if m.outcome.isSome=true then m else M.runFor (a+b) m.step)=M.runFor b (if m.outcome.isSome=true then m else M.runFor a m.step));split
  ·rename_i h;cases b with
   |zero=>rfl
   |succ b=>show _=(if m.outcome.isSome=true then m else _);rw[if_pos h]
  ·exact fw a b m.step
theorem mf(h:m.outcome.isSome=true):∀n,M.runFor n m=m
 |0=>rfl
 |n+1=>by show(if m.outcome.isSome=true then m else _)=m;rw[if_pos h]
theorem Hb(text:Array Nat)(ls s:Nat)(must first:Bool)(seen:Seen):M.step (mkM bk text 5 ls s must first seen)=
  if(s==0||text.getD (s-1) 0==10)=true then {mkM bk text 5 ls s must first ((seen.add 6).add 44) with pc:=7}
  else {mkM bk text 5 ls s must first ((seen.add 6).add 44) with answer:=some false}:=nofun
theorem NC(text:Array Nat)(ls s:Nat)(must first:Bool)(seen:Seen):M.step {mkM bk text 5 ls s must first seen with answer:=some false}=
  if s<ls then mkM bk text 5 ls (s+1) false false seen else {mkM bk text 5 ls s must first seen with answer:=some false,frames:=[],weight:=0}:=nofun
theorem Kn(text:Array Nat)(ls s:Nat)(must first:Bool)(seen:Seen):M.step {mkM bk text 5 ls s must first seen with pc:=7}=
  if s≥text.size then {mkM bk text 5 ls s must first (seen.add 16) with pc:=7,answer:=some false} else
  match(text.getD s 0==46) with
  |true=>{mkM bk text 5 ls s must first (seen.add 16) with pc:=9,pos:=s+1}
  |false=>{mkM bk text 5 ls s must first (seen.add 16) with pc:=7,answer:=some false}:=nofun
theorem JJ(text:Array Nat)(ls s:Nat)(must first:Bool)(seen:Seen):M.step {mkM bk text 5 ls s must first seen with pc:=7,answer:=some false}=
  if s<ls then mkM bk text 5 ls (s+1) false false seen else {mkM bk text 5 ls s must first seen with answer:=some false,frames:=[],weight:=0}:=nofun
theorem ND(text:Array Nat)(ls s:Nat)(must first:Bool)(seen:Seen):M.step {mkM bk text 5 ls s must first seen with pc:=9,pos:=s+1}=
  if(first&&((false&&s+1 != text.size)||(must&&s+1==s)))=true then {mkM bk text 5 ls s must first (seen.add 1) with pc:=9,pos:=s+1,answer:=some false}
  else {mkM bk text 5 ls s must first (seen.add 1) with pc:=9,pos:=s+1,handed:=s+1,answer:=some true}:=nofun
theorem NF(text:Array Nat)(ls s:Nat)(must first:Bool)(seen:Seen):M.step {mkM bk text 5 ls s must first seen with pc:=9,pos:=s+1,handed:=s+1,answer:=some true}=
  {mkM bk text 5 ls s must first seen with handed:=s+1,answer:=some true,frames:=[],weight:=0}:=nofun
theorem NG(text:Array Nat)(ls s:Nat)(must first:Bool)(seen:Seen):M.step {mkM bk text 5 ls s must first seen with handed:=s+1,answer:=some true,frames:=[],weight:=0}=
  {mkM bk text 5 ls s must first seen with handed:=s+1,answer:=some true,frames:=[],weight:=0,outcome:=some .matched}:=nofun
theorem NH(text:Array Nat)(ls s:Nat)(must first:Bool)(seen:Seen):M.step {mkM bk text 5 ls s must first seen with answer:=some false,frames:=[],weight:=0}=
  {mkM bk text 5 ls s must first seen with answer:=some false,frames:=[],weight:=0,outcome:=some .failed}:=nofun
noncomputable def fy(text:Array Nat)(s:Nat):Bool:=(s==0||text.getD (s-1) 0==10)&&decide (s<text.size)&&text.getD s 0==46
theorem bA(h:m.outcome=none)(e:m.step=m')(r:M.runFor n m'=m''):M.runFor (n+1) m=m'':=by refine(?_:(if m.outcome.isSome=true then m else M.runFor n m.step)=_);rw[h,e];exact r
theorem Hc(h:fy text s=true):
  ∃m,M.runFor 5 (mkM bk text 5 ls s must first seen)=m/\m.outcome=some .matched/\m.start=s/\m.handed=s+1:=by
 unfold fy at h;simp only [Bool.and_eq_true,decide_eq_true_eq]at h;refine⟨_,bA rfl (by rw[Hb,if_pos h.1.1]) (bA rfl (by rw[Kn,if_neg (by omega),h.2]) (bA rfl (by rw[ND,if_neg (by simp)]) (bA rfl (NF ..) (bA rfl (NG ..) rfl)))),rfl,rfl,rfl⟩
theorem Ko(h:fy text s=false):
  ∃n seen',1<=n/\n<=3/\M.runFor n (mkM bk text 5 ls s must first seen)=if s<ls then mkM bk text 5 ls (s+1) false false seen' else {mkM bk text 5 ls s must first seen' with answer:=some false,frames:=[],weight:=0}:=by
 cases h1:(s==0||text.getD (s-1) 0==10)
 ·exact⟨2,_,by left,by left,bA rfl (by rw[Hb,if_neg (by rw[h1];simp)]) (bA rfl (NC ..) rfl)⟩
 ·by_cases h2:s≥text.size
  ·exact⟨3,_,by left,by left,bA rfl (by rw[Hb,if_pos h1]) (bA rfl (by rw[Kn,if_pos h2]) (bA rfl (JJ ..) rfl))⟩
  ·have h3:(text.getD s 0==46)=false:=by
    unfold fy at h;rw[h1]at h;simp only [Bool.true_and,Bool.and_eq_false_iff]at h;rcases h with h|h
    ·simp at h;omega
    ·exact h
   exact⟨3,_,by left,by left,bA rfl (by rw[Hb,if_pos h1]) (bA rfl (by rw[Kn,if_neg h2,h3]) (bA rfl (JJ ..) rfl))⟩
noncomputable def bN(text:Array Nat):Nat->Nat->Pj Nat
 |0,_=>none
 |k+1,s=>if fy text s then some s else bN text k (s+1)
theorem Hd(k:Nat):∀(s:Nat) (must first:Bool) (seen:Seen),ls+1=s+k->1<=k->∃n m,n<=3*k+6/\M.runFor n (mkM bk text 5 ls s must first seen)=m/\
  (match bN text k s with
   |some p=>m.outcome=some .matched/\m.start=p/\m.handed=p+1
   |none=>m.outcome=some .failed):=by
 induction k with
 |zero=>exact λ_ _ _ _ _ h=>O8 h (by left)
 |succ k ih=>
  intro s must first seen h _
  unfold bN
  by_cases hd:fy text s=true
  ·rw[if_pos hd];obtain⟨m,e,h1⟩:=Hc (ls:=ls) (must:=must) (first:=first) (seen:=seen) hd;exact⟨5,m,OA (by left) (Nat.le_add_left 6 _),e,h1⟩
  ·rw[if_neg hd];obtain⟨n,seen',h1,h2,e⟩:=Ko (ls:=ls) (must:=must) (first:=first) (seen:=seen) (Bool.eq_false_iff.mpr hd);have hs:ls=s+k:=Nat.succ.inj h
   by_cases hl:s<ls
   ·rw[if_pos hl]at e;obtain⟨n',m,hn,e',hm⟩:=ih (s+1) false false seen' (h.trans (Nat.add_right_comm s 1 k).symm) (Nat.pos_of_ne_zero λq=>by rw[hs,q]at hl;exact OM _ hl);exact⟨n+n',m,OA (Nat.add_le_add h2 hn) (Nat.le_of_eq (by rw[Nat.mul_succ,Nat.add_comm 3 (3*k+6),Nat.add_right_comm])),by rw[fw,e,e'],hm⟩
   ·rw[if_neg hl]at e;cases(Nat.eq_zero_of_not_pos λq=>hl (hs▸Nat.lt_add_of_pos_right q):k=0);exact⟨n+1,{mkM bk text 5 ls s must first seen' with answer:=some false,frames:=[],weight:=0,outcome:=some .failed},OA (Nat.succ_le_succ h2) (by left),by rw[fw,e];exact bA rfl (NH ..) rfl,rfl⟩
noncomputable def stC(text:Array Nat)(ls p pc pos:Nat)(fr:List Sre.Frame)(w:Nat)(ans:Pj Bool)(handed:Nat)(outer:Bool)(seen:Seen):M:=
 {code:=fv,text,lim:=text.size,start:=p,lastStart:=ls,mustAdvance:=false,pc,pos,handed,outermost:=outer,marks:=#[],lastmark:= -1,lastindex:= -1,frames:=fr,weight:=w,answer:=ans,seen}
noncomputable def fr0(p:Nat):Sre.Frame:={wait:= .nextStart,pc:=10,pos:=p,outermost:=true}
noncomputable def fr1(p alt:Nat):Sre.Frame:={wait:= .nextBranch,pc:=alt,pos:=p,outermost:=true}
noncomputable def frL(p:Nat):Sre.Frame:={wait:= .lookNot,pc:=26,pos:=p,outermost:=true}
section
variable (text:Array Nat)(ls p pos h:Nat)(fr:List Sre.Frame)(o:Bool)(seen:Seen)
theorem sg:M.step (stC text ls p 10 p [fr0 p] 1 none h true seen)=stC text ls p 12 p [fr1 p 11,fr0 p] 2 none p true (seen.add 7):=nofun
theorem xn:M.step (stC text ls p 12 pos fr 2 none h o seen)=if pos≥text.size then stC text ls p 12 pos fr 2 (some false) h o (seen.add 16) else
  match(text.getD pos 0==13) with|true=>stC text ls p 14 (pos+1) fr 2 none h o (seen.add 16)|false=>stC text ls p 12 pos fr 2 (some false) h o (seen.add 16):=nofun
theorem xo:M.step (stC text ls p 14 pos fr 2 none h o seen)=if pos≥text.size then stC text ls p 14 pos fr 2 (some false) h o (seen.add 16) else
  match(text.getD pos 0==10) with|true=>stC text ls p 16 (pos+1) fr 2 none h o (seen.add 16)|false=>stC text ls p 14 pos fr 2 (some false) h o (seen.add 16):=nofun
theorem CR:M.step (stC text ls p 19 pos fr 2 none h o seen)=if pos≥text.size then stC text ls p 19 pos fr 2 (some false) h o (seen.add 16) else
  match(text.getD pos 0==10) with|true=>stC text ls p 21 (pos+1) fr 2 none h o (seen.add 16)|false=>stC text ls p 19 pos fr 2 (some false) h o (seen.add 16):=nofun
theorem Kp:M.step (stC text ls p 24 pos fr 2 none h o seen)=if pos≥text.size then stC text ls p 24 pos fr 2 (some false) h o (seen.add 16) else
  match(text.getD pos 0==13) with|true=>stC text ls p 26 (pos+1) fr 2 none h o (seen.add 16)|false=>stC text ls p 24 pos fr 2 (some false) h o (seen.add 16):=nofun
theorem CS:M.step (stC text ls p 29 pos fr 3 none h o seen)=if pos≥text.size then stC text ls p 29 pos fr 3 (some false) h o (seen.add 16) else
  match(text.getD pos 0==10) with|true=>stC text ls p 31 (pos+1) fr 3 none h o (seen.add 16)|false=>stC text ls p 29 pos fr 3 (some false) h o (seen.add 16):=nofun
theorem He:M.step (stC text ls p 16 pos fr 2 none h o seen)=stC text ls p 35 pos fr 2 none h o (seen.add 15):=nofun
theorem Hf:M.step (stC text ls p 21 pos fr 2 none h o seen)=stC text ls p 35 pos fr 2 none h o (seen.add 15):=nofun
theorem Hg:M.step (stC text ls p 32 pos fr 2 none h o seen)=stC text ls p 35 pos fr 2 none h o (seen.add 15):=nofun
theorem CT:M.step (stC text ls p 35 pos fr 2 none h true seen)=stC text ls p 35 pos fr 2 (some true) pos true (seen.add 1):=nofun
theorem NI:M.step (stC text ls p 26 pos fr 2 none h true seen)=stC text ls p 29 pos (frL pos::fr) 3 none pos false (seen.add 5):=nofun
theorem y9(pc:Nat):M.step (stC text ls p pc pos [fr1 p 11,fr0 p] 2 (some false) h o seen)=stC text ls p 19 p [fr1 p 18,fr0 p] 2 none p true seen:=nofun
theorem Hh(pc:Nat):M.step (stC text ls p pc pos [fr1 p 18,fr0 p] 2 (some false) h o seen)=stC text ls p 24 p [fr1 p 23,fr0 p] 2 none p true seen:=nofun
theorem Kq(pc q:Nat):M.step (stC text ls p pc pos [frL q,fr1 p 23,fr0 p] 3 (some false) h o seen)=stC text ls p 32 q [fr1 p 23,fr0 p] 2 none h true seen:=nofun
theorem CU(pc alt:Nat):M.step (stC text ls p pc pos [fr1 p alt,fr0 p] 2 (some true) h o seen)=stC text ls p alt p [fr0 p] 1 (some true) h true seen:=nofun
theorem CV(pc:Nat):M.step (stC text ls p pc pos [fr0 p] 1 (some true) h o seen)=stC text ls p 10 p [] 0 (some true) h true seen:=nofun
theorem Kr(pc:Nat)(b:Bool):M.step (stC text ls p pc pos [] 0 (some b) h o seen)={stC text ls p pc pos [] 0 (some b) h o seen with outcome:=some (if b then .matched else .failed)}:=nofun
end
noncomputable def fz(text:Array Nat)(p:Nat):Nat:=if text.getD p 0=13/\p+1<text.size/\text.getD (p+1) 0=10 then 2 else 1
theorem Hi(hp:p<text.size)(hc:text.getD p 0=10\/text.getD p 0=13):
  ∃n m,n<=16/\M.runFor n (stC text ls p 10 p [fr0 p] 1 none p true seen)=m/\m.outcome=some .matched/\m.start=p/\m.handed=p+fz text p:=by
 have hge:¬p≥text.size:=by omega
 rcases hc with hc|hc
 ·have h13:(text.getD p 0==13)=false:=by rw[hc];rfl
  have h10:(text.getD p 0==10)=true:=by rw[hc];rfl
  have hl:fz text p=1:=by unfold fz;rw[if_neg];rintro ⟨e,_⟩;omega
  refine⟨9,_,by left,bA rfl (sg ..) (bA rfl (by rw[xn,if_neg hge,h13]) (bA rfl (y9 ..) (bA rfl (by rw[CR,if_neg hge,h10]) (bA rfl (Hf ..) (bA rfl (CT ..) (bA rfl (CU ..) (bA rfl (CV ..) (bA rfl (Kr ..) rfl)))))))),rfl,rfl,?_⟩;rw[hl];rfl
 ·have h13:(text.getD p 0==13)=true:=by rw[hc];rfl
  have h10:(text.getD p 0==10)=false:=by rw[hc];rfl
  by_cases hn:p+1<text.size/\text.getD (p+1) 0=10
  ·have hge2:¬p+1≥text.size:=by omega
   have h2:(text.getD (p+1) 0==10)=true:=by rw[hn.2];rfl
   have hl:fz text p=2:=by unfold fz;rw[if_pos ⟨hc,hn⟩]
   refine⟨8,_,by left,bA rfl (sg ..) (bA rfl (by rw[xn,if_neg hge,h13]) (bA rfl (by rw[xo,if_neg hge2,h2]) (bA rfl (He ..) (bA rfl (CT ..) (bA rfl (CU ..) (bA rfl (CV ..) (bA rfl (Kr ..) rfl))))))),rfl,rfl,?_⟩;rw[hl];rfl
  ·have hl:fz text p=1:=by unfold fz;rw[if_neg];rintro ⟨_,e⟩;exact hn e
   have tail:∀seen,∃seen',M.step (stC text ls p 14 (p+1) [fr1 p 11,fr0 p] 2 none p true seen)=stC text ls p 14 (p+1) [fr1 p 11,fr0 p] 2 (some false) p true seen':=λseen=>by
    by_cases hs:p+1≥text.size
    ·exact⟨_,by rw[xo,if_pos hs]⟩
    ·have h2:(text.getD (p+1) 0==10)=false:=by
      cases h:(text.getD (p+1) 0==10) with
      |false=>rfl
      |true=>exact O8 ⟨by omega,by simpa using h⟩ hn
     exact⟨_,by rw[xo,if_neg hs,h2]⟩
   have tail2:∀seen,∃seen',M.step (stC text ls p 29 (p+1) [frL (p+1),fr1 p 23,fr0 p] 3 none (p+1) false seen)=stC text ls p 29 (p+1) [frL (p+1),fr1 p 23,fr0 p] 3 (some false) (p+1) false seen':=λseen=>by
    by_cases hs:p+1≥text.size
    ·exact⟨_,by rw[CS,if_pos hs]⟩
    ·have h2:(text.getD (p+1) 0==10)=false:=by
      cases h:(text.getD (p+1) 0==10) with
      |false=>rfl
      |true=>exact O8 ⟨by omega,by simpa using h⟩ hn
     exact⟨_,by rw[CS,if_neg hs,h2]⟩
   obtain⟨s1,e1⟩:=tail (((seen.add 7).add 16));obtain⟨s2,e2⟩:=tail2 ((((s1.add 16).add 16).add 5));refine⟨15,_,by left,bA rfl (sg ..) (bA rfl (by rw[xn,if_neg hge,h13]) (bA rfl e1 (bA rfl (y9 ..) (bA rfl (by rw[CR,if_neg hge,h10]) (bA rfl (Hh ..) (bA rfl (by rw[Kp,if_neg hge,h13]) (bA rfl (NI ..) (bA rfl e2 (bA rfl (Kq ..) (bA rfl (Hg ..) (bA rfl (CT ..) (bA rfl (CU ..) (bA rfl (CV ..) (bA rfl (Kr ..) rfl)))))))))))))),rfl,rfl,?_⟩;rw[hl];rfl
noncomputable def m0(code text:Array Nat)(pc s:Nat)(must:Bool):M:=
 {code,text,lim:=text.size,start:=s,pc,pos:=s,handed:=s,marks:=#[],mustAdvance:=must,seen:=({}:Seen).add 14}
theorem fsD(text:Array Nat)(s:Nat)(must:Bool):forSearch bk text 0 s text.size must=
  if(decide (s>text.size)||decide (text.size-s<1))=true then {m0 bk text 5 s must with answer:=some false} else mkM bk text 5 text.size s must true (({}:Seen).add 14):=nofun
theorem CW(code text:Array Nat)(pc s ls:Nat)(must:Bool)(seen:Seen):M.step {m0 code text pc s must with answer:=some false,lastStart:=ls,seen}={m0 code text pc s must with answer:=some false,outcome:=some .failed,lastStart:=ls,seen}:=nofun
theorem fsC(text:Array Nat)(s:Nat)(must:Bool):forSearch fv text 0 s text.size must=
  if(decide (s>text.size)||decide (text.size-s<1))=true then {m0 fv text 10 s must with answer:=some false} else
  match M.admitted {m0 fv text 10 s must with lastStart:=text.size} (text.size+1-s) s (({}:Seen).add 14) with
  | .ok (some p,seen)=>stC text text.size p 10 p [fr0 p] 1 none p true seen
  | .ok (none,seen)=>{m0 fv text 10 s must with lastStart:=text.size,seen,answer:=some false}
  | .error why=>{m0 fv text 10 s must with lastStart:=text.size,outcome:=some (.stuck why)}:=nofun
noncomputable def lq(c:Nat):Bool:=c==10||c==13
theorem setC(c:Nat)(seen:Seen):inSet fv c fv.size 5 true seen=
  if(c==10)=true then .ok (true,seen.add 16) else if(c==13)=true then .ok (true,(seen.add 16).add 16) else .ok (false,((seen.add 16).add 16).add 0):=nofun
noncomputable def cT(text:Array Nat):Nat->Nat->Pj Nat
 |0,_=>none
 |k+1,s=>if s<text.size then(if lq (text.getD s 0) then some s else cT text k (s+1)) else none
theorem Ml(text:Array Nat)(m:M)(hc:m.code=fv)(ht:m.text=text)(hl:m.lim=text.size):∀(k s:Nat) (seen:Seen),∃seen',M.admitted m k s seen= .ok (cT text k s,seen')
 |0,s,seen=>⟨seen,rfl⟩
 |k+1,s,seen=>by
  unfold M.admitted cT;rw[hl]
  by_cases h:s≥text.size
  ·rw[if_pos h,if_neg (Nat.not_lt.mpr h)];exact⟨_,rfl⟩
  ·rw[if_neg h,if_pos (Nat.lt_of_not_le h),hc,ht,setC]
   by_cases h1:(text.getD s 0==10)=true
   ·rw[if_pos h1,if_pos (by unfold lq;rw[h1];rfl)];exact⟨_,rfl⟩
   ·rw[if_neg h1]
    by_cases h2:(text.getD s 0==13)=true
    ·rw[if_pos h2,if_pos (by unfold lq;rw[h2];simp)];exact⟨_,rfl⟩
    ·rw[if_neg h2,if_neg (by unfold lq;simp at h1 h2;simp [h1,h2])];exact Ml text m hc ht hl k (s+1) _
theorem iC:∀{k s p:Nat},cT text k s=some p->s<=p/\p<text.size/\lq (text.getD p 0)=true
 |k+1,s,p,h=>by
  unfold cT at h
  by_cases h1:s<text.size
  ·rw[if_pos h1]at h
   by_cases h2:lq (text.getD s 0)=true
   ·rw[if_pos h2]at h;cases h;exact⟨OP _,h1,h2⟩
   ·rw[if_neg h2]at h;obtain⟨a,b,c⟩:=iC h;exact⟨Nat.le_of_succ_le a,b,c⟩
  ·rw[if_neg h1]at h;cases h
theorem kb:∀{k s p:Nat},bN text k s=some p->s<=p/\fy text p=true
 |k+1,s,p,h=>by
  unfold bN at h;split at h
  ·cases h;exact⟨OP _,by assumption⟩
  ·obtain⟨a,c⟩:=kb h;exact⟨Nat.le_of_succ_le a,c⟩
structure Found (m:M) (r:Pj (Nat×Nat)):Prop where
 out:match r with
  |some (p,q)=>m.outcome=some .matched/\m.start=p/\m.handed=q
  |none=>m.outcome=some .failed
theorem sh(e:s=n):(decide (s>n)||decide (n-s<1))=true/\n+1-s=1:=by subst e;rw[Nat.sub_self,Nat.add_sub_cancel_left];exact⟨Bool.or_true _,rfl⟩
theorem JK(h:s<n):¬(decide (s>n)||decide (n-s<1))=true:=by rw[decide_eq_false (Nat.lt_asymm h),decide_eq_false (Nat.not_lt.mpr (Nat.sub_pos_of_lt h))];exact Bool.false_ne_true
theorem Hj(text:Array Nat)(s:Nat)(must:Bool)(hs:s<=text.size):∃n m,n<=20/\M.runFor n (forSearch fv text 0 s text.size must)=m/\Found m ((cT text (text.size+1-s) s).map λp=>(p,p+fz text p)):=by
 revert hs;exists text,s,must;rw[fsC];rcases Nat.eq_or_lt_of_le hs with e|h
 ·rw[if_pos (sh e).1,(sh e).2];refine⟨1,_,by left,bA rfl (CW fv text 10 s 0 must (({}:Seen).add 14)) rfl,?_⟩;have:cT text 1 s=none:=if_neg (OU.mpr (Nat.le_of_eq e.symm));refine Eq.symm this▸?_;exact⟨rfl⟩
 ·rw[if_neg (JK h)];obtain⟨seen',e⟩:=Ml text {m0 fv text 10 s must with lastStart:=text.size} rfl rfl rfl (text.size+1-s) s (({}:Seen).add 14);refine Eq.symm e▸?_;cases hn:cT text (text.size+1-s) s with
  |none=>exact⟨1,_,by left,bA rfl (CW fv text 10 s text.size must seen') rfl,⟨rfl⟩⟩
  |some p=>obtain⟨a,b,c⟩:=iC hn;obtain⟨n,m,h1,h2,h3,h4,h5⟩:=Hi (ls:=text.size) (seen:=seen') b (by unfold lq at c;simpa using c);exact⟨n,m,OA h1 (by left),h2,⟨h3,h4,h5⟩⟩
theorem Hk(text:Array Nat)(s:Nat)(must:Bool)(hs:s<=text.size):∃n m,n<=3*(text.size+2)+6/\M.runFor n (forSearch bk text 0 s text.size must)=m/\Found m ((bN text (text.size+1-s) s).map λp=>(p,p+1)):=by
 rw[fsD];rcases Nat.eq_or_lt_of_le hs with e|h
 ·rw[if_pos (sh e).1,(sh e).2];refine⟨1,_,OA (by left) (Nat.le_add_left 6 _),bA rfl (CW bk text 5 s 0 must (({}:Seen).add 14)) rfl,?_⟩;have:fy text s=false:=by unfold fy;rw[e];simp
  have:bN text 1 s=none:=by unfold bN;rw[this];rfl
  refine Eq.symm this▸?_;exact⟨rfl⟩
 ·rw[if_neg (JK h)];obtain⟨n,m,h1,h2,h3⟩:=Hd (text:=text) (ls:=text.size) (text.size+1-s) s must true (({}:Seen).add 14) (Nat.add_sub_of_le (OK hs)).symm (Nat.sub_pos_of_lt (Nat.lt_succ_of_le hs));refine⟨n,m,OA h1 (Nat.add_le_add_right (Nat.mul_le_mul_left 3 (OA (Nat.sub_le _ _) (O7 _))) 6),h2,?_⟩;cases hn:bN text (text.size+1-s) s with
  |none=>rw[hn]at h3;exact⟨h3⟩
  |some p=>rw[hn]at h3;exact⟨h3⟩
end
section
open PySem PySem.Calls PyProof.Rows PySem.W
section
open PySem.Builtin PySem.Builtin.Re
section
variable {prog:Program}{w:World}{A:Po}{E:Pr}{s:Pg}
theorem drive(e:Sre.M.runFor n m=mr)(ho:mr.outcome.isSome=true):∀(T:Nat) {M:Model} {A:Po} {E:Pr} {s:Pg} {Q:Sre.M->Pg->Prop},n<=4*T->1<=T->Q mr s->wpAny M A (reDrive T m) Q E s:=by
 intro T;induction T generalizing m n with
 |zero=>intro M A E s Q _ h;omega
 |succ T ih=>
  intro M A E s Q hn _ hQ;unfold reDrive;show wpAny M A (if(Sre.M.runFor 4 m).outcome.isSome=true then pure (Sre.M.runFor 4 m) else do rule "sre.turn";reDrive T (Sre.M.runFor 4 m)) Q E s
  by_cases h4:n<=4
  ·have e4:Sre.M.runFor 4 m=mr:=by
    have:4=n+(4-n):=by omega
    rw[this,fw,e,mf ho]
   rw[e4,if_pos ho];exact Oz hQ
  ·have e2:Sre.M.runFor (n-4) (Sre.M.runFor 4 m)=mr:=by
    rw[<-fw];have:4+(n-4)=n:=by omega
    rw[this,e]
   cases h1:(Sre.M.runFor 4 m).outcome.isSome with
   |true=>refine wpAny_ite_true (Pa rfl) ?_;rw[mf h1]at e2;refine Eq.symm e2▸?_;exact Oz hQ
   |false=>refine wpAny_ite_false (decide_eq_false (by simp)) ?_;exact OB (wpAny_rule (ih e2 (by omega) (by omega) hQ))
theorem lu{M:Model}{Q:Unit->Pg->Prop}{c:Nat->Bool}{r:Nat->String}:∀(l:List Nat),Q () s->wpAny M A (forIn l () λi _=>if c i=true then do rule (r i);pure (ForInStep.yield ()) else pure (ForInStep.yield ())) Q E s
 | [],h=>Oz h
 |a::l,h=>by
  rw[List.forIn_cons];refine OB ?_;split
  ·exact OB (wpAny_rule (Oz (lu l h)))
  ·exact Oz (lu l h)
theorem za(e:Sre.M.runFor n m=mr)(hn:n<=2 ^ 60)(F:Found mr r)
  (hQ:Q (r.map λ_=>mr) s):wpAny M A (reRunToEnd m) Q E s:=by
 have ho:mr.outcome.isSome=true:=by
  have:=F.out;cases r with
  |none=>simp only at this;rw[this];rfl
  |some q=>simp only at this;rw[this.1];rfl
 unfold reRunToEnd;refine OB (drive e ho (2 ^ 64) (by lia) (by lia) ?_);refine OB (lu (c:=λi=>mr.seen.has i) (r:=λi=>Sre.names.getD i "") _ ?_);have:=F.out;cases r with
 |none=>simp only at this;rw[this];exact Oz hQ
 |some q=>simp only at this;rw[this.1];exact Oz hQ
end
noncomputable def aj(text:Array Nat)(rep:Str)(next:Nat->Pj (Nat×Nat)):Nat->Nat->List Str
 |0,_=>[]
 |k+1,st=>match next st with
  |some (p,q)=>(if st<p then [⟨text.extract st p⟩] else [])++rep::aj text rep next k q
  |none=>if st<text.size then [⟨text.extract st text.size⟩] else []
structure PatOk (V:Vw) (a:Pn) (code:Array Nat) (next:Array Nat->Nat->Pj (Nat×Nat)):Prop where
 at_:∀h,V.K.In h->∃o fs ca oc ci cn,h.get? a=some o/\o.cls= .type "re.Pattern"/\o.dict=none/\o.data= .fields fs/\fs.getD 5 .none= .ref ca/\h.get? ca=some oc/\oc.data= .seq ci cn/\(ci.map reRawOf).map (·.toNat)=code/\reRawNat (fs.getD 6 .none)=0/\reRawNat (fs.getD 2 .none)=0
 search:∀text s must,s<=text.size->text.size<=100000->∃n m,n<=2 ^ 60/\Sre.M.runFor n (Sre.forSearch code text 0 s text.size must)=m/\Found m (next text s)
 fit:∀text s p q,next text s=some (p,q)->s<=p/\p<q/\q<=text.size
section
variable {V:Vw}{a:Pn}{code:Array Nat}{next:Array Nat->Nat->Pj (Nat×Nat)}{A:Po}{E:Pr}{s:Pg}
theorem ke(P:PatOk V a code next)(hK:V.K.In s.heap)
  (hQ:Q {pattern:= .ref a,string:= .str x u,code,text:=x.cps,kind:=0,groups:=0,pos:=0,lim:=x.cps.size} s):wpAny M A (reWholeTarget (.ref a) (.str x u)) Q E s:=by
 obtain⟨o,fs,ca,oc,ci,cn,h1,h2,h3,h4,h5,h6,h7,h8,h9,h10⟩:=P.at_ _ hK;unfold reWholeTarget;refine OB (wpAny_fieldsOf h1 h4 ?_);refine OB (OG (a:=(x.cps,0)) rfl ?_);simp only [h9]
 show wpAny M A (do
  reNoCollectionInside (.str x u) 0
  pure {pattern:= .ref a,string:= .str x u,code:=(<-reRawItems (fs.getD 5 .none)).map (·.toNat),text:=x.cps,kind:=0,groups:=reRawNat (fs.getD 2 .none),pos:=0,lim:=x.cps.size}) Q E s
 refine OB (Oz ?_);unfold reRawItems;refine Eq.symm h5▸?_;refine OB (OB (wpAny_seqItems h6 h7 (Oz (Oz ?_))));refine(?_:Q {pattern:= .ref a,string:= .str x u,code:=(ci.map reRawOf).map (·.toNat),text:=x.cps,kind:=0,groups:=reRawNat (fs.getD 2 .none),pos:=0,lim:=x.cps.size} s);rw[h8,h10];exact hQ
end
theorem nZ:entryFor table "re.Pattern.sub.loop"=some Builtin.«re.Pattern.sub.loop»:=entryFor_of_tree nofun
theorem qF:entryFor table "re.Pattern.sub"=some Builtin.«re.Pattern.sub»:=entryFor_of_tree nofun
theorem uC(a b c:Ph):argsOk "re.Pattern.sub" ⟨[a,b,c],[]⟩:=by unfold argsOk;symm
theorem pW:typeLookup (.type "str") "__call__"=pure none:=by rw[typeLookup_type,builtinLookup_eq_fast];symm
theorem gQ(as:Args):(Code.builtin "re.Pattern.sub.loop" as).quiet=true:=Code.quiet_builtin _ (by right)
theorem lx(h:StrsAre vs ys)(y:Str)(t:Tok):StrsAre (vs++[.str y t]) (ys++[y]):=by
 induction h with
 |nil=>exact .cons _ _ .nil
 |cons _ _ _ ih=>exact .cons _ _ ih
section
variable {V:Vw}{a:Pn}{code:Array Nat}{next:Array Nat->Nat->Pj (Nat×Nat)}
theorem gR(O:V.Ok)(W:Wd V s)(hg:GL s.heap L (List.toArray vs))(hge:175<=L)(hz:vs.length<=1000000)
  (hQ:∀h',GL h' L (List.toArray (vs++[v]))->St V (λb=>b=L) s {s with heap:=h'}->Q () {s with heap:=h'}):wpAny (model V.prog V.w) A (updateSeq L (·.push v)) Q E s:=by
 obtain⟨o,ho,hc,hdc,n,hd⟩:=id hg;obtain⟨n',hd'⟩:=Obj.data_mapSeq hd (·.push v)
 refine wpAny_updateSeq ho hd (hQ _ ⟨_,O4 _ ho (Obj.isFreed_of_seq hd'),(Obj.cls_mapSeq ..).trans hc,(iA ..).trans hdc,n',by rw[hd'];simp⟩
  (St.same O (D:=λb=>b=L) W (OO ..) rfl hge s.toks (eU hg.isList))) (by rw[List.size_toArray,sizeLine_eq];lia) (by simp;rw[sizeLine_eq];lia)
theorem CX{x:Str}{a b:Nat}(hx:x.length<=100000):(⟨x.cps.extract a b⟩:Str).length<=sizeLine:=by refine(?_:(x.cps.extract a b).size<=_);rw[Array.size_extract,sizeLine_eq];exact OA (Nat.sub_le _ _) (OA (Nat.min_le_right _ _) (OA hx (by left)))
theorem qG(O:V.Ok)(hge:175<=L)(hq:c.quiet=true)
  (IH:∀s (vs:List Ph) accs,Wd V s->1<=s.toks->GL s.heap L (List.toArray vs)->StrsAre vs accs->accs++rest=T->(∀t' s',St V (λb=>b=L) s s'->1<=s'.toks->R (.ok (.ret (.str (Txt.join Str.empty T) t'))) s')->codeAny (model V.prog V.w) A c R s)
  (st1:St V (λb=>b=L) s s1) (t1:1<=s1.toks) (g1:GL s1.heap L (List.toArray vs1)) (a1:StrsAre vs1 accs1) (e:accs1++rep::rest=T) (hz:T.length<=1000000)
  (hQ:∀t' s',St V (λb=>b=L) s s'->1<=s'.toks->R (.ok (.ret (.str (Txt.join Str.empty T) t'))) s'):
  wpAny (model V.prog V.w) A' (do
   updateSeq L (·.push (.str rep ru))
   again c) (λfin s'=>match fin with| .done f=>R (.ok f) s'| .again c'=>c'.quiet=true/\codeAny (model V.prog V.w) A c' R s') E s1:=by
 have hl:vs1.length<=1000000:=by rw[a1.len_eq];rw[<-e,List.length_append]at hz;exact OA (OI _ _) hz
 exact wpB (gR O st1.wd g1 hge hl λh' g2 st2=>Oz ⟨hq,IH _ _ _ st2.wd t1 g2 (lx a1 rep ru) (by rw[List.append_assoc];exact e) λt' s' st3 t3=>hQ t' s' ((st1.trans st2).trans st3) t3⟩)
theorem qH{L:Pn}{x:Str}{T:List Str}{A A':Po}{s s1:Pg}{R:Result->Pg->Prop}{E:Pr}{vs1:List Ph}(st1:St V (λb=>b=L) s s1)(t1:1<=s1.toks)(g1:GL s1.heap L (List.toArray vs1))(a1:StrsAre vs1 T)(hsum:bF T<=16777216)
  (hQ:∀t' s',St V (λb=>b=L) s s'->1<=s'.toks->R (.ok (.ret (.str (Txt.join Str.empty T) t'))) s'):
  wpAny (model V.prog V.w) A' (do
   let joiner <-reSlice x.cps 0 0 0
   let text <-if((<-seqItems? (.ref L)).getD #[]).isEmpty then pure joiner
    else call (.builtin (if((0:Nat)==0)=true then "str.join" else "bytes.join")) [joiner,.ref L]
   ret text) (λfin s'=>match fin with| .done f=>R (.ok f) s'| .again c'=>c'.quiet=true/\codeAny (model V.prog V.w) A c' R s') E s1:=by
 revert st1 t1 g1 a1 hsum hQ;exists V,L,x,T,A,A',s,s1,R,E,vs1
 have hem:(⟨x.cps.extract 0 0⟩:Str)=Str.empty:=by refine(?_:Str.mk (x.cps.extract 0 0)=Str.mk #[]);simp
 refine(?_:wpAny _ _ (mkStr ⟨x.cps.extract 0 0⟩>>=_) _ _ s1);refine Eq.symm hem▸?_;refine wpB (wpAny_mkStr ?_ (Nat.zero_le _));obtain⟨o,ho,hc,hdc,n',hd⟩:=id g1;refine OB (wpAny_seqItems (s:={s1 with toks:=s1.toks+1}) ho hd ?_);cases T with
 |nil=>cases a1;exact OB (Oz (Oz (hQ s1.toks {s1 with toks:=s1.toks+1} (st1.trans (.toks st1.wd _ _)) (OK t1))))
 |cons y ys=>
  have hne:(List.toArray vs1).isEmpty=false:=by cases a1;rfl
  simp only [Option.getD_some,hne,Bool.false_eq_true,if_false]
  refine OB (cP (s:={s1 with toks:=s1.toks+1}) (OK t1) (PyProof.Rows.join_list (s:={s1 with toks:=s1.toks+1}) g1.isList a1 (by unfold bF at hsum;simpa [Str.empty,Str.length]using hsum) λt' k tk'=>Oz (hQ t' {s1 with toks:=k} (st1.trans (.toks st1.wd _ _)) tk')))
theorem CY(P:PatOk V a code next)(O:V.Ok)(hge:175<=L)(hx:x.length<=100000)(hrep:rep.length<=100000):∀(k st:Nat) (must:Bool) (n:Int) (A:Po) (s:Pg) (R:Result->Pg->Prop) (vs:List Ph) (accs:List Str),
  x.length-st<k->st<=x.length->Wd V s->1<=s.toks->GL s.heap L (List.toArray vs)->StrsAre vs accs->(accs++aj x.cps rep (next x.cps) k st).length<=1000000->bF (accs++aj x.cps rep (next x.cps) k st)<=16777216->
  (∀t' s',St V (λb=>b=L) s s'->1<=s'.toks->R (.ok (.ret (.str (Txt.join Str.empty (accs++aj x.cps rep (next x.cps) k st)) t'))) s')->
  codeAny (model V.prog V.w) A (.builtin "re.Pattern.sub.loop" ⟨[.ref a,.str x u,.str rep ru,rawInt 0,rawInt 0,rawInt n,rawInt st,rawInt st,.bool must,.ref L,.bool false],[]⟩) R s:=by
 intro k;induction k with
 |zero=>exact λst must n A s R vs accs h=>O8 h (Pe _)
 |succ k ih=>
  intro st must n A s R vs accs hk hst W tk hg hs hlen hsum hQ;refine codeAny_builtin nZ ?_;unfold Builtin.«re.Pattern.sub.loop»
  show wpAny _ _ (do
   let t <-reWholeTarget (.ref a) (.str x u)
   reLiteralCannotBeTurned (.str rep ru)
   match <-(reNextFound t ((st:Int)).toNat must) with
   |some m=>
    if((st:Int)).toNat<m.start then updateSeq L (·.push (<-reSlice t.text t.kind ((st:Int)).toNat m.start))
    updateSeq L (·.push (.str rep ru))
    again (.builtin "re.Pattern.sub.loop" ⟨[.ref a,.str x u,.str rep ru,rawInt 0,rawInt 0,rawInt (n+1),rawInt m.handed,rawInt m.handed,.bool (m.handed==m.start),.ref L,.bool false],[]⟩)
   |none=>
    if((st:Int)).toNat<t.lim then updateSeq L (·.push (<-reSlice t.text t.kind ((st:Int)).toNat t.lim))
    let joiner <-reSlice t.text t.kind 0 0
    let text <-if((<-seqItems? (.ref L)).getD #[]).isEmpty then pure joiner
     else call (.builtin (if t.kind==0 then "str.join" else "bytes.join")) [joiner,.ref L]
    ret text) _ _ s
  refine wpB (ke P W.K ?_);refine wpB (OG (a:=()) rfl ?_);have est:((st:Int)).toNat=st:=by simp
  refine Eq.symm est▸?_;have hxs:x.cps.size=x.length:=rfl;obtain⟨nn,m,h1,h2,h3⟩:=P.search x.cps st must (by rw[hxs];exact hst) (by rw[hxs];exact hx);refine(?_:wpAny _ _ (reRunToEnd (Sre.forSearch code x.cps 0 st x.cps.size must)>>=_) _ _ s);refine OB (za h2 h1 h3 ?_);have hal:vs.length<=1000000:=by rw[hs.len_eq];rw[List.length_append]at hlen;exact OA (OI _ _) hlen
  generalize hT:accs++aj x.cps rep (next x.cps) (k+1) st=T at hlen hsum hQ;unfold aj at hT;cases hn:next x.cps st with
  |some pq=>
   obtain⟨p,q⟩:=pq;rw[hn]at h3 hT;obtain⟨f1,f2,f3⟩:=P.fit _ _ _ _ hn;obtain⟨ho,hst',hha⟩:=h3.out;simp only [Option.map_some];rw[hst',hha];have IH:=λs (vs:List Ph) accs (W:Wd V s) (tk:1<=s.toks) g a (e:accs++aj x.cps rep (next x.cps) k q=T) hQ=>ih q (q==p) (n+1) A s R vs accs (OD (Nat.sub_lt_sub_left (O9 f1 (OD f2 f3)) (O9 f1 f2)) (Nat.le_of_lt_succ hk)) f3 W tk g a (by rw[e];exact hlen) (by rw[e];exact hsum) (by rw[e];exact hQ);replace hT:accs++((if st<p then [⟨x.cps.extract st p⟩] else [])++rep::aj x.cps rep (next x.cps) k q)=T:=hT
   by_cases hp:st<p
   ·rw[if_pos hp]at hT ⊢;refine wpB (wpAny_mkStr ?_ (CX hx));have stt:=St.toks W (λb=>b=L) (s.toks+1);refine wpB (gR O stt.wd hg hge hal λh' g2 st2=>?_);exact qG O hge (gQ _) IH (stt.trans st2) (OK tk) g2 (lx hs _ _) ((List.append_assoc ..).trans hT) hlen hQ
   ·rw[if_neg hp]at hT ⊢;exact qG O hge (gQ _) IH (.refl W _) tk hg hs hT hlen hQ
  |none=>
   rw[hn]at h3 hT;replace hT:accs++(if st<x.cps.size then [⟨x.cps.extract st x.cps.size⟩] else [])=T:=hT;simp only [Option.map_none]
   by_cases hp:st<x.cps.size
   ·refine wpAny_ite_true (Pa hp) ?_;rw[if_pos hp]at hT;refine wpB (wpAny_mkStr ?_ (CX hx));have stt:=St.toks W (λb=>b=L) (s.toks+1);refine wpB (gR O stt.wd hg hge hal λh' g2 st2=>?_);exact qH (stt.trans st2) (OK tk) g2 (hT▸lx hs _ _) hsum hQ
   ·refine wpAny_ite_false (decide_eq_false hp) ?_;rw[if_neg hp,List.append_nil]at hT;exact qH (.refl W _) tk hg (hT▸hs) hsum hQ
end
section
variable {V:Vw}{a:Pn}{code:Array Nat}{next:Array Nat->Nat->Pj (Nat×Nat)}
theorem Au(P:PatOk V a code next)(O:V.Ok)(hx:x.length<=100000)(hrep:rep.length<=100000)(hb:rep.cps.contains 92=false)
  (W:Wd V s) (tk:1<=s.toks) (hlen:(aj x.cps rep (next x.cps) (x.length+1) 0).length<=1000000) (hsum:bF (aj x.cps rep (next x.cps) (x.length+1) 0)<=16777216)
  (hQ:∀t' s',St V none9 s s'->1<=s'.toks->Q (.str (Txt.join Str.empty (aj x.cps rep (next x.cps) (x.length+1) 0)) t') s'):
  wpAny (model V.prog V.w) A (call (.builtin "re.Pattern.sub") [.ref a,.str rep ru,.str x u]) Q E s:=by
 obtain⟨o,fs,ca,oc,ci,cn,h1,h2,h3,h4,h5,h6,h7,h8,h9,h10⟩:=P.at_ _ W.K;have hT:s.TypeIs (.ref a) "re.Pattern":=⟨o,h1,h2⟩;refine OW (codeAny_call_builtin cY.plain qF (cY.check _ _ _ _ _ _ _ _ hT (uC _ _ _) ?_));refine(?_:wpAny _ _ (reSubstitute "re.Pattern.sub" "sub" false ⟨[.ref a,.str rep ru,.str x u],[]⟩) _ _ s);unfold reSubstitute;refine wpB (OG (a:=[some (.str rep ru),some (.str x u),none]) (by first|rfl|symm) ?_);refine wpB (Oz ?_);refine wpB (OY (name:=Pd "__call__") (OX _ _ _) pW ?_);refine wpF rfl (wpB (OG (a:=some rep) rfl ?_));refine wpB (Oz (wpF rfl (wpT ((ON not hb).trans rfl) (wpB (Oz ?_)))));refine wpB (OJ (ke P W.K ?_));refine wpAny_ite_false (by left) ?_;refine wpB (wpAny_newObj_type ?_ (by size_fits));refine Oz ⟨gQ _,?_⟩;have st1:=St.push O W none9 {cls:= .type "list",data:= .seq ([]:List Ph).toArray};have hge:175<=s.heap.objs.size:=W.size;refine CY P O hge hx hrep (x.length+1) 0 false 0 A _ _ [] [] (by lia) (Nat.zero_le _) st1.wd tk ⟨_,OE _ rfl,rfl,rfl,_,rfl⟩ .nil (by simpa using hlen) (by simpa using hsum) λt' s' st2 t2=>?_;rw[List.nil_append];refine hQ t' s' ⟨⟨OA st1.keep.size st2.keep.size,λb ob d t e=>?_,λb ob t c e=>st2.keep.code b ob t c (st1.keep.code b ob t c e)⟩,st2.wd⟩ t2;refine st2.keep.keep b ob (λq=>?_) t (st1.keep.keep b ob d t e);have q':b=s.heap.objs.size:=q;subst q';exact OM _ (OF e)
end
end
section
noncomputable def xp(K:Frag):Bool:=K.all λp=>p.1 != 74&&p.1 != 88&&decide (p.1<175)
theorem NJ(P:Pk):xp (KK P)=true:=nofun
noncomputable def exV:MV->Pj Ph
 | .ex v=>some v
 |_=>none
noncomputable def NK(r:Pj Ph)(m:MV)(x:Str):Bool:=(r.any λv=>exV m==some v||(strOf m).any λy=>Value.isStrOf y v)||(r.isNone&&(exV m).any λu=>bootBuiltins x==some u&&x != ("__name__":Str))
noncomputable def zb(K:Frag):Bool:=rI.all λp=>(nsIn K Pb p.1).any λr=>NK r p.2 p.1
theorem Mm(P:Pk):zb (KK P)=true:=nofun
theorem Hl(P:Pk):nsOkIn (KK P) Pb=true:=nofun
theorem NL(P:Pk):nsOkIn (KK P) cStatics=true:=nofun
theorem NM(P:Pk):nsIn (KK P) cStatics "sys.recursionlimit"=some none:=nofun
theorem Mn(P:Pk):nsIn (KK P) cStatics sharingNotToldKey=some none:=nofun
noncomputable def aD(K:Frag)(a:Pn):FuncData:=match K.lookup a with
 |some ⟨_,_,.func fd,_⟩=>fd
 |_=>default
noncomputable def oAt(K:Frag)(a:Pn):Obj:=(K.lookup a).getD default
noncomputable def ax(o:Obj):Array Ph:=match o.data with
 | .fields vs=>vs
 |_=>#[]
noncomputable def si(o:Obj):Nat:=match o.data with
 | .seq _ n=>n
 |_=>0
structure PBody where
 body:List Pq
 names:Sc
noncomputable def pB(nm:String):PBody:=⟨(thd nm).2.1,(thd nm).2.2.names⟩
theorem Mo{ps:List Str}{nm:Sc}(h:(ps.all λx=>nm.lookup x==some .local||nm.lookup x==some .cell)=true):∀x∈ps,nm.lookup x=some .local\/nm.lookup x=some .cell:=λx hx=>by have:=OQ.mp h x hx;rw[Bool.or_eq_true]at this;exact this.imp (λh=>by simpa using h) (λh=>by simpa using h)
theorem Av{nm:Sc}(h:(nm.all λp=>p.2 != .free)=true):∀x,nm.lookup x≠some .free:=λx e=>by have:=OQ.mp h _ (lookup_mem e);simp at this
structure FnQ (K:Frag) (a c:Pn) (t:Tok) (ps:List Str) (body:List Pq) (sc:Sc):Prop where
 e0:K.lookup a=some (oAt K a)
 e1:(oAt K a).data= .func (aD K a)
 e2:(aD K a).code= .ref c
 e3:K.lookup c=some (oAt K c)
 e4:(oAt K c).data= .fields (ax (oAt K c))
 e5:(ax (oAt K c))[1]?=some (.str (aD K a).qualname t)
 e6:(aD K a).body= .stmts body
 e7:(aD K a).closure=[]
 e8:(aD K a).scope.kind= .function
 e9:(aD K a).scope.isCoroutine=false
 f0:(aD K a).scope.isGenerator=false
 f1:(aD K a).globals=Pb
 f2:(aD K a).builtins=Pc
 f3:(aD K a).scope.names=sc
 f4:(ps.all λx=>sc.lookup x==some .local||sc.lookup x==some .cell)=true
 f5:(sc.all λp=>p.2 != .free)=true
 f6:(Nat.beq c 78|| !dx sc)=true
theorem aU{V:Vw}{K:Frag}{a c:Pn}{t:Tok}{ps:List Str}{body:List Pq}{sc:Sc}{dv:List Ph}(hK:V.K=K)(q:FnQ K a c t ps body sc)
  (bind:∀vals:List Ph,vals.length+dv.length=ps.length->∀s:Pg,V.K.In s.heap->BindsTo s (aD K a) ⟨vals,[]⟩ (ps.zip (vals++dv))):IsDef V a (aD K a) ps body dv where
 at_:=⟨_,hK▸q.e0,q.e1⟩
 code:=⟨c,_,_,t,q.e2,hK▸q.e3,q.e4,q.e5⟩
 body_:=q.e6
 bind:=bind
 clo:=q.e7
 kind:=q.e8
 cod:=λh=>q.e2.trans (ON Value.ref (by have:=q.f6;rw[<-q.f3,h,Bool.not_true,Bool.or_false]at this;exact Nat.eq_of_beq_eq_true this))
 co:=q.e9
 gen:=q.f0
 glob:=q.f1
 bi:=q.f2
 pk:=by rw[q.f3];exact Mo q.f4
 nofree:=by rw[q.f3];exact Av q.f5
theorem Mp{α:Type}{l:List α}(h:l.length=1):∃a,l=[a]:=List.length_eq_one_iff.mp h
theorem JL{α:Type}{l:List α}{n:Nat}(h:l.length=n+1):∃a r,l=a::r/\r.length=n:=by
 cases l with
 |nil=>cases h
 |cons a r=>exact⟨a,r,rfl,Nat.succ.inj h⟩
theorem Hm{α:Type}{l:List α}(h:l.length=2):∃a b,l=[a,b]:=by obtain⟨a,r,e,h⟩:=JL h;exact by obtain⟨b,e2⟩:=Mp h;exact⟨a,b,e2▸e⟩
theorem CZ{α:Type}{l:List α}(h:l.length=3):∃a b c,l=[a,b,c]:=by obtain⟨a,r,e,h⟩:=JL h;exact by obtain⟨b,c,e2⟩:=Hm h;exact⟨a,b,c,e2▸e⟩
theorem bind1{fd:FuncData}{p:Str}{K:Frag}(h:∀a,bindArgs fd ⟨[a],[]⟩=pure ([p].zip [a]))(vals:List Ph)(hl:vals.length+([]:List Ph).length=[p].length)(s:Pg)(_:K.In s.heap):BindsTo s fd ⟨vals,[]⟩ ([p].zip (vals++[])):=by obtain⟨a,rfl⟩:=Mp (show vals.length=1 from hl);exact .of_eq (h a)
theorem qI{fd:FuncData}{p q:Str}{K:Frag}(h:∀a b,bindArgs fd ⟨[a,b],[]⟩=pure ([p,q].zip [a,b]))(vals:List Ph)(hl:vals.length+([]:List Ph).length=[p,q].length)(s:Pg)(_:K.In s.heap):BindsTo s fd ⟨vals,[]⟩ ([p,q].zip (vals++[])):=by obtain⟨a,b,rfl⟩:=Hm (show vals.length=2 from hl);exact .of_eq (h a b)
theorem JM{fd:FuncData}{p q r:Str}{K:Frag}(h:∀a b c,bindArgs fd ⟨[a,b,c],[]⟩=pure ([p,q,r].zip [a,b,c]))(vals:List Ph)(hl:vals.length+([]:List Ph).length=[p,q,r].length)(s:Pg)(_:K.In s.heap):BindsTo s fd ⟨vals,[]⟩ ([p,q,r].zip (vals++[])):=by obtain⟨a,b,c,rfl⟩:=CZ (show vals.length=3 from hl);exact .of_eq (h a b c)
noncomputable def quotedata.ps:List Str:=[sx "data"]
theorem quotedata.q0(P:Pk):FnQ (KK P) 48 47 345 quotedata.ps (pB "quotedata").body (pB "quotedata").names:=by constructor<;>symm
theorem quotedata.names0(P:Pk):(aD (KK P) 48).scope.names=(pB "quotedata").names:=(quotedata.q0 P).f3
theorem quotedata.bind0(P:Pk)(a:Ph):bindArgs (aD (KK P) 48) ⟨[a],[]⟩=pure ([sx "data"].zip [a]):=nofun
theorem quotedata.isDef{V:Vw}{P:Pk}(hK:V.K=KK P):IsDef V 48 (aD (KK P) 48) quotedata.ps (pB "quotedata").body []:=aU hK (quotedata.q0 P) (bind1 (quotedata.bind0 P))
noncomputable def translate.ps:List Str:=[sx "pat"]
theorem translate.q0(P:Pk):FnQ (KK P) 60 59 392 translate.ps (pB "translate").body (pB "translate").names:=by constructor<;>symm
theorem translate.names0(P:Pk):(aD (KK P) 60).scope.names=(pB "translate").names:=(translate.q0 P).f3
theorem translate.bind0(P:Pk)(a:Ph):bindArgs (aD (KK P) 60) ⟨[a],[]⟩=pure ([sx "pat"].zip [a]):=nofun
theorem translate.isDef{V:Vw}{P:Pk}(hK:V.K=KK P):IsDef V 60 (aD (KK P) 60) translate.ps (pB "translate").body []:=aU hK (translate.q0 P) (bind1 (translate.bind0 P))
noncomputable def escape.ps:List Str:=[sx "pattern"]
theorem escape.q0(P:Pk):FnQ (KK P) 72 71 549 escape.ps (pB "escape").body (pB "escape").names:=by constructor<;>symm
theorem escape.names0(P:Pk):(aD (KK P) 72).scope.names=(pB "escape").names:=(escape.q0 P).f3
theorem escape.bind0(P:Pk)(a:Ph):bindArgs (aD (KK P) 72) ⟨[a],[]⟩=pure ([sx "pattern"].zip [a]):=nofun
theorem escape.isDef{V:Vw}{P:Pk}(hK:V.K=KK P):IsDef V 72 (aD (KK P) 72) escape.ps (pB "escape").body []:=aU hK (escape.q0 P) (bind1 (escape.bind0 P))
noncomputable def u_translate.ps:List Str:=[sx "pat",sx "STAR",sx "QUESTION_MARK"]
theorem u_translate.q0(P:Pk):FnQ (KK P) 79 78 558 u_translate.ps (pB "_translate").body (pB "_translate").names:=by constructor<;>symm
theorem u_translate.names0(P:Pk):(aD (KK P) 79).scope.names=(pB "_translate").names:=(u_translate.q0 P).f3
theorem u_translate.bind0(P:Pk)(a b c:Ph):bindArgs (aD (KK P) 79) ⟨[a,b,c],[]⟩=pure ([sx "pat",sx "STAR",sx "QUESTION_MARK"].zip [a,b,c]):=nofun
theorem u_translate.isDef{V:Vw}{P:Pk}(hK:V.K=KK P):IsDef V 79 (aD (KK P) 79) u_translate.ps (pB "_translate").body []:=aU hK (u_translate.q0 P) (JM (u_translate.bind0 P))
noncomputable def join_translated_parts.ps:List Str:=[sx "inp",sx "STAR"]
theorem join_translated_parts.q0(P:Pk):FnQ (KK P) 86 85 577 join_translated_parts.ps (pB "_join_translated_parts").body (pB "_join_translated_parts").names:=by constructor<;>symm
theorem join_translated_parts.names0(P:Pk):(aD (KK P) 86).scope.names=(pB "_join_translated_parts").names:=(join_translated_parts.q0 P).f3
theorem join_translated_parts.bind0(P:Pk)(a b:Ph):bindArgs (aD (KK P) 86) ⟨[a,b],[]⟩=pure ([sx "inp",sx "STAR"].zip [a,b]):=nofun
theorem join_translated_parts.isDef{V:Vw}{P:Pk}(hK:V.K=KK P):IsDef V 86 (aD (KK P) 86) join_translated_parts.ps (pB "_join_translated_parts").body []:=aU hK (join_translated_parts.q0 P) (qI (join_translated_parts.bind0 P))
noncomputable def l_row.ps:List Str:=[sx "x"]
theorem l_row.q0(P:Pk):FnQ (KK P) 109 108 616 l_row.ps (pB "_law_row").body (pB "_law_row").names:=by constructor<;>symm
theorem l_row.names0(P:Pk):(aD (KK P) 109).scope.names=(pB "_law_row").names:=(l_row.q0 P).f3
theorem l_row.bind0(P:Pk)(a:Ph):bindArgs (aD (KK P) 109) ⟨[a],[]⟩=pure ([sx "x"].zip [a]):=nofun
theorem l_row.isDef{V:Vw}{P:Pk}(hK:V.K=KK P):IsDef V 109 (aD (KK P) 109) l_row.ps (pB "_law_row").body []:=aU hK (l_row.q0 P) (bind1 (l_row.bind0 P))
noncomputable def l_server.ps:List Str:=[sx "h"]
theorem l_server.q0(P:Pk):FnQ (KK P) 114 113 623 l_server.ps (pB "_law_server").body (pB "_law_server").names:=by constructor<;>symm
theorem l_server.names0(P:Pk):(aD (KK P) 114).scope.names=(pB "_law_server").names:=(l_server.q0 P).f3
theorem l_server.bind0(P:Pk)(a:Ph):bindArgs (aD (KK P) 114) ⟨[a],[]⟩=pure ([sx "h"].zip [a]):=nofun
theorem l_server.isDef{V:Vw}{P:Pk}(hK:V.K=KK P):IsDef V 114 (aD (KK P) 114) l_server.ps (pB "_law_server").body []:=aU hK (l_server.q0 P) (bind1 (l_server.bind0 P))
noncomputable def l_takes.ps:List Str:=[sx "part",sx "sign"]
theorem l_takes.q0(P:Pk):FnQ (KK P) 121 120 629 l_takes.ps (pB "_law_takes").body (pB "_law_takes").names:=by constructor<;>symm
theorem l_takes.names0(P:Pk):(aD (KK P) 121).scope.names=(pB "_law_takes").names:=(l_takes.q0 P).f3
theorem l_takes.bind0(P:Pk)(a b:Ph):bindArgs (aD (KK P) 121) ⟨[a,b],[]⟩=pure ([sx "part",sx "sign"].zip [a,b]):=nofun
theorem l_takes.isDef{V:Vw}{P:Pk}(hK:V.K=KK P):IsDef V 121 (aD (KK P) 121) l_takes.ps (pB "_law_takes").body []:=aU hK (l_takes.q0 P) (qI (l_takes.bind0 P))
noncomputable def l_fits.ps:List Str:=[sx "parts",sx "star",sx "row"]
theorem l_fits.q0(P:Pk):FnQ (KK P) 126 125 637 l_fits.ps (pB "_law_fits").body (pB "_law_fits").names:=by constructor<;>symm
theorem l_fits.names0(P:Pk):(aD (KK P) 126).scope.names=(pB "_law_fits").names:=(l_fits.q0 P).f3
theorem l_fits.bind0(P:Pk)(a b c:Ph):bindArgs (aD (KK P) 126) ⟨[a,b,c],[]⟩=pure ([sx "parts",sx "star",sx "row"].zip [a,b,c]):=nofun
theorem l_fits.isDef{V:Vw}{P:Pk}(hK:V.K=KK P):IsDef V 126 (aD (KK P) 126) l_fits.ps (pB "_law_fits").body []:=aU hK (l_fits.q0 P) (JM (l_fits.bind0 P))
noncomputable def l_hop.ps:List Str:=[sx "text",sx "server"]
theorem l_hop.q0(P:Pk):FnQ (KK P) 131 130 643 l_hop.ps (pB "_law_hop").body (pB "_law_hop").names:=by constructor<;>symm
theorem l_hop.names0(P:Pk):(aD (KK P) 131).scope.names=(pB "_law_hop").names:=(l_hop.q0 P).f3
theorem l_hop.bind0(P:Pk)(a b:Ph):bindArgs (aD (KK P) 131) ⟨[a,b],[]⟩=pure ([sx "text",sx "server"].zip [a,b]):=nofun
theorem l_hop.isDef{V:Vw}{P:Pk}(hK:V.K=KK P):IsDef V 131 (aD (KK P) 131) l_hop.ps (pB "_law_hop").body []:=aU hK (l_hop.q0 P) (qI (l_hop.bind0 P))
noncomputable def l_refused.ps:List Str:=[sx "servers"]
theorem l_refused.q0(P:Pk):FnQ (KK P) 138 137 649 l_refused.ps (pB "_law_refused").body (pB "_law_refused").names:=by constructor<;>symm
theorem l_refused.names0(P:Pk):(aD (KK P) 138).scope.names=(pB "_law_refused").names:=(l_refused.q0 P).f3
theorem l_refused.bind0(P:Pk)(a:Ph):bindArgs (aD (KK P) 138) ⟨[a],[]⟩=pure ([sx "servers"].zip [a]):=nofun
theorem l_refused.isDef{V:Vw}{P:Pk}(hK:V.K=KK P):IsDef V 138 (aD (KK P) 138) l_refused.ps (pB "_law_refused").body []:=aU hK (l_refused.q0 P) (bind1 (l_refused.bind0 P))
noncomputable def l_text.ps:List Str:=[sx "pieces"]
theorem l_text.q0(P:Pk):FnQ (KK P) 143 142 656 l_text.ps (pB "_law_text").body (pB "_law_text").names:=by constructor<;>symm
theorem l_text.names0(P:Pk):(aD (KK P) 143).scope.names=(pB "_law_text").names:=(l_text.q0 P).f3
theorem l_text.bind0(P:Pk)(a:Ph):bindArgs (aD (KK P) 143) ⟨[a],[]⟩=pure ([sx "pieces"].zip [a]):=nofun
theorem l_text.isDef{V:Vw}{P:Pk}(hK:V.K=KK P):IsDef V 143 (aD (KK P) 143) l_text.ps (pB "_law_text").body []:=aU hK (l_text.q0 P) (bind1 (l_text.bind0 P))
noncomputable def l_goes.ps:List Str:=[sx "pieces",sx "row"]
theorem l_goes.q0(P:Pk):FnQ (KK P) 148 147 662 l_goes.ps (pB "_law_goes").body (pB "_law_goes").names:=by constructor<;>symm
theorem l_goes.names0(P:Pk):(aD (KK P) 148).scope.names=(pB "_law_goes").names:=(l_goes.q0 P).f3
theorem l_goes.bind0(P:Pk)(a b:Ph):bindArgs (aD (KK P) 148) ⟨[a,b],[]⟩=pure ([sx "pieces",sx "row"].zip [a,b]):=nofun
theorem l_goes.isDef{V:Vw}{P:Pk}(hK:V.K=KK P):IsDef V 148 (aD (KK P) 148) l_goes.ps (pB "_law_goes").body []:=aU hK (l_goes.q0 P) (qI (l_goes.bind0 P))
noncomputable def l_left.ps:List Str:=[sx "numbers",sx "servers"]
theorem l_left.q0(P:Pk):FnQ (KK P) 155 154 668 l_left.ps (pB "_law_left").body (pB "_law_left").names:=by constructor<;>symm
theorem l_left.names0(P:Pk):(aD (KK P) 155).scope.names=(pB "_law_left").names:=(l_left.q0 P).f3
theorem l_left.bind0(P:Pk)(a b:Ph):bindArgs (aD (KK P) 155) ⟨[a,b],[]⟩=pure ([sx "numbers",sx "servers"].zip [a,b]):=nofun
theorem l_left.isDef{V:Vw}{P:Pk}(hK:V.K=KK P):IsDef V 155 (aD (KK P) 155) l_left.ps (pB "_law_left").body []:=aU hK (l_left.q0 P) (qI (l_left.bind0 P))
noncomputable def l_dots.ps:List Str:=[sx "row"]
theorem l_dots.q0(P:Pk):FnQ (KK P) 162 161 683 l_dots.ps (pB "_law_dots").body (pB "_law_dots").names:=by constructor<;>symm
theorem l_dots.names0(P:Pk):(aD (KK P) 162).scope.names=(pB "_law_dots").names:=(l_dots.q0 P).f3
theorem l_dots.bind0(P:Pk)(a:Ph):bindArgs (aD (KK P) 162) ⟨[a],[]⟩=pure ([sx "row"].zip [a]):=nofun
theorem l_dots.isDef{V:Vw}{P:Pk}(hK:V.K=KK P):IsDef V 162 (aD (KK P) 162) l_dots.ps (pB "_law_dots").body []:=aU hK (l_dots.q0 P) (bind1 (l_dots.bind0 P))
noncomputable def l_more.ps:List Str:=[sx "one",sx "other"]
theorem l_more.q0(P:Pk):FnQ (KK P) 169 168 690 l_more.ps (pB "_law_more").body (pB "_law_more").names:=by constructor<;>symm
theorem l_more.names0(P:Pk):(aD (KK P) 169).scope.names=(pB "_law_more").names:=(l_more.q0 P).f3
theorem l_more.bind0(P:Pk)(a b:Ph):bindArgs (aD (KK P) 169) ⟨[a,b],[]⟩=pure ([sx "one",sx "other"].zip [a,b]):=nofun
theorem l_more.isDef{V:Vw}{P:Pk}(hK:V.K=KK P):IsDef V 169 (aD (KK P) 169) l_more.ps (pB "_law_more").body []:=aU hK (l_more.q0 P) (qI (l_more.bind0 P))
noncomputable def l_law.ps:List Str:=[sx "script"]
theorem l_law.q0(P:Pk):FnQ (KK P) 174 173 698 l_law.ps (pB "law").body (pB "law").names:=by constructor<;>symm
theorem l_law.names0(P:Pk):(aD (KK P) 174).scope.names=(pB "law").names:=(l_law.q0 P).f3
theorem l_law.bind0(P:Pk)(a:Ph):bindArgs (aD (KK P) 174) ⟨[a],[]⟩=pure ([sx "script"].zip [a]):=nofun
theorem l_law.isDef{V:Vw}{P:Pk}(hK:V.K=KK P):IsDef V 174 (aD (KK P) 174) l_law.ps (pB "law").body []:=aU hK (l_law.q0 P) (bind1 (l_law.bind0 P))
noncomputable def cmp_to_key.ps:List Str:=[sx "mycmp"]
theorem cmp_to_key.q0(P:Pk):FnQ (KK P) 93 92 592 cmp_to_key.ps (pB "cmp_to_key").body (pB "cmp_to_key").names:=by constructor<;>symm
theorem cmp_to_key.names0(P:Pk):(aD (KK P) 93).scope.names=(pB "cmp_to_key").names:=(cmp_to_key.q0 P).f3
theorem cmp_to_key.bind0(P:Pk)(a:Ph):bindArgs (aD (KK P) 93) ⟨[a],[]⟩=pure ([sx "mycmp"].zip [a]):=nofun
theorem cmp_to_key.isDef{V:Vw}{P:Pk}(hK:V.K=KK P):IsDef V 93 (aD (KK P) 93) cmp_to_key.ps (pB "cmp_to_key").body []:=aU hK (cmp_to_key.q0 P) (bind1 (cmp_to_key.bind0 P))
noncomputable def reduce.ps:List Str:=[sx "function",sx "sequence",sx "initial"]
theorem reduce.q0(P:Pk):FnQ (KK P) 102 101 602 reduce.ps (pB "reduce").body (pB "reduce").names:=by constructor<;>symm
theorem reduce.names0(P:Pk):(aD (KK P) 102).scope.names=(pB "reduce").names:=(reduce.q0 P).f3
noncomputable def Ks(k:Nat):Pos:=(((thd "reduce").1.args[k]?).getD ⟨sx "",none,default⟩).pos
noncomputable def C2:FuncData:={name:=sx "reduce",qualname:=sx "reduce",params:=⟨[],[⟨sx "function",none,Ks 0⟩,⟨sx "sequence",none,Ks 1⟩,⟨sx "initial",none,Ks 2⟩],none,[],[],none,(thd "reduce").1.defaults⟩,body:= .stmts (thd "reduce").2.1,scope:=(thd "reduce").2.2,globals:=3,closure:=[],defaults:= .ref 95,kwdefaults:= .none,pyModule:= .str (sx "cpy313.functools") 589,code:= .ref 101}
theorem uD(P:Pk):aD (KK P) 102=C2:=nofun
theorem uE(ho:s.heap.get? 95=some o)(hs:o.data= .seq #[dv] n):BindsTo s C2 ⟨[a,b],[]⟩ [(sx "function",a),(sx "sequence",b),(sx "initial",dv)]/\BindsTo s C2 ⟨[a,b,c],[]⟩ [(sx "function",a),(sx "sequence",b),(sx "initial",c)]:=
 ⟨BindsTo.of_defaults rfl ho hs rfl rfl,BindsTo.of_defaults rfl ho hs rfl rfl⟩
theorem Mq(P:Pk):(KK P).lookup 95=some (oAt (KK P) 95):=nofun
theorem Mr(P:Pk):(oAt (KK P) 95).data= .seq #[.ref 94] (si (oAt (KK P) 95)):=nofun
theorem reduce.isDef2{V:Vw}{P:Pk}(hK:V.K=KK P):IsDef V 102 (aD (KK P) 102) reduce.ps (pB "reduce").body [.ref 94]:=aU hK (reduce.q0 P) λvals h s X=>by obtain⟨a,b,rfl⟩:=Hm (show vals.length=2 from Nat.succ.inj h);exact uD P▸(uE (c:= .none) (X 95 _ (hK▸Mq P)) (Mr P)).1
theorem reduce.isDef3{V:Vw}{P:Pk}(hK:V.K=KK P):IsDef V 102 (aD (KK P) 102) reduce.ps (pB "reduce").body []:=aU hK (reduce.q0 P) λvals h s X=>by obtain⟨a,b,c,rfl⟩:=CZ (show vals.length=3 from h);exact uD P▸(uE (c:=c) (X 95 _ (hK▸Mq P)) (Mr P)).2
end
end
end Mine.Internal
section
end
namespace Mine.Internal
section
open PySem PySem.Calls PyProof.Rows PySem.W
section
open PySem.Builtin PySem.Builtin.Re
noncomputable def mh(text:Array Nat)(s:Nat):Pj (Nat×Nat):=(cT text (text.size+1-s) s).map λp=>(p,p+fz text p)
noncomputable def kf(text:Array Nat)(s:Nat):Pj (Nat×Nat):=(bN text (text.size+1-s) s).map λp=>(p,p+1)
noncomputable def n5(o:Obj):Array Ph:=match o.data with
 | .seq xs _=>xs
 |_=>#[]
theorem NN(P:Pk):(KK P).lookup 41=some (oAt (KK P) 41):=nofun
theorem NO(P:Pk):(oAt (KK P) 41).cls= .type "re.Pattern"/\(oAt (KK P) 41).dict=none/\(oAt (KK P) 41).data= .fields (ax (oAt (KK P) 41))/\(ax (oAt (KK P) 41)).getD 5 .none= .ref 40/\reRawNat ((ax (oAt (KK P) 41)).getD 6 .none)=0/\reRawNat ((ax (oAt (KK P) 41)).getD 2 .none)=0:=
 ⟨nofun,nofun,nofun,nofun,nofun,nofun⟩
theorem NP(P:Pk):(KK P).lookup 40=some (oAt (KK P) 40):=nofun
theorem NQ(P:Pk):(oAt (KK P) 40).data= .seq (n5 (oAt (KK P) 40)) (si (oAt (KK P) 40)):=nofun
theorem NR(P:Pk):((n5 (oAt (KK P) 40)).map reRawOf).map (·.toNat)=fv:=nofun
theorem NS(P:Pk):(KK P).lookup 36=some (oAt (KK P) 36):=nofun
theorem NT(P:Pk):(oAt (KK P) 36).cls= .type "re.Pattern"/\(oAt (KK P) 36).dict=none/\(oAt (KK P) 36).data= .fields (ax (oAt (KK P) 36))/\(ax (oAt (KK P) 36)).getD 5 .none= .ref 35/\reRawNat ((ax (oAt (KK P) 36)).getD 6 .none)=0/\reRawNat ((ax (oAt (KK P) 36)).getD 2 .none)=0:=
 ⟨nofun,nofun,nofun,nofun,nofun,nofun⟩
theorem NU(P:Pk):(KK P).lookup 35=some (oAt (KK P) 35):=nofun
theorem NV(P:Pk):(oAt (KK P) 35).data= .seq (n5 (oAt (KK P) 35)) (si (oAt (KK P) 35)):=nofun
theorem NW(P:Pk):((n5 (oAt (KK P) 35)).map reRawOf).map (·.toNat)=bk:=nofun
theorem C3(text:Array Nat)(p:Nat):fz text p=1\/(fz text p=2/\p+1<text.size):=by
 unfold fz
 by_cases h:text.getD p 0=13/\p+1<text.size/\text.getD (p+1) 0=10
 ·rw[if_pos h];exact .inr ⟨rfl,h.2.1⟩
 ·rw[if_neg h];exact .inl rfl
theorem Ms{V:Vw}{P:Pk}(hK:V.K=KK P):PatOk V 41 fv mh where
 at_:=λh hh=>by rw[hK]at hh;obtain⟨a,b,c,d,e,f⟩:=NO P;exact⟨_,_,40,_,_,_,hh _ _ (NN P),a,b,c,d,hh _ _ (NP P),NQ P,NR P,e,f⟩
 search:=λtext s must hs hz=>by obtain⟨n,m,h1,h2,h3⟩:=Hj text s must hs;exact⟨n,m,by lia,h2,h3⟩
 fit:=λtext s p q h=>by unfold mh at h;rw[Option.map_eq_some_iff]at h;obtain⟨p',h1,h2⟩:=h;cases(h2);obtain⟨a,b,c⟩:=iC h1;rcases C3 text p with e|⟨e,g⟩<;>(rw[e];exact⟨a,by lia,by lia⟩)
theorem Mt{V:Vw}{P:Pk}(hK:V.K=KK P):PatOk V 36 bk kf where
 at_:=λh hh=>by rw[hK]at hh;obtain⟨a,b,c,d,e,f⟩:=NT P;exact⟨_,_,35,_,_,_,hh _ _ (NS P),a,b,c,d,hh _ _ (NU P),NV P,NW P,e,f⟩
 search:=λtext s must hs hz=>by obtain⟨n,m,h1,h2,h3⟩:=Hk text s must hs;exact⟨n,m,by lia,h2,h3⟩
 fit:=λtext s p q h=>by
  unfold kf at h;rw[Option.map_eq_some_iff]at h;obtain⟨p',h1,h2⟩:=h;cases(h2);obtain⟨a,c⟩:=kb h1
  have:p<text.size:=by unfold fy at c;simp only [Bool.and_eq_true,decide_eq_true_eq]at c;exact c.1.2
  lia
theorem C4{st p q n S K r:Nat}(a:st<=p)(b:p<=q)(c:q<=n)(h:S<=n-q+K):p-st+(r+S)<=n-st+(K+r):=by rw[<-Nat.sub_add_sub_cancel (Nat.le_trans b c) a,Nat.add_comm (n-p),Nat.add_assoc,Nat.add_comm K r,<-Nat.add_assoc (n-p),Nat.add_comm (n-p) r,Nat.add_assoc r];exact Nat.add_le_add_left (Nat.add_le_add_left (OA h (Nat.add_le_add_right (Nat.sub_le_sub_left b n) K)) r) _
theorem sub_len{text:Array Nat}{rep:Str}{next:Nat->Pj (Nat×Nat)}(hf:∀s p q,next s=some (p,q)->s<=p/\p<q/\q<=text.size):∀(k st:Nat),(aj text rep next k st).length<=2*k+1/\(st<=text.size->bF (aj text rep next k st)<=(text.size-st)+k*rep.length)
 |0,st=>⟨by simp [aj],λ_=>by simp [aj,bF]⟩
 |k+1,st=>by
  unfold aj;cases h:next st with
  |none=>
   dsimp only;split
   ·exact⟨by simp,λhs=>by simp [bF,Str.length,Array.size_extract]⟩
   ·exact⟨by simp,λhs=>by simp [bF]⟩
  |some pq=>
   obtain⟨p,q⟩:=pq;obtain⟨a,b,c⟩:=hf _ _ _ h;obtain⟨h1,h2⟩:=sub_len (rep:=rep) hf k q;dsimp only;split
   ·refine⟨Nat.succ_le_succ (Nat.succ_le_succ h1),λhs=>?_⟩;have e1:(⟨text.extract st p⟩:Str).length=p-st:=by show(text.extract st p).size=_;rw[Array.size_extract,Nat.min_eq_left (Nat.le_trans (Nat.le_of_lt b) c)]
    refine(?_:(⟨text.extract st p⟩:Str).length+(rep.length+bF (aj text rep next k q))<=_);rw[e1,Nat.succ_mul];exact C4 a (OL b) c (h2 c)
   ·refine⟨OK (Nat.succ_le_succ h1),λhs=>?_⟩;refine(?_:rep.length+bF (aj text rep next k q)<=_);rw[Nat.succ_mul];exact OA (Nat.le_add_left _ _) (C4 a (OL b) c (h2 c))
noncomputable def bV(x:Str):Str:=Txt.join Str.empty (aj x.cps (sx "\r\n") (mh x.cps) (x.length+1) 0)
noncomputable def eD(x:Str):Str:=Txt.join Str.empty (aj x.cps (sx "..") (kf x.cps) (x.length+1) 0)
noncomputable def SS(sp:Nat->Sc->(Pm->Pj MV)->Pm->Pj MV):Subs:=⟨bV,eD,sp⟩
theorem C5(h:n<=3000)(h1:l<=2*(n+1)+1)(h2:m<=n-0+(n+1)*2):n<=100000/\l<=1000000/\m<=16777216:=by have a:2*(n+1)<=6002:=Nat.mul_le_mul_left 2 (Nat.succ_le_succ h);rw[Nat.mul_comm (n+1),Nat.sub_zero]at h2;exact⟨OA h (by left),OA h1 (OA (Nat.succ_le_succ a) (by left)),OA h2 (OA (Nat.add_le_add h a) (by left))⟩
theorem qJ{V:Vw}{a:Pn}{code:Array Nat}{next:Array Nat->Nat->Pj (Nat×Nat)}(P:PatOk V a code next)(O:V.Ok){x rep:Str}{u ru:Tok}{A:Po}{s:Pg}{Q:Pr}{E:Pr}(hx:x.length<=3000)(hrep:rep.length=2)(hb:rep.cps.contains 92=false)(W:Wd V s)(tk:1<=s.toks)
  (hQ:∀t' s',St V none9 s s'->1<=s'.toks->Q (.str (Txt.join Str.empty (aj x.cps rep (next x.cps) (x.length+1) 0)) t') s'):
  wpAny (model V.prog V.w) A (call (.builtin "re.Pattern.sub") [.ref a,.str rep ru,.str x u]) Q E s:=by
 have l:=sub_len (rep:=rep) (P.fit x.cps) (x.length+1) 0;have hs:=l.2 (Nat.zero_le _);rw[hrep]at hs;have k:=C5 hx l.1 hs;exact Au P O k.1 (by rw[hrep];decide) hb W tk k.2.1 k.2.2 hQ
theorem oj{V:Vw}{P:Pk}(hK:V.K=KK P)(O:V.Ok){sp:Nat->Sc->(Pm->Pj MV)->Pm->Pj MV}(hsp:∀n sc ρ p e mv,SndP V n p->sp n sc (p.ev sc ρ) e=some mv->bl V (n+1) sc ρ e mv):SubsOk V (SS sp) where
 spec:=hsp
 crlf:=λA s Q E x t u R W tk hx hQ=>qJ (Ms hK) O (OA hx (by left)) (by left) (by right) W tk hQ
 dots:=λA s Q E x t u R W tk hx hQ=>qJ (Mt hK) O hx (by left) (by right) W tk hQ
 isP:=λh hh a ha=>by
  rcases ha with rfl|rfl
  ·obtain⟨o,_,_,_,_,_,h1,h2,h3,_⟩:=(Ms hK).at_ h hh
   exact⟨o,h1,h2,h3⟩
  ·obtain⟨o,_,_,_,_,_,h1,h2,h3,_⟩:=(Mt hK).at_ h hh
   exact⟨o,h1,h2,h3⟩
end
section
open PySem.MeetsSeq PySem.SeqAt
theorem uF(ha:notStar a=true)(h1:p.ev sc ρ a=some u)(h2:aT p sc ρ r=some us):aT p sc ρ (a::r)=some (u::us):=by unfold aT;rw[if_pos ha,h1,h2];rfl
theorem ly(ha:notStar a=true)(hb:notStar b=true)(h1:p.ev sc ρ a=some u)(h2:p.ev sc ρ b=some v):aT p sc ρ [a,b]=some [u,v]:=uF ha h1 (ja hb h2)
noncomputable def zc(ev:Pm->Pj MV)(e:Pm):Pj MV:=(ie e).bind λc=>(cNm c.1).bind λf=>(two c.2.1).bind λab=>
 if notStar ab.1=true/\notStar ab.2=true/\f=sx "isinstance"/\(ev c.1).bind kW=some (.builtin "isinstance")/\((ev ab.1).bind strOf).isSome=true/\(ev ab.2).bind kW=some (.type "str") then some (.bool true) else none
theorem xq(I:SndP V n p)(h:zc (p.ev sc ρ) e=some mv):bl V (n+1) sc ρ e mv:=by revert I h;exists V,n,sc,ρ,p,e,mv;ext e0z hc h;obtain⟨f,as,pos⟩:=e0z;ext g hf h;ext e0z hab h;obtain⟨a,b⟩:=e0z;injections e0z h;obtain⟨h1,h2,_,h3,h4,h5⟩:=e0z;cases h;obtain⟨q,hq⟩:=cM hf;rw[gw hc,show f=_ from hq,show as=_ from d6 hab];rw[show f=_ from hq]at h3;obtain⟨x,h4⟩:=Pf.mp h4;revert h3;refine bdE λvf h3 ef=>?_;revert h4;refine bdE λva h4 ea=>?_;revert h5;refine bdE λvb h5 eb=>?_;intro A θ D env s Q E R W tk F hQ;have hm:=ly h1 h2 h4 h5;refine wpAny_Call_NameR (I.ev _ _ _ _ (gL ef▸h3) A θ D env s _ E R.pred W tk F λv w99 st1 t1 r1=>?_);cases r1;refine callWith_builtin (eB hm).2 (bz I hm A θ D env w99 _ E R.pred st1.wd t1 (F.st st1) λvs w98 st2 t2 r2=>?_);obtain⟨u,q,rfl,r1,u2,q2,rfl,e2,rq⟩:=r2;obtain⟨t,rfl⟩:=cL ea r1;cases gL eb;cases e2;cases rq;exact PySem.IsiPair.str_str (hQ _ _ (st1.trans st2) t2 rfl)
noncomputable def Hn(x:Str):Pj Str:=if x=sx "." then some (sx "\\.") else if x=sx "a" then some (sx "a") else none
noncomputable def C6(ev:Pm->Pj MV)(e:Pm):Pj MV:=(ie e).bind λc=>(jU c.1).bind λo=>(one c.2.1).bind λb=>
 if o.2.1=sx "translate"/\notStar b=true/\(o.2.2.endLine==c.2.2.line)=true/\baseOk o.1=true/\(ev b).bind kW=some (.ref 62) then((ev o.1).bind strOf).bind λx=>(Hn x).map .str else none
theorem NX(P:Pk):(KK P).lookup 62=some (oAt (KK P) 62):=nofun
noncomputable def fg(o:Obj):Array DictEntry:=match o.data with
 | .dict es _=>es
 |_=>#[]
noncomputable def NY(o:Obj):Nat:=match o.data with
 | .dict _ n=>n
 |_=>0
theorem NZ(P:Pk):(oAt (KK P) 62).cls= .type "dict"/\(oAt (KK P) 62).dict=none/\(oAt (KK P) 62).slots=#[]/\(oAt (KK P) 62).data= .dict (fg (oAt (KK P) 62)) (NY (oAt (KK P) 62)):=
 ⟨nofun,nofun,nofun,nofun⟩
noncomputable def C7(es:Array DictEntry):Bool:=es.all λe=>match e.key with
 | .int k _=>e.hash==hashInt k
 |_=>false
theorem N0(P:Pk):C7 (fg (oAt (KK P) 62))=true:=nofun
noncomputable def Kt(v:Pj Ph)(x:Str):Bool:=match v with
 |some (.str y _)=>y==x
 |_=>false
theorem N1(P:Pk):Kt (findBy Value.isInt (fg (oAt (KK P) 62)) 46) (sx "\\.")=true:=nofun
theorem N2(P:Pk):(findBy Value.isInt (fg (oAt (KK P) 62)) 97).isNone=true:=nofun
set_option tactic.hygienic true in
theorem JN{V:Vw}{P:Pk}(hK:V.K=KK P){h:Pp}(X:V.K.In h):h.MapOf (intKind V.prog V.w) 62 (findBy Value.isInt (fg (oAt (KK P) 62))):=by
 obtain⟨a,b,c,d⟩:=NZ P;refine⟨_,_,_,X 62 _ (by rw[hK];exact NX P),⟨a,b,c⟩,d,λe he=>?_,λk=>rfl⟩;have hc:=N0 P;unfold C7 at hc;rw[Array.all_eq_true_iff_forall_mem]at hc;have:=hc e he;cases hk:e.key<;>rw[hk]at this<;>first|exact Bool.noConfusion this|skip
 rename_i k t;exact⟨k,(beq_self_eq_true k:(k==k)=true),eq_of_beq this⟩
theorem ki:entryFor table "str.translate"=some Builtin.«str.translate»:=entryFor_of_tree nofun
theorem xr:isSubtype (.type "KeyError") (.type "LookupError")=pure true:=by rw[isSubtype_type];symm
section
variable {V:Vw}{P:Pk}{A:Po}{s:Pg}
set_option tactic.hygienic true in
theorem uG(hK:V.K=KK P)(O:V.Ok){Q:Builtin.Str.Mapped->Pg->Prop}{E:Pr}(W:Wd V s)(hQ:∀s',St V none9 s s'->s.toks<=s'.toks->Q (.text (sx "\\.")) s'):wpAny (model V.prog V.w) A (Builtin.Str.tableLookup (.ref 62) 46) Q E s:=by
 revert hK O W hQ;exists V,P,A,s,Q,E;have hm:=JN hK W.K;have hd:=N1 P;unfold Builtin.Str.tableLookup;refine wpB (wpAny_attempt (wpB (wpAny_mkInt ?_)));cases hf:findBy Value.isInt (fg (oAt (KK P) 62)) 46 with
 |none=>rw[hf]at hd;cases hd
 |some v=>
  rw[hf]at hd;refine wpAny_getItem_of (s:={s with toks:=s.toks+1}) (knd:=intKind V.prog V.w) (k:=46) (by simp [intKind,Value.isInt]) hm hf ?_;cases v<;>first|(cases hd;done)|skip
  rename_i y t;have hy:y=sx "\\.":=eq_of_beq hd;subst hy;refine wpB (OG (a:=none) (by first|rfl|symm) ?_);refine wpB (OG (a:=some (sx "\\.")) rfl ?_);exact Oz (hQ _ (.toks W _ _) (by show s.toks<=s.toks+1+1;lia))
theorem Aw(hK:V.K=KK P)(O:V.Ok){Q:Builtin.Str.Mapped->Pg->Prop}{E:Pr}(hh:A.handled=none)(W:Wd V s)(hQ:∀s',St V none9 s s'->s.toks<=s'.toks->Q .keep s'):wpAny (model V.prog V.w) A (Builtin.Str.tableLookup (.ref 62) 97) Q E s:=by have hm:=JN hK W.K;have hd:=N2 P;unfold Builtin.Str.tableLookup;refine wpB (l6 (wpAny_attempt (wpB (wpAny_mkInt ?_))));refine wpAny_getItem_missing_of (s:={s with toks:=s.toks+1}) (knd:=intKind V.prog V.w) (k:=97) (by simp [intKind,Value.isInt]) (by left) hh hm (by simpa using hd) λh' e hx hsz=>?_;obtain⟨ob,t,ho,hc,_⟩:=hx.there;refine wpB (wpAny_isInstance (T:="KeyError") ⟨ob,ho,hc⟩ xr ?_);simp only [if_true];refine wpB (wpAny_rule (Oz (hQ _ ?_ (by show s.toks<=s.toks+1+1;lia))));exact⟨.ofAll none9 hsz hx.keeps,W.grown O (s':={s with heap:=h',toks:=s.toks+1+1}) hsz hx.keeps⟩
end
section
variable {V:Vw}{P:Pk}{A:Po}{s:Pg}
theorem Ku(hK:V.K=KK P)(O:V.Ok)(W:Wd V s)(tk:1<=s.toks)(hQ:∀t' s',St V none9 s s'->1<=s'.toks->Q (.str (sx "\\.") t') s'):
  wpAny (model V.prog V.w) A (call (.builtin "str.translate") [.str (sx ".") t,.ref 62]) Q E s:=by
 refine wpAny_call_entry PySem.F.slot_str_translate (OX _ _ _) ki ?_ (PySem.F.args_str_translate_2 _ _);unfold Builtin.«str.translate»;refine wpB (OG (a:=(.str (sx ".") t,sx ".",.ref 62)) (by first|rfl|symm) ?_);have e1:((sx ".").length==0)=false:=by left
 have e2:(sx ".").cps=#[46]:=by left
 have e3:Builtin.Str.tooLong 0=false:=by left
 have e6:Builtin.Str.tooLong (0+(sx "\\.").length)=false:=by left
 have e7:(⟨List.foldl (λacc (p:Str)=>acc++p.cps) #[] [sx "\\."].reverse⟩:Str)=sx "\\.":=by right
 refine wpF e1 (wpB (L6 e2 (wpF e3 (wpT (by right) ?_))));refine wpB (uG hK O W λs1 st1 t1=>?_);refine wpB (Oz (wpB (wpAny_rule ?_)));refine wpB (uG hK O st1.wd λs2 st2 t2=>Oz ?_);refine wpF e6 ?_;exact wpB (wpAny_mkStr (Oz ⟨_,ON (λx=>PySem.Fin.done (Flow.ret (Value.str x s2.toks))) e7,hQ _ _ ((st1.trans st2).trans (.toks st2.wd _ _)) (OK (OA tk (OA t1 t2)))⟩) (by rw[sizeLine_eq];decide))
theorem N3(hK:V.K=KK P)(O:V.Ok)(hh:A.handled=none)(W:Wd V s)(tk:1<=s.toks)(hQ:∀t' s',St V none9 s s'->1<=s'.toks->Q (.str (sx "a") t') s'):
  wpAny (model V.prog V.w) A (call (.builtin "str.translate") [.str (sx "a") t,.ref 62]) Q E s:=by
 refine wpAny_call_entry PySem.F.slot_str_translate (OX _ _ _) ki ?_ (PySem.F.args_str_translate_2 _ _);unfold Builtin.«str.translate»;refine wpB (OG (a:=(.str (sx "a") t,sx "a",.ref 62)) (by first|rfl|symm) ?_);have e1:((sx "a").length==0)=false:=by left
 have e2:(sx "a").cps=#[97]:=by left
 have e3:Builtin.Str.tooLong 0=false:=by left
 have e6:Builtin.Str.tooLong (0+1)=false:=by left
 have e7:(⟨List.foldl (λacc (p:Str)=>acc++p.cps) #[] [(⟨#[97]⟩:Str)].reverse⟩:Str)=sx "a":=by right
 refine wpF e1 (wpB (L6 e2 (wpF e3 (wpT (by right) ?_))));refine wpB (Aw hK O hh W λs1 st1 t1=>?_);refine wpB (Oz (Oz ?_));refine wpF e6 ?_;exact wpB (wpAny_mkStr (Oz ⟨_,ON (λx=>PySem.Fin.done (Flow.ret (Value.str x s1.toks))) e7,hQ _ _ (st1.trans (.toks st1.wd _ _)) (OK (OA tk t1))⟩) (by rw[sizeLine_eq];decide))
end
theorem Ax(hK:V.K=KK PP)(O:V.Ok)(I:SndP V n p)(h:C6 (p.ev sc ρ) e=some mv):bl V (n+1) sc ρ e mv:=by
 revert hK O I h;exists V,PP,n,sc,ρ,p,e,mv;ext e0z hc h;obtain⟨f,as,pos⟩:=e0z;ext e0z hf h;obtain⟨o,m,apos⟩:=e0z;ext b hb h;injections e0z h;obtain⟨hm,h2,h3,h4,h5⟩:=e0z;ext x hx h;revert h;refine mpE λy hy e2z=>?_;subst e2z;ext vo ho hx;ext vb hb1 h5;cases aF hx;cases gL h5;rw[gw hc,show f=_ from jV hf,show m=_ from hm,show as=_ from bf hb];refine dn I "str.translate" PySem.F.slot_str_translate PySem.F.type_str_translate h3 (show 1<=20 by left) h4 ho (ja h2 hb1) λA θ D s Q E t vs R W B tk r hQ=>?_;obtain⟨u,q,rfl,e1,rq⟩:=r;cases e1;cases rq;replace hy:=di hy;rcases hy with⟨rfl,hy⟩|⟨_,hy⟩
 ·cases hy;exact Ku hK O W tk λt' s' st t1=>hQ _ _ st t1 ⟨_,rfl⟩
 ·injections e0z hy;subst e0z;cases hy;exact N3 hK O R.hd W tk λt' s' st t1=>hQ _ _ st t1 ⟨_,rfl⟩
end
section
open PySem.MeetsSeq PySem.SeqAt PySem.Builtin PySem.Builtin.Str
noncomputable def zd(x y:Str)(i j:Int):Int:=match occurrences x y (fromIndex x.length i) (min (fromIndex x.length j) x.length) 1 with|k::_=>(k:Int)| []=> -1
theorem uH(x y:Str)(i j:Int)(t u v r:Tok):Gives (Builtin.«str.find» ⟨[.str x t,.str y u,.int i v,.int j r],[]⟩) (.int (zd x y i j)):=by
 show Gives (match occurrences x y (fromIndex x.length i) (min (fromIndex x.length j) x.length) 1 with|k::_=>retInt k| []=>(do rule "str.find.not-found";retInt (-1))) _;unfold zd;cases occurrences x y (fromIndex x.length i) (min (fromIndex x.length j) x.length) 1 with
 |nil=>exact .rule (.of_eq rfl)
 |cons k _=>exact .of_eq rfl
noncomputable def uI(ev:Pm->Pj MV)(e:Pm):Pj MV:=(ie e).bind λk=>(jU k.1).bind λo=>(three k.2.1).bind λa=>
 if o.2.1=sx "find"/\notStar a.1=true/\notStar a.2.1=true/\notStar a.2.2=true/\(o.2.2.endLine==k.2.2.line)=true/\baseOk o.1=true then
  ((ev o.1).bind strOf).bind λx=>((ev a.1).bind strOf).bind λy=>((ev a.2.1).bind intOf).bind λi=>((ev a.2.2).bind intOf).map λj=> .int (zd x y i j) else none
section
variable {α β:Type}{P:Prop}{y:β}
theorem eE{o:Pj α}{f:α->Pj β}(k:∀a,o=some a->f a=some y->P)(h:o.bind f=some y):P:=(tJ h).elim λa h=>k a h.1 h.2
theorem ifE[Decidable c](k:c->x=some y->P)(h:(if c then x else none)=some y):P:=k (eG h).1 (eG h).2
theorem N6{o:Pj α}{f:α->β}(k:∀a,o=some a->f a=y->P)(h:o.map f=some y):P:=(GH h).elim λa h=>k a h.1 h.2
theorem JO(k:∀a,o=some (.str a)->f a=some y->P)(h:(o.bind strOf).bind f=some y):P:=eE (λa e h=>eE (λv e2 e3=>k a (e2.trans (ON some (aF e3))) h) e) h
theorem Mu(k:∀a,o=some (.int a)->f a=some y->P)(h:(o.bind intOf).bind f=some y):P:=eE (λa e h=>eE (λv e2 e3=>k a (e2.trans (ON some (fj e3))) h) e) h
theorem Mv(k:∀a,o=some (.int a)->f a=y->P)(h:(o.bind intOf).map f=some y):P:=N6 (λa e h=>eE (λv e2 e3=>k a (e2.trans (ON some (fj e3))) h) e) h
theorem C8{P:Pm->Prop}{f:Pm×List Pm×Pos->Pj β}{e:Pm}(k:∀g as q,f (g,as,q)=some y->P (.Call g as [] q))(h:(ie e).bind f=some y):P e:=eE (λa e h=>by rw[gw e];exact k _ _ _ h) h
theorem C9{P:Pm->Prop}{f:Pm×Str×Pos->Pj β}{e:Pm}(k:∀o m q,f (o,m,q)=some y->P (.Attribute o m q))(h:(jU e).bind f=some y):P e:=eE (λa e h=>by rw[jV e];exact k _ _ _ h) h
theorem Kv{P:List α->Prop}{f:α×α×α->Pj β}{l:List α}(k:∀a b c,f (a,b,c)=some y->P [a,b,c])(h:(three l).bind f=some y):P l:=eE (λa e h=>by rw[fk e];exact k _ _ _ h) h
end
theorem Dc(I:SndP V n p)(k:(m=sx "find"/\notStar a=true/\notStar b=true/\notStar c=true/\(apos.endLine==pos.line)=true/\baseOk o=true))(ho:p.ev sc ρ o=some (.str x))(ha:p.ev sc ρ a=some (.str y))(hb:p.ev sc ρ b=some (.int i))(hd:p.ev sc ρ c=some (.int j)):
  bl V (n+1) sc ρ (.Call (.Attribute o m apos) [a,b,c] [] pos) (.int (zd x y i j)):=by
 refine Eq.symm k.1▸?_;refine dn I "str.find" PySem.F.slot_str_find PySem.F.type_str_find k.2.2.2.2.1 (show 3<=20 by left) k.2.2.2.2.2 ho (uF k.2.1 ha (ly k.2.2.1 k.2.2.2.1 hb hd)) λA θ D s Q E t vs R W B tk r hQ=>?_;obtain⟨u,q,rfl,⟨t1,rfl⟩,u2,q2,rfl,⟨t2,rfl⟩,u3,q3,rfl,⟨t3,rfl⟩,rq⟩:=r;cases rq;exact call_gives PySem.F.slot_str_find (OX _ _ _) PySem.F.entry_str_find (PySem.F.args_str_find_4 _ _ _ _) (uH x y i j t t1 t2 t3) (hQ _ _ (.toks W _ _) (Nat.le_add_left ..) ⟨_,rfl⟩)
theorem uJ{V:Vw}{n:Nat}{sc:Sc}{ρ:Rho}{p:P}{e:Pm}{mv:MV}(I:SndP V n p)(h:uI (p.ev sc ρ) e=some mv):bl V (n+1) sc ρ e mv:=
 C8 (P:=λe=>bl V (n+1) sc ρ e mv) (λf as pos h=>C9 (P:=λf=>bl V (n+1) sc ρ (.Call f as [] pos) mv) (λo m apos h=>Kv (P:=λas=>bl V (n+1) sc ρ (.Call (.Attribute o m apos) as [] pos) mv) (λa b c h=>
  ifE (λk h=>JO (λx hx h=>JO (λy hy h=>Mu (λi hi h=>Mv (λj hj e=>by cases e;exact Dc I k hx hy hi hj) h) h) h) h) h) h) h) h
end
end
section
open PySem PySem.Sre
noncomputable def om:Array Nat:=#[14,14,4,1,1,9,0,64,0,1342177280,0,0,0,0,0,17,0,13,11,9,0,64,0,1342177280,0,0,0,0,0,17,1,1]
theorem Dd(must:Bool):∃m,M.runFor 1 (forSearch om #[97,45,98] 1 0 3 must)=m/\Found m none:=⟨_,rfl,⟨nofun⟩⟩
theorem De(must:Bool):∃m,M.runFor 1 (forSearch om #[33,46] 1 0 2 must)=m/\Found m none:=⟨_,rfl,⟨nofun⟩⟩
end
section
open PySem PySem.Calls PyProof.Rows PySem.W
section
open PySem.MeetsSeq PySem.SeqAt
structure TabAt (V:Vw) (a:Pn):Prop where
 mod:∀h,V.tab h->∃o,h.get? 4=some o/\o.cls= .type "module"/\o.dict=some Pc/\o.data= .plain
 at_:∀h,V.tab h->∃ps,h.get? a=some (tabObj ps)/\TriplesOk ps.toList
 put:∀h h' ps,V.tab h->Heap.ExtBut a h h'->h'.get? a=some (tabObj ps)->TriplesOk ps.toList->V.tab h'
theorem N7(P:Pk):(KK P).lookup 78=some (oAt (KK P) 78):=nofun
theorem N8(P:Pk):(oAt (KK P) 78).cls= .type "code"/\(oAt (KK P) 78).data= .fields (ax (oAt (KK P) 78))/\(ax (oAt (KK P) 78))[11]?=some (.ref 74)/\(ax (oAt (KK P) 78)).getD 11 .none= .ref 74:=
 ⟨nofun,nofun,nofun,nofun⟩
noncomputable def xt:Ph->Bool
 | .str _ _=>true
 |_=>false
noncomputable def oo:Ph->Bool
 | .int _ _=>true
 |_=>false
noncomputable def sj:Ph->Bool
 | .bool _=>true
 |_=>false
theorem qK(h:xt v=true):∃x t,v= .str x t:=by cases v<;>first|exact⟨_,_,rfl⟩|cases h
theorem jc(h:oo v=true):∃x t,v= .int x t:=by cases v<;>first|exact⟨_,_,rfl⟩|cases h
theorem oq(h:sj v=true):∃x,v= .bool x:=by cases v<;>first|exact⟨_,rfl⟩|cases h
theorem N9(P:Pk):xt ((ax (oAt (KK P) 78)).getD 18 .none)=true/\oo ((ax (oAt (KK P) 78)).getD 7 .none)=true/\sj ((ax (oAt (KK P) 78)).getD 9 .none)=true/\oo ((ax (oAt (KK P) 78)).getD 10 .none)=true:=
 ⟨nofun,nofun,nofun,nofun⟩
theorem ot{V:Vw}{P:Pk}(hK:V.K=KK P){h:Pp}(X:V.K.In h):CodeHd h 78 74:=by revert hK X;exists V,P,h;obtain⟨a,b,c,d⟩:=N8 P;obtain⟨e,f,g,i⟩:=N9 P;obtain⟨x1,t1,e⟩:=qK e;obtain⟨x2,t2,f⟩:=jc f;obtain⟨x3,g⟩:=oq g;obtain⟨x4,t4,i⟩:=jc i;exact⟨_,_,x1,t1,x2,t2,x3,x4,t4,X 78 _ (by rw[hK];exact N7 P),a,b,c,d,e,f,g,i,by left⟩
set_option tactic.hygienic true in
theorem fN{K:Frag}{h:Pp}{N:Pn}{mg:Str->Pj Ph}{n:Str}{v:Ph}(X:K.In h)(G:h.Ns N mg)(e:nsIn K N n=some (some v)):mg n=some v:=by
 obtain⟨o,es,ep,ho,hd,_,hf⟩:=G;unfold nsIn at e;split at e
 ·rename_i c d es' n' sl q;have:=X _ _ q;rw[ho]at this;cases this;cases hd;split at e
  ·rename_i e' he;cases e;rw[<-hf];unfold nsFind findBy;rw[<-Array.find?_toList,he]
   rfl
  ·split at e<;>cases e
 ·cases e
theorem Mw(P:Pk):nsIn (KK P) Pb "__builtins__"=some (some (.ref 4)):=nofun
theorem ze{V:Vw}{P:Pk}(hK:V.K=KK P){h:Pp}{a:Pn}(T:TabAt V a)(ht:V.tab h)(X:V.K.In h)(Pl:Pn)(hp:(4:Nat)≠Pl):∃mg,h.Ns Pb mg/\h.BuiltinsAt mg Pl:=by have X':(KK P).In h:=hK▸X;have G:h.Ns Pb (h.nsMap Pb):= .of_isNs (isNs_of_in X' (Hl P));obtain⟨o,e,a,b,c⟩:=T.mod _ ht;exact⟨_,G,4,_,fN X' G (Mw P),by left,by left,hp,e,a,b,c⟩
theorem St.tabled(O:V.Ok)(T:TabAt V a)(ha:aJ a)(W:Wd V s)(hx:Heap.ExtBut a s.heap h')(hz:s.heap.objs.size<=h'.objs.size)(hp:h'.get? a=some (tabObj ps))(ht:TriplesOk ps.toList):
  St V none9 s {s with heap:=h',toks:=tk} where
 keep:=⟨hz,λb o _ t e=>hx b o (λq=>t (q▸ha)) e,λb o t _ e=>hx b o (λq=>t (q▸ha)) e⟩
 wd:={
  K:=λb o e=>hx b o (λq=>(O.far b o e).1 (q▸ha)) (W.K b o e)
  b:=by obtain⟨mb,h1,h2⟩:=W.b;exact⟨mb,h1.extBut hx (λq=>by rcases ha with t|t<;>(rw[t]at q;exact O8 q (by left))),h2⟩
  size:=OA W.size hz
  bare:=W.bare
  tabs:=T.put _ _ _ W.tabs hx hp ht
  os:=W.os}
section
variable {V:Vw}{P:Pk}{θ:Pn}{D:Pn->Prop}{sc:Sc}{ρ:Rho}{env:Env}{A:Po}{s:Pg}{E:Pr}
theorem Ay(hK:V.K=KK P)(O:V.Ok)(T:TabAt V 74)(W:Wd V s)(tk:1<=s.toks)(F:FrX V θ D sc ρ env s)(hs:dx sc=true)
  (hfree:∀x∈scope.names,x.2≠ .free) (hdef:defaultsOf params env=([],[]))
  (hQ:∀f s' o fd,St V none9 s s'->1<=s'.toks->175<=f->s'.heap.get? f=some o->o.cls= .type "function"->o.data= .func fd->o.dict=none->Q (.ref f) s'):wpAny (model V.prog V.w) A (eval (.Lambda params body scope pos) env) Q E s:=by
 refine cP tk (kla_eval hdef ?_);obtain⟨mg,G,B⟩:=ze hK T W.tabs W.K 74 (by left);obtain⟨ps,hp,ht⟩:=T.at_ _ W.tabs;have hc:=F.cod hs;cases hf:codeAmong pos ps.toList with
 |some cv=>refine kla_makeFunctionHit (closureFor_none hfree) F.glob G hc (ot hK W.K) hp ht hf B λctv h' tk' hx hz t1=>?_;have st1:St V none9 s {s with heap:=h',toks:=tk'}:=⟨.ofAll none9 hz hx,W.grown O (s':={s with heap:=h',toks:=tk'}) hz hx⟩;exact hQ _ _ _ _ (st1.trans (St.push O st1.wd none9 _ tk')) t1 st1.wd.size (OE _ rfl) rfl rfl rfl
 |none=>
  refine kla_makeFunction (closureFor_none hfree) F.glob G hc (ot hK W.K) hp ht hf (by left) B λc' ctv h' tk' hx hge hlt hrec htb t1=>?_
  have st1:St V none9 s {s with heap:=h',toks:=tk'}:=St.tabled O T (.inl rfl) W hx (OL (O9 hge hlt)) htb (by rw[Array.toList_append];exact TriplesOk_snoc _ _ _ _ ht)
  exact hQ _ _ _ _ (st1.trans (St.push O st1.wd none9 _ tk')) t1 st1.wd.size (OE _ rfl) rfl rfl rfl
end
end
section
open PySem.Builtin PySem.Builtin.Re
theorem Kw(P:Pk):(KK P).lookup 53=some (oAt (KK P) 53):=nofun
theorem Ho(P:Pk):(oAt (KK P) 53).cls= .type "re.Pattern"/\(oAt (KK P) 53).dict=none/\(oAt (KK P) 53).data= .fields (ax (oAt (KK P) 53))/\(ax (oAt (KK P) 53)).getD 5 .none= .ref 52/\reRawNat ((ax (oAt (KK P) 53)).getD 6 .none)=0/\reRawNat ((ax (oAt (KK P) 53)).getD 2 .none)=1:=
 ⟨nofun,nofun,nofun,nofun,nofun,nofun⟩
theorem Oa(P:Pk):(KK P).lookup 52=some (oAt (KK P) 52):=nofun
theorem Ob(P:Pk):(oAt (KK P) 52).data= .seq (n5 (oAt (KK P) 52)) (si (oAt (KK P) 52)):=nofun
theorem Oc(P:Pk):((n5 (oAt (KK P) 52)).map reRawOf).map (·.toNat)=om:=nofun
theorem Hp:typeLookup (.type "function") "__call__"=pure (some (.builtin "function.__call__")):=by rw[typeLookup_type,builtinLookup_eq_fast];symm
theorem xu:isSubtype (.type "str") (.type "bytearray")=pure false:=by rw[isSubtype_type];symm
section
variable {V:Vw}{P:Pk}{A:Po}{E:Pr}{s:Pg}
theorem zg(hK:V.K=KK P)(X:V.K.In s.heap)
  (hQ:Q {pattern:= .ref 53,string:= .str x u,code:=om,text:=x.cps,kind:=0,groups:=1,pos:=0,lim:=x.cps.size} s):wpAny M A (reWholeTarget (.ref 53) (.str x u)) Q E s:=by
 obtain⟨a,b,c,d,e,f⟩:=Ho P;have h1:=X 53 _ (by rw[hK];exact Kw P);have h6:=X 52 _ (by rw[hK];exact Oa P);unfold reWholeTarget;refine wpB (wpAny_fieldsOf h1 c ?_);refine wpB (OG (a:=(x.cps,0)) rfl ?_);simp only [e]
 show wpAny M A (do
  reNoCollectionInside (.str x u) 0
  pure {pattern:= .ref 53,string:= .str x u,code:=(<-reRawItems ((ax (oAt (KK P) 53)).getD 5 .none)).map (·.toNat),text:=x.cps,kind:=0,groups:=reRawNat ((ax (oAt (KK P) 53)).getD 2 .none),pos:=0,lim:=x.cps.size}) Q E s
 refine wpB (Oz ?_);unfold reRawItems;refine Eq.symm d▸?_;refine wpB (wpB (wpAny_seqItems h6 (Ob P) (Oz (Oz ?_))));refine(?_:Q {pattern:= .ref 53,string:= .str x u,code:=((n5 (oAt (KK P) 52)).map reRawOf).map (·.toNat),text:=x.cps,kind:=0,groups:=reRawNat ((ax (oAt (KK P) 53)).getD 2 .none),pos:=0,lim:=x.cps.size} s);rw[Oc,f];exact hQ
theorem JP(hK:V.K=KK P)(O:V.Ok){x:Str}{u:Tok}{f:Pn}{o:Obj}{Q:Pr}(hrun:∃m,Sre.M.runFor 1 (Sre.forSearch om x.cps 1 0 x.cps.size false)=m/\Found m none)(hx0:0<x.cps.size)(hx:x.cps.size<=1000)
  (hj:Txt.join Str.empty [x]=x) (W:Wd V s) (tk:1<=s.toks) (hf:s.heap.get? f=some o) (hc:o.cls= .type "function")
  (hQ:∀t' s',St V none9 s s'->1<=s'.toks->Q (.str x t') s'):wpAny (model V.prog V.w) A (call (.builtin "re.Pattern.sub") [.ref 53,.ref f,.str x u]) Q E s:=by
 revert hK O hrun hx0 hx hj W tk hf hc hQ;exists V,P,A,E,s,x,u,f,o,Q;have h1:=W.K 53 _ (by rw[hK];exact Kw P);have hT:s.TypeIs (.ref 53) "re.Pattern":=⟨_,h1,(Ho P).1⟩;have hge:175<=s.heap.objs.size:=W.size;refine OW (codeAny_call_builtin cY.plain qF (cY.check _ _ _ _ _ _ _ _ hT (uC _ _ _) ?_));refine(?_:wpAny _ _ (reSubstitute "re.Pattern.sub" "sub" false ⟨[.ref 53,.ref f,.str x u],[]⟩) _ _ s);unfold reSubstitute;refine wpB (OG (a:=[some (.ref f),some (.str x u),none]) (by first|rfl|symm) ?_);refine wpB (Oz ?_);refine wpB (OY (T:="function") (name:=Pd "__call__") ⟨o,hf,hc⟩ Hp ?_);refine wpT rfl ?_;refine wpB (Oz ?_);refine wpB (Oz ?_);refine wpB (OJ (zg hK W.K ?_));refine wpAny_ite_true (by left) ?_;refine wpB ?_;unfold reNotHeld;refine wpB (wpAny_isInstance (T:="str") (OX _ _ _) xu ?_);refine wpF rfl (Oz ?_);refine wpB (wpAny_newObj_type ?_ (by size_fits));refine Oz ⟨gQ _,?_⟩;have st1:=St.push O W none9 {cls:= .type "list",data:= .seq ([]:List Ph).toArray};refine codeAny_builtin nZ ?_;unfold Builtin.«re.Pattern.sub.loop»;refine wpB (zg hK st1.wd.K ?_);refine wpAny_ite_false (by left) ?_;obtain⟨m,hm,hF⟩:=hrun;have hL:=OE s.heap (o:={cls:= .type "list",data:= .seq ([]:List Ph).toArray}) rfl;refine wpB (za hm (by left) hF ?_);refine wpAny_ite_true (Pa hx0) ?_;have hx1:(⟨x.cps.extract 0 x.cps.size⟩:Str)=x:=ON Str.mk Array.extract_size;have hem:(⟨x.cps.extract 0 0⟩:Str)=Str.empty:=ON Str.mk (Array.extract_empty_of_stop_le_start (OP 0));refine wpB (nz (ON mkStr hx1) (wpAny_mkStr ?_ (by show x.cps.size<=_;rw[sizeLine_eq];lia)));have st2:=st1.trans (St.toks st1.wd none9 (s.toks+1));refine wpB (gR (vs:=[]) O st2.wd ⟨_,hL,rfl,rfl,_,rfl⟩ hge (by simp) λh' g2 st3=>?_);refine wpB (nz (ON mkStr hem) (wpAny_mkStr ?_ (by show(0:Nat)<=sizeLine;rw[sizeLine_eq];lia)));obtain⟨o2,ho2,hc2,hdc2,n2,hd2⟩:=id g2;refine wpB (wpAny_seqItems (s:={heap:=h',gens:=s.gens,drawn:=s.drawn,toks:=s.toks+1+1,os:=s.os}) ho2 hd2 ?_);refine wpF rfl ?_
 refine wpB (cP (s:={heap:=h',gens:=s.gens,drawn:=s.drawn,toks:=s.toks+1+1,os:=s.os}) (by show 1<=s.toks+1+1;lia) (PyProof.Rows.join_list (s:={heap:=h',gens:=s.gens,drawn:=s.drawn,toks:=s.toks+1+1,os:=s.os}) g2.isList (.cons _ _ .nil) (by have e:x.length=x.cps.size:=rfl;simp [Str.empty,Str.length];lia) λt' k tk'=>Oz ?_))
 refine hj.symm▸?_;refine hQ t' _ ⟨⟨OA st2.keep.size st3.keep.size,λb ob d t e=>?_,λb ob t c e=>st3.keep.code b ob t c (st2.keep.code b ob t c e)⟩,(st3.wd.toks k)⟩ tk';refine st3.keep.keep b ob (λq=>?_) t (st2.keep.keep b ob d t e);have q':b=s.heap.objs.size:=q;subst q';exact OM _ (OF e)
end
end
section
open PySem.MeetsSeq PySem.SeqAt
noncomputable def Kx(e:Pm):Pj (Arguments×Pm×Scope×Pos):=match aN e with
 | .lam ps b sc q=>some (ps,b,sc,q)
 |_=>none
theorem Hq(h:Kx e=some (ps,b,sc,q)):e= .Lambda ps b sc q:=by
 unfold Kx at h;cases hv:aN e<;>rw[hv]at h<;>first|exact af h|skip
 cases h;exact aL hv
noncomputable def zh(sc:Sc)(ev:Pm->Pj MV)(e:Pm):Pj MV:=(ie e).bind λc=>(jU c.1).bind λo=>(two c.2.1).bind λab=>(Kx ab.1).bind λl=>
 if o.2.1=sx "sub"/\notStar ab.2=true/\(o.2.2.endLine==c.2.2.line)=true/\baseOk o.1=true/\dx sc=true/\l.1.defaults.isEmpty=true/\l.1.kw_defaults.isEmpty=true/\(l.2.2.1.names.all λy=>y.2 != .free)=true/\(ev o.1).bind kW=some (.ref 53) then
  ((ev ab.2).bind strOf).bind λx=>if x=sx "a-b"\/x=sx "!." then some (.str x) else none else none
theorem Ky:∃m,Sre.M.runFor 1 (Sre.forSearch om (sx "a-b").cps 1 0 (sx "a-b").cps.size false)=m/\Found m none:=Dd false
theorem Kz:∃m,Sre.M.runFor 1 (Sre.forSearch om (sx "!.").cps 1 0 (sx "!.").cps.size false)=m/\Found m none:=De false
theorem KA(hK:V.K=KK PP)(O:V.Ok)(T:TabAt V 74)(I:SndP V n p)(h2:notStar b=true)(h3:(apos.endLine==pos.line)=true)(h4:baseOk o=true)(h5:dx sc=true)(h6:params.defaults.isEmpty=true)(h7:params.kw_defaults.isEmpty=true)
  (h8:(scope.names.all λy=>y.2 != .free)=true) (ho:p.ev sc ρ o=some (.ex (.ref 53))) (hb:p.ev sc ρ b=some (.str x)) (hx:x=sx "a-b"\/x=sx "!."):bl V (n+1) sc ρ (.Call (.Attribute o (sx "sub") apos) [.Lambda params body scope lpos,b] [] pos) (.str x):=by
 intro A θ D env s Q E R W tk F hQ
 have hse:starEach [.Lambda params body scope lpos,b] env=[(false,eval (.Lambda params body scope lpos) env),(false,eval b env)]:=by rw[aW rfl,aW h2];rfl
 refine wpAny_Call_method_late (dF h4) (by rw[hse];rfl) h3 rfl (I.ev _ _ _ _ ho A θ D env s _ E R.pred W tk F λv w99 st1 t1 r1=>?_);cases r1;have hp:=st1.wd.K 53 _ (by rw[hK];exact Kw PP);refine⟨"re.Pattern","re.Pattern.sub",iw,cY,j4,⟨_,hp,(Ho PP).1⟩,λb e=>by cases e;exact⟨_,hp,(Ho PP).2.1⟩,?_⟩;refine callWith_builtin (by rw[hse];rfl) ?_;rw[hse]
 have hdef:defaultsOf params env=([],[]):=by
  obtain⟨po,ar,va,ko,kd,ka,df⟩:=params;cases List.isEmpty_iff.mp h6;cases List.isEmpty_iff.mp h7
  rfl
 refine evalArgs_plain (spliced_cons (x:=eval (.Lambda params body scope lpos) env) (Ay hK O T st1.wd t1 (F.st st1) h5 (λy hy=>bne_iff_ne.mp (OQ.mp h8 y hy)) hdef λf w98 o fd st2 t2 hf1 hf2 hf3 hf4 hf5=>?_));refine spliced_cons (x:=eval b env) (I.ev _ _ _ _ hb A θ D env w98 _ E R.pred st2.wd t2 ((F.st st1).st st2) λv w96 st3 t3 r3=>spliced_nil ?_);obtain⟨u,rfl⟩:=r3;have hf':=st3.keep.keep f o (λq=>q) (aY hf1) hf2;have fin:∀t' s',St V none9 w96 s'->1<=s'.toks->Q (.str x t') s':=λt' s' st4 t4=>hQ _ _ (((st1.trans st2).trans st3).trans st4) t4 ⟨_,rfl⟩;rcases hx with rfl|rfl
 ·exact JP hK O Ky (by left) (by left) (by right) st3.wd t3 hf' hf3 fin
 ·exact JP hK O Kz (by left) (by left) (by right) st3.wd t3 hf' hf3 fin
theorem xv(hK:V.K=KK PP)(O:V.Ok)(T:TabAt V 74)(I:SndP V n p)(h:zh sc (p.ev sc ρ) e=some mv):bl V (n+1) sc ρ e mv:=by revert hK O T I h;exists V,PP,n,sc,ρ,p,e,mv;ext e0z hc h;obtain⟨f,as,pos⟩:=e0z;ext e0z hf h;obtain⟨o,m,apos⟩:=e0z;ext e0z h1 h;obtain⟨a,b⟩:=e0z;ext e0z hl h;obtain⟨params,body,scope,lpos⟩:=e0z;injections e0z h;obtain⟨hm,h2,h3,h4,h5,h6,h7,h8,h9⟩:=e0z;ext x hx h;injections hx2 h;ext vo ho h9;ext vb hb hx;cases h;cases aF hx;cases gL h9;rw[gw hc,show f=_ from jV hf,show m=_ from hm,show as=_ from d6 h1,show a=_ from Hq hl];exact KA hK O T I h2 h3 h4 h5 h6 h7 h8 ho hb hx2
end
section
open PySem.MeetsSeq PySem.SeqAt PySem.Builtin PySem.Builtin.Str
noncomputable def kj(x y:Str):Bool:=(occurrences x y 0 x.length (x.length+1)).isEmpty
theorem jK(x y z:Str)(t u v:Tok)(h:kj x y=true):Gives («str.replace» ⟨[.str x t,.str y u,.str z v],[]⟩) (.val (.str x t)):=by
 show Gives (if((occurrences x y 0 x.length (x.length+1)).isEmpty||(y.length==0&&z.length==0))=true then(do rule "str.replace.nothing";ret (.str x t)) else
     (do
       let same <-isSame (.str y u) (.str z v)
       if same=true then(do rule "str.replace.old-is-new";ret (.str x t)) else
       if tooLong (x.length+(occurrences x y 0 x.length (x.length+1)).length*z.length)=true then unsupported "str.replace:memory" else
       retStr (glued z (partsBetween x (occurrences x y 0 x.length (x.length+1)) y.length)))) _
 unfold kj at h;rw[h,Bool.true_or,if_pos rfl];exact .rule (.of_eq rfl)
section
variable {prog:Program}{w:World}{A:Po}{E:Pr}{s:Pg}{Q:Pr}
theorem uK(hl:(apos.endLine==pos.line)=true)(hb:baseOk o=true)(hn:kj x y=true)
  (h:wpAny (model prog w) A (eval o env) (λv w99=>v= .str x t/\Q (.str x t) {w99 with toks:=w99.toks+1+1}) E s):
  wpAny (model prog w) A (eval (.Call (.Attribute o (sx "replace") apos) [.Constant (.str y) k1 q1,.Constant (.str z) k2 q2] [] pos) env) Q E s:=by
 refine wpAny_Call_method2_late (dF hb) hl rfl (OV h (λv w99 w95=>?_) λ_ _ e=>e);obtain⟨rfl,w95⟩:=w95;refine⟨"str","str.replace",PySem.F.plainAttrs_str,PySem.F.slot_str_replace,PySem.F.type_str_replace,OX _ _ _,(λa e=>by cases e),?_⟩;refine callWith_builtin rfl (evalArgs_plain (spliced_cons (x:=eval (.Constant (.str y) k1 q1) env) ?_));refine(?_:wpAny _ A (constValue env (.str y)) _ _ w99);refine O3 (spliced_cons (x:=eval (.Constant (.str z) k2 q2) env) ?_);refine(?_:wpAny _ A (constValue env (.str z)) _ _ _);refine O3 (spliced_nil ?_);exact call_gives PySem.F.slot_str_replace (OX _ _ _) PySem.F.entry_str_replace (PySem.F.args_str_replace_3 _ _ _) (jK x y z t _ _ hn) w95
theorem Df(h1:(p2.endLine==p3.line)=true)(h2:(p4.endLine==p5.line)=true)
  (hd1:(v==("__debug__":Str))=false) (hd2:(v==("__classdict__":Str))=false) (hkind:env.scope.kind= .function) (hk:env.kindOf v=some .local) (hn:s.heap.Ns env.locals m) (hm:m v=some (.str y t)) (o1:kj y a1=true) (o2:kj y a2=true) (hQ:Q (.str y t) {s with toks:=s.toks+1+1+1+1}):
  wpAny (model prog w) A (eval (.Call (.Attribute (.Call (.Attribute (.Name v p1) (sx "replace") p2) [.Constant (.str a1) k1 q1,.Constant (.str b1) k2 q2] [] p3) (sx "replace") p4) [.Constant (.str a2) k3 q3,.Constant (.str b2) k4 q4] [] p5) env) Q E s:=by
 refine uK (x:=y) (t:=t) h2 rfl o2 (uK (x:=y) (t:=t) h1 rfl o1 ?_);exact wpAny_Name (wpAny_loadName_local hkind hk hn hm ⟨rfl,rfl,hQ⟩) hd1
end
section
variable {V:Vw}{P:Pk}{θ:Pn}{D:Pn->Prop}{sc:Sc}{ρ:Rho}{env:Env}{A:Po}{s:Pg}{E:Pr}
theorem uL(n:Nat):passing (λ_=>true) n 0=List.range n:=by unfold passing;simp
theorem uM(hK:V.K=KK P)(O:V.Ok)(T:TabAt V 74)(W:Wd V s)(hc:env.code= .ref 78)
  (h:∀code w94 w9S,Heap.ExtBut 74 s.heap w94->s.heap.objs.size<=w94.objs.size->St V none9 s {s with heap:=w94,toks:=w9S}->Q code {s with heap:=w94,toks:=w9S}):wpAny M A (genexprCode env pos q scope) Q E s:=by
 obtain⟨ps,hp,ht⟩:=T.at_ _ W.tabs;have C:=ot hK W.K;cases hf:codeAmong pos ps.toList with
 |some cv=>exact wpAny_genexprCode_hit hc (C.code hp ht) hf (h cv s.heap s.toks (Heap.ExtBut.refl _ _) (OP _) (.refl W _))
 |none=>refine wpAny_genexprCodeX hc (C.code hp ht) (C.tab hp) hf λc' h' tk' hx hge hlt _ _ htb _=>?_;have hz:s.heap.objs.size<=h'.objs.size:=OL (O9 hge hlt);exact h _ h' tk' hx hz (St.tabled O T (.inl rfl) W hx hz htb.2 (by rw[Array.toList_append];exact TriplesOk_snoc _ _ _ _ ht))
def Mx(V:Vw)(A:Po)(L a:Pn)(n:Nat)(F:Nat->Ph->Prop)(s:Pg):Prop:=
 ∃fp wr g St,WalksS V.prog V.w A.in4 a fp wr (GenOnlyQ g) n F St/\St 0 s/\(∀i s',St i s'->s'.TypeIs (.ref a) "generator")/\a∈fp/\(∀b∈fp,b<s.heap.objs.size)/\(∀b∈wr,L<b)/\∃h₀,V.tab h₀/\∀b o,h₀.get? b=some o->bt o\/b<175->s.heap.get? b=some o/\b∉wr
theorem Az(hK:V.K=KK P)(O:V.Ok)(T:TabAt V 74)(W:Wd V s)(tk:1<=s.toks)(F:FrX V θ D sc ρ env s)(hs:dx sc=true)(hh:A.handled=none)(hroom:A.depth<recursionLimit)
  {elt iter:Pm} {x:Str} {px pos:Pos} {scope:Scope} {ys:List Str} {Q:Pr}
  (hfree:∀y∈scope.names,y.2≠ .free) (hco:scope.isCoroutine=false) (hcell:∀y∈scope.names,y.2≠ .cell) (h0:scope.names.lookup (".0":Str)=some NameKind.local) (hx:scope.names.lookup x=some .local) (hkind:scope.kind= .function)
  (hgf:∀v,genFold iter env v=pure v)
  (hi:∀(Q E:Ph->Pg->Prop),(∀(l:Pn) (vs:List Ph) w99,St V none9 s w99->1<=w99.toks->w99.heap.IsList l (List.toArray vs)->StrsAre vs ys->l≠74->Q (.ref l) w99)->wpAny (model V.prog V.w) A (eval iter env) Q E s)
  (helt:∀(A':Po) (genv:Env) (w98:Pg) (y:Str) (t:Tok) (m:Str->Pj Ph) (E':Ph->Pg->Prop) (Q':Ph->Pg->Prop),y∈ys->genv.scope=scope->w98.heap.Ns genv.locals m->m x=some (.str y t)->(∀k,Q' (.str y t) {w98 with toks:=k})->wpAny (model V.prog V.w) A' (eval elt genv) Q' E' w98)
  (hQ:∀a s',St V none9 s s'->1<=s'.toks->Mx V A (s.heap.objs.size-1) a (passing (λ_=>true) ys.length 0).length (λj y=>∃i,(passing (λ_=>true) ys.length 0)[j]?=some i/\∃t,y= .str (ys.getD i "") t) s'->Q (.ref a) s'):
  wpAny (model V.prog V.w) A (eval (.GeneratorExp elt [⟨.Name x px,iter,[],0⟩] scope pos) env) Q E s:=by
 refine cP tk (wpAny_GeneratorExp_walksQ hh hco (closureFor_none hfree) hcell h0 hx hkind hroom (hi _ _ λl vs w99 st1 t1 hl hys hl175=>?_) hgf);refine wpAny_pyIter_list hl ?_;have st2:=St.push O st1.wd none9 {cls:= .type "list_iterator",data:= .fields #[.ref l,.int 0 0]};have hs1:175<=w99.heap.objs.size:=st1.wd.size;have hllt:l<w99.heap.objs.size:=IsList.lt hl;have hvl:vs.length=ys.length:=hys.len_eq;have hsz:(List.toArray vs).size=ys.length:=by simp [hvl]
 refine⟨O.nolimit _ st2.wd.K,uM hK O T st2.wd (F.cod hs) λcode w94 w9S w9A w9t st3=>?_⟩;obtain⟨mg,G,bm,ob,b1,b2,b3,b4,b5,b6,b7,b8⟩:=ze hK T st3.wd.tabs st3.wd.K 74 (by left);refine wpAny_builtinsFor (F.glob▸G) b1 b2 b5 b6 b7 b8 ?_;have hz2:w99.heap.objs.size<w94.objs.size:=OD (by rw[Heap.size_push];exact O6 _) w9t
 have hI:w94.IsListIter w99.heap.objs.size l 0:=by have:(w99.heap.push {cls:= .type "list_iterator",data:= .fields #[.ref l,.int 0 0]}).IsListIter w99.heap.objs.size l 0:=⟨_,OE _ rfl,rfl,rfl⟩;exact this.at λo e=>w9A _ o (λq=>O8 hs1 (by rw[q];decide)) e
 have hL:w94.IsList l (List.toArray vs):=IsList.keepAt (hl.push _) λo e=>w9A _ o hl175 e;have hstat:cStatics<175:=by left
 refine⟨w99.heap.objs.size,[w99.heap.objs.size,l],[w99.heap.objs.size],(List.toArray vs).size,_,_,λ_=>true,λi v=>∃t,v= .str (ys.getD i "") t,rfl,λA' hA=>Walks.list hA _ _ (Nat.ne_of_lt hllt) (List.toArray vs),⟨hI,hL⟩,?_,O.nolimit _ st3.wd.K,?_,?_,?_⟩
 ·intro b hb;simp only [List.mem_cons,List.not_mem_nil,or_false]at hb;rcases hb with rfl|rfl
  ·exact hz2
  ·exact Nat.lt_trans hllt hz2
 ·intro hm;simp only [List.mem_cons,List.not_mem_nil,or_false]at hm;rw[<-hm]at hs1;exact O8 hs1 (by left)
 ·intro href hk;refine⟨λA' E' i v w98 m₂ hA hP hn hm _=>Oz ⟨rfl,_,_,rfl,λ_ _ e=>e⟩,λA' E' i v w98 m₂ hA hP _ hn hm _=>?_⟩;have hv:vs[i]?=some v:=by simpa using hP
  have hlt:i<ys.length:=by rw[<-hvl];exact(List.getElem?_eq_some_iff.mp hv).1
  obtain⟨t,ht⟩:=hys.get i ys[i] (List.getElem?_eq_getElem hlt);rw[hv]at ht;cases ht;refine helt A' _ w98 ys[i] t m₂ E' _ (List.getElem_mem hlt) rfl hn hm λk=>⟨⟨t,by simp [List.getD_eq_getElem?_getD,hlt]⟩,_,_,rfl,λ_ _ e=>e⟩
 ·intro a w9R tk' gs hgb hag w9s w9U WS hat t5
  have st4:St V none9 {w99 with heap:=w94,toks:=w9S} {w99 with heap:=w9R,gens:=w99.gens.push gs,toks:=tk'}:=⟨.ofAll none9 (by show w94.objs.size<=w9R.objs.size;have:w94.objs.size<a:=hag;lia) w9U,{
   K:=λb o e=>w9U _ _ (st3.wd.K b o e)
   b:=by obtain⟨mb,h1,h2⟩:=st3.wd.b;exact⟨mb,h1.keeps w9U,h2⟩
   size:=OA st3.wd.size (by show w94.objs.size<=w9R.objs.size;have:w94.objs.size<a:=hag;lia)
   bare:=st3.wd.bare.push hgb
   tabs:=O.tabKeep _ _ st3.wd.tabs λa o e _=>w9U _ _ e
   os:=st3.wd.os}⟩
  have hag':w94.objs.size<a:=hag;have hs0:s.heap.objs.size<=w99.heap.objs.size:=st1.keep.size;have hs0':=W.size;refine hQ a _ (((st1.trans st2).trans st3).trans st4) t5 ⟨_,_,_,_,(by rw[<-hsz];exact WS),hat,λi s' st=>st.1.typeIs,List.mem_cons_self,?_,?_,w94,st3.wd.tabs,λb o e c=>⟨w9U _ _ e,λhm=>?_⟩⟩
  ·intro b hb;refine(?_:b<w9R.objs.size);refine Eq.symm w9s▸?_;rcases OT.mp hb with rfl|hb
   ·exact O6 _
   ·rcases OT.mp hb with rfl|hb
    ·exact Nat.lt_succ_of_lt hag
    ·exact Nat.lt_succ_of_lt (Nat.lt_trans (List.mem_range.mp hb) hag)
  ·intro b hb;have hb':b=w94.objs.size\/b=w99.heap.objs.size:=by simpa using hb
   have:s.heap.objs.size<=b:=by
    rcases hb' with q|q
    ·rw[q];exact OA hs0 (OL hz2)
    ·rw[q];exact hs0
   exact OD (Nat.sub_lt (OD (by left:0<175) hs0') Nat.one_pos) this
  ·have hb':b=w94.objs.size\/b=w99.heap.objs.size:=by simpa using hm
   rcases hb' with q|q
   ·exact OM _ (q▸OF e)
   ·obtain⟨oi,hoi,hci,_⟩:=hI;rw[<-q,e]at hoi;cases hoi;rcases c with⟨_,_,z|z⟩|z
    ·rw[hci]at z;cases z
    ·rw[hci]at z;simp at z
    ·rw[q]at z;exact O8 hs1 (Nat.not_le.mpr z)
end
section
variable {V:Vw}{A:Po}{s:Pg}{E:Pr}
theorem pX(O:V.Ok)(T:TabAt V 74)(W:Wd V s)(hN:175<=N+1)(hm0:m=ys.length)(hok:JoinOk sep ys=true)(hz:m<=sizeLine)
  (X:Mx V A N a (passing (λ_=>true) m 0).length (λj y=>∃i,(passing (λ_=>true) m 0)[j]?=some i/\∃t,y= .str (ys.getD i "") t) s)
  (hQ:∀t' s',(∀b o,b<=N->s.heap.get? b=some o->s'.heap.get? b=some o)->Wd V s'->s.heap.objs.size<=s'.heap.objs.size->Q (.str (Txt.join sep ys) t') s'):wpAny (model V.prog V.w) A (call (.builtin "str.join") [.str sep t,.ref a]) Q E s:=by
 rw[uL]at X;subst hm0;obtain⟨fp,wr,g,St',WS,hst,hT,ha,hfp,hwr,h₀,w9r,w9z⟩:=X;have WS:=WS.in4_2;refine OV (l6 (SC.joinGen (Q:=λv s'=>s.heap.objs.size<=s'.heap.objs.size->Q v s') (E:=λe s'=>s.heap.objs.size<=s'.heap.objs.size->E e s') WS hT hst hfp ha (λj v hv=>by obtain⟨i,_,u,e⟩:=hv;exact⟨_,u,e⟩) (λs' lt hm hacc=>?_) (by simpa using hz))) (λv s' h=>h) λe s' h=>h
 have hl:lt.map (·.1)=ys:=by
  apply List.ext_getElem?;intro j;have hsz:lt.length=ys.length:=by simpa [strValues]using hacc.1
  by_cases hj:j<ys.length
  ·have hj':j<lt.length:=hsz▸hj;obtain⟨i,hi,u,hv⟩:=hacc.2 j (.str lt[j].1 lt[j].2) (by simp [strValues,List.getElem?_eq_getElem hj']);have hij:j=i:=by simpa [hj]using hi
   subst hij
   injection hv with h1 _
   simp [List.getElem?_eq_getElem hj',hj,h1,List.getD_eq_getElem?_getD]
  ·rw[List.getElem?_eq_none (by simpa [hsz]using Nat.le_of_not_lt hj),List.getElem?_eq_none (by simpa using Nat.le_of_not_lt hj)]
 refine Eq.symm hl▸?_;refine⟨hok,λt' k hsz=>?_⟩;have keep:∀b o,b<=N->s.heap.get? b=some o->s'.heap.get? b=some o:=λb o hb e=>hm.heap b o (λhmem=>OM _ (OD (hwr b hmem) hb)) e;have low:∀b o,b<175->s.heap.get? b=some o->s'.heap.get? b=some o:=λb o hb e=>keep b o (by have:b<N+1:=OD hb hN;exact Nat.le_of_lt_succ this) e
 refine hQ t' {s' with toks:=k} keep {
  K:=λb o e=>low b o (O.far b o e).2 (W.K b o e)
  b:=by obtain⟨mb,h1,h2⟩:=W.b;exact⟨mb,Ns.keepAt h1 λo e=>low _ o (by left) e,h2⟩
  size:=OA W.size hsz
  bare:=(show AllBare s'.gens from AllBare.movedS W.bare hm)
  tabs:=O.tabKeep h₀ _ w9r λb o e c=>hm.heap b o (w9z b o e c).2 (w9z b o e c).1
  os:=hm.os.trans W.os} hsz
end
noncomputable def isName(e:Pm):Bool:=Nat.beq e.ctorIdx 23
noncomputable def jL(scope:Scope)(x:Str):Bool:=scope.kind== .function&& !scope.isCoroutine&&(scope.names.all λy=>y.2 != .free&&y.2 != .cell)&&scope.names.lookup (".0":Str)==some NameKind.local&&scope.names.lookup x==some .local
noncomputable def rx(o:Pm)(x y:Str)(q1 q2:Pos)(k1:Nat)(p1:Pos)(k2:Nat)(p2:Pos):Pm:= .Call (.Attribute o (sx "replace") q1) [.Constant (.str x) k1 p1,.Constant (.str y) k2 p2] [] q2
noncomputable def jx(sep:Str)(k0:Nat)(p0 q1:Pos)(elt t i:Pm)(scope:Scope)(gp q2:Pos):Pm:= .Call (.Attribute (.Constant (.str sep) k0 p0) (sx "join") q1) [.GeneratorExp elt [⟨t,i,[],0⟩] scope gp] [] q2
noncomputable def KC(e:Pm):Pj (Pm×Str×Str×Pos×Pos):=(ie e).bind λc=>(jU c.1).bind λo=>(two c.2.1).bind λab=>(cStr ab.1).bind λx=>(cStr ab.2).bind λy=>if o.2.1=sx "replace" then some (o.1,x,y,o.2.2,c.2.2) else none
noncomputable def Hr(e:Pm):Pj (Pm×List Comprehension×Scope×Pos):=match aN e with
 | .gen x gs sc q=>some (x,gs,sc,q)
 |_=>none
theorem Hs(h:Hr e=some (x,gs,sc,q)):e= .GeneratorExp x gs sc q:=by
 unfold Hr at h;cases hv:aN e<;>rw[hv]at h<;>first|exact af h|skip
 cases h;exact aL hv
noncomputable def JQ(e:Pm):Pj (Str×Pm×Pm×Pm×Scope×Pos×Pos):=(ie e).bind λc=>(jU c.1).bind λo=>(cStr o.1).bind λsep=>(one c.2.1).bind λg=>(Hr g).bind λg=>(one g.2.1).bind λk=>
 if o.2.1=sx "join"/\k.ifs.isEmpty=true/\k.is_async=0 then some (sep,g.1,k.target,k.iter,g.2.2.1,o.2.2,c.2.2) else none
section
variable {α β:Type}{z:β}
theorem nmE{P:Pm->Prop}{f:Str->Pj β}{e:Pm}(k:∀x q,f x=some z->P (.Name x q))(h:(cNm e).bind f=some z):P e:=eE (λa e h=>by obtain⟨q,rfl⟩:=cM e;exact k _ _ h) h
theorem KD{P:Pm->Prop}{f:Str->Pj β}{e:Pm}(k:∀x j q,f x=some z->P (.Constant (.str x) j q))(h:(cStr e).bind f=some z):P e:=eE (λa e h=>by obtain⟨j,q,rfl⟩:=i8 e;exact k _ _ _ h) h
theorem My{P:List α->Prop}{f:α->Pj β}{l:List α}(k:∀a,f a=some z->P [a])(h:(one l).bind f=some z):P l:=eE (λa e h=>by rw[bf e];exact k _ h) h
theorem Od{P:List α->Prop}{f:α×α->Pj β}{l:List α}(k:∀a b,f (a,b)=some z->P [a,b])(h:(two l).bind f=some z):P l:=eE (λa e h=>by rw[d6 e];exact k _ _ h) h
theorem Oe{P:Pm->Prop}{f:Pm×List Comprehension×Scope×Pos->Pj β}{e:Pm}(k:∀x gs sc q,f (x,gs,sc,q)=some z->P (.GeneratorExp x gs sc q))(h:(Hr e).bind f=some z):P e:=eE (λa e h=>by rw[Hs e];exact k _ _ _ _ h) h
theorem Mz{P:Pm->Prop}{F:Pm×Str×Str×Pos×Pos->Pj β}{e:Pm}(k:∀o x y q1 q2 k1 p1 k2 p2,F (o,x,y,q1,q2)=some z->P (rx o x y q1 q2 k1 p1 k2 p2))(h:(KC e).bind F=some z):P e:=
 eE (λa h hF=>C8 (P:=P) (λf as q h=>C9 (P:=λf=>P (.Call f as [] q)) (λo m q1 h=>Od (P:=λas=>P (.Call (.Attribute o m q1) as [] q)) (λa b h=>KD (P:=λa=>P (.Call (.Attribute o m q1) [a,b] [] q)) (λx k1 p1 h=>KD (P:=λb=>P (.Call (.Attribute o m q1) [.Constant (.str x) k1 p1,b] [] q)) (λy k2 p2 h=>
  ifE (λhm h=>by cases hm;cases h;exact k _ _ _ _ _ _ _ _ _ hF) h) h) h) h) h) h) h
theorem MA{P:Pm->Prop}{F:Str×Pm×Pm×Pm×Scope×Pos×Pos->Pj β}{e:Pm}(k:∀sep elt t i scope q1 q2 k0 p0 gp,F (sep,elt,t,i,scope,q1,q2)=some z->P (jx sep k0 p0 q1 elt t i scope gp q2))(h:(JQ e).bind F=some z):P e:=
 eE (λa h hF=>C8 (P:=P) (λf as q h=>C9 (P:=λf=>P (.Call f as [] q)) (λo m q1 h=>KD (P:=λo=>P (.Call (.Attribute o m q1) as [] q)) (λsep k0 p0 h=>My (P:=λas=>P (.Call (.Attribute (.Constant (.str sep) k0 p0) m q1) as [] q)) (λg h=>
  Oe (P:=λg=>P (.Call (.Attribute (.Constant (.str sep) k0 p0) m q1) [g] [] q)) (λx gs sc gp h=>My (P:=λgs=>P (.Call (.Attribute (.Constant (.str sep) k0 p0) m q1) [.GeneratorExp x gs sc gp] [] q)) (λc h=>ifE (λhm h=>by obtain⟨t,i,f,a⟩:=c;obtain⟨rfl,h2,rfl⟩:=hm;cases List.isEmpty_iff.mp h2;cases h;exact k _ _ _ _ _ _ _ _ _ _ hF) h) h) h) h) h) h) h) h
end
noncomputable def sjD(sep:Str)(ys:List Str)(a1 a2:Str):Pj MV:=if(ys.all λy=>kj y a1&&kj y a2)=true/\ys.length<=1000/\JoinOk sep ys=true then some (.str (Txt.join sep ys)) else none
noncomputable def sjC(sc:Sc)(ev:Pm->Pj MV)(sep:Str)(i:Pm)(scope:Scope)(q1 q2:Pos)(a1:Str)(p2 p3:Pos)(a2:Str)(p4 p5:Pos)(v x:Str):Pj MV:=
 if(q1.endLine==q2.line)=true/\dx sc=true/\v=x/\(p2.endLine==p3.line)=true/\(p4.endLine==p5.line)=true/\jL scope v=true/\isName i=true/\bg v=true then((ev i).bind itemsOf).bind λl=>(strsOf l).bind λys=>sjD sep ys a1 a2 else none
noncomputable def sjB(sc:Sc)(ev:Pm->Pj MV)(sep:Str)(t i:Pm)(scope:Scope)(q1 q2:Pos)(a2:Str)(p4 p5:Pos)(r:Pm×Str×Str×Pos×Pos):Pj MV:=(cNm r.1).bind λv=>(cNm t).bind λx=>sjC sc ev sep i scope q1 q2 r.2.1 r.2.2.2.1 r.2.2.2.2 a2 p4 p5 v x
noncomputable def sjA(sc:Sc)(ev:Pm->Pj MV)(j:Str×Pm×Pm×Pm×Scope×Pos×Pos)(r:Pm×Str×Str×Pos×Pos):Pj MV:=(KC r.1).bind (sjB sc ev j.1 j.2.2.1 j.2.2.2.1 j.2.2.2.2.1 j.2.2.2.2.2.1 j.2.2.2.2.2.2 r.2.1 r.2.2.2.1 r.2.2.2.2)
noncomputable def uO(sc:Sc)(ev:Pm->Pj MV)(e:Pm):Pj MV:=(JQ e).bind λj=>(KC j.2.1).bind (sjA sc ev j)
section
variable {V:Vw}{PP:Pk}{n:Nat}{sc:Sc}{ρ:Rho}{p:P}{sep m r1 r2 a1 b1 a2 b2 v x:Str}{k0 k1 k2 k3 k4:Nat}{p0 apos p1 p2 p3 p4 p5 q1 q2 q3 q4 px gpos pos:Pos}{iter:Pm}{scope:Scope}
theorem Ht(hK:V.K=KK PP)(O:V.Ok)(T:TabAt V 74)(I:SndP V n p)(h2:(apos.endLine==pos.line)=true)(h3:dx sc=true)(h4:(p2.endLine==p3.line)=true)(h5:(p4.endLine==p5.line)=true)(h6:jL scope v=true)(h7:isName iter=true)(h8:bg v=true)
  (hl:(p.ev sc ρ iter).bind itemsOf=some l) (hys:strsOf l=some ys) (ho1:(ys.all λy=>kj y a1&&kj y a2)=true) (ho2:ys.length<=1000) (ho3:JoinOk sep ys=true):
  bl V (n+1) sc ρ (.Call (.Attribute (.Constant (.str sep) k0 p0) (sx "join") apos) [.GeneratorExp (.Call (.Attribute (.Call (.Attribute (.Name v p1) (sx "replace") p2) [.Constant (.str a1) k1 q1,.Constant (.str b1) k2 q2] [] p3) (sx "replace") p4) [.Constant (.str a2) k3 q3,.Constant (.str b2) k4 q4] [] p5) [⟨.Name v px,iter,[],0⟩] scope gpos] [] pos) (.str (Txt.join sep ys)):=by
 unfold jL at h6;simp only [Bool.and_eq_true,beq_iff_eq,Bool.not_eq_true']at h6;obtain⟨⟨⟨⟨hs1,hs2⟩,hs3⟩,hs4⟩,hs5⟩:=h6;have hd:=lg h8
 have hall:∀y∈scope.names,y.2≠ .free/\y.2≠ .cell:=λy hy=>by have:=OQ.mp hs3 y hy;simpa using this
 intro A θ D env s Q E R W tk F hQ;refine wpAny_Call_method_late (dF rfl) rfl h2 rfl ?_;show wpAny _ A (constValue env (.str sep)) _ _ s;refine O3 ?_;have st1:=St.toks W none9 (s.toks+1);refine⟨"str","str.join",PySem.F.plainAttrs_str,PySem.F.slot_str_join,PySem.F.type_str_join,OX _ _ _,(λb e=>by cases e),?_⟩;refine callWith_builtin rfl (evalArgs_plain (spliced_cons (Az hK O T st1.wd (OK tk) (F.st st1) h3 R.hd (by have:=R.depth;lia) (ys:=ys) (λy hy=>(hall y hy).1) hs2 (λy hy=>(hall y hy).2) hs4 hs5 hs1 ?_ ?_ ?_ ?_)))
 ·intro u;cases iter<;>first|rfl|exact Bool.noConfusion h7
 ·intro Q' E' hq;ext mvi hev hl;refine I.ev _ _ _ _ hev A θ D env _ _ E' R.pred st1.wd (OK tk) (F.st st1) λu w98 st2 t2 r2=>?_;obtain⟨a,vs,rfl,d2,d3,r⟩:=ua hl r2;exact hq a vs w98 st2 t2 d3 (nH hys r) λq=>d2 (.inl q)
 ·intro A' genv w98 y t m E' Q' hy hg hn hm hq;have:=OQ.mp ho1 y hy;rw[Bool.and_eq_true]at this;exact Df h4 h5 hd.1 hd.2 (by rw[hg];exact hs1) (by unfold Env.kindOf;rw[hg];exact hs5) hn hm this.1 this.2 (hq _)
 ·intro a s' st2 t2 X;refine spliced_nil (cP t2 (pX O T st2.wd (by have:=W.size;show 175<=s.heap.objs.size-1+1;lia) rfl ho3 (by rw[sizeLine_eq];lia) X λt' s'' kp wd sz t3=>?_));refine hQ _ _ ⟨⟨OA st2.keep.size sz,λb o d t e=>kp b o ?_ (st2.keep.keep b o d t e),λb o t c e=>kp b o (Nat.le_sub_one_of_lt (OF e)) (st2.keep.code b o t c e)⟩,wd⟩ t3 ⟨_,rfl⟩;have:b<s.heap.objs.size:=OF e;show b<=s.heap.objs.size-1;exact Nat.le_sub_one_of_lt this
end
theorem uP{V:Vw}{PP:Pk}(hK:V.K=KK PP)(O:V.Ok)(T:TabAt V 74){n:Nat}{sc:Sc}{ρ:Rho}{p:P}{e:Pm}{mv:MV}(I:SndP V n p)(h:uO sc (p.ev sc ρ) e=some mv):bl V (n+1) sc ρ e mv:=
 MA (P:=λe=>bl V (n+1) sc ρ e mv) (λsep elt t i scope q1 q2 k0 p0 gp h=>Mz (P:=λelt=>bl V (n+1) sc ρ (jx sep k0 p0 q1 elt t i scope gp q2) mv) (λo2 a2 b2 p4 p5 k3 r3 k4 r4 h=>
  Mz (P:=λo2=>bl V (n+1) sc ρ (jx sep k0 p0 q1 (rx o2 a2 b2 p4 p5 k3 r3 k4 r4) t i scope gp q2) mv) (λo1 a1 b1 p2 p3 k1 r1 k2 r2 h=>
   nmE (P:=λo1=>bl V (n+1) sc ρ (jx sep k0 p0 q1 (rx (rx o1 a1 b1 p2 p3 k1 r1 k2 r2) a2 b2 p4 p5 k3 r3 k4 r4) t i scope gp q2) mv) (λv p1 h=>
    nmE (P:=λt=>bl V (n+1) sc ρ (jx sep k0 p0 q1 (rx (rx (.Name v p1) a1 b1 p2 p3 k1 r1 k2 r2) a2 b2 p4 p5 k3 r3 k4 r4) t i scope gp q2) mv) (λx px h=>
     by refine ifE (λhk h=>?_) h;refine eE (λl hl h=>?_) h;refine eE (λys hys h=>?_) h;refine ifE (λhj h=>?_) h;cases h;cases(show v=x from hk.2.2.1);exact Ht hK O T I hk.1 hk.2.1 hk.2.2.2.1 hk.2.2.2.2.1 hk.2.2.2.2.2.1 hk.2.2.2.2.2.2.1 hk.2.2.2.2.2.2.2 hl hys hj.1 hj.2.1 hj.2.2) h) h) h) h) h
end
section
theorem iD{α:Type}{a b:Pj α}{v:α}(h:a.or b=some v):a=some v\/b=some v:=by
 cases a with
 |none=>exact .inr (by simpa using h)
 |some x=>exact .inl (by simpa using h)
noncomputable def noE:Pm:= .Constant .none 0 default
noncomputable def Of:Pq:= .Break default
noncomputable def stN(b:List Pq)(i:Nat):Pq:=b.getD i Of
noncomputable def kids:Pm->List Pm
 | .BinOp l _ r _=>[l,r]
 | .Compare l _ rs _=>l::rs
 | .Subscript o i _=>[o,i]
 | .UnaryOp _ x _=>[x]
 | .Attribute x _ _=>[x]
 | .IfExp t b o _=>[t,b,o]
 | .Slice lo hi _ _=>[lo.getD noE,hi.getD noE]
 | .Call f as _ _=>as++[f]
 | .BoolOp _ as _=>as
 | .List as _=>as
 | .Tuple as _ _=>as
 | .ListComp e _ _ _=>[e]
 |_=>[]
noncomputable def sv:Pq->List Pm×List (List Pq)×List ExceptHandler×Pos
 | .Assign ts e p=>(e::ts,[],[],p)
 | .AugAssign t _ e p=>([e,t],[],[],p)
 | .Return e p=>([e.getD noE],[],[],p)
 | .For t i b o p=>([i,t],[b,o],[],p)
 | .If t b o p=>([t],[b,o],[],p)
 | .While t b o p=>([t],[b,o],[],p)
 | .Expr e p=>([e],[],[],p)
 | .Assert t _ p=>([t],[],[],p)
 | .Try b h _ _ p=>([],[b],h,p)
 | .Raise e c p=>([e.getD noE,c.getD noE],[],[],p)
 |_=>([],[],[],default)
noncomputable def aE(s:Pq):Pm:=(sv s).1.getD 0 noE
noncomputable def fT(s:Pq):Pm:=(sv s).1.getD 1 noE
noncomputable def aP(s:Pq):Pos:=(sv s).2.2.2
noncomputable def aQ(s:Pq):Pos:=(fT s).pos
noncomputable def aB(s:Pq):List Pq:=(sv s).2.1.getD 0 []
noncomputable def aO(s:Pq):List Pq:=(sv s).2.1.getD 1 []
noncomputable def bL(e:Pm):Pm:=(kids e).getD 0 noE
noncomputable def bR(e:Pm):Pm:=(kids e).getD 1 noE
noncomputable def cA(e:Pm)(i:Nat):Pm:=(kids e).getD i noE
noncomputable def cF(e:Pm):Pm:=(kids e).getLastD noE
noncomputable def spN(n:Nat)(sc:Sc)(ev:Pm->Pj MV)(e:Pm):Pj MV:=none
noncomputable def fn0:Fns:=⟨λ_=>none⟩
noncomputable def mk(F:Fns)(S:Subs)(lv:Nat)(nm:String)(ps:List Str)(dm:List MV:=[])(st:Bool:=false):List MV->Pj MV:=wU F S st lv (pB nm).names ps (pB nm).body dm
section
variable {F:Fns}{S:Subs}{st:Bool}{n:Nat}{sc:Sc}{ρ ρ':Rho}{r:List Pq}{res:Pj (MFl×Rho)}
theorem cU(hl:as.length+dm.length=ps.length)(hp:aa as=true)(h:∃ρ',(mx F S st n).ex sc (ps.zip (as++dm)).reverse body=some (.ret v,ρ'))(ho:st=false\/qr v=true):
  wU F S st n sc ps body dm as=some v:=by
 obtain⟨ρ',h⟩:=h;refine(if_pos ⟨hl,hp⟩).trans ?_;refine Eq.symm h▸?_;exact if_pos ho
theorem dK(h:stF (me F S n) (mx F S st n) n sc ρ s=some (.next,ρ'))(k:(mx F S st (n+1)).ex sc ρ' r=res):(mx F S st (n+1)).ex sc ρ (s::r)=res:=by refine(ON (Option.bind · _) h).trans ?_;exact k
theorem sk(h:stF (me F S n) (mx F S st n) n sc ρ s=some (.ret v,ρ')):(mx F S st (n+1)).ex sc ρ (s::r)=some (.ret v,ρ'):=ON (Option.bind · _) h
theorem KG(h:stF (me F S n) (mx F S st n) n sc ρ s=some (.brk,ρ')):(mx F S st (n+1)).ex sc ρ (s::r)=some (.brk,ρ'):=ON (Option.bind · _) h
theorem cN:(mx F S st (n+1)).ex sc ρ []=some (.next,ρ):=rfl
theorem bG(h:bo (me F S n) st sc ρ y q.line e=some ρ')(k:(mx F S st (n+1)).ex sc ρ' r=res):(mx F S st (n+1)).ex sc ρ (.Assign [.Name y q] e pos::r)=res:=by refine dK (ρ':=ρ') ?_ k;refine(?_:(bo (me F S n) (mx F S st n).st sc ρ y q.line e).map _=_);rw[ma,h];rfl
noncomputable def aft(F:Fns)(S:Subs)(st:Bool)(n:Nat)(sc:Sc)(r:List Pq)(ρ:Rho):MFl->Pj (MFl×Rho)
 | .next=>(mx F S st (n+1)).ex sc ρ r
 |f=>some (f,ρ)
theorem Dg(h:stF (me F S n) (mx F S st n) n sc ρ s=some (f,ρ'))(k:aft F S st n sc r ρ' f=res):(mx F S st (n+1)).ex sc ρ (s::r)=res:=by
 cases f with
 |next=>exact dK h k
 |brk=>exact(KG h).trans k
 |ret v=>exact(sk h).trans k
theorem jM(h:(me F S n).tst sc ρ t=some true)(hb:(mx F S st n).ex sc ρ b=some (f,ρ'))(k:aft F S st n sc r ρ' f=res):(mx F S st (n+1)).ex sc ρ (.If t b o pos::r)=res:=
 Dg ((ON (Option.bind · _) h).trans hb) k
theorem gS(h:(me F S n).tst sc ρ t=some false)(hb:(mx F S st n).ex sc ρ o=some (f,ρ'))(k:aft F S st n sc r ρ' f=res):(mx F S st (n+1)).ex sc ρ (.If t b o pos::r)=res:=
 Dg ((ON (Option.bind · _) h).trans hb) k
end
noncomputable def MB(e:Pm):Bool:=(cNm e).isNone
theorem AA(h:MB e=true):kept f ρ e=none:=ON (Option.bind · _) (Option.isNone_iff_eq_none.mp h)
theorem bI{F:Fns}{S:Subs}{st:Bool}{n:Nat}{sc:Sc}{ρ:Rho}{r:List Pq}{e:Pm}{pos:Pos}{v:MV}(he:MB e=true)(h:(me F S n).ev sc ρ e=some v)(hp:v.plain=true):(mx F S st (n+1)).ex sc ρ (.Return (some e) pos::r)=some (.ret v,ρ):=by refine sk ?_;refine(?_:(match kept lZ ρ e with|some zl=>_|none=>_)=_);rw[AA he,h];exact if_pos hp
noncomputable def uQ(b:List Pq):Pm:=aE (stN b 0)
noncomputable def ou(b:List Pq):Pos:=aP (stN b 0)
noncomputable def KH(x:Int):Pj MV:=(ib .Mult (.str (sx ".")) (.int (x%4))).bind λa=>(gK (.list [.str (sx ""),.str (sx "a"),.str (sx "ab"),.str (sx "b")]) (.int (x/4%4))).bind λb=>ib .Add a b
theorem KI(x:Int):(me fn0 (SS spN) 19).ev (pB "_law_row").names [(sx "x",.int x)] (uQ (pB "_law_row").body)=KH x:=nofun
noncomputable def aw(e:Pm):Pm:=bL e
noncomputable def au(e:Pm):List Comprehension:=match aN e with
 | .lcomp _ g _ _=>g
 |_=>[]
noncomputable def cSc(e:Pm):Scope:=match aN e with
 | .lcomp _ _ s _=>s
 |_=>default
noncomputable def Hu(e:Pm):Pos:=e.pos
noncomputable def gI(g:List Comprehension):Pm:=(g.map (·.iter)).getD 0 noE
noncomputable def gF(g:List Comprehension):List Pm:=(g.map (·.ifs)).getD 0 []
noncomputable def gP(g:List Comprehension):Pos:=((g.map (·.target)).getD 0 noE).pos
noncomputable def JR:List (Pj MV)->Pj (List MV)
 | []=>some []
 |o::r=>o.bind λv=>(JR r).map (v::·)
noncomputable def Og(l:List (Pj MV)):Pj (List MV):=(JR l).bind λl=>if aa l/\l.length<=1000 then some l else none
section
variable {F:Fns}{S:Subs}{st:Bool}{n:Nat}{sc:Sc}{ρ ρ':Rho}{p:P}
theorem qL{step:Rho->Pj (List MV)}{x:Str}{ifs:List Pm}{keep:MV->Bool}{f:MV->MV}{vs:List MV}(h:∀v∈vs,f9 p sc (ae ρ x v) ifs=some (keep v)/\(keep v=true->step (ae ρ x v)=some [f v])):jr p sc step x ifs ρ vs=some ((vs.filter keep).map f):=by
 induction vs with
 |nil=>rfl
 |cons v vs ih=>
  obtain⟨h1,h2⟩:=h v (.head _);have ih:=ih λu hu=>h u (.tail _ hu);refine(ON (Option.bind · _) h1).trans ?_;cases hk:keep v with
  |true=>rw[List.filter_cons_of_pos hk];refine(ON (Option.bind · _) (h2 hk)).trans ?_;exact ON (Option.map _) ih
  |false=>rw[List.filter_cons_of_neg (by rw[hk];decide)];exact ih
theorem fO(hi:(p.ev sc ρ iter).bind aM=some items)(ok:aK sc scope=true)(hx:scope.names.lookup x=some .local)(hn:bx iter=true)
  (h:∀v∈items,f9 p scope.names (ae (ao scope ρ) x v) ifs=some (keep v)/\(keep v=true->p.ev scope.names (ae (ao scope ρ) x v) elt=some (f v)/\(f v).plain=true)) (hz:items.length<=1000):
  dj p sc ρ elt scope [⟨.Name x px,iter,ifs,0⟩]=some (.list ((items.filter keep).map f)):=by
 refine(ON (Option.bind · _) hi).trans ((if_pos ⟨ok,rfl,rfl,hx,hn⟩).trans ?_);refine(ON (Option.bind · _) (qL (keep:=keep) (f:=f) λv hv=>⟨(h v hv).1,λhk=>?_⟩)).trans (if_pos ?_)
 ·exact(ON (Option.bind · _) ((h v hv).2 hk).1).trans (if_pos ((h v hv).2 hk).2)
 ·rw[List.length_map];exact OA (List.length_filter_le _ _) hz
theorem ov(h:p.tst sc ρ e=some b):f9 p sc ρ [e]=some b:=by refine(ON (Option.bind · _) h).trans ?_;cases b<;>rfl
theorem filter_all{α:Type}{l:List α}:l.filter (λ_=>true)=l:=by simp
theorem kl(h:dg ρ=true):ij x sc t body [] ρ=some (.next,ρ):=if_pos h
theorem iE(h:dg ρ=true)(hs:x.st=false\/rJ (v::vs)=true)(ht:bB sc ρ t v=some w92)(hb:x.ex sc w92 body=some (.next,ρ'))(k:ij x sc t body vs ρ'=res):ij x sc t body (v::vs) ρ=res:=by refine(if_pos ⟨h,hs⟩).trans ((ON (Option.bind · _) ht).trans ((ON (Option.bind · _) hb).trans ?_));exact k
theorem m6(h:p.ev sc ρ e=some v)(hp:v.plain=true):rL p sc ρ y e=some (ae ρ y v):=(ON (Option.bind · _) h).trans (if_pos hp)
theorem not_false(h:b=true):¬b=false:=λe=>Bool.noConfusion (h.symm.trans e)
theorem qM(hc:aR sc y=true)(hu:sc.lookup y=some .local/\eA scope y line q.line=true)(h:dj p sc ρ elt scope gens=some v)(hp:v.plain=true):bo p st sc ρ y line (.ListComp elt gens scope q)=some (ae ρ y v):=by refine(if_neg (not_false hc)).trans ((if_pos hu).trans ((ON (Option.bind · _) h).trans (if_pos hp)))
theorem jd(hc:aR sc y=true)(hu:¬(sc.lookup y=some .local/\eA scope y line q.line=true))(hv:p.ev sc ρ (.ListComp elt gens scope q)=some v)(hp:v.plain=true):bo p st sc ρ y line (.ListComp elt gens scope q)=some (ae ρ y v):=by refine(if_neg (not_false hc)).trans ((if_neg hu).trans (m6 hv hp))
noncomputable def Dh(e:Pm):Bool:=match aN e with
 | .list _ _=>false
 | .attr o _ _=>(cNm o).isNone
 | .call f _ _=>(cNm f).isNone
 | .lcomp .. =>false
 |_=>jX e
theorem km{y:Str}{line:Nat}{e:Pm}{v:MV}(he:Dh e=true)(hc:aR sc y=true)(h:p.ev sc ρ e=some v)(hp:v.plain=true):bo p st sc ρ y line e=some (ae ρ y v):=by
 revert he hc h hp;exists st,sc,ρ,p,y,line,e,v;refine(if_neg (not_false hc)).trans ?_;unfold Dh at he;replace h:=m6 (y:=y) h hp;generalize aN e=w at he ⊢;cases w with
 |list _ _=>exact Bool.noConfusion he
 |attr o m q=>dsimp only at he ⊢;rw[Option.isNone_iff_eq_none.mp he];exact h
 |call f as q=>dsimp only at he ⊢;rw[Option.isNone_iff_eq_none.mp he];exact h
 |lcomp _ _ _ _=>exact Bool.noConfusion he
 |_=>exact(if_pos he).trans h
end
theorem cB(hs:S.spec n sc ((me F S n).ev sc ρ) (.ListComp elt gens scope q)=none):(me F S (n+1)).ev sc ρ (.ListComp elt gens scope q)=dj (me F S n) sc ρ elt scope gens:=by
 refine(?_:evF F S n (me F S n) sc ρ _=_);unfold evF;refine Eq.symm hs▸?_
 rfl
noncomputable def sfx:Nat->List Nat
 |0=>[]
 |1=>[97]
 |2=>[97,98]
 |_=>[98]
noncomputable def rowOf(d k:Nat):Str:=⟨(List.replicate d 46++sfx k).toArray⟩
noncomputable def lz(x:Int):Str:=rowOf (x%4).toNat (x/4%4).toNat
theorem cs3:∀i,i<3->i=0\/i=1\/i=2:=by left
theorem cs4:∀i,i<4->i=0\/i=1\/i=2\/i=3:=by left
theorem cs6:∀i,i<6->i=0\/i=1\/i=2\/i=3\/i=4\/i=5:=by left
theorem mi(x:Int)(k:Nat)(hk:0<k):∃n,n<k/\x%(k:Int)=(n:Int):=by have k0:(0:Int)<k:=Int.natCast_pos.mpr hk;have e:=Int.toNat_of_nonneg (Int.emod_nonneg x (Int.ne_of_gt k0));exact⟨(x%(k:Int)).toNat,Int.ofNat_lt.mp (e▸Int.emod_lt_of_pos x k0),e.symm⟩
theorem Hv(x:Int):KH x=some (.str (lz x)):=by exists x;unfold KH lz;obtain⟨n,h,e⟩:=mi x 4 (by left);obtain⟨m,h',e'⟩:=mi (x/4) 4 (by left);rw[show x%4=n from e,show x/4%4=m from e'];rcases cs4 n h with rfl|rfl|rfl|rfl<;>rcases cs4 m h' with rfl|rfl|rfl|rfl<;>symm
noncomputable def sq(as:List MV):Pj MV:=((one as).bind intOf).map λx=> .str (lz x)
theorem Di(h:(one as).bind intOf=some x):as=[.int x]:=by ext m e h;cases bf e;rw[fj h]
theorem Dj(h:(one as).bind strOf=some x):as=[.str x]:=by ext m e h;cases bf e;rw[aF h]
theorem Dk:(pB "_law_row").body=[.Return (some (uQ (pB "_law_row").body)) (ou (pB "_law_row").body)]:=nofun
theorem KJ(as:List MV)(r:MV)(h:sq as=some r):mk fn0 (SS spN) 20 "_law_row" l_row.ps [] false as=some r:=by revert h;refine mpE λx e e2z=>?_;subst e2z;cases Di e;refine cU rfl rfl ?_ (.inl rfl);show ∃ρ',(mx fn0 (SS spN) false 20).ex (pB "_law_row").names [(sx "x",.int x)] (pB "_law_row").body=_;rw[Dk];exact⟨_,bI nofun ((KI x).trans (Hv x)) rfl⟩
noncomputable def Hw:Nat->Str
 |0=>sx "\n"
 |1=>sx "\r"
 |_=>sx "\r\n"
noncomputable def fA:Nat->Str
 |0=>sx "*"
 |1=>sx "?"
 |2=>sx "."
 |3=>sx "[!.]"
 |4=>sx "a"
 |_=>sx "[a-b]"
noncomputable def pieceAt(h:Int)(k:Nat):Str:=fA (h/6 ^ (k+1)%6).toNat
noncomputable def MC(h:Int):MV:= .tup [.bool (h%2==1),.str (Hw (h/2%3).toNat),.list [.str (pieceAt h 0),.str (pieceAt h 1),.str (pieceAt h 2)]]
noncomputable def Dl(as:List MV):Pj MV:=((one as).bind intOf).map MC
noncomputable def AB:List Pq:=(pB "_law_server").body
noncomputable def hO:Pm:=aE (stN AB 0)
theorem Dm:(pB "_law_server").body=[.Assign [.Name (sx "pieces") (aQ (stN AB 0))] (.ListComp (aw hO) [⟨.Name (sx "k") (gP (au hO)),gI (au hO),[],0⟩] (cSc hO) (Hu hO)) (aP (stN AB 0)),.Return (some (aE (stN AB 1))) (aP (stN AB 1))]:=nofun
noncomputable def sr:MV:= .list [.str (sx "*"),.str (sx "?"),.str (sx "."),.str (sx "[!.]"),.str (sx "a"),.str (sx "[a-b]")]
theorem Dn(x:Int):gK sr (.int (x%6))=some (.str (fA (x%6).toNat)):=by obtain⟨n,h,e⟩:=mi x 6 (by left);rw[show x%6=n from e];rcases cs6 n h with rfl|rfl|rfl|rfl|rfl|rfl<;>symm
theorem MD(x:Int):gK (.list [.str (sx "\n"),.str (sx "\r"),.str (sx "\r\n")]) (.int (x%3))=some (.str (Hw (x%3).toNat)):=by obtain⟨n,h,e⟩:=mi x 3 (by left);rw[show x%3=n from e];rcases cs3 n h with rfl|rfl|rfl<;>symm
theorem Hx(h:Int):(me fn0 (SS spN) 19).ev (cSc hO).names (ae (ao (cSc hO) [(sx "h",.int h)]) (sx "k") (.int 0)) (aw hO)=gK sr (.int (h/6 ^ 1%6))/\(me fn0 (SS spN) 19).ev (cSc hO).names (ae (ao (cSc hO) [(sx "h",.int h)]) (sx "k") (.int 1)) (aw hO)=gK sr (.int (h/6 ^ 2%6))/\
  (me fn0 (SS spN) 19).ev (cSc hO).names (ae (ao (cSc hO) [(sx "h",.int h)]) (sx "k") (.int 2)) (aw hO)=gK sr (.int (h/6 ^ 3%6)):=⟨nofun,nofun,nofun⟩
noncomputable def Oh(h:Int):MV->MV
 | .int k=> .str (pieceAt h k.toNat)
 |_=> .none
theorem Dp(h:Int):dj (me fn0 (SS spN) 19) (pB "_law_server").names [(sx "h",.int h)] (aw hO) (cSc hO) [⟨.Name (sx "k") (gP (au hO)),gI (au hO),[],0⟩]=some (.list [.str (pieceAt h 0),.str (pieceAt h 1),.str (pieceAt h 2)]):=by
 refine fO (items:=[.int 0,.int 1,.int 2]) (keep:=λ_=>true) (f:=Oh h) nofun nofun nofun nofun (λv hv=>⟨rfl,λ_=>?_⟩) (by left);obtain⟨h0,h1,h2⟩:=Hx h;simp only [List.mem_cons,List.not_mem_nil,or_false]at hv;rcases hv with rfl|rfl|rfl
 ·exact⟨h0.trans (Dn _),rfl⟩
 ·exact⟨h1.trans (Dn _),rfl⟩
 ·exact⟨h2.trans (Dn _),rfl⟩
theorem Hy(h:Int)(l:List MV):(me fn0 (SS spN) 19).ev (pB "_law_server").names (ae [(sx "h",.int h)] (sx "pieces") (.list l)) (aE (stN AB 1))=(Og [some (.bool (h%2==1)),gK (.list [.str (sx "\n"),.str (sx "\r"),.str (sx "\r\n")]) (.int (h/2%3)),some (.list l)]).map .tup:=nofun
theorem KL(as:List MV)(r:MV)(h:Dl as=some r):mk fn0 (SS spN) 20 "_law_server" l_server.ps [] false as=some r:=by
 revert h;refine mpE λx e e2z=>?_;subst e2z;cases Di e;refine cU rfl rfl ?_ (.inl rfl);show ∃ρ',(mx fn0 (SS spN) false 20).ex (pB "_law_server").names [(sx "h",.int x)] (pB "_law_server").body=_;rw[Dm];refine⟨_,bG (qM nofun ⟨nofun,nofun⟩ (Dp x) rfl) (bI nofun ?_ rfl)⟩;rw[Hy,MD]
 rfl
noncomputable def gc:List Str:=[sx ".",sx "\\.",sx "[^.]",sx "a",sx "[a-b]"]
noncomputable def lB(p:Str)(c:Nat):Bool:=if p=sx "[^.]" then c != 46 else if p=sx "." then true else if p=sx "[a-b]" then c==97||c==98 else if p=sx "a" then c==97 else c==46
noncomputable def Dq:List Str:=[⟨#[46]⟩,⟨#[97]⟩,⟨#[98]⟩]
noncomputable def lC(as:List MV):Pj MV:=(two as).bind λa=>(strOf a.1).bind λp=>(strOf a.2).bind λs=>if p∈gc/\s∈Dq then some (.bool (lB p (s.cps.getD 0 0))) else none
noncomputable def isB(b:Bool):Pj MV->Bool
 |some (.bool c)=>b==c
 |_=>false
theorem KN(h:isB b m=true):m=some (.bool b):=by
 cases m with
 |none=>exact Bool.noConfusion h
 |some v=>cases v<;>first|exact Bool.noConfusion h|exact ON (λb=>some (MV.bool b)) (eq_of_beq h).symm
theorem takes_all:(gc.all λp=>Dq.all λs=>isB (lB p (s.cps.getD 0 0)) (mk fn0 (SS spN) 20 "_law_takes" l_takes.ps [] false [.str p,.str s]))=true:=by right
theorem Dr(as:List MV)(r:MV)(h:lC as=some r):mk fn0 (SS spN) 20 "_law_takes" l_takes.ps [] false as=some r:=by ext e0z e h;obtain⟨a,b⟩:=e0z;cases d6 e;ext p e h;cases aF e;ext s e h;cases aF e;injections e0z h;obtain⟨hp,hs⟩:=e0z;cases h;exact KN (OQ.mp (OQ.mp takes_all p hp) s hs)
noncomputable def dA:Fns:=⟨λa=>if a=121 then some (21,lC) else none⟩
noncomputable def hU:List Pq:=(pB "_law_fits").body
noncomputable def su:Pq:=stN (aB (stN hU 1)) 0
noncomputable def eQ:Pm:=aE (stN (aB su) 0)
noncomputable def bp:Pm:=aE (stN (aO su) 0)
noncomputable def bU(c:Pm)(x:Str):Pm:= .ListComp (aw c) [⟨.Name x (gP (au c)),gI (au c),gF (au c),0⟩] (cSc c) (Hu c)
theorem Ds:(pB "_law_fits").body=[.Assign [.Name (sx "ends") (aQ (stN hU 0))] (aE (stN hU 0)) (aP (stN hU 0)),.For (.Name (sx "part") (aQ (stN hU 1))) (.Name (sx "parts") (aE (stN hU 1)).pos) (aB (stN hU 1)) [] (aP (stN hU 1)),.Return (some (aE (stN hU 2))) (aP (stN hU 2))]:=nofun
theorem Hz:aB (stN hU 1)=[.If (aE su) [.Assign [.Name (sx "ends") (aQ (stN (aB su) 0))] (bU eQ (sx "end")) (aP (stN (aB su) 0))] [.Assign [.Name (sx "ends") (aQ (stN (aO su) 0))] (bU bp (sx "end")) (aP (stN (aO su) 0))] (aP su)]:=nofun
noncomputable def iN(n:Nat):MV:= .int n
theorem uR(h1: -10<=i)(h2:i<=1000):Builtin.Range.rangeFitsLong i=true:=by unfold Builtin.Range.rangeFitsLong;simp;lia
theorem xw(n:Nat)(h:n<=500):fm 0 n 1=some ((List.range n).map iN):=by
 have e:Builtin.Range.rangeSize 0 n 1=n:=by unfold Builtin.Range.rangeSize;simp;lia
 unfold fm;rw[e,if_pos]
 ·simp [iN]
 ·refine⟨by left,by lia,by lia,by lia,by lia,by lia,by lia,?_,by lia⟩;unfold Builtin.Range.small;simp;rw[e];exact⟨⟨⟨⟨uR (by lia) (by lia),uR (by lia) (by lia)⟩,uR (by lia) (by lia)⟩,uR (by lia) (by lia)⟩,.inr (uR (by lia) (by lia))⟩
theorem iF:∀l:List Nat,aa (l.map iN)=true
 | []=>rfl
 |a::l=>by show(true&&aa (l.map iN))=true;rw[iF l];rfl
theorem bnd{α β:Type}{o:Pj α}{f:α->Pj β}{a:α}{r:Pj β}(h:o=some a)(k:f a=r):o.bind f=r:=(ON (Option.bind · f) h).trans k
theorem jj{α β γ:Type}{o:Pj α}{g:α->Pj β}{f:β->Pj γ}{a:α}{b:β}{r:Pj γ}(h:o=some a)(e:g a=some b)(k:f b=r):(o.bind g).bind f=r:=bnd (bnd h e) k
section
variable {F:Fns}{S:Subs}{n:Nat}{sc:Sc}{ρ:Rho}
theorem sy{a b:Pm}{q:Pos}{v:Bool}(h1:(me F S n).tst sc ρ a=some true)(h2:(me F S n).tst sc ρ b=some v):(me F S (n+1)).tst sc ρ (.BoolOp .And [a,b] q)=some v:=by refine bnd h1 (bnd h2 ?_);cases v<;>rfl
theorem uS{a b:Pm}{q:Pos}(h1:(me F S n).tst sc ρ a=some false):(me F S (n+1)).tst sc ρ (.BoolOp .And [a,b] q)=some false:=bnd h1 rfl
theorem en{l r:Pm}{op:CmpOp}{q:Pos}{a b:MV}{v:Pj Bool}(hs:bx r=true)(h1:(me F S n).ev sc ρ l=some a)(h2:(me F S n).ev sc ρ r=some b)(h:fL op a b=v):(me F S (n+1)).tst sc ρ (.Compare l [op] [r] q)=v:=
 (if_pos hs).trans (bnd h1 (bnd h2 h))
theorem HA(h:(me F S n).tst sc ρ a=some v):(me F S (n+1)).tst sc ρ (.UnaryOp .Not a q)=some (!v):=ON (Option.map _) h
theorem m7{e:Pm}{v:MV}{b:Bool}(he:(Nat.beq e.ctorIdx 16||Nat.beq e.ctorIdx 23||Nat.beq e.ctorIdx 21)=true)(h:(me F S n).ev sc ρ e=some v)(ht:truth v=some b):(me F S (n+1)).tst sc ρ e=some b:=by
 have e1:(me F S (n+1)).tst sc ρ e=((me F S n).ev sc ρ e).bind truth:=by cases e<;>first|rfl|exact Bool.noConfusion he
 exact e1.trans (bnd h ht)
variable (hs:∀n sc ev e,S.spec n sc ev e=none)
include hs
theorem iG{e:Pm}:(me F S (n+1)).ev sc ρ e=zV F S n (me F S n) sc ρ e:=by show evF F S n (me F S n) sc ρ e=_;unfold evF;rw[hs]
theorem gd{o i:Pm}{q:Pos}{a b:MV}{v:Pj MV}(hi:jW i=true)(h1:(me F S n).ev sc ρ o=some a)(h2:(me F S n).ev sc ρ i=some b)(h:gK a b=v):(me F S (n+1)).ev sc ρ (.Subscript o i q)=v:=by
 refine(iG hs).trans ?_;have e1:zV F S n (me F S n) sc ρ (.Subscript o i q)=((me F S n).ev sc ρ o).bind λv=>((me F S n).ev sc ρ i).bind λk=>gK v k:=by cases i<;>first|rfl|exact Bool.noConfusion hi
 exact e1.trans (bnd h1 (bnd h2 h))
theorem dM{l r:Pm}{op:Operator}{q:Pos}{a b:MV}{v:Pj MV}(h1:(me F S n).ev sc ρ l=some a)(h2:(me F S n).ev sc ρ r=some b)(h:ib op a b=v):(me F S (n+1)).ev sc ρ (.BinOp l op r q)=v:=(iG hs).trans (bnd h1 (bnd h2 h))
theorem xx{l r:Pm}{op:CmpOp}{q:Pos}{a b:MV}{v:Bool}(hr:bx r=true)(h1:(me F S n).ev sc ρ l=some a)(h2:(me F S n).ev sc ρ r=some b)(h:fL op a b=some v):(me F S (n+1)).ev sc ρ (.Compare l [op] [r] q)=some (.bool v):=
 (iG hs).trans ((if_pos hr).trans (bnd h1 (bnd h2 (ON (Option.map _) h))))
theorem bq{x:Str}{q pos:Pos}{args:List Pm}{a:Pn}{as:List MV}{k:Nat}{g:List MV->Pj MV}{v:MV}(h1:(me F S n).ev sc ρ (.Name x q)=some (.ex (.ref a)))(h2:aT (me F S n) sc ρ args=some as)(hf:F.f a=some (k,g))(hk:k<=n)(hp:aa as=true)(hg:g as=some v):(me F S (n+1)).ev sc ρ (.Call (.Name x q) args [] pos)=some v:=by refine(iG hs).trans (bnd h1 (bnd h2 (bnd (rfl:kW _=some _) ?_)));exact bnd (f:=λkg=>if kg.1<=n/\aa as then kg.2 as else none) hf ((if_pos ⟨hk,hp⟩).trans hg)
theorem ec{x:Str}{q pos:Pos}{args:List Pm}{f:Ph}{as:List MV}{v:Pj MV}(h1:(me F S n).ev sc ρ (.Name x q)=some (.ex f))(hf:wM f=none)(h2:aT (me F S n) sc ρ args=some as)(h:lV f as=v):(me F S (n+1)).ev sc ρ (.Call (.Name x q) args [] pos)=v:=by refine(iG hs).trans (bnd h1 (bnd h2 (bnd (rfl:kW _=some _) ?_)));show(match wM f with|some a=>_|none=>lV f as)=_;rw[hf];exact h
end
theorem cH{p:P}{sc:Sc}{ρ:Rho}{a:Pm}{u:MV}(ha:notStar a=true)(h1:p.ev sc ρ a=some u):aT p sc ρ [a]=some [u]:=(if_pos ha).trans (bnd h1 rfl)
theorem gy{p:P}{sc:Sc}{ρ:Rho}{a b:Pm}{u v:MV}(ha:notStar a=true)(hb:notStar b=true)(h1:p.ev sc ρ a=some u)(h2:p.ev sc ρ b=some v):aT p sc ρ [a,b]=some [u,v]:=(if_pos ha).trans (bnd h1 (ON (Option.map _) (cH hb h2)))
theorem zi{F:Fns}{S:Subs}{st:Bool}{n:Nat}{sc:Sc}{ρ:Rho}{t i:Pm}{b:List Pq}{pos:Pos}{l:List MV}{r:Pj (MFl×Rho)}(hk:kept zW ρ i=none)(hn:bx i=true)(hr:dg ρ=true)(hi:((me F S n).ev sc ρ i).bind aM=some l)(h:ij (mx F S st n) sc t b l ρ=r):stF (me F S n) (mx F S st n) n sc ρ (.For t i b [] pos)=r:=by refine Eq.trans (if_pos (c:=([]:List Pq).isEmpty=true) (e:=none) rfl) ?_;rw[hk];exact(if_pos ⟨hn,hr⟩).trans (bnd hi h)
theorem ag:∀n sc ev e,(SS spN).spec n sc ev e=none:=λ_ _ _ _=>rfl
noncomputable def xy:List Nat->Nat->Bool
 | [],_=>false
 |m::_,e=>decide (m<=e)
noncomputable def kn(r:List Nat):Pj Str->List Nat->List Nat
 |none,es=>(List.range (r.length+1)).filter (xy es)
 |some p,es=>(es.filter λe=>match r[e]? with|some c=>lB p c|none=>false).map (·+1)
noncomputable def ptM:Pj Str->MV
 |none=> .opq
 |some p=> .str p
noncomputable def ah(r:List Nat):Str:=⟨r.toArray⟩
def aH(c:Nat):Prop:=c=46\/c=97\/c=98
noncomputable abbrev bW:Sc:=(pB "_law_fits").names
noncomputable def b9(v:MV)(es r:List Nat)(ps:List MV):Rho:=[(sx "part",v),(sx "ends",.list (es.map iN)),(sx "row",.str (ah r)),(sx "star",.opq),(sx "parts",.list ps)]
noncomputable abbrev fp(n:Nat):P:=me dA (SS spN) n
noncomputable def HB:MV->Nat
 | .int i=>i.toNat
 |_=>0
theorem qN{l:List Nat}{k:MV->Bool}{k':Nat->Bool}(h:∀e∈l,k (iN e)=k' e):(l.map iN).filter k=(l.filter k').map iN:=by
 induction l with
 |nil=>rfl
 |cons a l ih=>
  have h1:=h a (.head _);have ih:=ih λe he=>h e (.tail _ he);rw[List.map_cons];cases ha:k' a with
  |true=>rw[List.filter_cons_of_pos (h1.trans ha),List.filter_cons_of_pos ha,ih];rfl
  |false=>rw[List.filter_cons_of_neg (by rw[h1,ha];decide),List.filter_cons_of_neg (by rw[ha];decide),ih]
theorem eI(r:List Nat):(ah r).length=r.length:=by simp [ah,Str.length]
theorem ku(h:r.length<=1000):lV (.builtin "len") [.str (ah r)]=some (iN r.length):=by
 have e:lV (.builtin "len") [.str (ah r)]=(if(ah r).length<=sizeLine then some (.int (ah r).length) else none):=nofun
 rw[e,eI,if_pos (by rw[sizeLine_eq];lia)]
 rfl
noncomputable def eR:Pm:=gI (au eQ)
theorem Dt:eR= .Call (.Name (sx "range") (cF eR).pos) [.BinOp (.Call (.Name (sx "len") (cF (bL (cA eR 0))).pos) [.Name (sx "row") (cA (bL (cA eR 0)) 0).pos] [] (bL (cA eR 0)).pos) .Add (bR (cA eR 0)) (cA eR 0).pos] [] eR.pos:=nofun
noncomputable def ow:Pm:=(gF (au eQ)).getD 0 noE
theorem Du:gF (au eQ)=[.BoolOp .And [cA ow 0,.Compare (.Name (sx "end") (bL (cA ow 1)).pos) [.GtE] [.Subscript (.Name (sx "ends") (bL (bR (cA ow 1))).pos) (bR (bR (cA ow 1))) (bR (cA ow 1)).pos] (cA ow 1).pos] ow.pos]:=nofun
theorem KO:gK (.list ((m::t).map iN)) (.int 0)=some (iN m):=by
 show(if cX 0&&aa ((m::t).map iN) then(seqIndex? 0 ((m::t).map iN).length).bind (((m::t).map iN)[·]?) else none)=_;rw[iF,if_pos (show(cX 0&&true)=true by left)];have:seqIndex? 0 ((m::t).map iN).length=some 0:=by unfold seqIndex?;simp
 rw[this]
 rfl
theorem uT(b:Int):lV (.type "range") [.int b]=(if(fm 0 b 1).isSome then some (.rng 0 b 1) else none):=nofun
theorem uU{n:Nat}(h:n<=400):lV (.type "range") [.int ((n:Int)+1)]=some (.rng 0 ((n+1:Nat):Int) 1):=by rw[uT,show((n:Int)+1)=((n+1:Nat):Int) by lia,xw (n+1) (by lia),Option.isSome_some,if_pos (Eq.refl true)]
theorem uV:(some (MV.rng a b c)).bind aM=fm a b c:=rfl
theorem add_one(n:Nat):ib .Add (iN n) (.int 1)=some (.int ((n:Int)+1)):=rfl
theorem HC(hr:r.length<=100):((fp 26).ev bW (b9 .opq es r ps) (gI (au eQ))).bind aM=some ((List.range (r.length+1)).map iN):=by
 have h1:(fp 25).ev bW (b9 .opq es r ps) (.Name (sx "range") (cF eR).pos)=some (.ex (.type "range")):=nofun
 have h2:(fp 23).ev bW (b9 .opq es r ps) (.Name (sx "len") (cF (bL (cA eR 0))).pos)=some (.ex (.builtin "len")):=nofun
 have h3:(fp 23).ev bW (b9 .opq es r ps) (.Name (sx "row") (cA (bL (cA eR 0)) 0).pos)=some (.str (ah r)):=nofun
 have h4:(fp 24).ev bW (b9 .opq es r ps) (bR (cA eR 0))=some (.int 1):=nofun
 have h5:=ec ag (pos:=(bL (cA eR 0)).pos) h2 rfl (cH rfl h3) (ku (r:=r) (by lia));have h6:=dM ag (q:=(cA eR 0).pos) h5 h4 (add_one r.length);have h7:=ec ag (pos:=eR.pos) h1 rfl (cH rfl h6) (uU (by lia))
 have h8:(fp 26).ev bW (b9 .opq es r ps) (gI (au eQ))=some (.rng 0 ((r.length+1:Nat):Int) 1):=by show(fp 26).ev bW (b9 .opq es r ps) eR=_;rw[Dt];exact h7
 rw[h8,uV];exact xw (r.length+1) (by lia)
theorem Dv{es r:List Nat}{ps:List MV}(hr:r.length<=100):dj (fp 26) bW (b9 .opq es r ps) (aw eQ) (cSc eQ) [⟨.Name (sx "end") (gP (au eQ)),gI (au eQ),gF (au eQ),0⟩]=some (.list ((kn r none es).map iN)):=by
 have hit:=HC (es:=es) (ps:=ps) hr;have:=fO (f:=id) (keep:=λv=>xy es (HB v)) hit (by symm:aK bW (cSc eQ)=true) (by symm:(cSc eQ).names.lookup (sx "end")=some .local) nofun (ifs:=gF (au eQ)) (elt:=aw eQ) (px:=gP (au eQ)) (λv hv=>?_) (by simp;lia)
 ·rw[this,List.map_id,qN (k':=xy es) λe _=>rfl]
  rfl
 ·obtain⟨e,_,rfl⟩:=OS.mp hv;refine⟨?_,λ_=>⟨nofun,rfl⟩⟩;cases es with
  |nil=>symm
  |cons m t=>rw[Du];refine ov (sy nofun (en rfl (a:=iN e) (b:=iN m) nofun (gd ag (a:= .list ((m::t).map iN)) (b:= .int 0) nofun nofun nofun KO) ?_));show some (decide ((m:Int)<=(e:Int)))=some (decide (m<=e));simp
theorem AD(hp:p∈gc)(hc:aH c):lC [.str p,.str ⟨#[c]⟩]=some (.bool (lB p c)):=by refine bnd rfl (bnd rfl (bnd rfl ?_));refine if_pos ⟨hp,?_⟩;rcases hc with rfl|rfl|rfl<;>decide
theorem uW(h:r[e]?=some c)(he:e<=1000):gK (.str (ah r)) (iN e)=some (.str ⟨#[c]⟩):=by
 have h1:e<r.length:=(List.getElem?_eq_some_iff.mp h).1;have hs:cX (e:Int)=true:=by unfold cX;simp;lia
 have hi:seqIndex? (e:Int) (ah r).length=some e:=by unfold seqIndex?;rw[eI];simp;lia
 have:(ah r).cps[e]?=some c:=by unfold ah;simpa using h
 exact bnd (a:=(e:Int)) rfl ((if_pos hs).trans (ON (Option.map _) (bnd hi this)))
noncomputable def cg:Pm:=(gF (au bp)).getD 0 noE
theorem Dw:gF (au bp)=[.BoolOp .And [.Compare (.Name (sx "end") (bL (cA cg 0)).pos) [.Lt] [.Call (.Name (sx "len") (cF (bR (cA cg 0))).pos) [.Name (sx "row") (cA (bR (cA cg 0)) 0).pos] [] (bR (cA cg 0)).pos] (cA cg 0).pos,
 .Call (.Name (sx "_law_takes") (cF (cA cg 1)).pos) [.Name (sx "part") (cA (cA cg 1) 0).pos,.Subscript (.Name (sx "row") (bL (cA (cA cg 1) 1)).pos) (.Name (sx "end") (bR (cA (cA cg 1) 1)).pos) (cA (cA cg 1) 1).pos] [] (cA cg 1).pos] cg.pos]:=nofun
theorem Dx:aw bp= .BinOp (.Name (sx "end") (bL (aw bp)).pos) .Add (bR (aw bp)) (aw bp).pos:=nofun
noncomputable def mj(r:List Nat)(p:Str)(e:Nat):Bool:=match r[e]? with
 |some c=>lB p c
 |none=>false
theorem oy:kn r (some p) es=(es.filter (mj r p)).map (·+1):=rfl
noncomputable abbrev iH(p:Str)(es r:List Nat)(ps:List MV)(e:Nat):Rho:=ae (ao (cSc bp) (b9 (.str p) es r ps)) (sx "end") (iN e)
theorem Dy(hp:p∈gc)(hr:r.length<=100)(hc:∀c∈r,aH c)(e:Nat):f9 (fp 26) (cSc bp).names (iH p es r ps e) (gF (au bp))=some (mj r p e):=by
 rw[Dw];have a1:(fp 24).ev (cSc bp).names (iH p es r ps e) (.Name (sx "end") (bL (cA cg 0)).pos)=some (iN e):=nofun
 have a2:(fp 23).ev (cSc bp).names (iH p es r ps e) (.Name (sx "len") (cF (bR (cA cg 0))).pos)=some (.ex (.builtin "len")):=nofun
 have a3:(fp 23).ev (cSc bp).names (iH p es r ps e) (.Name (sx "row") (cA (bR (cA cg 0)) 0).pos)=some (.str (ah r)):=nofun
 have a4:=ec ag (pos:=(bR (cA cg 0)).pos) a2 rfl (cH rfl a3) (ku (r:=r) (by lia));have a5:(fp 25).tst (cSc bp).names (iH p es r ps e) (.Compare (.Name (sx "end") (bL (cA cg 0)).pos) [.Lt] [.Call (.Name (sx "len") (cF (bR (cA cg 0))).pos) [.Name (sx "row") (cA (bR (cA cg 0)) 0).pos] [] (bR (cA cg 0)).pos] (cA cg 0).pos)=some (decide ((e:Int)<(r.length:Int))):=en rfl a1 a4 rfl;cases h:r[e]? with
 |none=>
  have hle:¬(e:Int)<(r.length:Int):=by have:=List.getElem?_eq_none_iff.mp h;lia
  rw[decide_eq_false hle]at a5;have k:mj r p e=false:=by unfold mj;rw[h]
  rw[k];exact ov (uS a5)
 |some c=>
  have hl:e<r.length:=(List.getElem?_eq_some_iff.mp h).1;rw[decide_eq_true (by lia:(e:Int)<(r.length:Int))]at a5;have k:mj r p e=lB p c:=by unfold mj;rw[h]
  rw[k];have b1:(fp 23).ev (cSc bp).names (iH p es r ps e) (.Name (sx "_law_takes") (cF (cA cg 1)).pos)=some (.ex (.ref 121)):=nofun
  have b2:(fp 23).ev (cSc bp).names (iH p es r ps e) (.Name (sx "part") (cA (cA cg 1) 0).pos)=some (.str p):=nofun
  have b3:(fp 22).ev (cSc bp).names (iH p es r ps e) (.Name (sx "row") (bL (cA (cA cg 1) 1)).pos)=some (.str (ah r)):=nofun
  have b4:(fp 22).ev (cSc bp).names (iH p es r ps e) (.Name (sx "end") (bR (cA (cA cg 1) 1)).pos)=some (iN e):=nofun
  have b5:=gd ag (q:=(cA (cA cg 1) 1).pos) rfl b3 b4 (uW h (by lia));have hok:aH c:=hc c (List.mem_of_getElem? h);have b6:=bq ag (pos:=(cA cg 1).pos) b1 (gy rfl rfl b2 b5) (show dA.f 121=some (21,lC) by symm) (by left) rfl (AD hp hok);exact ov (sy a5 (m7 rfl b6 rfl))
theorem Dz(hp:p∈gc)(hr:r.length<=100)(hc:∀c∈r,aH c)(hz:es.length<=1000):dj (fp 26) bW (b9 (.str p) es r ps) (aw bp) (cSc bp) [⟨.Name (sx "end") (gP (au bp)),gI (au bp),gF (au bp),0⟩]=some (.list ((kn r (some p) es).map iN)):=by
 have hit:((fp 26).ev bW (b9 (.str p) es r ps) (gI (au bp))).bind aM=some (es.map iN):=by
  have e1:(fp 26).ev bW (b9 (.str p) es r ps) (gI (au bp))=some (.list (es.map iN)):=nofun
  rw[e1];show(if aa (es.map iN) then some (es.map iN) else none)=_;rw[iF,if_pos (Eq.refl true)]
 have:=fO (f:=λv=>iN (HB v+1)) (keep:=λv=>mj r p (HB v)) hit (by symm:aK bW (cSc bp)=true) (by symm:(cSc bp).names.lookup (sx "end")=some .local) nofun (ifs:=gF (au bp)) (elt:=aw bp) (px:=gP (au bp)) (λv hv=>?_) (by simpa using hz)
 ·rw[this,qN (k':=mj r p) λe _=>rfl,oy,List.map_map,List.map_map]
  rfl
 ·obtain⟨e,_,rfl⟩:=OS.mp hv;refine⟨Dy hp hr hc e,λ_=>⟨?_,rfl⟩⟩;rw[Dx];have c1:(fp 25).ev (cSc bp).names (iH p es r ps e) (.Name (sx "end") (bL (aw bp)).pos)=some (iN e):=nofun
  have c2:(fp 25).ev (cSc bp).names (iH p es r ps e) (bR (aw bp))=some (.int 1):=nofun
  exact dM ag c1 c2 (add_one e)
noncomputable def DA:List Pq:=aB (stN hU 1)
theorem DB(o:Pj Str)(es r:List Nat)(ps:List MV):(fp 28).tst bW (b9 (ptM o) es r ps) (aE su)=some o.isNone:=by cases o<;>symm
theorem uX(hpt:∀p,pt=some p->p∈gc)(hr:r.length<=100)(hc:∀c∈r,aH c)(hz:es.length<=1000):(mx dA (SS spN) false 29).ex bW (b9 (ptM pt) es r ps) DA=some (.next,ae (b9 (ptM pt) es r ps) (sx "ends") (.list ((kn r pt es).map iN))):=by
 show(mx dA (SS spN) false 29).ex bW _ (aB (stN hU 1))=_;rw[Hz];cases pt with
 |none=>refine jM (DB _ _ _ _) (f:= .next) (bG (jd nofun (λq=>O8 q.1 (by right)) ((cB rfl).trans (Dv hr)) (iF _)) cN) cN
 |some p=>refine gS (DB _ _ _ _) (f:= .next) (bG (jd nofun (λq=>O8 q.1 (by right)) ((cB rfl).trans (Dz (hpt p rfl) hr hc hz)) (iF _)) cN) cN
theorem oz:∀l:List Nat,cw (l.map iN)=true
 | []=>rfl
 |a::l=>by show(true&&cw (l.map iN))=true;rw[oz l];rfl
theorem kx:∀l:List (Pj Str),cw (l.map ptM)=true
 | []=>rfl
 |none::l=>by show(true&&cw (l.map ptM))=true;rw[kx l];rfl
 |some _::l=>by show(true&&cw (l.map ptM))=true;rw[kx l];rfl
theorem fh:∀l:List (Pj Str),aa (l.map ptM)=true
 | []=>rfl
 |none::l=>by show(true&&aa (l.map ptM))=true;rw[fh l];rfl
 |some _::l=>by show(true&&aa (l.map ptM))=true;rw[fh l];rfl
theorem uY(o:Pj Str):(ptM o).plain=true:=by cases o<;>rfl
noncomputable abbrev gU(es r:List Nat)(ps:List MV):Rho:=[(sx "ends",.list (es.map iN)),(sx "row",.str (ah r)),(sx "star",.opq),(sx "parts",.list ps)]
noncomputable abbrev gV(v:MV)(es r:List Nat)(ps:List MV):Rho:=[(sx "ends",.list (es.map iN)),(sx "part",v),(sx "row",.str (ah r)),(sx "star",.opq),(sx "parts",.list ps)]
theorem uZ(o:Pj Str)(es es' r:List Nat)(ps:List MV):ae (b9 (ptM o) es r ps) (sx "ends") (.list (es'.map iN))=gV (ptM o) es' r ps:=by cases o<;>symm
theorem DC(q:Pos)(v:MV)(hv:v.plain=true)(es r:List Nat)(ps:List MV):bB bW (gU es r ps) (.Name (sx "part") q) v=some (b9 v es r ps):=by
 have e:bB bW (gU es r ps) (.Name (sx "part") q) v=(if true=true/\v.plain=true then some (b9 v es r ps) else none):=nofun
 rw[e,if_pos ⟨rfl,hv⟩]
theorem DD(q:Pos)(u:Pj Str)(v:MV)(hv:v.plain=true)(es r:List Nat)(ps:List MV):bB bW (gV (ptM u) es r ps) (.Name (sx "part") q) v=some (b9 v es r ps):=by
 have e:bB bW (gV (ptM u) es r ps) (.Name (sx "part") q) v=(if true=true/\v.plain=true then some (b9 v es r ps) else none):=by cases u<;>symm
 rw[e,if_pos ⟨rfl,hv⟩]
theorem HD(o:Pj Str):noIt (ptM o)=true:=by cases o<;>rfl
theorem lD(es r:List Nat)(pts:List (Pj Str)):dg (gU es r (pts.map ptM))=true:=by show(cw (es.map iN)&&(true&&(true&&(cw (pts.map ptM)&&true))))=true;rw[oz,kx];rfl
theorem qO(o:Pj Str)(es r:List Nat)(pts:List (Pj Str)):dg (gV (ptM o) es r (pts.map ptM))=true:=by show(cw (es.map iN)&&(noIt (ptM o)&&(true&&(true&&(cw (pts.map ptM)&&true)))))=true;rw[oz,kx,HD];rfl
theorem qP(h:es.length<=1000)(hr:r.length<=100):(kn r pt es).length<=1000:=by
 cases pt with
 |none=>exact OA (List.length_filter_le _ _) (by simp;lia)
 |some p=>rw[oy,List.length_map];exact OA (List.length_filter_le _ _) h
noncomputable def u0(r:List Nat)(pts:List (Pj Str))(es:List Nat):List Nat:=pts.foldl (λes pt=>kn r pt es) es
theorem u1{r:List Nat}{all:List (Pj Str)}{q:Pos}(hr:r.length<=100)(hc:∀c∈r,aH c):∀(pts:List (Pj Str)) (o:Pj Str) (es:List Nat),(∀o∈pts,∀p,o=some p->p∈gc)->es.length<=1000->
  ∃o',ij (mx dA (SS spN) false 29) bW (.Name (sx "part") q) DA (pts.map ptM) (gV (ptM o) es r (all.map ptM))=some (.next,gV (ptM o') (u0 r pts es) r (all.map ptM))
 | [],o,es,_,_=>⟨o,kl (qO _ _ _ _)⟩
 |pt::pts,o,es,h,hz=>by obtain⟨o',ih⟩:=u1 hr hc pts pt (kn r pt es) (λo ho=>h o (.tail _ ho)) (qP hz hr) (all:=all) (q:=q);refine⟨o',iE (qO _ _ _ _) (.inl (ma _)) (DD _ _ _ (uY pt) _ _ _) (uX (h pt (.head _)) hr hc hz) ?_⟩;rw[uZ];exact ih
theorem AE{r:List Nat}{all:List (Pj Str)}{q:Pos}(hr:r.length<=100)(hc:∀c∈r,aH c):∀(pts:List (Pj Str)),(∀o∈pts,∀p,o=some p->p∈gc)->
  ∃ρ',ij (mx dA (SS spN) false 29) bW (.Name (sx "part") q) DA (pts.map ptM) (gU [0] r (all.map ptM))=some (.next,ρ')/\ρ'.lookup (sx "ends")=some (.list ((u0 r pts [0]).map iN))/\ρ'.lookup (sx "row")=some (.str (ah r))
 | [],_=>⟨_,kl (lD _ _ _),nofun,nofun⟩
 |pt::pts,h=>by obtain⟨o',ih⟩:=u1 hr hc pts pt (kn r pt [0]) (λo ho=>h o (.tail _ ho)) (qP (by left) hr) (all:=all) (q:=q);refine⟨gV (ptM o') (u0 r pts (kn r pt [0])) r (all.map ptM),iE (lD _ _ _) (.inl (ma _)) (DC _ _ (uY pt) _ _ _) (uX (h pt (.head _)) hr hc (by left)) ?_,nofun,nofun⟩;rw[uZ];exact ih
noncomputable def fP(r:List Nat)(pts:List (Pj Str)):Bool:=(u0 r pts [0]).any λe=>e==r.length
noncomputable def oA:Pm:=aE (stN hU 2)
theorem HE:oA= .Compare (.Call (.Name (sx "len") (cF (bL oA)).pos) [.Name (sx "row") (cA (bL oA) 0).pos] [] (bL oA).pos) [.In] [.Name (sx "ends") (bR oA).pos] oA.pos:=nofun
theorem zj:∀l:List Nat,intsOf (l.map iN)=some (l.map Int.ofNat)
 | []=>rfl
 |a::l=>by show(intsOf (l.map iN)).map _=_;rw[zj l];rfl
theorem ME(n:Nat)(l:List Nat):fL .In (iN n) (.list (l.map iN))=some (l.any λe=>e==n):=by
 show(intsOf (l.map iN)).map (λys=>ys.any (·==(n:Int)))=_;rw[zj];show some _=some _
 congr 1
 show(l.map Int.ofNat).any (λx=>x==(n:Int))=_;rw[List.any_map]
 congr 1
 funext e
 show((e:Int)==(n:Int))=(e==n);rw[Bool.eq_iff_iff,beq_iff_eq,beq_iff_eq];exact⟨λh=>Int.ofNat.inj h,λh=>by rw[h]⟩
def pY(o:Pj Str):Prop:=∀p,o=some p->p∈gc
theorem DE(hr:r.length<=100)(hc:∀c∈r,aH c)(hp:∀o∈pts,pY o):mk dA (SS spN) 30 "_law_fits" l_fits.ps [] false [.list (pts.map ptM),.opq,.str (ah r)]=some (.bool (fP r pts)):=by
 refine cU rfl (by show(aa (pts.map ptM)&&true)=true;rw[fh];rfl) ?_ (.inl rfl);show ∃ρ',(mx dA (SS spN) false 30).ex bW [(sx "row",.str (ah r)),(sx "star",.opq),(sx "parts",.list (pts.map ptM))] (pB "_law_fits").body=_;rw[Ds];obtain⟨ρ',hl,le,lr⟩:=AE hr hc (all:=pts) (q:=aQ (stN hU 1)) pts hp;refine⟨ρ',bG (ρ':=gU [0] r (pts.map ptM)) nofun (dK (ρ':=ρ') ?_ (bI rfl ?_ rfl))⟩
 ·have e1:((me dA (SS spN) 29).ev bW (gU [0] r (pts.map ptM)) (.Name (sx "parts") (aE (stN hU 1)).pos)).bind aM=some (pts.map ptM):=by
   have:(me dA (SS spN) 29).ev bW (gU [0] r (pts.map ptM)) (.Name (sx "parts") (aE (stN hU 1)).pos)=some (.list (pts.map ptM)):=nofun
   rw[this];show(if aa (pts.map ptM) then some (pts.map ptM) else none)=_;rw[fh,if_pos (Eq.refl true)]
  exact zi nofun rfl (lD _ _ _) e1 hl
 ·rw[show aE (stN hU 2)=oA from rfl,HE];have h1:(me dA (SS spN) 27).ev bW ρ' (.Name (sx "len") (cF (bL oA)).pos)=some (.ex (.builtin "len")):=nofun
  have h2:(me dA (SS spN) 27).ev bW ρ' (.Name (sx "row") (cA (bL oA) 0).pos)=some (.str (ah r)):=by show(List.lookup (sx "row") ρ').bind (λv=>if ez v then some v else none)=_;rw[lr];rfl
  have h3:(me dA (SS spN) 28).ev bW ρ' (.Name (sx "ends") (bR oA).pos)=some (.list ((u0 r pts [0]).map iN)):=by show(List.lookup (sx "ends") ρ').bind (λv=>if ez v then some v else none)=_;rw[le];rfl
  exact xx ag rfl (ec ag (pos:=(bL oA).pos) h1 rfl (cH rfl h2) (ku (by lia))) h3 (ME _ _)
noncomputable def pcM(i:Nat):MV:= .str (fA i)
noncomputable def m8(p c:Nat):Bool:=match p with
 |1=>true
 |2=>c==46
 |3=>c==97||c==98
 |4=>c==97
 |_=>c==97||c==98
noncomputable def bD:List Nat->List Nat->Bool
 | [],r=>r.isEmpty
 |0::ps,r=>(List.range (r.length+1)).any λk=>bD ps (r.drop k)
 |_::_,[]=>false
 |p::ps,c::r=>m8 p c&&bD ps r
noncomputable def KQ(m:MV):Pj Nat:=(strOf m).bind λx=>(List.range 6).find? λi=>fA i==x
noncomputable def AF{α:Type}(f:MV->Pj α):List MV->Pj (List α)
 | []=>some []
 |m::r=>(f m).bind λi=>(AF f r).map (i::·)
theorem m9{α:Type}{f:MV->Pj α}{g:α->MV}{P:α->Prop}(hf:∀m i,f m=some i->m=g i/\P i){ms:List MV}:∀{is:List α},AF f ms=some is->ms=is.map g/\∀i∈is,P i:=by
 induction ms with
 |nil=>intro is h;cases h;exact⟨rfl,λ_ q=>nomatch q⟩
 |cons m r ih=>intro is h;ext i h1 h;revert h;refine mpE λjs h2 e2z=>?_;subst e2z;obtain⟨rfl,e2⟩:=hf m i h1;obtain⟨rfl,e4⟩:=ih h2;exact⟨rfl,λq hq=>(OT.mp hq).elim (λe=>e▸e2) (e4 q)⟩
theorem sA{α:Type}{f:MV->Pj α}{g:α->MV}{P:α->Prop}(hf:∀i,P i->f (g i)=some i){is:List α}(h:∀i∈is,P i):AF f (is.map g)=some is:=by
 induction is with
 |nil=>rfl
 |cons i is ih=>exact bnd (hf i (h i (.head _))) (ON (Option.map _) (ih λj hj=>h j (.tail _ hj)))
noncomputable def qQ:List MV->Pj (List Nat):=AF KQ
noncomputable def DF(c:Nat):Bool:=c==46||c==97||c==98
noncomputable def mm(s:Str):Bool:=s.cps.toList.all DF&&decide (s.length<=30)
noncomputable def gz(k:Nat)(as:List MV):Pj MV:=(two as).bind λa=>(d5 a.1).bind λms=>(strOf a.2).bind λs=>(qQ ms).bind λis=>if is.length=k/\mm s=true then some (.bool (bD is s.cps.toList)) else none
theorem HF(m:MV)(i:Nat)(h:KQ m=some i):m=pcM i/\i<6:=by ext x e h;cases aF e;have e:(fA i==x)=true:=List.find?_some (p:=λi=>fA i==x) h;exact⟨ON MV.str (eq_of_beq e).symm,List.mem_range.mp (List.mem_of_find?_eq_some h)⟩
theorem ky{ms:List MV}{is:List Nat}(h:qQ ms=some is):ms=is.map pcM/\∀i∈is,i<6:=m9 HF h
theorem pcs:((List.range 6).all λi=>KQ (pcM i)==some i)=true:=by right
theorem sC(h:∀i∈is,i<6):qQ (is.map pcM)=some is:=sA (λi hi=>eq_of_beq (OQ.mp pcs i (List.mem_range.mpr hi))) h
theorem bC:∀l:List Nat,aa (l.map pcM)=true
 | []=>rfl
 |a::l=>by show(true&&aa (l.map pcM))=true;rw[bC l];rfl
theorem kz:s=ah s.cps.toList:=by cases s;simp [ah]
theorem jN(hc:∀c∈r,aH c)(hr:r.length<=30):mm (ah r)=true:=by unfold mm;rw[eI,Bool.and_eq_true];refine⟨?_,by simpa using hr⟩;rw[List.all_eq_true];intro c h;have:=hc c (by simpa [ah]using h);unfold DF;rcases this with rfl|rfl|rfl<;>rfl
theorem fQ(h:mm s=true):(∀c∈s.cps.toList,aH c)/\s.cps.toList.length<=30:=by
 unfold mm at h;rw[Bool.and_eq_true,List.all_eq_true]at h;refine⟨λc hc=>?_,by have:=O5 h.2;simpa [Str.length]using this⟩;have:=h.1 c hc;unfold DF at this;simp only [Bool.or_eq_true,beq_iff_eq]at this;rcases this with(h|h)|h
 ·exact .inl h
 ·exact .inr (.inl h)
 ·exact .inr (.inr h)
theorem oB(hi:∀i∈is,i<6)(hk:is.length=k)(hc:∀c∈r,aH c)(hr:r.length<=30):gz k [.list (is.map pcM),.str (ah r)]=some (.bool (bD is r)):=by
 have e:(ah r).cps.toList=r:=by simp [ah]
 refine bnd rfl (bnd rfl (bnd rfl (bnd (sC hi) ?_)));refine((if_pos ⟨hk,jN hc hr⟩).trans ?_);rw[e]
theorem vd(h:gz k as=some v):∃is r,as=[.list (is.map pcM),.str (ah r)]/\(∀i∈is,i<6)/\is.length=k/\(∀c∈r,aH c)/\r.length<=30/\v= .bool (bD is r):=by revert h;exists k,as,v;ext e0z e h;obtain⟨a,b⟩:=e0z;cases d6 e;ext ms e h;cases bZ e;ext s e h;cases aF e;ext is e h;obtain⟨rfl,e2⟩:=ky e;injections e0z h;obtain⟨hk,hr⟩:=e0z;cases h;obtain⟨c1,c2⟩:=fQ hr;exact⟨is,s.cps.toList,by rw[<-kz],e2,hk,c1,c2,rfl⟩
section
variable {F:Fns}{S:Subs}{n:Nat}{sc:Sc}{ρ:Rho}
variable (hs:∀n sc ev e,S.spec n sc ev e=none)
include hs
theorem cj{o:Pm}{lo hi:Pj Pm}{q q':Pos}{a:MV}{l h:Pj Int}{v:Pj MV}(h1:(me F S n).ev sc ρ o=some a)(h2:ig (me F S n) sc ρ lo=some l)(h3:ig (me F S n) sc ρ hi=some h)(hv:dh a l h=v):(me F S (n+1)).ev sc ρ (.Subscript o (.Slice lo hi none q) q')=v:=
 (iG hs).trans (bnd h1 (bnd h2 (bnd h3 hv)))
theorem HG(h1:(me F S n).ev sc ρ a=some (.bool true))(h2:(me F S n).ev sc ρ b=some (.bool true))(h3:(me F S n).ev sc ρ c=some v):(me F S (n+1)).ev sc ρ (.BoolOp .And [a,b,c] q)=some v:=
 (iG hs).trans (bnd h1 (bnd rfl (bnd h2 (bnd rfl h3))))
theorem HH(h1:(me F S n).ev sc ρ a=some (.bool false)):(me F S (n+1)).ev sc ρ (.BoolOp .And [a,b,c] q)=some (.bool false):=(iG hs).trans (bnd h1 rfl)
theorem DG(h1:(me F S n).ev sc ρ a=some (.bool true))(h2:(me F S n).ev sc ρ b=some (.bool false)):(me F S (n+1)).ev sc ρ (.BoolOp .And [a,b,c] q)=some (.bool false):=
 (iG hs).trans (bnd h1 (bnd rfl (bnd h2 rfl)))
end
theorem bb(h:p.ev sc ρ e=some (.int i)):ig p sc ρ (some e)=some (some i):=bnd h rfl
theorem lE{α:Type}{l:List α}{k:Nat}(h:k<=l.length):de l (some (k:Int)) none=l.drop k:=by
 have h1:kms_lo (some (k:Int)) l.length=k:=by unfold kms_lo;simp;split<;>lia
 have h2:kms_hi none l.length=l.length:=by unfold kms_hi;rfl
 unfold de;rw[h1,h2];exact List.take_of_length_le (by simp)
theorem lF{r:List Nat}{k:Nat}(hk:k<=r.length)(hr:r.length<=1000):dh (.str (ah r)) (some (k:Int)) none=some (.str (ah (r.drop k))):=by
 show(if(ah r).length<=sizeLine then some (MV.str (jT (ah r) (some (k:Int)) none)) else none)=_;rw[eI,if_pos (by rw[sizeLine_eq];lia)];unfold jT;have:(ah r).cps.toList=r:=by simp [ah]
 rw[this,lE hk]
 rfl
theorem oC{m:MV}{l:List MV}(hp:aa (m::l)=true)(hz:l.length<=900):dh (.list (m::l)) (some 1) none=some (.list l):=by
 show(if aa (m::l)&&decide ((m::l).length<=1000) then some (MV.list (de (m::l) (some 1) none)) else none)=_;rw[hp,if_pos (by simp;lia)];have:=lE (l:=m::l) (k:=1) (by simp);rw[show((1:Nat):Int)=1 from rfl]at this;rw[this]
 rfl
theorem lG(hp:aa (m::l)=true):gK (.list (m::l)) (.int 0)=some m:=by
 have:seqIndex? 0 (m::l).length=some 0:=by unfold seqIndex?;simp
 refine Eq.trans (if_pos (c:=(cX 0&&aa (m::l))=true) ?_) (bnd this rfl);rw[hp];decide
theorem ve:∀l:List Bool,boolsOf (l.map MV.bool)=some l
 | []=>rfl
 |a::l=>by show(boolsOf (l.map MV.bool)).map _=_;rw[ve l];rfl
theorem HI(l:List Bool):fL .In (.bool true) (.list (l.map MV.bool))=some (l.any id):=by show(boolsOf (l.map MV.bool)).map (λys=>ys.any id)=_;rw[ve];rfl
noncomputable abbrev cV:Sc:=(pB "_law_goes").names
noncomputable def DH:List Pq:=(pB "_law_goes").body
noncomputable def lvK(k:Nat):Nat:=30*k
noncomputable def dO(k:Nat):Fns:=⟨λa=>if a=148 then some (lvK k+1,gz (k-1)) else none⟩
noncomputable def vg:Pq:=stN DH 0
noncomputable def hG:Pq:=stN DH 1
noncomputable def AG:Pq:=stN DH 2
noncomputable def vi:Pm:=aE (stN DH 3)
noncomputable def goC:Pm:=bR (aE (stN (aB hG) 0))
theorem nf:(pB "_law_goes").body=[.If (aE vg) [.Return (some (aE (stN (aB vg) 0))) (aP (stN (aB vg) 0))] [] (aP vg),.If (aE hG) [.Return (some (aE (stN (aB hG) 0))) (aP (stN (aB hG) 0))] [] (aP hG),.Assign [.Name (sx "signs") (aQ AG)] (aE AG) (aP AG),.Return (some vi) (aP (stN DH 3))]:=nofun
theorem xA:aE (stN (aB hG) 0)= .Compare (bL (aE (stN (aB hG) 0))) [.In] [bU goC (sx "k")] (aE (stN (aB hG) 0)).pos:=nofun
noncomputable def sLo(e:Pm):Pm:=bL e
noncomputable def vj:Pm:=cA (aw goC) 0
noncomputable def vk:Pm:=cA (aw goC) 1
theorem AH:aw goC= .Call (.Name (sx "_law_goes") (cF (aw goC)).pos) [.Subscript (.Name (sx "pieces") (bL vj).pos) (.Slice (some (sLo (bR vj))) none none (bR vj).pos) vj.pos,.Subscript (.Name (sx "row") (bL vk).pos) (.Slice (some (.Name (sx "k") (sLo (bR vk)).pos)) none none (bR vk).pos) vk.pos] [] (aw goC).pos:=nofun
noncomputable def goI:Pm:=gI (au goC)
theorem xB:goI= .Call (.Name (sx "range") (cF goI).pos) [.BinOp (.Call (.Name (sx "len") (cF (bL (cA goI 0))).pos) [.Name (sx "row") (cA (bL (cA goI 0)) 0).pos] [] (bL (cA goI 0)).pos) .Add (bR (cA goI 0)) (cA goI 0).pos] [] goI.pos:=nofun
theorem KR:bU goC (sx "k")= .ListComp (aw goC) [⟨.Name (sx "k") (gP (au goC)),goI,[],0⟩] (cSc goC) (Hu goC):=nofun
noncomputable def pZ:Pm:=cA vi 1
noncomputable def gA:Pm:=cA vi 2
theorem AI:vi= .BoolOp .And [cA vi 0,.Compare (.Subscript (.Name (sx "row") (bL (bL pZ)).pos) (bR (bL pZ)) (bL pZ).pos) [.In] [.Name (sx "signs") (bR pZ).pos] pZ.pos,
 .Call (.Name (sx "_law_goes") (cF gA).pos) [.Subscript (.Name (sx "pieces") (bL (cA gA 0)).pos) (.Slice (some (sLo (bR (cA gA 0)))) none none (bR (cA gA 0)).pos) (cA gA 0).pos,.Subscript (.Name (sx "row") (bL (cA gA 1)).pos) (.Slice (some (sLo (bR (cA gA 1)))) none none (bR (cA gA 1)).pos) (cA gA 1).pos] [] gA.pos] vi.pos:=nofun
noncomputable def oD:Pm:=aE hG
theorem DJ:oD= .Compare (.Subscript (.Name (sx "pieces") (bL (bL oD)).pos) (bR (bL oD)) (bL oD).pos) [.Eq] [bR oD] oD.pos:=nofun
noncomputable abbrev bO(ms:List MV)(r:List Nat):Rho:=[(sx "row",.str (ah r)),(sx "pieces",.list ms)]
theorem KS(r:List Nat)(hc:∀c∈r,aH c):(mx (dO k) (SS spN) false (lvK k+30)).ex cV (bO [] r) (pB "_law_goes").body=some (.ret (.bool r.isEmpty),bO [] r):=by
 rw[nf];refine jM nofun (f:= .ret (.bool r.isEmpty)) (bI rfl ?_ rfl) rfl;cases r with
 |nil=>symm
 |cons c r=>symm
theorem DK(i:Nat)(ms:List MV)(r:List Nat):(me (dO k) (SS spN) (lvK k+29)).tst cV (bO (pcM i::ms) r) (aE vg)=some false:=nofun
theorem DL{k:Nat}{i:Nat}(hi:i<6){ms:List MV}(hp:aa ms=true)(r:List Nat):(me (dO k) (SS spN) (lvK k+29)).tst cV (bO (pcM i::ms) r) (aE hG)=some (i==0):=by
 revert hi hp;exists k,i,ms,r;rw[show aE hG=oD from rfl,DJ];have h1:(me (dO k) (SS spN) (lvK k+27)).ev cV (bO (pcM i::ms) r) (.Name (sx "pieces") (bL (bL oD)).pos)=some (.list (pcM i::ms)):=nofun
 have h2:(me (dO k) (SS spN) (lvK k+27)).ev cV (bO (pcM i::ms) r) (bR (bL oD))=some (.int 0):=nofun
 have h3:(me (dO k) (SS spN) (lvK k+28)).ev cV (bO (pcM i::ms) r) (bR oD)=some (.str (sx "*")):=nofun
 refine en nofun (gd ag (q:=(bL oD).pos) nofun h1 h2 (lG (by show(true&&aa ms)=true;rw[hp];rfl))) h3 ?_;have:=cs6 i (by assumption);rcases this with rfl|rfl|rfl|rfl|rfl|rfl<;>symm
section
variable {k:Nat}{i:Nat}{is r:List Nat}
noncomputable abbrev gE(k n:Nat):P:=me (dO k) (SS spN) (lvK k+n)
noncomputable abbrev AJ(ms:List MV)(r:List Nat)(j:Nat):Rho:=ae (ao (cSc goC) (bO ms r)) (sx "k") (iN j)
theorem KU(hr:r.length<=30):((gE k 26).ev cV (bO ms r) goI).bind aM=some ((List.range (r.length+1)).map iN):=by
 have h1:(gE k 25).ev cV (bO ms r) (.Name (sx "range") (cF goI).pos)=some (.ex (.type "range")):=nofun
 have h2:(gE k 23).ev cV (bO ms r) (.Name (sx "len") (cF (bL (cA goI 0))).pos)=some (.ex (.builtin "len")):=nofun
 have h3:(gE k 23).ev cV (bO ms r) (.Name (sx "row") (cA (bL (cA goI 0)) 0).pos)=some (.str (ah r)):=nofun
 have h4:(gE k 24).ev cV (bO ms r) (bR (cA goI 0))=some (.int 1):=nofun
 have h5:=ec ag (pos:=(bL (cA goI 0)).pos) h2 rfl (cH rfl h3) (ku (r:=r) (by lia));have h6:=dM ag (q:=(cA goI 0).pos) h5 h4 (add_one r.length);have h7:=ec ag (pos:=goI.pos) h1 rfl (cH rfl h6) (uU (by lia))
 have h8:(gE k 26).ev cV (bO ms r) goI=some (.rng 0 ((r.length+1:Nat):Int) 1):=by rw[xB];exact h7
 rw[h8,uV];exact xw (r.length+1) (by lia)
theorem KV(hk:is.length+1=k)(k4:k<=4)(hi:∀i∈is,i<6)(hc:∀c∈r,aH c)(hr:r.length<=30)(hj:j<=r.length):(gE k 26).ev (cSc goC).names (AJ (pcM i::is.map pcM) r j) (aw goC)=some (.bool (bD is (r.drop j))):=by
 rw[AH];have b1:(gE k 25).ev (cSc goC).names (AJ (pcM i::is.map pcM) r j) (.Name (sx "_law_goes") (cF (aw goC)).pos)=some (.ex (.ref 148)):=nofun
 have c1:(gE k 24).ev (cSc goC).names (AJ (pcM i::is.map pcM) r j) (.Name (sx "pieces") (bL vj).pos)=some (.list (pcM i::is.map pcM)):=nofun
 have c2:(gE k 24).ev (cSc goC).names (AJ (pcM i::is.map pcM) r j) (sLo (bR vj))=some (.int 1):=nofun
 have c3:(gE k 24).ev (cSc goC).names (AJ (pcM i::is.map pcM) r j) (.Name (sx "row") (bL vk).pos)=some (.str (ah r)):=nofun
 have c4:(gE k 24).ev (cSc goC).names (AJ (pcM i::is.map pcM) r j) (.Name (sx "k") (sLo (bR vk)).pos)=some (.int (j:Int)):=nofun
 have pl:aa (pcM i::is.map pcM)=true:=by show(true&&aa (is.map pcM))=true;rw[bC];rfl
 have d1:=cj ag (q:=(bR vj).pos) (q':=vj.pos) c1 (bb c2) (hi:=none) rfl (oC pl (by rw[List.length_map];lia));have d2:=cj ag (q:=(bR vk).pos) (q':=vk.pos) c3 (bb c4) (hi:=none) rfl (lF hj (by lia));have hf:(dO k).f 148=some (lvK k+1,gz (k-1)):=nofun
 refine bq ag (pos:=(aw goC).pos) b1 (gy rfl rfl d1 d2) hf (by lia) (by show(aa (is.map pcM)&&true)=true;rw[bC];rfl) (oB hi (by lia) (λc h=>hc c (List.mem_of_mem_drop h)) ?_);rw[List.length_drop];lia
theorem HJ(hk:is.length+1=k)(k4:k<=4)(hi:∀i∈is,i<6)(hc:∀c∈r,aH c)(hr:r.length<=30):dj (gE k 26) cV (bO (pcM 0::is.map pcM) r) (aw goC) (cSc goC) [⟨.Name (sx "k") (gP (au goC)),goI,[],0⟩]=some (.list (((List.range (r.length+1)).map λj=>bD is (r.drop j)).map MV.bool)):=by
 have:=fO (f:=λv=> .bool (bD is (r.drop (HB v)))) (keep:=λ_=>true) (KU (k:=k) (ms:=pcM 0::is.map pcM) hr) (by symm:aK cV (cSc goC)=true) (by symm:(cSc goC).names.lookup (sx "k")=some .local) nofun (ifs:=[]) (elt:=aw goC) (px:=gP (au goC)) (λv hv=>?_) (by simp;lia)
 ·rw[this,filter_all,List.map_map,List.map_map]
  rfl
 ·obtain⟨j,hj,rfl⟩:=OS.mp hv;exact⟨rfl,λ_=>⟨KV hk k4 hi hc hr (by have:=List.mem_range.mp hj;show j<=r.length;lia),rfl⟩⟩
theorem HK(hk:is.length+1=k)(k4:k<=4)(hi:∀i∈is,i<6)(hc:∀c∈r,aH c)(hr:r.length<=30):(mx (dO k) (SS spN) false (lvK k+30)).ex cV (bO (pcM 0::is.map pcM) r) (pB "_law_goes").body=some (.ret (.bool (bD (0::is) r)),bO (pcM 0::is.map pcM) r):=by
 rw[nf];refine gS (DK _ _ _) (f:= .next) cN (jM (DL (by left) (bC is) r) (f:= .ret (.bool (bD (0::is) r))) (bI nofun ?_ rfl) rfl);rw[xA];have h1:(gE k 27).ev cV (bO (pcM 0::is.map pcM) r) (bL (aE (stN (aB hG) 0)))=some (.bool true):=nofun
 have h2:(gE k 27).ev cV (bO (pcM 0::is.map pcM) r) (bU goC (sx "k"))=some (.list (((List.range (r.length+1)).map λj=>bD is (r.drop j)).map MV.bool)):=by rw[KR];exact(cB rfl).trans (HJ hk k4 hi hc hr)
 have h3:=HI ((List.range (r.length+1)).map λj=>bD is (r.drop j));rw[List.any_map]at h3;exact xx ag nofun h1 h2 h3
end
theorem HL(hs:∀n sc ev e,S.spec n sc ev e=none)(hl:(apos.endLine==pos.line)=true)(hd:qq ks vs=some d)
  (hk:d.length<=15/\d.isEmpty=false/\(d.map (·.1)).Nodup/\notStar a=true/\notStar b=true) (h1:(me F S n).ev sc ρ a=some (.str x)) (h2:(me F S n).ev sc ρ b=some (.str y)):(me F S (n+1)).ev sc ρ (.Call (.Attribute (.Dict ks vs q) (sx "get") apos) [a,b] [] pos)=some (.str ((d.lookup x).getD y)):=by
 refine(iG hs).trans ?_;refine Eq.trans (if_pos (c:=sx "get"=sx "get"/\(apos.endLine==pos.line)=true) ⟨rfl,hl⟩) (bnd hd (bnd rfl ?_));refine(if_pos hk).trans (jj h1 rfl ?_);exact ON (Option.map _) (bnd h2 rfl)
noncomputable def goD:Pm:=aE AG
noncomputable def dOf(e:Pm):List (Pj Pm)×List Pm×Pos:=match aN (bL (cF e)) with
 | .dict ks vs q=>(ks,vs,q)
 |_=>([],[],default)
noncomputable def dKs(e:Pm):List (Pj Pm):=(dOf e).1
noncomputable def dVs(e:Pm):List Pm:=(dOf e).2.1
noncomputable def dP(e:Pm):Pos:=(dOf e).2.2
theorem HM:goD= .Call (.Attribute (.Dict (dKs goD) (dVs goD) (dP goD)) (sx "get") (cF goD).pos) [.Subscript (.Name (sx "pieces") (bL (cA goD 0)).pos) (bR (cA goD 0)) (cA goD 0).pos,.Subscript (.Name (sx "pieces") (bL (cA goD 1)).pos) (bR (cA goD 1)) (cA goD 1).pos] [] goD.pos:=nofun
noncomputable def KW:List (Str×Str):=[(sx "?",sx ".ab"),(sx "[!.]",sx "ab"),(sx "[a-b]",sx "ab")]
noncomputable def sgS:Nat->Str
 |1=>sx ".ab"
 |2=>sx "."
 |3=>sx "ab"
 |4=>sx "a"
 |_=>sx "ab"
theorem MF:∀i,i<6->i≠0->i=1\/i=2\/i=3\/i=4\/i=5:=by left
theorem MG(hi:i<6)(h0:i≠0):i=1\/i=2\/i=3\/i=4\/i=5:=MF i hi h0
section
variable {k:Nat}{i:Nat}{is r:List Nat}
theorem DM(h0:i≠0)(hi:i<6):(gE k 29).ev cV (bO (pcM i::is.map pcM) r) (aE AG)=some (.str (sgS i)):=by
 revert h0 hi;exists k,i,is,r;rw[show aE AG=goD from rfl,HM];have pl:aa (pcM i::is.map pcM)=true:=by show(true&&aa (is.map pcM))=true;rw[bC];rfl
 have c1:(gE k 27).ev cV (bO (pcM i::is.map pcM) r) (.Name (sx "pieces") (bL (cA goD 0)).pos)=some (.list (pcM i::is.map pcM)):=nofun
 have c2:(gE k 27).ev cV (bO (pcM i::is.map pcM) r) (bR (cA goD 0))=some (.int 0):=nofun
 have c3:(gE k 27).ev cV (bO (pcM i::is.map pcM) r) (.Name (sx "pieces") (bL (cA goD 1)).pos)=some (.list (pcM i::is.map pcM)):=nofun
 have c4:(gE k 27).ev cV (bO (pcM i::is.map pcM) r) (bR (cA goD 1))=some (.int 0):=nofun
 have hd:qq (dKs goD) (dVs goD)=some KW:=nofun
 have:=HL ag (q:=dP goD) (apos:=(cF goD).pos) (pos:=goD.pos) nofun hd (by right) (gd ag (q:=(cA goD 0).pos) nofun c1 c2 (lG pl)) (gd ag (q:=(cA goD 1).pos) nofun c3 c4 (lG pl));rw[this];rcases MG hi h0 with rfl|rfl|rfl|rfl|rfl<;>symm
noncomputable abbrev fB(i:Nat)(ms:List MV)(r:List Nat):Rho:=ae (bO ms r) (sx "signs") (.str (sgS i))
theorem DN(h0:i≠0)(hi:i<6)(hc:aH c):fL .In (.str ⟨#[c]⟩) (.str (sgS i))=some (m8 i c):=by revert h0 hi hc;exists i,c;rcases MG hi h0 with rfl|rfl|rfl|rfl|rfl<;>rcases hc with rfl|rfl|rfl<;>symm
theorem qR(h0:i≠0):bD (i::is) (c::r)=(m8 i c&&bD is r)/\bD (i::is) []=false:=by
 cases i with
 |zero=>exact O8 rfl h0
 |succ j=>exact⟨rfl,rfl⟩
theorem KY(h0:i≠0)(hi:i<6)(hk:is.length+1=k)(k4:k<=4)(his:∀i∈is,i<6)(hc:∀c∈r,aH c)(hr:r.length<=30):(gE k 29).ev cV (fB i (pcM i::is.map pcM) r) vi=some (.bool (bD (i::is) r)):=by
 revert h0 hi hk k4 his hc hr;exists k,i,is,r;rw[AI];cases r with
 |nil=>rw[(qR (c:=0) (r:=[]) h0).2];exact HH ag nofun
 |cons c t=>
  have hcc:=hc c (.head _);have hb:=(qR (c:=c) (r:=t) (is:=is) h0).1;rw[hb];have a1:(gE k 28).ev cV (fB i (pcM i::is.map pcM) (c::t)) (cA vi 0)=some (.bool true):=nofun
  have b1:(gE k 26).ev cV (fB i (pcM i::is.map pcM) (c::t)) (.Name (sx "row") (bL (bL pZ)).pos)=some (.str (ah (c::t))):=nofun
  have b2:(gE k 26).ev cV (fB i (pcM i::is.map pcM) (c::t)) (bR (bL pZ))=some (iN 0):=nofun
  have b3:(gE k 27).ev cV (fB i (pcM i::is.map pcM) (c::t)) (.Name (sx "signs") (bR pZ).pos)=some (.str (sgS i)):=nofun
  have b4:=xx ag (q:=pZ.pos) rfl (gd ag (q:=(bL pZ).pos) nofun b1 b2 (uW (e:=0) rfl (by left))) b3 (DN h0 hi hcc);cases hs:m8 i c with
  |false=>rw[hs]at b4;exact DG ag a1 b4
  |true=>
   rw[hs]at b4;refine HG ag a1 b4 ?_;have pl:aa (pcM i::is.map pcM)=true:=by show(true&&aa (is.map pcM))=true;rw[bC];rfl
   have d1:(gE k 27).ev cV (fB i (pcM i::is.map pcM) (c::t)) (.Name (sx "_law_goes") (cF gA).pos)=some (.ex (.ref 148)):=nofun
   have c1:(gE k 26).ev cV (fB i (pcM i::is.map pcM) (c::t)) (.Name (sx "pieces") (bL (cA gA 0)).pos)=some (.list (pcM i::is.map pcM)):=nofun
   have c2:(gE k 26).ev cV (fB i (pcM i::is.map pcM) (c::t)) (sLo (bR (cA gA 0)))=some (.int 1):=nofun
   have c3:(gE k 26).ev cV (fB i (pcM i::is.map pcM) (c::t)) (.Name (sx "row") (bL (cA gA 1)).pos)=some (.str (ah (c::t))):=nofun
   have c4:(gE k 26).ev cV (fB i (pcM i::is.map pcM) (c::t)) (sLo (bR (cA gA 1)))=some (.int ((1:Nat):Int)):=nofun
   have e1:=cj ag (q:=(bR (cA gA 0)).pos) (q':=(cA gA 0).pos) c1 (bb c2) (hi:=none) rfl (oC pl (by rw[List.length_map];lia));have e2:=cj ag (q:=(bR (cA gA 1)).pos) (q':=(cA gA 1).pos) c3 (bb c4) (hi:=none) rfl (lF (by simp) (by lia));have hf:(dO k).f 148=some (lvK k+1,gz (k-1)):=nofun
   exact bq ag (pos:=gA.pos) d1 (gy rfl rfl e1 e2) hf (by lia) (by show(aa (is.map pcM)&&true)=true;rw[bC];rfl) (oB his (by lia) (λc h=>hc c (.tail _ h)) (by have:=hr;simp at this ⊢;lia))
theorem HN(h0:i≠0)(hi:i<6)(hk:is.length+1=k)(k4:k<=4)(his:∀i∈is,i<6)(hc:∀c∈r,aH c)(hr:r.length<=30):(mx (dO k) (SS spN) false (lvK k+30)).ex cV (bO (pcM i::is.map pcM) r) (pB "_law_goes").body=some (.ret (.bool (bD (i::is) r)),fB i (pcM i::is.map pcM) r):=by rw[nf];have e2:=DL (k:=k) hi (bC is) r;rw[show(i==0)=false by simpa using h0]at e2;exact gS (DK _ _ _) (f:= .next) cN (gS e2 (f:= .next) cN (bG (km nofun nofun (DM h0 hi) rfl) (bI nofun (KY h0 hi hk k4 his hc hr) rfl)))
theorem HO(k4:k<=4):∀as v,gz k as=some v->mk (dO k) (SS spN) (lvK k+30) "_law_goes" l_goes.ps [] false as=some v:=by
 intro as v h;obtain⟨is,r,rfl,h1,h2,h3,h4,rfl⟩:=vd h;refine cU rfl (by show(aa (is.map pcM)&&true)=true;rw[bC];rfl) ?_ (.inl rfl);show ∃ρ',(mx (dO k) (SS spN) false (lvK k+30)).ex cV (bO (is.map pcM) r) (pB "_law_goes").body=_;cases is with
 |nil=>exact⟨_,KS r h3⟩
 |cons i is=>
  by_cases h0:i=0
  ·subst h0;exact⟨_,HK h2 k4 (λj hj=>h1 j (.tail _ hj)) h3 h4⟩
  ·exact⟨_,HN h0 (h1 i (.head _)) h2 k4 (λj hj=>h1 j (.tail _ hj)) h3 h4⟩
end
noncomputable def DO(e:Pm):Bool:=match aN e with
 | .dict .. =>true
 |_=>false
noncomputable def attrOk(o:Pm)(m:Str)(apos pos:Pos)(args:List Pm):Bool:= !DO o&& !(apos.endLine==pos.line)==false&&decide (args.length<=20)&&baseOk o&&m != sx "replace"
theorem fR(hs:∀n sc ev e,S.spec n sc ev e=none)(hk:attrOk o m apos pos args=true)(h1:(me F S n).ev sc ρ o=some v)(h2:aT (me F S n) sc ρ args=some as)(h:jq S m v as=u):(me F S (n+1)).ev sc ρ (.Call (.Attribute o m apos) args [] pos)=u:=by
 refine(iG hs).trans ?_;unfold attrOk at hk;simp only [Bool.and_eq_true,bne_iff_ne,ne_eq,decide_eq_true_eq]at hk;obtain⟨⟨⟨⟨k1,k2⟩,k3⟩,k4⟩,k5⟩:=hk
 have c:¬((apos.endLine==pos.line)=false\/20<args.length\/baseOk o=false):=by
  rintro (q|q|q)
  ·rw[q]at k2;exact Bool.noConfusion k2
  ·lia
  ·exact Bool.noConfusion (k4.symm.trans q)
 have e1:zV F S n (me F S n) sc ρ (.Call (.Attribute o m apos) args [] pos)=yV S (me F S n) sc ρ o m apos pos args:=by unfold DO at k1;show(match aN o with| .dict ks vs _=>_|_=>yV S (me F S n) sc ρ o m apos pos args)=_;generalize aN o=w at k1 ⊢;cases w<;>first|rfl|exact Bool.noConfusion k1
 exact e1.trans ((if_neg c).trans ((if_neg k5).trans (bnd h1 (bnd h2 h))))
noncomputable def lead(r:List Nat):Nat:=(r.takeWhile (·==46)).length
noncomputable def isI(i:Int):Pj MV->Bool
 |some (.int j)=>i==j
 |_=>false
theorem KZ(h:isI i m=true):m=some (.int i):=by
 cases m with
 |none=>exact Bool.noConfusion h
 |some v=>cases v<;>first|exact Bool.noConfusion h|exact ON (λb=>some (MV.int b)) (eq_of_beq h).symm
noncomputable def gf:List Str:=(List.range 9).flatMap λd=>(List.range 4).map λk=>rowOf d k
noncomputable def jw(as:List MV):Pj MV:=((one as).bind strOf).bind λs=>if s∈gf then some (.int (lead s.cps.toList)) else none
theorem DP:(gf.all λs=>isI (lead s.cps.toList) (mk fn0 (SS spN) 20 "_law_dots" l_dots.ps [] false [.str s]))=true:=by right
theorem HP(as:List MV)(v:MV)(h:jw as=some v):mk fn0 (SS spN) 20 "_law_dots" l_dots.ps [] false as=some v:=by ext s e h;ext x e1 e;cases bf e1;cases aF e;injections hs h;cases h;exact KZ (OQ.mp DP s hs)
noncomputable def oE:Fns:=⟨λa=>if a=162 then some (21,jw) else none⟩
noncomputable def oF(as:List MV):Pj MV:=(two as).bind λab=>(strOf ab.1).bind λa=>(strOf ab.2).bind λb=>if a∈gf/\b∈gf then some (.int ((lead b.cps.toList:Int)-lead a.cps.toList)) else none
noncomputable def moE:Pm:=uQ (pB "_law_more").body
theorem HQ:(pB "_law_more").body=[.Return (some moE) (ou (pB "_law_more").body)]:=nofun
theorem MH:moE= .BinOp (.Call (.Name (sx "_law_dots") (cF (bL moE)).pos) [.Name (sx "other") (cA (bL moE) 0).pos] [] (bL moE).pos) .Sub (.Call (.Name (sx "_law_dots") (cF (bR moE)).pos) [.Name (sx "one") (cA (bR moE) 0).pos] [] (bR moE).pos) moE.pos:=nofun
theorem oG(h:s∈gf):jw [.str s]=some (.int (lead s.cps.toList)):=if_pos h
noncomputable abbrev moR(a b:Str):Rho:=[(sx "other",.str b),(sx "one",.str a)]
theorem DQ(ha:a∈gf)(hb:b∈gf):mk oE (SS spN) 40 "_law_more" l_more.ps [] false [.str a,.str b]=some (.int ((lead b.cps.toList:Int)-lead a.cps.toList)):=by
 refine cU rfl rfl ?_ (.inl rfl);show ∃ρ',(mx oE (SS spN) false 40).ex (pB "_law_more").names (moR a b) (pB "_law_more").body=_;rw[HQ];refine⟨_,bI rfl ?_ rfl⟩;rw[MH];have hf:oE.f 162=some (21,jw):=nofun
 refine dM ag (bq ag (pos:=(bL moE).pos) (a:=162) ?_ (cH rfl ?_) hf (by left) rfl (oG hb)) (bq ag (pos:=(bR moE).pos) (a:=162) ?_ (cH rfl ?_) hf (by left) rfl (oG ha)) rfl<;>symm
theorem HR(as:List MV)(v:MV)(h:oF as=some v):mk oE (SS spN) 40 "_law_more" l_more.ps [] false as=some v:=by ext e0z e h;obtain⟨a,b⟩:=e0z;cases d6 e;ext x e h;cases aF e;ext y e h;cases aF e;injections hs h;cases h;exact DQ hs.1 hs.2
noncomputable def pcL(i:Nat):List Nat:=(fA i).cps.toList
noncomputable def jl(is:List Nat):List Nat:=is.flatMap pcL
noncomputable def vm(l:List Nat):Pj (Nat×List Nat):=((List.range 6).find? λi=>(pcL i).isPrefixOf l).map λi=>(i,l.drop (pcL i).length)
noncomputable def oH(l:List Nat):Pj (Nat×Nat×Nat):=(vm l).bind λx=>(vm x.2).bind λy=>(vm y.2).bind λz=>if z.2=[] then some (x.1,y.1,z.1) else none
theorem oI(h:vm l=some (i,r)):l=pcL i++r/\i<6:=by revert h;refine mpE λj h e=>?_;cases(e);have p:(pcL i).isPrefixOf l=true:=List.find?_some (p:=λi=>(pcL i).isPrefixOf l) h;exact⟨(List.prefix_iff_eq_append.mp (List.isPrefixOf_iff_prefix.mp p)).symm,List.mem_range.mp (List.mem_of_find?_eq_some h)⟩
theorem oJ(hi:i<6)(r:List Nat):vm (pcL i++r)=some (i,r):=by have:=cs6 i (by assumption);rcases this with rfl|rfl|rfl|rfl|rfl|rfl<;>symm
theorem qS(h:oH l=some (a,b,c)):l=jl [a,b,c]/\a<6/\b<6/\c<6:=by
 revert h;exists l,a,b,c;ext e0z h1 h;obtain⟨a1,x⟩:=e0z;ext e0z h2 h;obtain⟨a2,y⟩:=e0z;ext e0z h3 h;obtain⟨a3,z⟩:=e0z;injections h4 h;cases h;obtain⟨e1,f1⟩:=oI h1;obtain⟨e2,f2⟩:=oI h2;obtain⟨e3,f3⟩:=oI h3;refine⟨?_,f1,f2,f3⟩;rw[e1,show x=_ from e2,show y=_ from e3,show z=[] from h4]
 rfl
theorem qT(ha:a<6)(hb:b<6)(hc:c<6):oH (jl [a,b,c])=some (a,b,c):=by
 have e:jl [a,b,c]=pcL a++(pcL b++(pcL c++[])):=by simp [jl]
 unfold oH;rw[e,oJ ha,Option.bind_some,oJ hb,Option.bind_some,oJ hc,Option.bind_some,if_pos rfl]
noncomputable def JS:Nat->Pj Str
 |0=>none
 |1=>some (sx ".")
 |2=>some (sx "\\.")
 |3=>some (sx "[^.]")
 |4=>some (sx "a")
 |_=>some (sx "[a-b]")
noncomputable def K0(acc:List (Pj Str))(i:Nat):List (Pj Str):=if i=0/\acc.getLast?=some none then acc else acc++[JS i]
noncomputable def mW(is:List Nat):List (Pj Str):=is.foldl K0 []
noncomputable def MI(m:MV):Pj (Pj Str):=if qp m then some none else(strOf m).bind λp=>if p∈gc then some (some p) else none
noncomputable def DR:List MV->Pj (List (Pj Str)):=AF MI
theorem zk(m:MV)(o:Pj Str)(h:MI m=some o):m=ptM o/\pY o:=by
 revert h;refine eiE (λe h=>?_) (λ_ h=>?_)
 ·cases ir e;cases h;exact⟨rfl,λq e=>nomatch e⟩
 ·ext p e h;cases aF e;injections hp h;cases h;exact⟨rfl,λq e=>by cases e;exact hp⟩
noncomputable def isL(pts:List (Pj Str))(m:Pj MV):Bool:=((m.bind d5).bind DR)==some pts
theorem K1(h:isL pts m=true):m=some (.list (pts.map ptM)):=by replace h:=eq_of_beq h;ext l e h;ext v e1z e;subst e1z;cases bZ e;rw[(m9 zk h).1]
noncomputable def zm(n:Nat)(sc:Sc)(ev:Pm->Pj MV)(e:Pm):Pj MV:=if Nat.beq e.ctorIdx 16=true then(uI ev e).or ((zh sc ev e).or (uO sc ev e)) else none
noncomputable def HS(as:List MV):Pj MV:=((one as).bind strOf).bind λx=>if x=sx "." then some (.str (sx "\\.")) else if x=sx "a" then some (.str (sx "a")) else none
noncomputable def HT:Fns:=⟨λa=>if a=72 then some (21,HS) else none⟩
noncomputable def oK(a:Nat):Bool:=(List.range 6).all λb=>(List.range 6).all λc=>isL (mW [a,b,c]) (mk HT (SS zm) 50 "_translate" u_translate.ps [] false [.str (ah (jl [a,b,c])),.opq,.str (sx ".")])
theorem tr0:oK 0=true:=by right
theorem tr1:oK 1=true:=by right
theorem tr2:oK 2=true:=by right
theorem tr3:oK 3=true:=by right
theorem tr4:oK 4=true:=by right
theorem tr5:oK 5=true:=by right
noncomputable def trG(as:List MV):Pj MV:=(three as).bind λa=>(strOf a.1).bind λs=>(strOf a.2.2).bind λq=>if qp a.2.1=true/\q=sx "." then(oH s.cps.toList).map λt=> .list ((mW [t.1,t.2.1,t.2.2]).map ptM) else none
theorem K2(ha:a<6)(hb:b<6)(hc:c<6):mk HT (SS zm) 50 "_translate" u_translate.ps [] false [.str (ah (jl [a,b,c])),.opq,.str (sx ".")]=some (.list ((mW [a,b,c]).map ptM)):=by
 have h:oK a=true:=by
  have:=cs6 a (by assumption);rcases this with rfl|rfl|rfl|rfl|rfl|rfl
  ·exact tr0
  ·exact tr1
  ·exact tr2
  ·exact tr3
  ·exact tr4
  ·exact tr5
 exact K1 (OQ.mp (OQ.mp h b (List.mem_range.mpr hb)) c (List.mem_range.mpr hc))
theorem MJ(as:List MV)(v:MV)(h:trG as=some v):mk HT (SS zm) 50 "_translate" u_translate.ps [] false as=some v:=by
 ext e0z e h;obtain⟨a,b,c⟩:=e0z;cases fk e;ext s e h;cases aF e;ext q e h;cases aF e;injections e0z h;obtain⟨ho,rfl⟩:=e0z;cases ir ho;revert h;refine mpE λe0z hp e2z=>?_;obtain⟨a,b,c⟩:=e0z;subst e2z;obtain⟨e,ha,hb,hc⟩:=qS hp;have es:s=ah (jl [a,b,c]):=by rw[<-e];exact kz
 rw[es];exact K2 ha hb hc
noncomputable def jG:List MV->Pj MV:=mk fn0 (SS spN) 50 "_join_translated_parts" join_translated_parts.ps [] false
noncomputable def DS:Fns:=⟨λa=>if a=79 then some (51,trG) else if a=86 then some (51,jG) else none⟩
noncomputable def K3:Pj MV->Pj Str
 |some (.str s)=>some s
 |_=>none
noncomputable def vn(a b c:Nat):Pj Str:=K3 (mk fn0 (SS spN) 50 "_law_text" l_text.ps [] false [.list [pcM a,pcM b,pcM c]])
noncomputable def HU(a b c:Nat):Pj Str:=K3 (mk DS (SS spN) 60 "translate" translate.ps [] true [.str (ah (jl [a,b,c]))])
noncomputable def oM(a:Nat):Bool:=(List.range 6).all λb=>(List.range 6).all λc=>match vn a b c,HU a b c with
 |some x,some y=>x==y
 |_,_=>false
theorem tx0:oM 0=true:=by right
theorem tx1:oM 1=true:=by right
theorem tx2:oM 2=true:=by right
theorem tx3:oM 3=true:=by right
theorem tx4:oM 4=true:=by right
theorem tx5:oM 5=true:=by right
theorem K4(ha:a<6)(hb:b<6)(hc:c<6):∃x,vn a b c=some x/\HU a b c=some x:=by
 have h:oM a=true:=by
  have:=cs6 a (by assumption);rcases this with rfl|rfl|rfl|rfl|rfl|rfl
  ·exact tx0
  ·exact tx1
  ·exact tx2
  ·exact tx3
  ·exact tx4
  ·exact tx5
 have h:=OQ.mp (OQ.mp h b (List.mem_range.mpr hb)) c (List.mem_range.mpr hc);cases h1:vn a b c with
 |none=>simp [h1]at h
 |some x=>
  cases h2:HU a b c with
  |none=>simp [h1,h2]at h
  |some y=>simp [h1,h2]at h;exact⟨x,rfl,by rw[h]⟩
theorem zo(h:K3 m=some x):m=some (.str x):=by
 cases m with
 |none=>exact af h
 |some v=>cases v<;>first|exact af h|exact ON (λs=>some (MV.str s)) (OH h)
noncomputable def oO(a b c:Nat):Str:=(vn a b c).getD Str.empty
theorem vp(ha:a<6)(hb:b<6)(hc:c<6):vn a b c=some (oO a b c)/\HU a b c=some (oO a b c):=by
 obtain⟨x,h1,h2⟩:=K4 ha hb hc;have:oO a b c=x:=by unfold oO;rw[h1];rfl
 rw[this];exact⟨h1,h2⟩
noncomputable def vq(as:List MV):Pj MV:=(((one as).bind d5).bind qQ).bind λis=>(three is).map λt=> .str (oO t.1 t.2.1 t.2.2)
theorem HV(as:List MV)(v:MV)(h:vq as=some v):mk fn0 (SS spN) 50 "_law_text" l_text.ps [] false as=some v:=by ext is e h;revert e;refine bdE λms e ei=>?_;revert e;refine bdE λm e el=>?_;cases bf e;cases bZ el;revert h;refine mpE λe0z e e2z=>?_;obtain⟨a,b,c⟩:=e0z;subst e2z;cases fk e;obtain⟨rfl,hi⟩:=ky ei;exact zo (vp (hi a (by simp)) (hi b (by simp)) (hi c (by simp))).1
noncomputable def DT(as:List MV):Pj MV:=((one as).bind strOf).bind λs=>(oH s.cps.toList).map λt=> .str (oO t.1 t.2.1 t.2.2)
theorem K5(as:List MV)(v:MV)(h:DT as=some v):mk DS (SS spN) 60 "translate" translate.ps [] true as=some v:=by
 ext s e h;revert e;refine bdE λm e el=>?_;cases bf e;cases aF el;revert h;refine mpE λe0z hp e2z=>?_;obtain⟨a,b,c⟩:=e0z;subst e2z;obtain⟨e,ha,hb,hc⟩:=qS hp;have es:s=ah (jl [a,b,c]):=by rw[<-e];exact kz
 rw[es];exact zo (vp ha hb hc).2
end
section
open PySem.StrLaws PySem.Builtin.Str
noncomputable def cat(l:List Str):List Nat:=l.flatMap (·.cps.toList)
theorem qU(g:Str)(hg:g.cps.toList=[]):∀(l:List Str) (a:Array Nat),(l.foldl (λacc p=>acc++g.cps++p.cps) a).toList=a.toList++cat l
 | [],a=>by simp [cat]
 |x::l,a=>by rw[List.foldl_cons,qU g hg l];simp [cat,hg]
theorem oP(l:List Str):(Txt.join Str.empty l).cps.toList=cat l:=by
 show(((l.drop 1).foldl (λacc p=>acc++Str.empty.cps++p.cps) (l.headD Str.empty).cps)).toList=_;rw[qU _ rfl];cases l with
 |nil=>rfl
 |cons x l=>simp [cat]
noncomputable def ay(us:List (List Nat)):List Nat:=us.flatMap (·++[13,10])
noncomputable def bP(L:List (List Nat×List Nat)):List Nat:=L.flatMap λp=>p.1++p.2
def jO(u:List Nat):Prop:=∀c∈u,lq c=false
theorem DU(l:List Nat)(i:Nat):(l.toArray).getD i 0=l.getD i 0:=by simp [Array.getD,List.getD_eq_getElem?_getD];split<;>simp_all
theorem getD_at(A:List Nat)(c:Nat)(B:List Nat):((A++c::B).toArray).getD A.length 0=c:=by rw[DU];simp [List.getD_eq_getElem?_getD]
theorem vt(h:lq c=true):cT ((A++c::B).toArray) (k+1) A.length=some A.length:=by unfold cT;rw[if_pos (by simp),getD_at,if_pos h]
theorem mn(h:lq c=false):cT ((A++c::B).toArray) (k+1) A.length=cT (((A++[c])++B).toArray) k (A++[c]).length:=by
 rw[cT,if_pos (by simp),getD_at,h,List.append_assoc,List.length_append]
 rfl
theorem HW(hc:lq c=true)(u:List Nat):∀(A B:List Nat) (k:Nat),jO u->u.length<k->cT ((A++(u++c::B)).toArray) k A.length=some (A.length+u.length):=by
 induction u with
 |nil=>
  intro A B k _ hk;cases k with
  |zero=>exact O8 hk (OM _)
  |succ k=>exact vt hc
 |cons x u ih=>
  intro A B k hu hk;cases k with
  |zero=>exact O8 hk (Pe _)
  |succ k=>
   refine(mn (B:=u++c::B) (hu x (.head _))).trans ((ih (A++[x]) B k (λy hy=>hu y (.tail _ hy)) (Nat.lt_of_succ_lt_succ hk)).trans ?_);rw[List.length_append,Nat.add_assoc,Nat.add_comm [x].length]
   rfl
theorem HX(k:Nat):∀(u A:List Nat),jO u->cT ((A++u).toArray) k A.length=none:=by
 induction k with
 |zero=>exact λ_ _ _=>rfl
 |succ k ih=>
  intro u A hu;cases u with
  |nil=>unfold cT;rw[if_neg (by simp)]
  |cons x u=>exact(mn (hu x (.head _))).trans (ih u (A++[x]) λy hy=>hu y (.tail _ hy))
def iI(e:List Nat):Prop:=e=[10]\/e=[13]\/e=[13,10]
noncomputable def gh:List (List Nat×List Nat)->Prop
 | []=>True
 |p::L=>jO p.1/\iI p.2/\(p.2=[13]->(bP L).head?≠some 10)/\gh L
theorem DV{A e B:List Nat}(he:iI e)(hb:e=[13]->B.head?≠some 10):fz ((A++e++B).toArray) A.length=e.length:=by
 revert he hb;exists A,e,B;unfold fz;rcases he with rfl|rfl|rfl
 ·have:A++[10]++B=A++10::B:=by simp
  rw[this,getD_at,if_neg (by simp)];rfl
 ·have:A++[13]++B=A++13::B:=by simp
  rw[this,getD_at];rw[if_neg]
  ·rfl
  rintro ⟨_,h1,h2⟩
  cases B with
  |nil=>simp at h1
  |cons b B=>
   have e2:A++13::b::B=(A++[13])++b::B:=by simp
   rw[e2,show A.length+1=(A++[13]).length by simp,getD_at]at h2;exact hb rfl (by rw[h2];rfl)
 ·have:A++[13,10]++B=A++13::10::B:=by simp
  rw[this,getD_at,if_pos]
  ·rfl
  refine⟨rfl,by simp,?_⟩;have e2:A++13::10::B=(A++[13])++10::B:=by simp
  rw[e2,show A.length+1=(A++[13]).length by simp,getD_at]
theorem zp(A u B:List Nat):((A++u++B).toArray.extract A.length (A.length+u.length)).toList=u:=by simp [List.extract_eq_drop_take,List.append_assoc]
theorem oQ(he:iI e):∃c r,e=c::r/\lq c=true:=by rcases he with rfl|rfl|rfl<;>exact⟨_,_,rfl,by left⟩
theorem zr(a b:List Str):cat (a++b)=cat a++cat b:=List.flatMap_append
theorem lH(A u B:List Nat):cat (if A.length<A.length+u.length then [(⟨(A++u++B).toArray.extract A.length (A.length+u.length)⟩:Str)] else [])=u:=by
 cases u with
 |nil=>rw[if_neg (show ¬A.length<A.length+([]:List Nat).length from Nat.lt_irrefl _)];rfl
 |cons x u=>rw[if_pos (show A.length<A.length+(x::u).length from Nat.lt_add_of_pos_right (Nat.succ_pos _))];exact(List.append_nil _).trans (zp A (x::u) B)
theorem AK{A u e B:List Nat}{k:Nat}(h1:jO u)(h2:iI e)(h3:e=[13]->B.head?≠some 10):cat (aj ((A++u++e++B).toArray) (sx "\r\n") (mh ((A++u++e++B).toArray)) (k+1) A.length)=u++([13,10]++cat (aj ((A++u++e++B).toArray) (sx "\r\n") (mh ((A++u++e++B).toArray)) k (A++u++e).length)):=by
 revert h1 h2 h3;exists A,u,e,B,k;obtain⟨c,r,he,hc⟩:=oQ h2;have ln:=DV (A:=A++u) h2 h3
 have fd:=HW hc u A (r++B) ((A++u++e++B).toArray.size+1-A.length) h1 (by rw[List.size_toArray,List.append_assoc,List.append_assoc,List.length_append,Nat.add_assoc,Nat.add_sub_cancel_left,List.length_append];exact Nat.lt_succ_of_le (OI _ _))
 rw[show A++(u++c::(r++B))=A++u++e++B by rw[he];simp]at fd;have pc:=lH A u (e++B);rw[<-List.append_assoc]at pc;generalize (A++u++e++B).toArray=T at fd ln pc ⊢;rw[aj];unfold mh at*;rw[fd];show cat ((if A.length<A.length+u.length then [(⟨T.extract A.length (A.length+u.length)⟩:Str)] else [])++sx "\r\n"::aj T (sx "\r\n") _ k (A.length+u.length+fz T (A.length+u.length)))=_;rw[<-List.length_append,ln,<-List.length_append,zr,List.length_append (bs:=u),pc]
 rfl
theorem AL(L:List (List Nat×List Nat)):∀(A:List Nat) (k:Nat),gh L->(bP L).length<k->cat (aj ((A++bP L).toArray) (sx "\r\n") (mh ((A++bP L).toArray)) k A.length)=ay (L.map (·.1)):=by
 induction L with
 |nil=>
  intro A k _ hk;cases k with
  |zero=>exact O8 hk (OM _)
  |succ k=>unfold aj mh;rw[show bP []=([]:List Nat) from rfl,HX _ [] A (λ_ h=>nomatch h)];simp [cat,ay]
 |cons p L ih=>
  obtain⟨u,e⟩:=p;intro A k h hk;cases k with
  |zero=>exact O8 hk (Pe _)
  |succ k=>
   have et:bP ((u,e)::L)=u++e++bP L:=List.flatMap_cons
   have hl:(bP L).length<k:=by obtain⟨c,r,he,_⟩:=oQ h.2.1;rw[et,List.length_append,List.length_append]at hk;refine OD (Nat.lt_add_of_pos_left ?_) (Nat.le_of_lt_succ hk);exact OD (show 0<e.length by rw[show e=_ from he];exact Nat.succ_pos _) (Nat.le_add_left _ _)
   rw[et,<-List.append_assoc,<-List.append_assoc,AK h.1 h.2.1 h.2.2.1,ih (A++u++e) k h.2.2.2 hl];rw[<-List.append_assoc]
   rfl
theorem xC(h:gh L):bV ⟨(bP L).toArray⟩=⟨(ay (L.map (·.1))).toArray⟩:=by
 have:=AL L [] ((bP L).length+1) h (O6 _)
 have e:(bV ⟨(bP L).toArray⟩).cps.toList=ay (L.map (·.1)):=by unfold bV;rw[oP];simpa [Str.length]using this
 cases hx:bV ⟨(bP L).toArray⟩ with
 |mk a=>rw[hx]at e;rw[<-e]
noncomputable def iJ(A:List Nat):Bool:=match A.getLast? with
 |none=>true
 |some c=>c==10
theorem fS(A:List Nat)(c:Nat):iJ (A++[c])=(c==10):=by unfold iJ;simp
theorem oR(A:List Nat)(c:Nat)(B:List Nat):fy ((A++c::B).toArray) A.length=(iJ A&&c==46):=by
 unfold fy;rw[getD_at];have h2:decide (A.length<(A++c::B).toArray.size)=true:=by simp
 rw[h2,Bool.and_true]
 congr 1
 rcases List.eq_nil_or_concat A with rfl|⟨A0,z,rfl⟩
 ·rfl
 ·rw[List.concat_eq_append,fS];have e:(A0++[z])++c::B=A0++z::(c::B):=by simp
  have e2:(A0++[z]).length-1=A0.length:=by simp
  rw[e,e2,getD_at];have:((A0++[z]).length==0)=false:=by simp
  rw[this,Bool.false_or]
theorem AM(h:text.size<=s):fy text s=false:=by
 unfold fy;have:decide (s<text.size)=false:=by simpa using h
 rw[this];simp
theorem vw:∀(k s:Nat),text.size<=s->bN text k s=none
 |0,_,_=>rfl
 |k+1,s,h=>by unfold bN;rw[if_neg (by rw[AM h];decide)];exact vw k (s+1) (OK h)
noncomputable def mq:List Nat->List Nat->Prop
 |_,[]=>True
 |A,c::w=>(iJ A&&c==46)=false/\mq (A++[c]) w
theorem qW:∀{w A v:List Nat},mq A w->mq (A++w) v->mq A (w++v)
 | [],A,v,_,h=>by simpa using h
 |c::w,A,v,h,h'=>⟨h.1,qW h.2 (by simpa using h')⟩
theorem lI:∀{u A:List Nat},jO u->(iJ A=false\/u.head?≠some 46)->mq A (u++[13,10])
 | [],A,_,_=>⟨by simp,by simp,trivial⟩
 |c::u,A,hn,h=>by
  refine⟨?_,lI (λx hx=>hn x (.tail _ hx)) (.inl ?_)⟩
  ·rcases h with h|h
   ·rw[h];rfl
   ·have:(c==46)=false:=by simpa using h
    rw[this,Bool.and_false]
  ·rw[fS];have:=hn c (.head _);unfold lq at this;simp only [Bool.or_eq_false_iff]at this
   first|exact this.1|exact this.2
theorem HY(w A B:List Nat)(c:Nat):w.length<(A++w++c::B).length+1-A.length:=by rw[List.append_assoc,List.length_append,Nat.add_assoc,Nat.add_sub_cancel_left,List.length_append];exact Nat.lt_succ_of_le (OI _ _)
theorem DW(w:List Nat):∀(A B:List Nat) (k:Nat),mq A w->iJ (A++w)=true->w.length<k->bN ((A++w++46::B).toArray) k A.length=some (A.length+w.length):=by
 induction w with
 |nil=>
  intro A B k _ hl hk;cases k with
  |zero=>exact O8 hk (OM _)
  |succ k=>rw[List.append_nil]at hl ⊢;exact if_pos ((oR A 46 B).trans (ON (·&&(46:Nat)==46) hl))
 |cons c w ih=>
  intro A B k hn hl hk;cases k with
  |zero=>exact O8 hk (Pe _)
  |succ k=>have e2:(A++c::w++46::B).toArray=(A++c::(w++46::B)).toArray:=ON List.toArray (List.append_assoc ..);have e3:(A++c::w++46::B).toArray=(A++[c]++w++46::B).toArray:=ON List.toArray (ON (·++46::B) (List.append_assoc A [c] w).symm);have nd:fy (A++c::w++46::B).toArray A.length=false:=e2▸(oR A c _).trans hn.1;refine(if_neg (λq=>Bool.noConfusion (nd.symm.trans q))).trans ?_;have h:=ih (A++[c]) B k hn.2 ((List.append_assoc A [c] w).symm▸hl) (Nat.lt_of_succ_lt_succ hk);rw[e3,<-show(A++[c]).length=A.length+1 from List.length_append];exact h.trans (ON some (by rw[List.length_append,Nat.add_assoc];exact ON (A.length+·) (Nat.add_comm 1 w.length)))
theorem vx:∀(w A:List Nat) (k:Nat),mq A w->bN ((A++w).toArray) k A.length=none
 |w,A,0,_=>rfl
 | [],A,k+1,_=>vw _ _ (by simp)
 |c::w,A,k+1,hn=>by
  have e:A++c::w=(A++[c])++w:=by simp
  have ih:=vx w (A++[c]) k hn.2;unfold bN;rw[oR,hn.1,e];rw[List.length_append]at ih;exact ih
noncomputable def dbl(u:List Nat):List Nat:=if u.head?=some 46 then 46::u else u
theorem dB(u:List Nat)(us:List (List Nat)):ay (u::us)=u++[13,10]++ay us:=by simp [ay]
theorem vy(a:Str)(b:List Str):cat (a::b)=a.cps.toList++cat b:=by simp [cat]
theorem oS(A u:List Nat):iJ (A++(u++[13,10]))=true:=by
 have:A++(u++[13,10])=(A++u++[13])++[10]:=by simp
 rw[this,fS];rfl
noncomputable def pce(T:Array Nat)(a b:Nat):List Str:=if a<b then [⟨T.extract a b⟩] else []
theorem DX(fd:bN T (T.size+1-a) a=some b):cat (aj T (sx "..") (kf T) (k+1) a)=cat (pce T a b)++([46,46]++cat (aj T (sx "..") (kf T) k (b+1))):=by have e:kf T a=some (b,b+1):=ON (Option.map λp=>(p,p+1)) fd;rw[aj,e];exact(zr _ _).trans (ON (cat (pce T a b)++·) (vy _ _))
theorem HZ(fd:bN T (T.size+1-a) a=none):cat (aj T (sx "..") (kf T) (k+1) a)=cat (pce T a T.size):=by
 have e:kf T a=none:=ON (Option.map λp=>(p,p+1)) fd;rw[aj,e]
 rfl
theorem AN(T:Array Nat)(us:List (List Nat)):∀(A w:List Nat) (k:Nat),T=(A++w++ay us).toArray->(∀u∈us,jO u)->mq A w->iJ (A++w)=true->(w++ay us).length<k->
  cat (aj T (sx "..") (kf T) k A.length)=w++ay (us.map dbl):=by
 induction us with
 |nil=>
  intro A w k hT _ hn _ hk;cases k with
  |zero=>exact O8 hk (Pe _)
  |succ k=>
   have hT':T=(A++w).toArray:=hT.trans (ON List.toArray (List.append_nil _));have hs:T.size=A.length+w.length:=by rw[hT',List.size_toArray,List.length_append]
   refine(HZ (by rw[hT'];exact vx w A _ hn)).trans ?_;rw[hs,hT];exact(lH A w _).trans (List.append_nil w).symm
 |cons u us ih=>
  intro A w k hT hu hn hl hk;have hu1:=hu u (.head _);have hu2:∀v∈us,jO v:=λv hv=>hu v (.tail _ hv);rw[dB]at hT hk
  by_cases hd:u.head?=some 46
  ·cases u with
   |nil=>cases hd
   |cons c u'=>
    cases k with
    |zero=>exact O8 hk (Pe _)
    |succ k=>
     have hc:c=46:=OH hd;have et:T=(A++w++46::(u'++[13,10]++ay us)).toArray:=hT.trans (by rw[hc];rfl);have et2:T=(A++w++[46]++(u'++[13,10])++ay us).toArray:=et.trans (ON List.toArray (by rw[List.append_assoc (A++w) [46],List.append_assoc (A++w)];rfl));refine(DX (b:=A.length+w.length) (by rw[et];exact DW w A _ _ hn hl (HY w A _ _))).trans ?_
     have h:=ih (A++w++[46]) (u'++[13,10]) k et2 hu2 (lI (λx hx=>hu1 x (.tail _ hx)) (.inl (by rw[fS];rfl))) (oS _ _) (by rw[List.length_append]at hk;exact Nat.lt_of_succ_lt_succ (O9 (Nat.le_add_left (u'++[13,10]++ay us).length.succ w.length) hk))
     rw[show A.length+w.length+1=(A++w++[46]).length by rw[List.length_append,List.length_append];rfl,h];refine(ON (·++_) ((ON (λt=>cat (pce t A.length (A.length+w.length))) et).trans (lH A w _))).trans ?_;rw[List.map_cons,dB,show dbl (c::u')=46::46::u' by rw[hc];rfl]
     rfl
  ·have h:=ih A (w++(u++[13,10])) k (hT.trans (ON List.toArray ((List.append_assoc (A++w) (u++[13,10]) (ay us)).symm.trans (ON (·++ay us) (List.append_assoc A w (u++[13,10])))))) hu2 (qW hn (lI hu1 (.inr hd))) (List.append_assoc A w _▸oS _ _) (by rw[List.append_assoc];exact hk);rw[h,List.map_cons,dB,show dbl u=u from if_neg hd,List.append_assoc]
theorem str_of_list{x:Str}{l:List Nat}(h:x.cps.toList=l):x=⟨l.toArray⟩:=by cases x;cases h;rfl
theorem xD(h:∀u∈us,jO u):eD ⟨(ay us).toArray⟩=⟨(ay (us.map dbl)).toArray⟩:=by have:=AN _ us [] [] ((ay us).length+1) rfl h trivial rfl (O6 _);refine str_of_list ?_;unfold eD;rw[oP];simpa [Str.length]using this
noncomputable def crlf:Str:=sx "\r\n"
theorem gB:crlf.length=2:=by right
theorem AO:crlf.cps.toList=[13,10]:=by right
theorem xE{l:List Nat}{i:Nat}:At ⟨l.toArray⟩ crlf l.length i↔i+2<=l.length/\(l.drop i).take 2=[13,10]:=by unfold At;rw[gB,subAt_eq,gB,AO];simp
theorem sD:At ⟨(A++u++[13,10]++B).toArray⟩ crlf (A++u++[13,10]++B).length (A.length+u.length):=by
 rw[xE];refine⟨by simp;lia,?_⟩;have:(A++u++[13,10]++B)=(A++u)++([13,10]++B):=by simp
 rw[this,show A.length+u.length=(A++u).length by simp,List.drop_left]
 rfl
theorem K7(hu:jO u)(h1:A.length<=i)(h2:i<A.length+u.length):¬At ⟨(A++u++B).toArray⟩ crlf (A++u++B).length i:=by
 rw[xE]
 rintro ⟨_,h⟩
 have e:(A++u++B).drop i=(u++B).drop (i-A.length):=by rw[List.append_assoc,List.drop_append];rw[List.drop_of_length_le h1,List.nil_append]
 rw[e]at h;have hlt:i-A.length<u.length:=by lia
 have h3:((u++B).drop (i-A.length)).head?=some 13:=by
  cases hq:(u++B).drop (i-A.length) with
  |nil=>rw[hq]at h;cases h
  |cons c r=>rw[hq]at h;simp at h;rw[h.1];rfl
 rw[List.head?_drop,List.getElem?_append_left hlt]at h3;have:=hu 13 (List.mem_of_getElem? h3);exact O8 this (by left)
theorem oU(A u B:List Nat):strSub ⟨(A++u++B).toArray⟩ A.length (A.length+u.length)=⟨u.toArray⟩:=by refine str_of_list ?_;exact zp A u B
theorem oV:∀(us:List (List Nat)) (A:List Nat) (cuts:List Nat) (f:Nat),(∀u∈us,jO u)->ChainG ⟨(A++ay us).toArray⟩ crlf (A++ay us).length A.length cuts f->(∀k,f<=k->¬At ⟨(A++ay us).toArray⟩ crlf (A++ay us).length k)->
  partsFrom ⟨(A++ay us).toArray⟩ 2 A.length cuts=us.map (λu=>⟨u.toArray⟩)++[⟨#[]⟩]
 | [],A,[],f,_,_,_=>by
  have e:A++ay []=A++[]++[]:=by simp [ay]
  rw[e];have:=oU A [] [];show [strSub _ A.length (Str.length ⟨(A++[]++[]).toArray⟩)]=_;have hl2:Str.length (⟨(A++([]:List Nat)++([]:List Nat)).toArray⟩:Str)=A.length+([]:List Nat).length:=by simp [Str.length]
  rw[hl2,this]
  rfl
 | [],A,c::r,f,_,h,_=>by
  have h1:=h.1;have h2:=(xE.mp h.2.1).1;have:(A++ay []).length=A.length:=by simp [ay]
  lia
 |u::us,A,[],f,hu,h,hn=>by
  have hf:f=A.length:=h;have e:A++ay (u::us)=A++u++[13,10]++ay us:=by rw[dB];simp
  have:=sD (A:=A) (u:=u) (B:=ay us);rw[<-e]at this;exact O8 this (hn _ (by lia))
 |u::us,A,c::r,f,hu,h,hn=>by
  have e:A++ay (u::us)=A++u++[13,10]++ay us:=by rw[dB];simp
  have ha:=sD (A:=A) (u:=u) (B:=ay us)
  have hno:∀i,A.length<=i->i<A.length+u.length->¬At ⟨(A++ay (u::us)).toArray⟩ crlf (A++ay (u::us)).length i:=λi h1 h2=>by have:=K7 (B:=[13,10]++ay us) (hu u (.head _)) h1 h2;rw[<-List.append_assoc,<-e]at this;exact this
  rw[<-e]at ha;obtain⟨c1,c2,c3,c4⟩:=h
  have hc:c=A.length+u.length:=by
   rcases Nat.lt_trichotomy c (A.length+u.length) with q|q|q
   ·exact O8 c2 (hno c c1 q)
   ·exact q
   ·exact O8 ha (c3 _ (by lia) q)
  subst hc;have e2:A++ay (u::us)=(A++u++[13,10])++ay us:=e;have hl:A.length+u.length+2=(A++u++[13,10]).length:=by simp;lia
  rw[gB,hl,e2]at c4;rw[e2]at hn;have ih:=oV us (A++u++[13,10]) r f (λv hv=>hu v (.tail _ hv)) c4 hn;show strSub _ A.length (A.length+u.length)::partsFrom _ 2 (A.length+u.length+2) r=_;rw[hl,e2,ih];have sm:=oU A u ([13,10]++ay us);rw[<-List.append_assoc]at sm;rw[sm]
  rfl
theorem DY:Builtin.Str.strKind crlf=1:=by right
theorem DZ(x:Str):1<=Builtin.Str.strKind x:=by
 unfold Builtin.Str.strKind;split
 ·lia
 ·split<;>lia
theorem xF(h:∀u∈us,jO u):Txt.split ⟨(ay us).toArray⟩ crlf=us.map (λu=>⟨u.toArray⟩)++[⟨#[]⟩]:=by
 cases us with
 |nil=>right
 |cons u us=>
  unfold Txt.split
  have hlen:¬(Str.length ⟨(ay (u::us)).toArray⟩<crlf.length):=by rw[gB];simp [Str.length,ay];lia
  have hk:¬(Builtin.Str.strKind ⟨(ay (u::us)).toArray⟩<Builtin.Str.strKind crlf):=by rw[DY];have:=DZ ⟨(ay (u::us)).toArray⟩;lia
  rw[if_neg (by simp only [Bool.or_eq_true,decide_eq_true_eq];rintro (q|q);exact hlen q;exact hk q)];obtain⟨f,c1,c2⟩:=occ_tight ⟨(ay (u::us)).toArray⟩ crlf (by rw[gB];decide);have sz:Str.length ⟨(ay (u::us)).toArray⟩=(ay (u::us)).length:=by simp [Str.length]
  rw[sz]at c1 c2 ⊢;have pr:=oV (u::us) [] _ f h (by simpa using c1) (by simpa using c2);rw[if_neg,partsBetween_eq,gB]
  ·simpa using pr
  ·intro he;have hemp:occurrences ⟨(ay (u::us)).toArray⟩ crlf 0 (ay (u::us)).length ((ay (u::us)).length+1)=[]:=List.isEmpty_iff.mp he;rw[hemp]at c1;have hf:f=0:=c1;have:=sD (A:=[]) (u:=u) (B:=ay us);have e:[]++u++[13,10]++ay us=ay (u::us):=by rw[dB];simp
   rw[e]at this;exact c2 _ (by lia) this
end
section
noncomputable def qX(as:List MV):Pj MV:=(three as).bind λt=>(d5 t.1).bind λms=>(strOf t.2.2).bind λs=>(DR ms).bind λpts=>if qp t.2.1=true/\mm s=true then some (.bool (fP s.cps.toList pts)) else none
theorem K8(h:∀o∈pts,pY o):DR (pts.map ptM)=some pts:=sA (λo h=>by
 cases o with
 |none=>rfl
 |some p=>exact if_pos (h p rfl)) h
theorem Ia(as:List MV)(v:MV)(h:qX as=some v):mk dA (SS spN) 30 "_law_fits" l_fits.ps [] false as=some v:=by ext e0z e h;obtain⟨a,b,c⟩:=e0z;cases fk e;ext ms e h;cases bZ e;ext s e h;cases aF e;ext pts e h;obtain⟨rfl,e2⟩:=m9 zk e;injections e0z h;obtain⟨ho,hk⟩:=e0z;cases h;cases ir ho;obtain⟨c1,c2⟩:=fQ hk;have:=DE (r:=s.cps.toList) (pts:=pts) (OA c2 (by left)) c1 e2;rw[<-kz]at this;exact this
theorem D0(hp:∀o∈pts,pY o)(hc:∀c∈r,aH c)(hr:r.length<=30):qX [.list (pts.map ptM),.opq,.str (ah r)]=some (.bool (fP r pts)):=by
 have e:(ah r).cps.toList=r:=by simp [ah]
 refine bnd rfl (bnd rfl (bnd rfl (bnd (K8 hp) ?_)));refine(if_pos ⟨rfl,jN hc hr⟩).trans ?_;rw[e]
noncomputable def qdG(as:List MV):Pj MV:=((one as).bind strOf).bind λx=>if x.length<=1000/\(bV x).length<=3000 then some (.str (eD (bV x))) else none
noncomputable def qdE:Pm:=uQ (pB "quotedata").body
theorem Ib:(pB "quotedata").body=[.Return (some qdE) (ou (pB "quotedata").body)]:=nofun
noncomputable def qdA:Pm:=cA qdE 1
theorem MK:qdE= .Call (.Attribute (.Name (sx "twin_re_1_smtplib") (bL (cF qdE)).pos) (sx "sub") (cF qdE).pos) [cA qdE 0,.Call (.Attribute (.Name (sx "_twin_re_2") (bL (cF qdA)).pos) (sx "sub") (cF qdA).pos) [cA qdA 0,.Name (sx "data") (cA qdA 1).pos] [] qdA.pos] [] qdE.pos:=nofun
theorem Ic(h:x.length<=1000):jq (SS sp) (sx "sub") (.ex (.ref 41)) [.str (sx "\r\n"),.str x]=some (.str (bV x)):=by refine Eq.trans (?_:_=yU (SS sp) 41 (sx "\r\n") x) ((if_pos rfl).trans (if_pos ⟨rfl,h⟩));symm
theorem Ie(h:x.length<=3000):jq (SS sp) (sx "sub") (.ex (.ref 36)) [.str (sx ".."),.str x]=some (.str (eD x)):=by refine Eq.trans (?_:_=yU (SS sp) 36 (sx "..") x) ((if_neg (by left)).trans ((if_pos rfl).trans (if_pos ⟨rfl,h⟩)));symm
theorem K9(h1:x.length<=1000)(h2:(bV x).length<=3000):mk fn0 (SS spN) 20 "quotedata" quotedata.ps [] false [.str x]=some (.str (eD (bV x))):=by refine cU rfl rfl ?_ (.inl rfl);show ∃ρ',(mx fn0 (SS spN) false 20).ex (pB "quotedata").names [(sx "data",.str x)] (pB "quotedata").body=_;rw[Ib];refine⟨_,bI rfl ?_ rfl⟩;rw[MK];refine fR ag (v:= .ex (.ref 36)) nofun ?_ (gy (u:= .str (sx "..")) nofun nofun ?_ (fR ag (v:= .ex (.ref 41)) (pos:=qdA.pos) nofun ?_ (gy (u:= .str (sx "\r\n")) (v:= .str x) nofun nofun ?_ ?_) (Ic h1))) (Ie h2)<;>symm
theorem ML(as:List MV)(v:MV)(h:qdG as=some v):mk fn0 (SS spN) 20 "quotedata" quotedata.ps [] false as=some v:=by ext s e h;revert e;refine bdE λm e el=>?_;cases bf e;cases aF el;injections hk h;cases h;exact K9 hk.1 hk.2
noncomputable def cW(r:List Nat):List Nat:=if r.head?=some 46 then r.tail else r
noncomputable def gW(c:Bool)(rs:List (List Nat)):List (List Nat):=if c then rs else rs.map cW
noncomputable def lJ(e:List Nat)(pts:List (Pj Str))(rs:List (List Nat)):List Nat:=(rs.filter λr=> !fP r pts).flatMap (·++e)
noncomputable def cC(x:Str):List (List Nat):=((Txt.split (eD (bV x)) crlf).dropLast).map (·.cps.toList)
noncomputable def jP(rs:List (List Nat)):Bool:=decide (rs.length<=100)&&rs.all λr=>mm (ah r)
noncomputable def D1(as:List MV):Pj (Str×Bool×Str×List Nat):=(two as).bind λxs=>(strOf xs.1).bind λx=>((tO xs.2).bind three).bind λt=>(boolOf t.1).bind λc=>(strOf t.2.1).bind λe=>((d5 t.2.2).bind qQ).map λis=>(x,c,e,is)
noncomputable def oW(as:List MV):Pj MV:=(D1 as).bind λt=>(three t.2.2.2).bind λi=>if t.1.length<=1000/\(bV t.1).length<=3000/\(eD (bV t.1)).length<=5000/\jP (cC t.1)=true/\t.2.2.1.length<=2 then some (.str (ah (lJ t.2.2.1.cps.toList (mW [i.1,i.2.1,i.2.2]) (gW t.2.1 (cC t.1))))) else none
theorem D2(h:D1 as=some (x,c,e,is)):as=[.str x,.tup [.bool c,.str e,.list (is.map pcM)]]/\∀i∈is,i<6:=by revert h;exists as,x,c,e,is;ext e0z q h;obtain⟨a,b⟩:=e0z;cases d6 q;ext x q h;cases aF q;ext e0z q h;obtain⟨u,v,w⟩:=e0z;ext l ql q;cases fk q;cases jZ ql;ext c q h;cases i7 q;ext e q h;cases aF q;revert h;refine mpE λis q h=>?_;ext l ql q;obtain⟨rfl,hi⟩:=ky q;cases bZ ql;cases h;exact⟨rfl,hi⟩
noncomputable def iK:Fns:=⟨λa=>if a=79 then some (51,trG) else if a=48 then some (21,qdG) else if a=126 then some (31,qX) else none⟩
noncomputable abbrev dY:Sc:=(pB "_law_hop").names
noncomputable def hoB:List Pq:=(pB "_law_hop").body
noncomputable abbrev hoP(n:Nat):P:=me iK (SS spN) n
noncomputable def qa:Pq:=stN hoB 4
noncomputable def iL:Pm:=aE (stN (aB qa) 0)
noncomputable def hoR:Pm:=aE (stN hoB 5)
noncomputable def cZ:Pm:=cA hoR 0
theorem Ig:(pB "_law_hop").body=[stN hoB 0,.Assign [.Name (sx "star") (aQ (stN hoB 1))] (aE (stN hoB 1)) (aP (stN hoB 1)),.Assign [.Name (sx "parts") (aQ (stN hoB 2))] (aE (stN hoB 2)) (aP (stN hoB 2)),.Assign [.Name (sx "rows") (aQ (stN hoB 3))] (aE (stN hoB 3)) (aP (stN hoB 3)),.If (aE qa) [.Assign [.Name (sx "rows") (aQ (stN (aB qa) 0))] (bU iL (sx "row")) (aP (stN (aB qa) 0))] [] (aP qa),.Return (some hoR) (aP (stN hoB 5))]:=nofun
noncomputable abbrev ho0(x:Str)(c:Bool)(e:Str)(a b d:Nat):Rho:=[(sx "server",.tup [.bool c,.str e,.list [pcM a,pcM b,pcM d]]),(sx "text",.str x)]
noncomputable abbrev ho1(x:Str)(c:Bool)(e:Str)(a b d:Nat):Rho:=gM (ho0 x c e a b d) [sx "careless",sx "end",sx "pieces"] [.bool c,.str e,.list [pcM a,pcM b,pcM d]]
noncomputable abbrev ho2(x:Str)(c:Bool)(e:Str)(a b d:Nat):Rho:=ae (ho1 x c e a b d) (sx "star") .opq
noncomputable abbrev ho3(x:Str)(c:Bool)(e:Str)(a b d:Nat)(pts:List (Pj Str)):Rho:=ae (ho2 x c e a b d) (sx "parts") (.list (pts.map ptM))
noncomputable def rsM(rs:List (List Nat)):MV:= .list (rs.map λr=> .str (ah r))
noncomputable abbrev ho4(x:Str)(c:Bool)(e:Str)(a b d:Nat)(pts:List (Pj Str))(rs:List (List Nat)):Rho:=ae (ho3 x c e a b d pts) (sx "rows") (rsM rs)
theorem MM(x:Str)(c:Bool)(e:Str)(a b d:Nat):stF (hoP 99) (mx iK (SS spN) true 99) 99 dY (ho0 x c e a b d) (stN hoB 0)=some (.next,ho1 x c e a b d):=nofun
theorem MN(x:Str)(c:Bool)(e:Str)(a b d:Nat):bo (hoP 99) true dY (ho1 x c e a b d) (sx "star") (aQ (stN hoB 1)).line (aE (stN hoB 1))=some (ho2 x c e a b d):=nofun
theorem xG:Txt.join (sx "") l=⟨(cat l).toArray⟩:=by
 have e:sx ""=Str.empty:=by right
 rw[e];exact str_of_list (oP l)
theorem xH(h:i<6):(fA i).length<=5:=by
 have:i=0\/i=1\/i=2\/i=3\/i=4\/i=5:=by lia
 rcases this with rfl|rfl|rfl|rfl|rfl|rfl<;>right
theorem ng(ha:itemsOf a=some l)(hl:strsOf l=some ys)(hz:bF ys<=16777216):jq S (sx "join") (.str (sx "")) [a]=some (.str ⟨(cat ys).toArray⟩):=by
 have e:jq S (sx "join") (.str (sx "")) [a]=((itemsOf a).bind strsOf).bind λys=>if bF ys+ys.length*(sx "").length<=16777216 then some (.str (Txt.join (sx "") ys)) else none:=if_pos (c:=sx "join"=sx "join") (e:=match a with
  | .str y=>if sx "join"=sx "split" then(if y.length=0\/100000<(sx "").length then none else some (.list ((Txt.split (sx "") y).map .str))) else if sx "join"=sx "lstrip" then(if(sx "").length<=sizeLine then some (.str (Txt.lstripChars (sx "") y)) else none) else none
  |_=>none) rfl
 rw[e,ha,Option.bind_some,hl,Option.bind_some,if_pos,xG];rw[show(sx "").length=0 by right];omega
theorem vz(ha:a<6)(hb:b<6)(hd:d<6):jq S (sx "join") (.str (sx "")) [.list [pcM a,pcM b,pcM d]]=some (.str (ah (jl [a,b,d]))):=by
 rw[ng (l:=[pcM a,pcM b,pcM d]) (ys:=[fA a,fA b,fA d]) rfl rfl]
 ·simp [cat,jl,pcL,ah]
 ·have:=xH ha;have:=xH hb;have:=xH hd;simp [bF];lia
theorem oX(ha:notStar a=true)(hb:notStar b=true)(hc:notStar c=true)(h1:p.ev sc ρ a=some u)(h2:p.ev sc ρ b=some v)(h3:p.ev sc ρ c=some w):aT p sc ρ [a,b,c]=some [u,v,w]:=(if_pos ha).trans (bnd h1 (ON (Option.map _) (gy hb hc h2 h3)))
theorem iO{p:P}{st:Bool}{sc:Sc}{ρ:Rho}{y f:Str}{q u:Pos}{line:Nat}{as:List Pm}{v:MV}(hc:aR sc y=true)(h1:f≠sx "object")(h2:f≠sx "iter")(h:p.ev sc ρ (.Call (.Name f q) as [] u)=some v)(hp:v.plain=true):bo p st sc ρ y line (.Call (.Name f q) as [] u)=some (ae ρ y v):=(if_neg (not_false hc)).trans ((if_neg h1).trans ((if_neg h2).trans (m6 h hp)))
noncomputable def hoA:Pm:=aE (stN hoB 2)
theorem Ih:hoA= .Call (.Name (sx "_translate") (cF hoA).pos) [.Call (.Attribute (bL (cF (cA hoA 0))) (sx "join") (cF (cA hoA 0)).pos) [.Name (sx "pieces") (cA (cA hoA 0) 0).pos] [] (cA hoA 0).pos,.Name (sx "star") (cA hoA 1).pos,cA hoA 2] [] hoA.pos:=nofun
theorem Lb(ha:a<6)(hb:b<6)(hd:d<6):trG [.str (ah (jl [a,b,d])),.opq,.str (sx ".")]=some (.list ((mW [a,b,d]).map ptM)):=by
 refine bnd rfl (bnd rfl (bnd rfl ?_));refine(if_pos ⟨rfl,rfl⟩).trans ?_;rw[show(ah (jl [a,b,d])).cps.toList=jl [a,b,d] by simp [ah],qT ha hb hd]
 rfl
theorem MO(x:Str)(c:Bool)(e:Str){a b d:Nat}(ha:a<6)(hb:b<6)(hd:d<6):bo (hoP 99) true dY (ho2 x c e a b d) (sx "parts") (aQ (stN hoB 2)).line (aE (stN hoB 2))=some (ho3 x c e a b d (mW [a,b,d])):=by
 rw[show aE (stN hoB 2)=hoA from rfl,Ih];have a1:(hoP 98).ev dY (ho2 x c e a b d) (.Name (sx "_translate") (cF hoA).pos)=some (.ex (.ref 79)):=nofun
 have a2:(hoP 97).ev dY (ho2 x c e a b d) (bL (cF (cA hoA 0)))=some (.str (sx "")):=nofun
 have a3:(hoP 97).ev dY (ho2 x c e a b d) (.Name (sx "pieces") (cA (cA hoA 0) 0).pos)=some (.list [pcM a,pcM b,pcM d]):=nofun
 have a4:(hoP 98).ev dY (ho2 x c e a b d) (.Name (sx "star") (cA hoA 1).pos)=some .opq:=nofun
 have a5:(hoP 98).ev dY (ho2 x c e a b d) (cA hoA 2)=some (.str (sx ".")):=nofun
 have a6:=fR ag (apos:=(cF (cA hoA 0)).pos) (pos:=(cA hoA 0).pos) nofun a2 (cH nofun a3) (vz ha hb hd);refine iO nofun (by right) (by right) (bq ag a1 (oX nofun nofun nofun a6 a4 a5) (show iK.f 79=some (51,trG) by symm) (by left) rfl (Lb ha hb hd)) (fh _)
theorem AP{α:Type}{l:List α}:de l none (some (-1))=l.dropLast:=by
 have h1:kms_lo none l.length=0:=by unfold kms_lo;rfl
 have h2:kms_hi (some (-1)) l.length=l.length-1:=by unfold kms_hi;simp
 unfold de;rw[h1,h2,List.dropLast_eq_take];simp
theorem xI{l:List MV}(hp:aa l=true)(hz:l.length<=1000):dh (.list l) none (some (-1))=some (.list l.dropLast):=by show(if aa l&&decide (l.length<=1000) then some (MV.list (de l none (some (-1)))) else none)=_;rw[hp,if_pos (by simpa using hz),AP]
theorem jQ:∀l:List Str,aa (l.map MV.str)=true
 | []=>rfl
 |a::l=>by show(true&&aa (l.map MV.str))=true;rw[jQ l];rfl
theorem D3(hz:x.length<=5000):jq S (sx "split") (.str x) [.str (sx "\r\n")]=some (.list ((Txt.split x crlf).map .str)):=by
 have e:jq S (sx "split") (.str x) [.str (sx "\r\n")]=(if(sx "\r\n").length=0\/100000<x.length then none else some (.list ((Txt.split x (sx "\r\n")).map .str))):=nofun
 rw[e,if_neg]
 ·rfl
 rintro (q|q)
 ·exact O8 q (by right)
 ·lia
theorem bJ:ig p sc ρ none=some none:=rfl
noncomputable def hoD:Pm:=aE (stN hoB 3)
noncomputable def hoS:Pm:=bL hoD
noncomputable def sHi(e:Pm):Pm:=bR e
theorem Ii:hoD= .Subscript (.Call (.Attribute (.Call (.Name (sx "quotedata") (cF (bL (cF hoS))).pos) [.Name (sx "text") (cA (bL (cF hoS)) 0).pos] [] (bL (cF hoS)).pos) (sx "split") (cF hoS).pos) [cA hoS 0] [] hoS.pos) (.Slice none (some (sHi (bR hoD))) none (bR hoD).pos) hoD.pos:=nofun
theorem Ij(s:Str):ah s.cps.toList=s:=kz.symm
theorem zu(x:Str):rsM (cC x)= .list ((Txt.split (eD (bV x)) crlf).map MV.str).dropLast:=by
 unfold rsM cC;rw[List.map_map,<-List.map_dropLast]
 congr 1
theorem Ik(x:Str)(h:(cC x).length<=100):(Txt.split (eD (bV x)) crlf).length<=101:=by
 unfold cC at h;simp at h
 first|done|omega
theorem MP(c:Bool)(e:Str)(a b d:Nat)(pts:List (Pj Str))(h1:x.length<=1000)(h2:(bV x).length<=3000)(h3:(eD (bV x)).length<=5000)(h4:(cC x).length<=100):bo (hoP 99) true dY (ho3 x c e a b d pts) (sx "rows") (aQ (stN hoB 3)).line (aE (stN hoB 3))=some (ho4 x c e a b d pts (cC x)):=by
 have q1:(hoP 96).ev dY (ho3 x c e a b d pts) (.Name (sx "quotedata") (cF (bL (cF hoS))).pos)=some (.ex (.ref 48)):=nofun
 have q2:(hoP 96).ev dY (ho3 x c e a b d pts) (.Name (sx "text") (cA (bL (cF hoS)) 0).pos)=some (.str x):=nofun
 have q3:(hoP 97).ev dY (ho3 x c e a b d pts) (cA hoS 0)=some (.str (sx "\r\n")):=nofun
 have q4:(hoP 98).ev dY (ho3 x c e a b d pts) (sHi (bR hoD))=some (.int (-1)):=nofun
 have hq:qdG [.str x]=some (.str (eD (bV x))):=if_pos ⟨h1,h2⟩;have r1:=bq ag (pos:=(bL (cF hoS)).pos) q1 (cH nofun q2) (show iK.f 48=some (21,qdG) by symm) (by left) rfl hq;have r2:=fR ag (apos:=(cF hoS).pos) (pos:=hoS.pos) nofun r1 (cH nofun q3) (D3 h3);have r3:=cj ag (q:=(bR hoD).pos) (q':=hoD.pos) r2 (bJ) (bb q4) (xI (jQ _) (by rw[List.length_map];have:=Ik x h4;lia));rw[<-zu]at r3;refine km nofun nofun ?_ ?_
 ·rw[show aE (stN hoB 3)=hoD from rfl,Ii];exact r3
 ·rw[zu,<-List.map_dropLast];exact jQ _
noncomputable def hV:Pm:=aw iL
noncomputable def ifT(e:Pm):Pm:=cA e 0
noncomputable def ifB(e:Pm):Pm:=cA e 1
noncomputable def ifO(e:Pm):Pm:=cA e 2
theorem D4:hV= .IfExp (.Compare (.Subscript (.Name (sx "row") (bL (bL (ifT hV))).pos) (.Slice none (some (sHi (bR (bL (ifT hV))))) none (bR (bL (ifT hV))).pos) (bL (ifT hV)).pos) [.Eq] [bR (ifT hV)] (ifT hV).pos) (.Subscript (.Name (sx "row") (bL (ifB hV)).pos) (.Slice (some (sLo (bR (ifB hV)))) none none (bR (ifB hV)).pos) (ifB hV).pos) (.Name (sx "row") (ifO hV).pos) hV.pos:=nofun
theorem xJ(hs:∀n sc ev e,S.spec n sc ev e=none)(h:(me F S n).tst sc ρ t=some v)(hb:(me F S n).ev sc ρ (if v then b else o)=u):(me F S (n+1)).ev sc ρ (.IfExp t b o q)=u:=by refine(iG hs).trans (bnd h ?_);cases v<;>exact hb
theorem D5{α:Type}{l:List α}:de l none (some 1)=l.take 1:=by
 have h1:kms_lo none l.length=0:=by unfold kms_lo;rfl
 have h2:kms_hi (some 1) l.length=min 1 l.length:=by unfold kms_hi;simp
 unfold de;rw[h1,h2,List.drop_zero,Nat.sub_zero];cases l<;>simp
theorem qY{r:List Nat}(hr:r.length<=1000):dh (.str (ah r)) none (some 1)=some (.str (ah (r.take 1))):=by
 show(if(ah r).length<=sizeLine then some (MV.str (jT (ah r) none (some 1))) else none)=_;rw[eI,if_pos (by rw[sizeLine_eq];lia)];unfold jT;have:(ah r).cps.toList=r:=by simp [ah]
 rw[this,D5]
 rfl
theorem D6{r:List Nat}:fL .Eq (.str (ah (r.take 1))) (.str (sx "."))=some (r.head?==some 46):=by
 show some (ah (r.take 1)==sx ".")=_
 congr 1
 cases r with
 |nil=>right
 |cons c t=>
  show((⟨#[c]⟩:Str)==sx ".")=(some c==some 46);have e:sx "."=⟨#[46]⟩:=by right
  rw[e,Bool.eq_iff_iff,beq_iff_eq,beq_iff_eq];simp
theorem D7{n:Nat}{sc:Sc}{ρ:Rho}{r:List Nat}(hr:r.length<=30)(h1:∀q,(hoP (n+3)).ev sc ρ (.Name (sx "row") q)=some (.str (ah r)))(h2:∀q,(hoP (n+4)).ev sc ρ (.Name (sx "row") q)=some (.str (ah r)))
  (k1:(hoP (n+3)).ev sc ρ (sHi (bR (bL (ifT hV))))=some (.int 1)) (k2:(hoP (n+4)).ev sc ρ (bR (ifT hV))=some (.str (sx "."))) (k3:(hoP (n+4)).ev sc ρ (sLo (bR (ifB hV)))=some (.int ((1:Nat):Int))) (h5:∀q,(hoP (n+5)).ev sc ρ (.Name (sx "row") q)=some (.str (ah r))):(hoP (n+6)).ev sc ρ hV=some (.str (ah (cW r))):=by
 rw[D4];refine xJ ag (en nofun (cj ag (h1 _) bJ (bb k1) (qY (by lia))) k2 D6) ?_
 by_cases h:r.head?=some 46
 ·obtain⟨t,rfl⟩:∃t,r=46::t:=by
   cases r with
   |nil=>cases h
   |cons c t=>cases h;exact⟨t,rfl⟩
  show(hoP (n+5)).ev sc ρ (.Subscript (.Name (sx "row") _) (.Slice (some _) none none _) _)=some (.str (ah t));exact cj ag (h2 _) (bb k3) bJ (lF (by simp) (by lia))
 ·have e:(r.head?==some 46)=false:=by simpa using h
  rw[e];have:cW r=r:=if_neg h;rw[this];exact h5 _
theorem dp:∀rs:List (List Nat),aa (rs.map λr=>MV.str (ah r))=true
 | []=>rfl
 |a::l=>by show(true&&aa (l.map λr=>MV.str (ah r)))=true;rw[dp l];rfl
noncomputable def dC:MV->List Nat
 | .str s=>s.cps.toList
 |_=>[]
theorem cJ(r:List Nat):dC (.str (ah r))=r:=by show(ah r).cps.toList=r;simp [ah]
theorem Oi(x:Str)(c:Bool)(e:Str)(a b d:Nat)(pts:List (Pj Str))(rs:List (List Nat)):(hoP 99).tst dY (ho4 x c e a b d pts rs) (aE qa)=some (!c):=nofun
theorem sE(rs:List (List Nat)):(some (rsM rs)).bind aM=some (rs.map λr=>MV.str (ah r)):=by show(if aa (rs.map λr=>MV.str (ah r)) then some (rs.map λr=>MV.str (ah r)) else none)=_;rw[dp,if_pos (Eq.refl true)]
noncomputable abbrev sF(x:Str)(c:Bool)(e:Str)(a b d:Nat)(pts:List (Pj Str))(rs:List (List Nat))(sc:Scope)(r:List Nat):Rho:=ae (ao sc (ho4 x c e a b d pts rs)) (sx "row") (.str (ah r))
theorem AQ(x:Str)(c:Bool)(e:Str)(a b d:Nat)(pts:List (Pj Str))(hl:rs.length<=100)(hr:∀r∈rs,r.length<=30):dj (hoP 98) dY (ho4 x c e a b d pts rs) (aw iL) (cSc iL) [⟨.Name (sx "row") (gP (au iL)),gI (au iL),gF (au iL),0⟩]=some (rsM (rs.map cW)):=by
 have hit:((hoP 98).ev dY (ho4 x c e a b d pts rs) (gI (au iL))).bind aM=some (rs.map λr=>MV.str (ah r)):=by
  have e1:(hoP 98).ev dY (ho4 x c e a b d pts rs) (gI (au iL))=some (rsM rs):=nofun
  rw[e1,sE]
 have hf0:gF (au iL)=[]:=nofun
 rw[hf0];have:=fO (f:=λv=> .str (ah (cW (dC v)))) (keep:=λ_=>true) hit (by symm:aK dY (cSc iL)=true) (by symm:(cSc iL).names.lookup (sx "row")=some .local) nofun (ifs:=[]) (elt:=aw iL) (px:=gP (au iL)) (λv hv=>⟨rfl,λ_=>⟨?_,rfl⟩⟩) (by simpa using OA hl (by left))
 ·rw[this,filter_all,List.map_map];unfold rsM;rw[List.map_map]
  congr 2
 ·obtain⟨r,hm,rfl⟩:=OS.mp hv;show(hoP 98).ev (cSc iL).names (sF x c e a b d pts rs (cSc iL) r) hV=some (.str (ah (cW (dC (.str (ah r))))));rw[cJ];exact D7 (n:=92) (hr r hm) (λq=>by symm) (λq=>by symm) nofun nofun nofun (λq=>by symm)
theorem MQ(x:Str)(c:Bool)(e:Str)(a b d:Nat)(pts:List (Pj Str))(hl:rs.length<=100)(hr:∀r∈rs,r.length<=30)(k:(mx iK (SS spN) true 100).ex dY (ho4 x c e a b d pts (gW c rs)) rest=res):
  (mx iK (SS spN) true 100).ex dY (ho4 x c e a b d pts rs) (.If (aE qa) [.Assign [.Name (sx "rows") (aQ (stN (aB qa) 0))] (bU iL (sx "row")) (aP (stN (aB qa) 0))] [] (aP qa)::rest)=res:=by
 have ht:=Oi x c e a b d pts rs;cases c with
 |true=>exact gS ht (f:= .next) cN k
 |false=>
  have e1:ae (ho4 x false e a b d pts rs) (sx "rows") (rsM (rs.map cW))=ho4 x false e a b d pts (rs.map cW):=nofun
  refine jM ht (f:= .next) (ρ':=ho4 x false e a b d pts (rs.map cW)) (bG (ρ':=ae (ho4 x false e a b d pts rs) (sx "rows") (rsM (rs.map cW))) ?_ (by rw[e1];exact cN)) k;exact qM nofun ⟨nofun,nofun⟩ (AQ x false e a b d pts hl hr) (dp _)
noncomputable def xK:Pm:=aw cZ
noncomputable def Lc:Pm:=(gF (au cZ)).getD 0 noE
noncomputable def uN(e:Pm):Pm:=bL e
noncomputable def hoF:Pm:=uN Lc
theorem D8:xK= .BinOp (.Name (sx "row") (bL xK).pos) .Add (.Name (sx "end") (bR xK).pos) xK.pos:=nofun
theorem D9:gF (au cZ)=[.UnaryOp .Not (.Call (.Name (sx "_law_fits") (cF hoF).pos) [.Name (sx "parts") (cA hoF 0).pos,.Name (sx "star") (cA hoF 1).pos,.Name (sx "row") (cA hoF 2).pos] [] hoF.pos) Lc.pos]:=nofun
theorem Il:hoR= .Call (.Attribute (bL (cF hoR)) (sx "join") (cF hoR).pos) [bU cZ (sx "row")] [] hoR.pos:=nofun
theorem add_str(hr:r.length<=1000)(he:e.length<=1000):ib .Add (.str (ah r)) (.str e)=some (.str (ah (r++e.cps.toList))):=by
 show(if(ah r).length+e.length<=sizeLine then some (MV.str (ah r++e)) else none)=_;rw[eI,if_pos (by rw[sizeLine_eq];lia)];obtain⟨x⟩:=e;show some (MV.str ⟨r.toArray++x⟩)=_
 congr 2
 unfold ah
 congr 1
 apply Array.ext';simp
theorem Im(x:Str)(c:Bool)(a b d:Nat)(hp:∀o∈pts,pY o)(he:e.length<=2)(hl:rs.length<=100)(hr:∀r∈rs,(∀c∈r,aH c)/\r.length<=30):dj (hoP 97) dY (ho4 x c e a b d pts rs) (aw cZ) (cSc cZ) [⟨.Name (sx "row") (gP (au cZ)),gI (au cZ),gF (au cZ),0⟩]=some (.list ((rs.filter λr=> !fP r pts).map λr=>MV.str (ah (r++e.cps.toList)))):=by
 have hit:((hoP 97).ev dY (ho4 x c e a b d pts rs) (gI (au cZ))).bind aM=some (rs.map λr=>MV.str (ah r)):=by
  have e1:(hoP 97).ev dY (ho4 x c e a b d pts rs) (gI (au cZ))=some (rsM rs):=nofun
  rw[e1,sE]
 have:=fO (f:=λv=> .str (ah (dC v++e.cps.toList))) (keep:=λv=> !fP (dC v) pts) hit (by symm:aK dY (cSc cZ)=true) (by symm:(cSc cZ).names.lookup (sx "row")=some .local) nofun (ifs:=gF (au cZ)) (elt:=aw cZ) (px:=gP (au cZ)) (λv hv=>?_) (by simpa using OA hl (by left))
 ·rw[this]
  congr 2
  rw[List.filter_map,List.map_map]
  rfl
 ·obtain⟨r,hm,rfl⟩:=OS.mp hv;obtain⟨h1,h2⟩:=hr r hm;have a1:(hoP 94).ev (cSc cZ).names (sF x c e a b d pts rs (cSc cZ) r) (.Name (sx "_law_fits") (cF hoF).pos)=some (.ex (.ref 126)):=nofun
  have a2:(hoP 94).ev (cSc cZ).names (sF x c e a b d pts rs (cSc cZ) r) (.Name (sx "parts") (cA hoF 0).pos)=some (.list (pts.map ptM)):=nofun
  have a3:(hoP 94).ev (cSc cZ).names (sF x c e a b d pts rs (cSc cZ) r) (.Name (sx "star") (cA hoF 1).pos)=some .opq:=nofun
  have a4:(hoP 94).ev (cSc cZ).names (sF x c e a b d pts rs (cSc cZ) r) (.Name (sx "row") (cA hoF 2).pos)=some (.str (ah r)):=nofun
  have a5:=bq ag (pos:=hoF.pos) a1 (oX nofun nofun nofun a2 a3 a4) (show iK.f 126=some (31,qX) by symm) (by left) (by show(aa (pts.map ptM)&&true)=true;rw[fh];rfl) (D0 hp h1 h2);have a6:=HA (q:=Lc.pos) (m7 rfl a5 (b:=fP r pts) rfl);refine⟨?_,λ_=>⟨?_,rfl⟩⟩
  ·show f9 (hoP 97) (cSc cZ).names (sF x c e a b d pts rs (cSc cZ) r) (gF (au cZ))=_;rw[cJ,D9];exact ov a6
  ·show(hoP 97).ev (cSc cZ).names (sF x c e a b d pts rs (cSc cZ) r) xK=some (.str (ah (dC (.str (ah r))++e.cps.toList)));rw[cJ,D8];have c1:(hoP 96).ev (cSc cZ).names (sF x c e a b d pts rs (cSc cZ) r) (.Name (sx "row") (bL xK).pos)=some (.str (ah r)):=nofun
   have c2:(hoP 96).ev (cSc cZ).names (sF x c e a b d pts rs (cSc cZ) r) (.Name (sx "end") (bR xK).pos)=some (.str e):=nofun
   exact dM ag c1 c2 (add_str (by lia) (by lia))
theorem strs_map{α:Type}(f:α->Str):∀l:List α,strsOf (l.map λr=>MV.str (f r))=some (l.map f)
 | []=>rfl
 |a::l=>by show(strsOf (l.map λr=>MV.str (f r))).map _=_;rw[strs_map f l];rfl
theorem Ea(l:List (List Nat)):cat (l.map ah)=l.flatten:=by
 induction l with
 |nil=>rfl
 |cons a l ih=>show cat (ah a::l.map ah)=_;rw[vy,ih];simp [ah]
theorem sumLen_le{l:List (List Nat)}{k:Nat}(h:∀r∈l,r.length<=k):bF (l.map ah)<=l.length*k:=by
 induction l with
 |nil=>simp [bF]
 |cons a l ih=>
  have h1:=ih λr hr=>h r (.tail _ hr);have h2:=h a (.head _);have e:bF ((a::l).map ah)=a.length+bF (l.map ah):=by simp [bF,eI]
  rw[e,List.length_cons,Nat.succ_mul];lia
theorem Ld(h:i<6):pY (JS i):=by have:=cs6 i (by assumption);rcases this with rfl|rfl|rfl|rfl|rfl|rfl<;>intro p hp<;>cases hp<;>right
theorem sG(h:i<6)(ha:∀o∈acc,pY o):∀o∈K0 acc i,pY o:=by
 intro o ho;unfold K0 at ho;split at ho
 ·exact ha o ho
 ·rcases List.mem_append.mp ho with q|q
  ·exact ha o q
  ·rw[List.mem_singleton.mp q];exact Ld h
theorem Io(ha:a<6)(hb:b<6)(hd:d<6):∀o∈mW [a,b,d],pY o:=
 sG hd (sG hb (sG ha λ_ q=>by cases q))
theorem Eb(h1:∀c∈r,aH c)(h2:r.length<=30):(∀c∈cW r,aH c)/\(cW r).length<=30:=by
 unfold cW;split
 ·exact⟨λc hc=>h1 c (List.mem_of_mem_tail hc),by rw[List.length_tail];omega⟩
 ·exact⟨h1,h2⟩
theorem xM(h:∀r∈rs,(∀c∈r,aH c)/\r.length<=30):∀r∈gW c rs,(∀c∈r,aH c)/\r.length<=30:=by
 intro r hr;cases c with
 |true=>exact h r hr
 |false=>obtain⟨q,hq,rfl⟩:=OS.mp (show r∈rs.map cW from hr);exact Eb (h q hq).1 (h q hq).2
theorem vA(c:Bool)(rs:List (List Nat)):(gW c rs).length=rs.length:=by
 cases c with
 |true=>rfl
 |false=>exact List.length_map ..
theorem AR(h:jP rs=true):rs.length<=100/\∀r∈rs,(∀c∈r,aH c)/\r.length<=30:=by
 unfold jP at h;rw[Bool.and_eq_true,decide_eq_true_eq,List.all_eq_true]at h;refine⟨h.1,λr hr=>?_⟩;have:=fQ (h.2 r hr)
 rwa [show(ah r).cps.toList=r by simp [ah]]at this
theorem MR(x:Str)(c:Bool)(a b d:Nat)(hp:∀o∈pts,pY o)(he:e.length<=2)(hl:rs.length<=100)(hr:∀r∈rs,(∀c∈r,aH c)/\r.length<=30):(hoP 99).ev dY (ho4 x c e a b d pts rs) hoR=some (.str (ah (lJ e.cps.toList pts rs))):=by
 rw[Il];have a1:(hoP 98).ev dY (ho4 x c e a b d pts rs) (bL (cF hoR))=some (.str (sx "")):=nofun
 have a2:(hoP 98).ev dY (ho4 x c e a b d pts rs) (bU cZ (sx "row"))=some (.list ((rs.filter λr=> !fP r pts).map λr=>MV.str (ah (r++e.cps.toList)))):=(cB rfl).trans (Im x c a b d hp he hl hr);have el:e.cps.toList.length<=2:=by simpa [Str.length]using he
 have hm:=ng (S:=SS spN) (a:= .list ((rs.filter λr=> !fP r pts).map λr=>MV.str (ah (r++e.cps.toList)))) rfl (strs_map (λr=>ah (r++e.cps.toList)) _) (by
  have:=sumLen_le (l:=(rs.filter λr=> !fP r pts).map (·++e.cps.toList)) (k:=32) (λr hr'=>by obtain⟨q,hq,rfl⟩:=OS.mp hr';have:=(hr q ((List.mem_filter.mp hq).1)).2;rw[List.length_append];lia)
  rw[List.map_map,List.length_map]at this;have h2:=List.length_filter_le (λr=> !fP r pts) rs;refine OA this ?_;have:(rs.filter λr=> !fP r pts).length<=100:=OA h2 hl;lia)
 rw[fR ag nofun a1 (cH nofun a2) hm]
 congr 2
 unfold lJ ah
 congr 2
 rw[List.flatMap_def,<-Ea,List.map_map]
 rfl
theorem Ip(ha:a<6)(hb:b<6)(hd:d<6)(k1:x.length<=1000)(k2:(bV x).length<=3000)(k3:(eD (bV x)).length<=5000)(k4:jP (cC x)=true)(k5:e.length<=2):mk iK (SS spN) 100 "_law_hop" l_hop.ps [] true [.str x,.tup [.bool c,.str e,.list ([a,b,d].map pcM)]]=some (.str (ah (lJ e.cps.toList (mW [a,b,d]) (gW c (cC x))))):=by obtain⟨r1,r2⟩:=AR k4;refine cU rfl rfl ?_ (.inr rfl);show ∃ρ',(mx iK (SS spN) true 100).ex dY (ho0 x c e a b d) (pB "_law_hop").body=_;rw[Ig];exact⟨_,dK (MM x c e a b d) (bG (MN x c e a b d) (bG (MO x c e ha hb hd) (bG (MP c e a b d (mW [a,b,d]) k1 k2 k3 r1) (MQ x c e a b d _ r1 (λr hr=>(r2 r hr).2) (bI nofun (MR x c a b d (Io ha hb hd) k5 (by rw[vA];exact r1) (xM r2)) rfl)))))⟩
theorem Le(as:List MV)(v:MV)(h:oW as=some v):mk iK (SS spN) 100 "_law_hop" l_hop.ps [] true as=some v:=by ext e0z q h;obtain⟨x,c,e,is⟩:=e0z;obtain⟨rfl,hi⟩:=D2 q;ext e0z q h;obtain⟨a,b,d⟩:=e0z;cases fk q;injections e0z h;obtain⟨k1,k2,k3,k4,k5⟩:=e0z;cases h;exact Ip (hi a (by simp)) (hi b (by simp)) (hi d (by simp)) k1 k2 k3 k4 k5
theorem dQ:(ae ρ y v).lookup y=some v:=by unfold ae;simp
theorem qZ{ρ:Rho}{z:Str}{f:Str->Bool}{g:Str×MV->Bool}(hg:∀p∈ρ,p.1=z->g p=true):(ρ.filter g).lookup z=ρ.lookup z:=by
 induction ρ with
 |nil=>rfl
 |cons p r ih=>
  have ih:=ih λq hq=>hg q (.tail _ hq);rw[List.lookup_cons]
  by_cases hz:p.1=z
  ·have:=hg p (.head _) hz;rw[List.filter_cons_of_pos this,List.lookup_cons];have e:(z==p.1)=true:=by simp [hz]
   rw[e]
  ·have e:(z==p.1)=false:=by simpa using λq=>hz q.symm
   rw[e]
   by_cases hp:g p=true
   ·rw[List.filter_cons_of_pos hp,List.lookup_cons,e];exact ih
   ·rw[List.filter_cons_of_neg hp];exact ih
theorem aG{ρ:Rho}{y z:Str}{v u:MV}(hne:z≠y)(h:ρ.lookup z=some u)(hu:eT y u=false):(ae ρ y v).lookup z=some u:=by
 unfold ae;have e:(z==y)=false:=by simpa using hne
 rw[List.lookup_cons,e,qZ (f:=λ_=>true),h];intro p _ hp;rw[hp,h];simp [hne,hu]
theorem dR(h:dg ρ=true)(hv:noIt v=true):dg (ae ρ y v)=true:=by unfold dg ae at*;rw[List.all_cons,hv,Bool.true_and,List.all_eq_true];rw[List.all_eq_true]at h;exact λp hp=>h p (List.mem_filter.mp hp).1
noncomputable def nmk:Pj NameKind->Bool
 |some .local|some .cell|some .free=>true
 |_=>false
theorem bY(hs:∀n sc ev e,S.spec n sc ev e=none)(hk:nmk (sc.lookup y)=true)(hn:bg y=true)(h:ρ.lookup y=some v)(hv:ez v=true):(me F S (n+1)).ev sc ρ (.Name y q)=some v:=by
 have hn':¬(y=sx "__debug__"\/y=sx "__classdict__"):=by unfold bg at hn;simp only [Bool.and_eq_true,bne_iff_ne,ne_eq]at hn;exact λq=>q.elim hn.1 hn.2
 refine(iG hs).trans ((if_neg hn').trans ?_);have fin:=bnd (f:=λv=>if ez v then some v else none) h (if_pos hv);generalize sc.lookup y=w at hk ⊢;cases w with
 |none=>exact Bool.noConfusion hk
 |some k=>cases k<;>first|exact fin|exact Bool.noConfusion hk
structure Srv where
 c:Bool
 e:Str
 p:List Nat
noncomputable def aS(s:Srv):MV:= .tup [.bool s.c,.str s.e,.list (s.p.map pcM)]
def eS(s:Srv):Prop:=s.p.length=3/\∀i∈s.p,i<6
noncomputable def aV(c:Bool)(r:List Nat):List Nat:=if c&&r.head?==some 46 then 46::r else r
noncomputable def eV(rk:List Nat×Bool)(s:Srv):List Nat×Bool:=(aV s.c rk.1,rk.2&& !bD s.p (aV s.c rk.1))
noncomputable def eW(x:Int):List Nat:=(lz x).cps.toList
noncomputable def eJ(x:Int)(ss:List Srv):List Nat×Bool:=ss.foldl eV (eW x,true)
noncomputable def zv(ss:List Srv)(x:Int):Pj (List Nat):=if(eJ x ss).2 then some (eJ x ss).1 else none
noncomputable def iP(xs:List Int)(ss:List Srv):List (List Nat):=xs.filterMap (zv ss)
noncomputable def eK:Fns:=⟨λa=>if a=109 then some (21,sq) else if a=148 then some (121,gz 3) else none⟩
noncomputable abbrev dD:Sc:=(pB "_law_left").names
noncomputable def leB:List Pq:=(pB "_law_left").body
noncomputable def leF:Pq:=stN leB 1
noncomputable def leI:Pq:=stN (aB leF) 1
noncomputable abbrev leP(n:Nat):P:=me eK (SS spN) n
noncomputable def iQ:Pm:=aE (stN (aB leI) 0)
noncomputable def gX:Pm:=aE (stN (aB leI) 1)
noncomputable def Ec:List Pq:=aB leI
theorem Ed:Ec=[.Assign [.Name (sx "row") (aQ (stN (aB leI) 0))] iQ (aP (stN (aB leI) 0)),.Assign [.Name (sx "kept") (aQ (stN (aB leI) 1))] gX (aP (stN (aB leI) 1))]:=nofun
noncomputable def leT:Pm:=ifT iQ
theorem AS:iQ= .IfExp (.BoolOp .And [.Name (sx "careless") (cA leT 0).pos,.Compare (.Subscript (.Name (sx "row") (bL (bL (cA leT 1))).pos) (.Slice none (some (sHi (bR (bL (cA leT 1))))) none (bR (bL (cA leT 1))).pos) (bL (cA leT 1)).pos) [.Eq] [bR (cA leT 1)] (cA leT 1).pos] leT.pos) (.BinOp (bL (ifB iQ)) .Add (.Name (sx "row") (bR (ifB iQ)).pos) (ifB iQ).pos) (.Name (sx "row") (ifO iQ).pos) iQ.pos:=nofun
noncomputable def leG:Pm:=uN (cA gX 1)
theorem xO:gX= .BoolOp .And [.Name (sx "kept") (cA gX 0).pos,.UnaryOp .Not (.Call (.Name (sx "_law_goes") (cF leG).pos) [.Name (sx "pieces") (cA leG 0).pos,.Name (sx "row") (cA leG 1).pos] [] leG.pos) (cA gX 1).pos] gX.pos:=nofun
structure InSt (ρ:Rho) (r:List Nat) (k:Bool) (L:List MV) (ss:MV):Prop where
 row:ρ.lookup (sx "row")=some (.str (ah r))
 kept:ρ.lookup (sx "kept")=some (.bool k)
 left:ρ.lookup (sx "left")=some (.grow L)
 srv:ρ.lookup (sx "servers")=some ss
 noit:dg ρ=true
theorem oY:∀l:List Nat,cw (l.map pcM)=true
 | []=>rfl
 |a::l=>by show(true&&cw (l.map pcM))=true;rw[oY l];rfl
theorem InSt.set(I:InSt ρ r k L ss)(hy:y≠sx "row"/\y≠sx "kept"/\y≠sx "left"/\y≠sx "servers")(hv:noIt v=true)(hss:∀x,ss≠ .adder x):InSt (ae ρ y v) r k L ss where
 row:=aG (λe=>hy.1 e.symm) I.row rfl
 kept:=aG (λe=>hy.2.1 e.symm) I.kept rfl
 left:=aG (λe=>hy.2.2.1 e.symm) I.left rfl
 srv:=aG (λe=>hy.2.2.2 e.symm) I.srv (by cases ss<;>first|rfl|exact O8 rfl (hss _))
 noit:=dR I.noit hv
noncomputable abbrev cQ(ρ:Rho)(s:Srv):Rho:=ae (ae (ae ρ (sx "careless") (.bool s.c)) (sx "end") (.str s.e)) (sx "pieces") (.list (s.p.map pcM))
theorem Iq(r:List Nat)(h:r.length<=100):ib .Add (.str (sx ".")) (.str (ah r))=some (.str (ah (46::r))):=by
 have e:sx "."=ah [46]:=by right
 rw[e];have:=add_str (r:=[46]) (e:=ah r) (by left) (by rw[eI];lia);rw[this];simp [ah]
section
variable {F:Fns}{S:Subs}{n:Nat}{sc:Sc}{ρ:Rho}(hs:∀n sc ev e,S.spec n sc ev e=none)
include hs
theorem Ir(h1:(me F S n).ev sc ρ a=some (.bool k))(h2:(me F S n).ev sc ρ b=some (.bool v)):(me F S (n+1)).ev sc ρ (.BoolOp .And [a,b] q)=some (.bool (k&&v)):=by
 rw[iG hs];show kU (me F S n) sc ρ .And [a,b]=_;unfold kU;rw[h1];cases k with
 |true=>exact h2
 |false=>rfl
theorem Lg(h1:(me F S n).ev sc ρ a=some u)(h2:truth u=some v):(me F S (n+1)).ev sc ρ (.UnaryOp .Not a q)=some (.bool !v):=by
 rw[iG hs];show(((me F S n).ev sc ρ a).bind truth).map (λb=>MV.bool !b)=_;rw[h1,Option.bind_some,h2]
 rfl
end
theorem oZ(h:∀c∈r,aH c):(∀x∈aV c r,aH x)/\(aV c r).length<=r.length+1:=by
 unfold aV;split
 ·exact⟨λx hx=>(OT.mp hx).elim (λe=> .inl e) (h x),OP _⟩
 ·exact⟨h,O7 _⟩
theorem It(I:InSt ρ r k L ss)(hss:∀x,ss≠ .adder x)(so:eS s)(hc:∀c∈r,aH c)(hr:r.length<=29):∃ρ',(mx eK (SS spN) false 198).ex dD (cQ ρ s) Ec=some (.next,ρ')/\InSt ρ' (aV s.c r) (k&& !bD s.p (aV s.c r)) L ss:=by
 have I1:InSt (cQ ρ s) r k L ss:=((I.set (y:=sx "careless") (v:= .bool s.c) (by right) rfl hss).set (y:=sx "end") (v:= .str s.e) (by right) rfl hss).set (y:=sx "pieces") (v:= .list (s.p.map pcM)) (by right) (oY _) hss;have lc:(cQ ρ s).lookup (sx "careless")=some (.bool s.c):=aG (by right) (aG (by right) dQ rfl) rfl;have lp:(cQ ρ s).lookup (sx "pieces")=some (.list (s.p.map pcM)):=dQ;have a1:(leP 194).ev dD (cQ ρ s) (.Name (sx "careless") (cA leT 0).pos)=some (.bool s.c):=bY ag nofun nofun lc rfl;have b1:(leP 193).ev dD (cQ ρ s) (.Name (sx "row") (bL (bL (cA leT 1))).pos)=some (.str (ah r)):=bY ag nofun nofun I1.row rfl;have b2:(leP 193).ev dD (cQ ρ s) (sHi (bR (bL (cA leT 1))))=some (.int 1):=nofun
 have b3:(leP 194).ev dD (cQ ρ s) (bR (cA leT 1))=some (.str (sx ".")):=nofun
 have t2:=en (q:=(cA leT 1).pos) nofun (cj ag (q:=(bR (bL (cA leT 1))).pos) (q':=(bL (cA leT 1)).pos) b1 bJ (bb b2) (qY (r:=r) (by lia))) b3 D6;have t1:(leP 195).tst dD (cQ ρ s) (.Name (sx "careless") (cA leT 0).pos)=some s.c:=m7 rfl a1 rfl
 have tt:(leP 196).tst dD (cQ ρ s) (.BoolOp .And [.Name (sx "careless") (cA leT 0).pos,.Compare (.Subscript (.Name (sx "row") (bL (bL (cA leT 1))).pos) (.Slice none (some (sHi (bR (bL (cA leT 1))))) none (bR (bL (cA leT 1))).pos) (bL (cA leT 1)).pos) [.Eq] [bR (cA leT 1)] (cA leT 1).pos] leT.pos)=some (s.c&&r.head?==some 46):=by
  cases hcc:s.c with
  |true=>rw[hcc]at t1;exact sy t1 t2
  |false=>rw[hcc]at t1;exact uS t1
 have er:(leP 197).ev dD (cQ ρ s) iQ=some (.str (ah (aV s.c r))):=by
  rw[AS];refine xJ ag tt ?_;unfold aV;cases hb:(s.c&&r.head?==some 46) with
  |true=>
   have d1:(leP 195).ev dD (cQ ρ s) (bL (ifB iQ))=some (.str (sx ".")):=nofun
   have d2:(leP 195).ev dD (cQ ρ s) (.Name (sx "row") (bR (ifB iQ)).pos)=some (.str (ah r)):=bY ag nofun nofun I1.row rfl;exact dM ag d1 d2 (Iq r (by lia))
  |false=>exact bY ag nofun nofun I1.row rfl
 obtain⟨g1,g2⟩:=oZ (c:=s.c) hc;have I2r:(ae (cQ ρ s) (sx "row") (.str (ah (aV s.c r)))).lookup (sx "row")=some (.str (ah (aV s.c r))):=dQ;have I2k:(ae (cQ ρ s) (sx "row") (.str (ah (aV s.c r)))).lookup (sx "kept")=some (.bool k):=aG (by right) I1.kept rfl;have I2p:(ae (cQ ρ s) (sx "row") (.str (ah (aV s.c r)))).lookup (sx "pieces")=some (.list (s.p.map pcM)):=aG (by right) lp rfl;have k1:(leP 196).ev dD (ae (cQ ρ s) (sx "row") (.str (ah (aV s.c r)))) (.Name (sx "kept") (cA gX 0).pos)=some (.bool k):=bY ag nofun nofun I2k rfl;have k2:(leP 194).ev dD (ae (cQ ρ s) (sx "row") (.str (ah (aV s.c r)))) (.Name (sx "_law_goes") (cF leG).pos)=some (.ex (.ref 148)):=nofun
 have k3:(leP 194).ev dD (ae (cQ ρ s) (sx "row") (.str (ah (aV s.c r)))) (.Name (sx "pieces") (cA leG 0).pos)=some (.list (s.p.map pcM)):=bY ag nofun nofun I2p rfl;have k4:(leP 194).ev dD (ae (cQ ρ s) (sx "row") (.str (ah (aV s.c r)))) (.Name (sx "row") (cA leG 1).pos)=some (.str (ah (aV s.c r))):=bY ag nofun nofun I2r rfl;have k5:=bq ag (pos:=leG.pos) k2 (gy nofun nofun k3 k4) (show eK.f 148=some (121,gz 3) by symm) (by left) (by show(aa (s.p.map pcM)&&true)=true;rw[bC];rfl) (oB so.2 so.1 g1 (by lia))
 have ek:(leP 197).ev dD (ae (cQ ρ s) (sx "row") (.str (ah (aV s.c r)))) gX=some (.bool (k&& !bD s.p (aV s.c r))):=by rw[xO];exact Ir ag k1 (Lg ag (q:=(cA gX 1).pos) k5 rfl)
 refine⟨ae (ae (cQ ρ s) (sx "row") (.str (ah (aV s.c r)))) (sx "kept") (.bool (k&& !bD s.p (aV s.c r))),?_,{
  row:=aG (by right) dQ rfl
  kept:=dQ
  left:=aG (by right) (aG (by right) I1.left rfl) rfl
  srv:=aG (by right) (aG (by right) I1.srv (by cases ss<;>first|rfl|exact O8 rfl (hss _))) (by cases ss<;>first|rfl|exact O8 rfl (hss _))
  noit:=dR (dR I1.noit rfl) rfl}⟩
 rw[Ed];exact bG (km nofun nofun er rfl) (bG (km nofun nofun ek rfl) cN)
noncomputable def tN(e:Pm)(i:Nat):Pos:=(cA e i).pos
noncomputable def tK(e:Pm):Nat:=match aN e with
 | .tup _ k _=>k
 |_=>0
theorem Iu:fT leI= .Tuple [.Name (sx "careless") (tN (fT leI) 0),.Name (sx "end") (tN (fT leI) 1),.Name (sx "pieces") (tN (fT leI) 2)] (tK (fT leI)) (fT leI).pos:=nofun
theorem Lh(ρ:Rho)(s:Srv):bB dD ρ (fT leI) (aS s)=some (cQ ρ s):=by rw[Iu];refine Eq.trans (b:=if([sx "careless",sx "end",sx "pieces"].all (aR dD))=true/\(3:Nat)=3/\aa [MV.bool s.c,.str s.e,.list (s.p.map pcM)]=true then some (cQ ρ s) else none) nofun (if_pos ⟨nofun,rfl,?_⟩);show(true&&(true&&(aa (s.p.map pcM)&&true)))=true;rw[bC];rfl
theorem zw(hss:∀x,ss≠ .adder x):∀(l:List Srv) (ρ:Rho) (r:List Nat) (k:Bool),InSt ρ r k L ss->(∀s∈l,eS s)->(∀c∈r,aH c)->r.length+l.length<=29->
  ∃ρ',ij (mx eK (SS spN) false 198) dD (fT leI) Ec (l.map aS) ρ=some (.next,ρ')/\InSt ρ' (l.foldl eV (r,k)).1 (l.foldl eV (r,k)).2 L ss
 | [],ρ,r,k,I,_,_,_=>⟨ρ,kl I.noit,I⟩
 |s::l,ρ,r,k,I,so,hc,hz=>by obtain⟨w9X,e1,I1⟩:=It I hss (so s (.head _)) hc (by simp at hz;lia);obtain⟨g1,g2⟩:=oZ (c:=s.c) hc;obtain⟨w90,e2,I2⟩:=zw hss l w9X (aV s.c r) (k&& !bD s.p (aV s.c r)) I1 (λq hq=>so q (.tail _ hq)) g1 (by simp at hz;lia);exact⟨w90,iE I.noit (.inl (ma _)) (Lh ρ s) e1 e2,I2⟩
theorem zx(hl:ρ.lookup z=some v)(h:f v=none):kept f ρ (.Name z q)=none:=by show((ρ.lookup z).bind f).map (z,·)=none;rw[hl];exact ON (Option.map _) h
theorem zy(hl:ρ.lookup z=some v)(h:f v=some l):kept f ρ (.Name z q)=some (z,l):=by show((ρ.lookup z).bind f).map (z,·)=some (z,l);rw[hl];exact ON (Option.map _) h
theorem Ee{F:Fns}{S:Subs}{st:Bool}{n:Nat}{sc:Sc}{ρ:Rho}{t:Pm}{z:Str}{q pos:Pos}{b:List Pq}{l:List MV}(hl:ρ.lookup z=some (.list l))(he:(me F S n).ev sc ρ (.Name z q)=some (.list l))(hp:aa l=true)(hn:dg ρ=true):stF (me F S n) (mx F S st n) n sc ρ (.For t (.Name z q) b [] pos)=ij (mx F S st n) sc t b l ρ:=
 zi (zx hl rfl) rfl hn (bnd he (if_pos hp)) rfl
theorem Ef(hs:∀n sc ev e,S.spec n sc ev e=none)(h:aT (me F S n) sc ρ es=some l)(hp:aa l=true)(hz:l.length<=1000):(me F S (n+1)).ev sc ρ (.Tuple es k q)=some (.tup l):=
 have e:jY (me F S n) sc ρ es=some l:=bnd h (if_pos ⟨hp,hz⟩)
 (iG hs).trans (ON (Option.map MV.tup) e)
theorem Iv{F:Fns}{S:Subs}{st:Bool}{n:Nat}{sc:Sc}{ρ:Rho}{ns vs:List Pm}{k k2:Nat}{q q2 pos:Pos}{ys:List Str}{l:List MV}(h1:rO sc ns vs=some ys)(h2:(me F S n).ev sc ρ (.Tuple vs k2 q2)=some (.tup l))(h3:ys.length=l.length)(h4:aa l=true):stF (me F S n) (mx F S st n) n sc ρ (.Assign [.Tuple ns k q] (.Tuple vs k2 q2) pos)=some (.next,gM ρ ys.reverse l.reverse):=
 bnd h1 (jj h2 rfl (if_pos ⟨h3,h4⟩))
noncomputable def sH:Pq:=stN (aB leF) 0
noncomputable def sTs(s:Pq):List Pm:=kids (fT s)
noncomputable def sTk(s:Pq):Nat:=tK (fT s)
noncomputable def sTq(s:Pq):Pos:=(fT s).pos
noncomputable def vB:Pm:=aE sH
noncomputable def sI:Pm:=cA vB 0
noncomputable def Iw:Pq:=stN (aB leF) 2
noncomputable def qb:Pq:=stN (aB Iw) 0
theorem Iy:aB leF=[.Assign [.Tuple (sTs sH) (sTk sH) (sTq sH)] (.Tuple [.Call (.Name (sx "_law_row") (cF sI).pos) [.Name (sx "x") (cA sI 0).pos] [] sI.pos,cA vB 1] (tK vB) vB.pos) (aP sH),.For (fT leI) (.Name (sx "servers") (aE leI).pos) Ec [] (aP leI),.If (.Name (sx "kept") (aE Iw).pos) [.Expr (.Call (.Attribute (.Name (sx "left") (bL (cF (aE qb))).pos) (sx "append") (cF (aE qb)).pos) [.Name (sx "row") (cA (aE qb) 0).pos] [] (aE qb).pos) (aP qb)] [] (aP Iw)]:=nofun
theorem Iz:rO dD (sTs sH) [.Call (.Name (sx "_law_row") (cF sI).pos) [.Name (sx "x") (cA sI 0).pos] [] sI.pos,cA vB 1]=some [sx "row",sx "kept"]:=nofun
theorem AU{F:Fns}{S:Subs}{st:Bool}{n:Nat}{sc:Sc}{ρ:Rho}{y:Str}{q apos pos pos':Pos}{a:Pm}{l:List MV}{v:MV}(h1:sc.lookup y=some NameKind.local)(h2:bg y=true)(h3:(apos.endLine==pos.line)=true)(hl:ρ.lookup y=some (.grow l))(ha:(me F S n).ev sc ρ a=some v)(hp:v.plain=true)(hs:notStar a=true)(hz:l.length<=1000):stF (me F S n) (mx F S st n) n sc ρ (.Expr (.Call (.Attribute (.Name y q) (sx "append") apos) [a] [] pos) pos')=some (.next,(y,.grow (l++[v]))::ρ.filter λp=>p.1 != y):=by refine Eq.trans (if_pos (c:=sx "append"=sx "append"/\sc.lookup y=some NameKind.local/\bg y=true/\(apos.endLine==pos.line)=true) (e:=none) ⟨rfl,h1,h2,h3⟩) ?_;exact jj hl rfl (bnd ha (if_pos ⟨hp,hs,hz⟩))
structure OuSt (ρ:Rho) (L:List (List Nat)) (ss:List Srv):Prop where
 left:ρ.lookup (sx "left")=some (.grow (L.map λr=> .str (ah r)))
 srv:ρ.lookup (sx "servers")=some (.list (ss.map aS))
 noit:dg ρ=true
theorem Li:((List.range 4).all λn=>(List.range 4).all λm=>mm (rowOf n m)&&decide ((rowOf n m).cps.toList.length<=5))=true:=by right
theorem nh(x:Int):(∀c∈eW x,aH c)/\(eW x).length<=5:=by unfold eW lz;obtain⟨n,h,e⟩:=mi x 4 (by left);obtain⟨m,h',e'⟩:=mi (x/4) 4 (by left);rw[show x%4=n from e,show x/4%4=m from e'];have k:=OQ.mp (OQ.mp Li n (List.mem_range.mpr h)) m (List.mem_range.mpr h');replace k:=OR.mp k;exact⟨(fQ k.1).1,O5 k.2⟩
theorem zz:∀rs:List (List Nat),cw (rs.map λr=>MV.str (ah r))=true
 | []=>rfl
 |a::l=>by show(true&&cw (l.map λr=>MV.str (ah r)))=true;rw[zz l];rfl
theorem bc:∀l:List Srv,aa (l.map aS)=true
 | []=>rfl
 |a::l=>by show(((true&&(true&&(aa (a.p.map pcM)&&true))))&&aa (l.map aS))=true;rw[bC,bc l];rfl
theorem IA(O:OuSt ρ L ss)(so:∀s∈ss,eS s)(hs:ss.length<=20)(hL:L.length<=500)(x:Int):∃ρ',(mx eK (SS spN) false 199).ex dD (ae ρ (sx "x") (.int x)) (aB leF)=some (.next,ρ')/\OuSt ρ' (if(eJ x ss).2 then L++[(eJ x ss).1] else L) ss:=by
 revert O so hs hL;exists ρ,L,ss,x;obtain⟨rc,rl⟩:=nh x;have x0:(ae ρ (sx "x") (.int x)).lookup (sx "x")=some (.int x):=dQ;have a1:(leP 196).ev dD (ae ρ (sx "x") (.int x)) (.Name (sx "_law_row") (cF sI).pos)=some (.ex (.ref 109)):=nofun
 have a2:(leP 196).ev dD (ae ρ (sx "x") (.int x)) (.Name (sx "x") (cA sI 0).pos)=some (.int x):=bY ag nofun nofun x0 rfl;have a3:(leP 197).ev dD (ae ρ (sx "x") (.int x)) (cA vB 1)=some (.bool true):=nofun
 have a4:=bq ag (pos:=sI.pos) a1 (cH nofun a2) (show eK.f 109=some (21,sq) by symm) (by left) rfl (show sq [.int x]=some (.str (lz x)) from rfl);have a5:=Ef ag (k:=tK vB) (q:=vB.pos) (gy nofun nofun a4 a3) rfl (show 2<=1000 by left);have s0:=Iv (st:=false) (k:=sTk sH) (q:=sTq sH) (pos:=aP sH) Iz a5 rfl rfl;have e0:gM (ae ρ (sx "x") (.int x)) [sx "row",sx "kept"].reverse [MV.str (lz x),.bool true].reverse=ae (ae (ae ρ (sx "x") (.int x)) (sx "kept") (.bool true)) (sx "row") (.str (lz x)):=rfl;rw[e0]at s0
 have I:InSt (ae (ae (ae ρ (sx "x") (.int x)) (sx "kept") (.bool true)) (sx "row") (.str (lz x))) (eW x) true (L.map λr=> .str (ah r)) (.list (ss.map aS)):={
  row:=by rw[dQ];unfold eW;rw[Ij]
  kept:=aG (by right) dQ rfl
  left:=aG (by right) (aG (by right) (aG (by right) O.left rfl) rfl) rfl
  srv:=aG (by right) (aG (by right) (aG (by right) O.srv rfl) rfl) rfl
  noit:=dR (dR (dR O.noit rfl) rfl) rfl}
 obtain⟨w9X,e1,I1⟩:=zw (λ_ q=>by cases q) ss _ (eW x) true I so rc (by lia);have n1:(leP 198).ev dD (ae (ae (ae ρ (sx "x") (.int x)) (sx "kept") (.bool true)) (sx "row") (.str (lz x))) (.Name (sx "servers") (aE leI).pos)=some (.list (ss.map aS)):=bY ag nofun nofun I.srv rfl;have f1:=Ee (st:=false) (t:=fT leI) (pos:=aP leI) (b:=Ec) I.srv n1 (bc ss) I.noit;rw[e1]at f1;have k1:(leP 198).tst dD w9X (.Name (sx "kept") (aE Iw).pos)=some (eJ x ss).2:=m7 rfl (bY ag nofun nofun I1.kept rfl) rfl;rw[Iy];cases hk:(eJ x ss).2 with
 |false=>rw[hk]at k1;exact⟨w9X,dK s0 (dK f1 (gS k1 (f:= .next) cN cN)),⟨I1.left,I1.srv,I1.noit⟩⟩
 |true=>
  rw[hk]at k1;have r1:(leP 197).ev dD w9X (.Name (sx "row") (cA (aE qb) 0).pos)=some (.str (ah (eJ x ss).1)):=bY ag nofun nofun I1.row rfl;have ap:=AU (F:=eK) (S:=SS spN) (st:=false) (n:=197) (sc:=dD) (q:=(bL (cF (aE qb))).pos) (apos:=(cF (aE qb)).pos) (pos:=(aE qb).pos) (pos':=aP qb) nofun nofun nofun I1.left r1 rfl rfl (by rw[List.length_map];lia);refine⟨_,dK s0 (dK f1 (jM k1 (f:= .next) (dK ap cN) cN)),?_,?_,?_⟩
  ·rw[List.lookup_cons,beq_self_eq_true];simp
  ·have e:(sx "servers"==sx "left")=false:=by right
   rw[List.lookup_cons,e,qZ (f:=λ_=>true),I1.srv];intro p _ hp;rw[hp];right
  ·unfold dg;rw[List.all_cons]
   have h1:noIt (.grow ((L.map λr=>MV.str (ah r))++[.str (ah (eJ x ss).1)]))=true:=by have:=zz (L++[(eJ x ss).1]);rw[List.map_append]at this;exact this
   rw[h1,Bool.true_and,List.all_eq_true];have h2:=I1.noit;unfold dg at h2;rw[List.all_eq_true]at h2;exact λp hp=>h2 p (List.mem_filter.mp hp).1
theorem zA(so:∀s∈ss,eS s)(hs:ss.length<=20):∀(xs:List Int) (ρ:Rho) (L:List (List Nat)),OuSt ρ L ss->L.length+xs.length<=400->
  ∃ρ',ij (mx eK (SS spN) false 199) dD (.Name (sx "x") q) (aB leF) (xs.map .int) ρ=some (.next,ρ')/\OuSt ρ' (L++iP xs ss) ss
 | [],ρ,L,O,_=>⟨ρ,kl O.noit,by simpa [iP]using O⟩
 |x::xs,ρ,L,O,hz=>by
  obtain⟨w9X,e1,O1⟩:=IA O so hs (by simp at hz;lia) x;have ht:bB dD ρ (.Name (sx "x") q) (.int x)=some (ae ρ (sx "x") (.int x)):=nofun
  have hL:L++iP (x::xs) ss=(if(eJ x ss).2 then L++[(eJ x ss).1] else L)++iP xs ss:=by
   unfold iP;rw[List.filterMap_cons];unfold zv;cases(eJ x ss).2 with
   |true=>simp
   |false=>simp
  obtain⟨w90,e2,O2⟩:=zA so hs xs w9X _ O1 (by split<;>simp at hz ⊢<;>lia);refine⟨w90,iE O.noit (.inl (ma _)) ht e1 e2,?_⟩;rw[hL];exact O2
noncomputable def zB(m:MV):Pj Srv:=((tO m).bind three).bind λt=>(boolOf t.1).bind λc=>(strOf t.2.1).bind λe=>((d5 t.2.2).bind qQ).bind λis=>if is.length=3 then some ⟨c,e,is⟩ else none
noncomputable def Eg:List MV->Pj (List Srv):=AF zB
noncomputable def o5(as:List MV):Pj MV:=(two as).bind λab=>((d5 ab.1).bind intsOf).bind λis=>((d5 ab.2).bind Eg).bind λss=>if is.length<=300/\ss.length<=20 then some (rsM (iP is ss)) else none
theorem IB:∀{is:List Int},intsOf l=some is->l=is.map .int:=by
 induction l with
 |nil=>intro is h;cases h;rfl
 |cons m l ih=>intro is h;ext i e h;cases fj e;revert h;refine mpE λjs h2 e2z=>?_;subst e2z;rw[ih h2];rfl
theorem IC(is:List Int):intsOf (is.map .int)=some is:=by
 induction is with
 |nil=>rfl
 |cons i is ih=>exact bnd rfl (ON (Option.map _) ih)
theorem Eh(m:MV)(s:Srv)(h:zB m=some s):m=aS s/\eS s:=by ext e0z q h;obtain⟨u,v,w⟩:=e0z;ext l ql q;cases fk q;cases jZ ql;ext c q h;cases i7 q;ext e q h;cases aF q;ext is q h;ext l ql q;obtain⟨rfl,hi⟩:=ky q;cases bZ ql;injections hk h;cases h;exact⟨rfl,hk,hi⟩
theorem vC(s:Srv)(h:eS s):zB (aS s)=some s:=bnd rfl (bnd rfl (bnd rfl (jj rfl (sC h.2) (if_pos h.1))))
theorem ID(h:∀s∈ss,eS s):Eg (ss.map aS)=some ss:=sA vC h
theorem bh:∀l:List Int,aa (l.map .int)=true
 | []=>rfl
 |a::l=>by show(true&&aa (l.map .int))=true;rw[bh l];rfl
theorem rf:∀l:List Int,cw (l.map .int)=true
 | []=>rfl
 |a::l=>by show(true&&cw (l.map .int))=true;rw[rf l];rfl
theorem vD:∀l:List Srv,cw (l.map aS)=true
 | []=>rfl
 |a::l=>by show(((true&&(true&&(cw (a.p.map pcM)&&true))))&&cw (l.map aS))=true;rw[oY,vD l];rfl
theorem IE:(pB "_law_left").body=[.Assign [.Name (sx "left") (aQ (stN leB 0))] (aE (stN leB 0)) (aP (stN leB 0)),.For (.Name (sx "x") (fT leF).pos) (.Name (sx "numbers") (aE leF).pos) (aB leF) [] (aP leF),.Return (some (.Name (sx "left") (aE (stN leB 2)).pos)) (aP (stN leB 2))]:=nofun
theorem xP{F:Fns}{S:Subs}{st:Bool}{n:Nat}{sc:Sc}{ρ:Rho}{z:Str}{q pos:Pos}{l:List MV}{r:List Pq}(hl:ρ.lookup z=some (.grow l))(hk:sc.lookup z=some NameKind.local/\bg z=true/\aa l=true):(mx F S st (n+1)).ex sc ρ (.Return (some (.Name z q)) pos::r)=some (.ret (.list l),ρ):=by refine sk ?_;show(match kept lZ ρ (.Name z q) with|some zl=>_|none=>_)=_;rw[zy hl rfl];exact if_pos hk
noncomputable abbrev le0(is:List Int)(ss:List Srv):Rho:=[(sx "servers",.list (ss.map aS)),(sx "numbers",.list (is.map .int))]
theorem Ei(so:∀s∈ss,eS s)(h1:is.length<=300)(h2:ss.length<=20):mk eK (SS spN) 200 "_law_left" l_left.ps [] false [.list (is.map .int),.list (ss.map aS)]=some (rsM (iP is ss)):=by refine cU rfl (by show(aa (is.map .int)&&(aa (ss.map aS)&&true))=true;rw[bh,bc];rfl) ?_ (.inl rfl);show ∃ρ',(mx eK (SS spN) false 200).ex dD (le0 is ss) (pB "_law_left").body=_;rw[IE];have O0:OuSt (ae (le0 is ss) (sx "left") (.grow [])) [] ss:=⟨dQ,aG (u:= .list (ss.map aS)) (by right) nofun rfl,dR (by show(cw (ss.map aS)&&(cw (is.map .int)&&true))=true;rw[vD,rf];rfl) rfl⟩;have n0:(ae (le0 is ss) (sx "left") (.grow [])).lookup (sx "numbers")=some (.list (is.map .int)):=aG (u:= .list (is.map .int)) (by right) nofun rfl;obtain⟨ρ',e1,O1⟩:=zA (q:=(fT leF).pos) so h2 is _ [] O0 (by simpa using OA h1 (by left));have nn:(leP 199).ev dD (ae (le0 is ss) (sx "left") (.grow [])) (.Name (sx "numbers") (aE leF).pos)=some (.list (is.map .int)):=bY ag nofun nofun n0 rfl;have f1:=Ee (st:=false) (t:= .Name (sx "x") (fT leF).pos) (pos:=aP leF) (b:=aB leF) n0 nn (bh is) O0.noit;rw[e1]at f1;exact⟨ρ',bG nofun (dK f1 (xP O1.left ⟨nofun,nofun,dp _⟩))⟩
theorem IF(as:List MV)(v:MV)(h:o5 as=some v):mk eK (SS spN) 200 "_law_left" l_left.ps [] false as=some v:=by ext e0z q h;obtain⟨a,b⟩:=e0z;cases d6 q;ext is q h;ext l ql q;cases IB q;cases bZ ql;ext ss q h;ext l ql q;obtain⟨rfl,so⟩:=m9 Eh q;cases bZ ql;injections e0z h;obtain⟨h1,h2⟩:=e0z;cases h;exact Ei so h1 h2
noncomputable abbrev gY:Sc:=(pB "reduce").names
noncomputable def reB:List Pq:=(pB "reduce").body
noncomputable def reI:Pq:=stN reB 1
noncomputable def reF:Pq:=stN reB 2
noncomputable def reT:Pq:=stN (aB reI) 0
noncomputable def tB(s:Pq):List Pq:=aB s
noncomputable def tH(s:Pq):List ExceptHandler:=(sv s).2.2.1
noncomputable def tP(s:Pq):Pos:=aP s
noncomputable def gC:Fns:=⟨λa=>if a=131 then some (101,oW) else none⟩
noncomputable abbrev reP(n:Nat):P:=me gC (SS spN) n
noncomputable def AV:Pm:=aE (stN reB 0)
noncomputable def vE:Pm:=aE (stN (aB reF) 0)
theorem sJ:(pB "reduce").body=[.Assign [.Name (sx "it") (aQ (stN reB 0))] (.Call (.Name (sx "iter") (cF AV).pos) [.Name (sx "sequence") (cA AV 0).pos] [] AV.pos) (aP (stN reB 0)),.If (aE reI) (aB reI) (aO reI) (aP reI),.For (.Name (sx "element") (fT reF).pos) (.Name (sx "it") (aE reF).pos) (aB reF) [] (aP reF),.Return (some (.Name (sx "value") (aE (stN reB 3)).pos)) (aP (stN reB 3))]:=nofun
theorem IG:aB reF=[.Assign [.Name (sx "value") (aQ (stN (aB reF) 0))] (.Call (.Name (sx "function") (cF vE).pos) [.Name (sx "value") (cA vE 0).pos,.Name (sx "element") (cA vE 1).pos] [] vE.pos) (aP (stN (aB reF) 0))]:=nofun
noncomputable def cE:MV->List MV->Pj MV
 |v,[]=>some v
 |v,e::l=>(oW [v,e]).bind λu=>cE u l
structure ReSt (ρ:Rho) (v:MV):Prop where
 fn:ρ.lookup (sx "function")=some (.ex (.ref 131))
 val:ρ.lookup (sx "value")=some v
 noit:dg ρ=true
theorem vF(h:oW as=some v):∃x,v= .str x:=by revert h;refine bdE λ_ _ h=>?_;revert h;refine bdE λ_ _ h=>?_;replace h:=eG h;exact⟨_,(OH h.2).symm⟩
theorem vG(h:e.plain=true):eT y e=false/\ez e=true:=by cases e<;>first|exact⟨rfl,rfl⟩|exact Bool.noConfusion h
theorem vH:∀{x:Str} {u:MV},cE (.str x) l=some u->∃y,u= .str y:=by
 induction l with
 |nil=>intro x u h;cases h;exact⟨x,rfl⟩
 |cons a l ih=>intro x u h;ext w h1 h;obtain⟨y,rfl⟩:=vF h1;exact ih h
theorem II(I:ReSt ρ (.str x))(hp:e.plain=true)(h1:oW [.str x,e]=some (.str y)):∃w92 ρ',bB gY ρ (.Name (sx "element") q) e=some w92/\(mx gC (SS spN) false 199).ex gY w92 (aB reF)=some (.next,ρ')/\ReSt ρ' (.str y):=by obtain⟨ea,eg⟩:=vG (y:=sx "value") hp;have i1:(ae ρ (sx "element") e).lookup (sx "function")=some (.ex (.ref 131)):=aG (by right) I.fn rfl;have i2:(ae ρ (sx "element") e).lookup (sx "value")=some (.str x):=aG (by right) I.val rfl;refine⟨_,_,if_pos ⟨nofun,hp⟩,?_,aG (by right) i1 rfl,dQ,dR (dR I.noit (gN e hp)) rfl⟩;rw[IG];have c1:(reP 197).ev gY (ae ρ (sx "element") e) (.Name (sx "function") (cF vE).pos)=some (.ex (.ref 131)):=bY ag nofun nofun i1 rfl;have c2:(reP 197).ev gY (ae ρ (sx "element") e) (.Name (sx "value") (cA vE 0).pos)=some (.str x):=bY ag nofun nofun i2 rfl;have c3:(reP 197).ev gY (ae ρ (sx "element") e) (.Name (sx "element") (cA vE 1).pos)=some e:=bY ag nofun nofun dQ eg;have c4:=bq ag (pos:=vE.pos) c1 (gy nofun nofun c2 c3) (show gC.f 131=some (101,oW) by symm) (by left) (by show(true&&(e.plain&&true))=true;rw[hp];rfl) h1;exact bG (iO nofun (by right) (by right) c4 rfl) cN
theorem IJ(l:List MV):∀(ρ:Rho) (x:Str) (u:MV),ReSt ρ (.str x)->aa l=true->cE (.str x) l=some u->∃ρ',ij (mx gC (SS spN) false 199) gY (.Name (sx "element") q) (aB reF) l ρ=some (.next,ρ')/\ReSt ρ' u:=by
 induction l with
 |nil=>intro ρ x u I _ h;cases h;exact⟨ρ,kl I.noit,I⟩
 |cons e l ih=>intro ρ x u I hp h;replace hp:=ba hp;ext w h1 h;obtain⟨y,rfl⟩:=vF h1;obtain⟨w92,ρ',ht,hb,I'⟩:=II (q:=q) I hp.1 h1;obtain⟨w90,e2,I2⟩:=ih ρ' y u I' hp.2 h;exact⟨w90,iE I.noit (.inl (ma _)) ht hb e2,I2⟩
theorem vI{p:P}{st:Bool}{sc:Sc}{ρ:Rho}{y:Str}{q u:Pos}{line:Nat}{a:Pm}{l:List MV}(hc:aR sc y=true)(h1:sc.lookup y=some NameKind.local/\sc.lookup (sx "iter")=some NameKind.globalImplicit/\notStar a=true)(ha:p.ev sc ρ a=some (.list l))(hp:aa l=true):bo p st sc ρ y line (.Call (.Name (sx "iter") q) [a] [] u)=some (ae ρ y (.iter l)):=
 (if_neg (not_false hc)).trans ((if_neg (by right)).trans ((if_pos rfl).trans ((if_pos h1).trans (jj ha rfl (if_pos hp)))))
theorem xQ{F:Fns}{S:Subs}{st:Bool}{n:Nat}{sc:Sc}{ρ:Rho}{t:Pm}{z:Str}{q pos:Pos}{b:List Pq}{l:List MV}(hl:ρ.lookup z=some (.iter l))(h:sc.lookup z=some NameKind.local/\bg z=true/\dg (dk ρ z)=true):stF (me F S n) (mx F S st n) n sc ρ (.For t (.Name z q) b [] pos)=ij (mx F S st n) sc t b l (dk ρ z):=by show(match kept zW ρ (.Name z q) with|some zl=>_|none=>_)=_;rw[zy hl rfl];exact if_pos h
theorem AW{F:Fns}{S:Subs}{st:Bool}{n:Nat}{sc:Sc}{ρ:Rho}{z:Str}{q pos:Pos}{x:Str}{r:List Pq}(hl:ρ.lookup z=some (.str x))(he:(me F S n).ev sc ρ (.Name z q)=some (.str x)):(mx F S st (n+1)).ex sc ρ (.Return (some (.Name z q)) pos::r)=some (.ret (.str x),ρ):=by
 refine sk ?_;show(match kept lZ ρ (.Name z q) with|some zl=>_|none=>_)=_;rw[zx hl rfl,he]
 rfl
noncomputable abbrev re3(x:Str)(l:List MV):Rho:=[(sx "initial",.str x),(sx "sequence",.list l),(sx "function",.ex (.ref 131))]
noncomputable abbrev re2(x:Str)(l:List MV):Rho:=[(sx "initial",.ex (.ref 94)),(sx "sequence",.list (.str x::l)),(sx "function",.ex (.ref 131))]
theorem Ej{x:Str}{l:List MV}{ρ:Rho}{u:MV}(hp:aa l=true)(hi:ρ.lookup (sx "it")=some (.iter l))(I:ReSt (dk ρ (sx "it")) (.str x))(h:cE (.str x) l=some u):∃ρ',(mx gC (SS spN) false 200).ex gY ρ [.For (.Name (sx "element") (fT reF).pos) (.Name (sx "it") (aE reF).pos) (aB reF) [] (aP reF),.Return (some (.Name (sx "value") (aE (stN reB 3)).pos)) (aP (stN reB 3))]=some (.ret u,ρ'):=by obtain⟨ρ',e,I'⟩:=IJ (q:=(fT reF).pos) l _ x u I hp h;obtain⟨y,rfl⟩:=vH h;have f1:=xQ (F:=gC) (S:=SS spN) (st:=false) (n:=199) (sc:=gY) (t:= .Name (sx "element") (fT reF).pos) (q:=(aE reF).pos) (pos:=aP reF) (b:=aB reF) hi ⟨nofun,nofun,I.noit⟩;rw[e]at f1;exact⟨ρ',dK f1 (AW I'.val (bY ag nofun nofun I'.val rfl))⟩
noncomputable def Lj(a:Pn)(x:Str)(l:List MV):Pj MV:=if a=131/\aa l=true then cE (.str x) l else none
noncomputable def sL:List MV->Pj MV
 | []=>none
 |f::r=>(yT f).bind λa=>match r with
  | []=>none
  |l::r=>(d5 l).bind λms=>if r.isEmpty then(match ms with
   | []=>none
   |x::q=>(strOf x).bind λx=>Lj a x q) else((one r).bind strOf).bind λx=>Lj a x ms
theorem zC(h:Lj a x l=some v):a=131/\aa l=true/\cE (.str x) l=some v:=by replace h:=eG h;exact⟨h.1.1,h.1.2,h.2⟩
theorem IK(h:sL as=some v):∃x l,aa l=true/\cE (.str x) l=some v/\(as=[.ex (.ref 131),.list l,.str x]\/as=[.ex (.ref 131),.list (.str x::l)]):=by
 cases as with
 |nil=>exact af h
 |cons f r=>
  ext a e h;cases j0 e;cases r with
  |nil=>exact af h
  |cons l r=>
   ext ms e h;cases bZ e;revert h;refine eiE (λhr h=>?_) (λ_ h=>?_)
   ·cases r with
    |cons _ _=>exact Bool.noConfusion hr
    |nil=>
     cases ms with
     |nil=>exact af h
     |cons m q=>ext x e h;cases aF e;obtain⟨rfl,h1,h2⟩:=zC h;exact⟨x,q,h1,h2,.inr rfl⟩
   ·ext x e h;cases Dj e;obtain⟨rfl,h1,h2⟩:=zC h;exact⟨x,ms,h1,h2,.inl rfl⟩
theorem IL{x:Str}{l:List MV}{u:MV}(hp:aa l=true)(h:cE (.str x) l=some u):mk gC (SS spN) 200 "reduce" reduce.ps [] false [.ex (.ref 131),.list l,.str x]=some u:=by
 refine cU rfl (by show(true&&(aa l&&true))=true;rw[hp];rfl) ?_ (.inl rfl);show ∃ρ',(mx gC (SS spN) false 200).ex gY (re3 x l) (pB "reduce").body=_;rw[sJ];have s0:(reP 199).ev gY (re3 x l) (.Name (sx "sequence") (cA AV 0).pos)=some (.list l):=nofun
 have t1:(reP 199).tst gY (ae (re3 x l) (sx "it") (.iter l)) (aE reI)=some false:=nofun
 have b1:(mx gC (SS spN) false 199).ex gY (ae (re3 x l) (sx "it") (.iter l)) (aO reI)=some (.next,ae (ae (re3 x l) (sx "it") (.iter l)) (sx "value") (.str x)):=nofun
 obtain⟨ρ',e⟩:=Ej (ρ:=ae (ae (re3 x l) (sx "it") (.iter l)) (sx "value") (.str x)) hp nofun ⟨nofun,nofun,by show(true&&(true&&(cw l&&(true&&true))))=true;rw[bM l hp];rfl⟩ h
 exact⟨ρ',bG (vI nofun ⟨nofun,nofun,nofun⟩ s0 hp) (gS t1 (f:= .next) b1 e)⟩
theorem IM{x:Str}{l:List MV}{u:MV}(hp:aa l=true)(h:cE (.str x) l=some u):mk gC (SS spN) 200 "reduce" reduce.ps [.ex (.ref 94)] false [.ex (.ref 131),.list (.str x::l)]=some u:=by
 have hp1:aa (.str x::l)=true:=by show(true&&aa l)=true;rw[hp];rfl
 refine cU rfl (by show(true&&(aa (.str x::l)&&true))=true;rw[hp1];rfl) ?_ (.inl rfl);show ∃ρ',(mx gC (SS spN) false 200).ex gY (re2 x l) (pB "reduce").body=_;rw[sJ];have s0:(reP 199).ev gY (re2 x l) (.Name (sx "sequence") (cA AV 0).pos)=some (.list (.str x::l)):=nofun
 have t1:(reP 199).tst gY (ae (re2 x l) (sx "it") (.iter (.str x::l))) (aE reI)=some true:=nofun
 have b1:(mx gC (SS spN) false 199).ex gY (ae (re2 x l) (sx "it") (.iter (.str x::l))) (aB reI)=some (.next,ae (ae (ae (re2 x l) (sx "it") (.iter (.str x::l))) (sx "it") (.iter l)) (sx "value") (.str x)):=nofun
 obtain⟨ρ',e⟩:=Ej (ρ:=ae (ae (ae (re2 x l) (sx "it") (.iter (.str x::l))) (sx "it") (.iter l)) (sx "value") (.str x)) hp nofun ⟨nofun,nofun,by show(true&&(true&&((true&&cw l)&&(true&&true))))=true;rw[bM l hp];rfl⟩ h
 exact⟨ρ',bG (vI nofun ⟨nofun,nofun,nofun⟩ s0 hp1) (jM t1 (f:= .next) b1 e)⟩
def Ek(h:Pp):Prop:=∃o,h.get? 4=some o/\o.cls= .type "module"/\o.dict=some Pc/\o.data= .plain
def MS(h:Pp):Prop:=∃ps,h.get? 74=some (tabObj ps)/\TriplesOk ps.toList
theorem Lk{K:Frag}(h:xp K=true):∀a o,K.lookup a=some o->¬aJ a/\a<175:=by
 induction K with
 |nil=>intro a o e;cases e
 |cons p r ih=>
  unfold xp at h;rw[List.all_cons,Bool.and_eq_true]at h;intro a o e;rw[List.lookup_cons]at e;split at e
  ·rename_i hb;have:a=p.1:=eq_of_beq hb;subst this;have h1:=h.1;simp only [Bool.and_eq_true,bne_iff_ne,decide_eq_true_eq]at h1;exact⟨λt=>t.elim h1.1.1 h1.1.2,h1.2⟩
  ·exact ih h.2 a o e
theorem xR(h:glob x=some mv):(x,mv)∈rI:=lookup_mem h
theorem El(h:exV m=some v):m= .ex v:=by cases m<;>first|exact ON MV.ex (OH h)|exact af h
theorem IP{K:Frag}(hc:zb K=true)(hn:nsOkIn K Pb=true){h:Pp}{x:Str}{mv:MV}(X:K.In h)(e:glob x=some mv):∃mg,h.Ns Pb mg/\((∃v,mg x=some v/\(mv= .ex v\/∃y t,mv= .str y/\v= .str y t))\/
  (mg x=none/\x≠"__name__"/\∃v,bootBuiltins x=some v/\mv= .ex v)):=by
 revert hc hn X e;exists K,h,x,mv;have G:h.Ns Pb (h.nsMap Pb):= .of_isNs (isNs_of_in X hn);refine⟨_,G,?_⟩;have t:=OQ.mp hc _ (xR e);obtain⟨r,h1,t⟩:=(Option.any_eq_true _ _).mp t;cases(Bool.or_eq_true_iff.mp t) with
 |inl t=>obtain⟨v,rfl,t⟩:=(Option.any_eq_true _ _).mp t;refine .inl ⟨v,fN X G h1,(Bool.or_eq_true_iff.mp t).imp (λq=>El (eq_of_beq q)) λq=>?_⟩;obtain⟨y,hy,q⟩:=(Option.any_eq_true _ _).mp q;obtain⟨t,e⟩:=Value.isStrOf_shape q;exact⟨y,t,aF hy,e⟩
 |inr t=>obtain⟨hn,t⟩:=OR.mp t;obtain⟨u,hu,t⟩:=(Option.any_eq_true _ _).mp t;obtain⟨t1,t2⟩:=OR.mp t;cases Option.isNone_iff_eq_none.mp hn;exact .inr ⟨ns_none_of X G h1,by simpa using t2,u,eq_of_beq t1,El hu⟩
theorem je{P:Pk}{h:Pp}(X:(KK P).In h):h.Ns cStatics (h.nsMap cStatics):= .of_isNs (isNs_of_in X (NL P))
theorem MT{V:Vw}{P:Pk}(hK:V.K=KK P)(ht:∀h h',V.tab h->(∀a o,h.get? a=some o->bt o\/a<175->h'.get? a=some o)->V.tab h'):V.Ok where
 far:=by rw[hK];exact Lk (NJ P)
 tabKeep:=ht
 nolimit:=λh X=>by rw[hK]at X;exact⟨_,je X,ns_none_of X (je X) (NM P)⟩
 glob:=λh x mv X e=>by rw[hK]at X;exact IP (Mm P) (Hl P) X e
theorem jf{V:Vw}{P:Pk}(hK:V.K=KK P):V.Booked where
 no:=λh X=>by rw[hK]at X;exact⟨_,je X,ns_none_of X (je X) (Mn P)⟩
noncomputable def noF:Fns:=⟨λ_=>none⟩
noncomputable def Ll(F:Fns)(a:Pn)(k:Nat)(g:List MV->Pj MV):Fns:=⟨λb=>if b=a then some (k,g) else F.f b⟩
theorem dS:FnsOk V noF:=⟨(λ_ _ _ e=>nomatch e),(λ_ _ _ e=>nomatch e)⟩
theorem bj(h:FnsOk V F)(c:aC V a k g)(f:∃o fd,V.K.lookup a=some o/\o.data= .func fd):FnsOk V (Ll F a k g) where
 go:=λb k' g' e=>by
  unfold Ll at e;simp only at e;split at e
  ·rename_i q;subst q;cases e;exact c
  ·exact h.go _ _ _ e
 fn:=λb k' g' e=>by
  unfold Ll at e;simp only at e;split at e
  ·rename_i q;subst q;exact f
  ·exact h.fn _ _ _ e
end
section
open Builtin Builtin.ObjectAttr Builtin.Getset_descriptor
structure KNs where
 m:Str->Pj Ph
 f:Str->Pj Pn
noncomputable def ai:List Str:=[sx "__init__",sx "__lt__",sx "__gt__",sx "__eq__",sx "__le__",sx "__ge__"]
noncomputable def lK(md:Pn)(f:Str->Pn)(r:Str->Pj Ph)(x:Str):Pj Ph:=
 if x∈ai then some (.ref (f x)) else if x=sx "obj" then some (.ref md) else if x=sx "__module__"\/x=sx "__firstlineno__"\/x=sx "__slots__"\/x=sx "__hash__"\/x=sx "__static_attributes__"\/x=sx "__doc__" then r x else none
noncomputable def iR(C N:Pn)(sl:Array (Pj Ph)):Obj:={cls:= .type "type",data:= .cls {name:=sx "K",bases:=[.type "object"],mro:=[.ref C,.type "object"],ns:=N,qualname:=sx "cmp_to_key.<locals>.K",hasDict:=false,slotNames:=[sx "obj"]},slots:=sl}
structure KCls0 (h:Pp) (C N md:Pn) (f:Str->Pn):Prop where
 cls:∃sl:Array (Pj Ph),h.get? C=some (iR C N sl)/\sl.toList[4]?=some (some (.builtin "object.__new__"))
 ns:∃r,h.Ns N (lK md f r)
theorem KCls0.keeps{C N md f}(x:KCls0 h C N md f)(k:∀b o,h.get? b=some o->h'.get? b=some o):KCls0 h' C N md f:=
 ⟨by obtain⟨sl,a,b⟩:=x.cls;exact⟨sl,k _ _ a,b⟩,by obtain⟨r,a⟩:=x.ns;exact⟨r,a.keeps k⟩⟩
section
variable {M:Model}{h:Pp}{C N md:Pn}{f:Str->Pn}
theorem KCls0.data(x:KCls0 h C N md f):Looks M h (classData C) {name:=sx "K",bases:=[.type "object"],mro:=[.ref C,.type "object"],ns:=N,qualname:=sx "cmp_to_key.<locals>.K",hasDict:=false,slotNames:=[sx "obj"]}:=by obtain⟨sl,a,_⟩:=x.cls;exact(Looks.ld (part:=none) a).andThen .now
theorem KCls0.mro(x:KCls0 h C N md f):Looks M h (mroOf (.ref C)) [.ref C,.type "object"]:=x.data.andThen .now
theorem KCls0.own(x:KCls0 h C N md f)(e:∀q,lK md f q name=r):Looks M h (classOwn (.ref C) name) r:=by intro A Q E s k q;obtain⟨m,hm⟩:=x.ns;refine OB (x.data A _ E s k (wpAny_nsGet (hm.keeps k) ?_));rw[e];exact q
theorem KCls0.look(x:KCls0 h C N md f)(e:∀q,lK md f q name=some v):Looks M h (typeLookup (.ref C) name) (some v):=by intro A Q E s k q;rw[typeLookup_eq];refine OB (x.mro A _ E s k ?_);rw[lookupAlong_cons];exact OB (x.own e A _ E s k (Oz q))
theorem KCls0.sub(x:KCls0 h C N md f)(hb:b= .ref C\/b= .type "object"):Looks M h (isSubtype (.ref C) b) true:=by unfold isSubtype;refine x.mro.andThen ?_;rcases hb with rfl|rfl<;>exact .of_pure (by simp [List.isEmpty])
end
theorem IQ(x:KCls0 h C N md f):Makes M h C:=by
 obtain⟨sl,hC,e3⟩:=x.cls
 have made:Looks M h (Bind.madeBy (.ref C)) (some "object.__new__"):=by
  intro A Q E s k q;unfold Bind.madeBy;refine OB (x.mro A _ E s k ?_);rw[List.forIn_cons];refine OB (OB (OB (OB (wpAny_loadPart (k _ _ hC) (Oz ?_)))));show wpAny M A _ _ _ _;have e4:(iR C N sl).slots[4]?=some (some (Value.builtin "object.__new__")):=by rw[<-Array.getElem?_toList];exact e3
  rw[e4];exact Oz (Oz (Oz q))
 have ty:Looks M h (typeOf (.ref C)) (.type "type"):=(Looks.ld (part:=some headPart) hC).andThen .now;refine⟨⟨_,_,_,_,hC,rfl,rfl,rfl⟩,made,?_,x.sub (.inl rfl),x.sub (.inr rfl),ty.andThen (Looks.of_pure ?_),ty.andThen (Looks.of_pure ?_)⟩
 ·intro A Q E s k q;unfold Bind.staticBase;refine OB (x.mro A _ E s k ?_);rw[List.forIn_cons];exact OB (OB (OB (made A _ E s k (Oz (Oz (Oz q))))))
 ·rw[typeLookup_type,builtinLookup_eq_fast];symm
 ·rw[isSubtype_type];symm
noncomputable def iS(C:Pn)(t b:Tok):Obj:={cls:= .type "member_descriptor",data:= .fields #[.str (sx "obj") t,.ref C,.builtin "proto.slot",.builtin "proto.slot#set",.int 0 b]}
structure KCls (h:Pp) (C N md:Pn) (f:Str->Pn):Prop extends KCls0 h C N md f where
 md:∃t b,h.get? md=some (iS C t b)
theorem KCls.keeps{C N md f}(x:KCls h C N md f)(k:∀b o,h.get? b=some o->h'.get? b=some o):KCls h' C N md f:=
 ⟨x.toKCls0.keeps k,by obtain⟨t,b,a⟩:=x.md;exact⟨t,b,k _ _ a⟩⟩
structure KFr (K:Frag) (h:Pp) (C N md:Pn) (f:Str->Pn):Prop where
 i:K.In h
 cls:clsIn K C=some {name:=sx "K",bases:=[.type "object"],mro:=[.ref C,.type "object"],ns:=N,qualname:=sx "cmp_to_key.<locals>.K",hasDict:=false,slotNames:=[sx "obj"]}
 find:∃q,∀name,findIn K (.ref C) name=some ((lK md f q name).or (fastBuiltinOwn "object" name))
 rec_:∃t b,recIn K md "member_descriptor"=some [.str (sx "obj") t,.ref C,.builtin "proto.slot",.builtin "proto.slot#set",.int 0 b]
 ty:typeIn K (.ref md)=some (.type "member_descriptor")
theorem IS{K:Frag}{h:Pp}{N:Pn}{m:Str->Pj Ph}{o:Obj}(hn:h.Ns N m)(ho:h.get? N=some o)(hK:K.lookup N=some o)(name:Str):nsIn K N name=some (m name):=by
 obtain⟨o',es,ep,ho',hd,hk,hf⟩:=hn;rw[ho]at ho';cases ho';obtain⟨c,d,dt,sl⟩:=o;cases hd;unfold nsIn;rw[hK];dsimp only
 have hm:m name=(es.toList.find? λe=>e.key.isStr name).map (·.val):=by rw[<-hf];unfold nsFind findBy;rw[<-Array.find?_toList]
 cases hq:es.toList.find? λe=>e.key.isStr name with
 |some e=>rw[hq]at hm;rw[hm];rfl
 |none=>
  rw[hq]at hm;rw[hm]
  have hr:(es.toList.any λe=>e.refKey)=false:=by rw[List.any_eq_false];intro e he;obtain⟨n,t,hkk⟩:=hk e (by simpa using he);unfold DictEntry.refKey;rw[hkk];simp
  simp only [hr]
  rfl
theorem zD(x:KCls h C N md f):∃K,KFr K h C N md f:=by
 obtain⟨sl,hC,_⟩:=x.cls;obtain⟨q,hN⟩:=x.ns;obtain⟨t,b,hM⟩:=x.md;obtain⟨oN,es,ep,hoN,hdN,_⟩:=id hN;have n1:C≠N:=λe=>by subst e;rw[hC]at hoN;cases hoN;cases hdN
 have n2:C≠md:=λe=>by subst e;rw[hC]at hM;exact O8 (ON Obj.cls (OH hM)) (by simp [iR,iS])
 have n3:N≠md:=λe=>by subst e;rw[hM]at hoN;cases hoN;cases hdN
 have l1:([(C,iR C N sl),(N,oN),(md,iS C t b)]:Frag).lookup C=some (iR C N sl):=by simp
 have l2:([(C,iR C N sl),(N,oN),(md,iS C t b)]:Frag).lookup N=some oN:=by
  have:(N==C)=false:=by simpa using n1.symm
  simp [List.lookup_cons,this]
 have l3:([(C,iR C N sl),(N,oN),(md,iS C t b)]:Frag).lookup md=some (iS C t b):=by
  have e1:(md==C)=false:=by simpa using n2.symm
  have e2:(md==N)=false:=by simpa using n3.symm
  simp [List.lookup_cons,e1,e2]
 refine⟨[(C,iR C N sl),(N,oN),(md,iS C t b)],λa o e=>?_,?_,⟨q,λname=>?_⟩,⟨t,b,?_⟩,?_⟩
 ·rw[List.lookup_cons]at e;split at e
  ·rename_i hb;cases e;rw[eq_of_beq hb];exact hC
  ·rw[List.lookup_cons]at e;split at e
   ·rename_i hb;cases e;rw[eq_of_beq hb];exact hoN
   ·rw[List.lookup_cons]at e;split at e
    ·rename_i hb;cases e;rw[eq_of_beq hb];exact hM
    ·cases e
 ·unfold clsIn;rw[l1];rfl
 ·unfold findIn;dsimp only;rw[l1];show alongIn _ name [.ref C,.type "object"]=_;unfold alongIn ownIn;dsimp only;rw[l1];show(match nsIn _ N name with|some (some v)=>_|some none=>_|none=>_)=_;rw[IS hN hoN l2 name];cases lK md f q name with
  |some v=>rfl
  |none=>
   show alongIn _ name [.type "object"]=_;unfold alongIn ownIn;dsimp only;cases fastBuiltinOwn "object" name with
   |some v=>rfl
   |none=>rfl
 ·unfold recIn;rw[l3];rfl
 ·unfold typeIn;dsimp only;rw[l3];rfl
section
variable {md:Pn}{f:Str->Pn}{q:Str->Pj Ph}
theorem Em:lK md f q (sx "obj")=some (.ref md):=by unfold lK;rw[if_neg (by right),if_pos rfl]
theorem sN(h:x∈ai):lK md f q x=some (.ref (f x)):=by unfold lK;rw[if_pos h]
theorem sO(h1:x∉ai)(h2:x≠sx "obj")(h3:¬(x=sx "__module__"\/x=sx "__firstlineno__"\/x=sx "__slots__"\/x=sx "__hash__"\/x=sx "__static_attributes__"\/x=sx "__doc__")):lK md f q x=none:=by unfold lK;rw[if_neg h1,if_neg h2,if_neg h3]
end
section
variable {prog:Program}{w:World}{A:Po}{E:Pr}{s:Pg}{K:Frag}{h:Pp}{C N md a d:Pn}{f:Str->Pn}{u:Ph}
theorem KFr.up(X:KFr K h C N md f)(hx:∀q,lK md f q x=none)(hb:fastBuiltinOwn "object" x=v):findIn K (.ref C) x=some v:=by obtain⟨q,h⟩:=X.find;rw[h,hx,hb];rfl
theorem KFr.obj(X:KFr K h C N md f):findIn K (.ref C) (sx "obj")=some (some (.ref md)):=by obtain⟨q,h⟩:=X.find;rw[h,Em];rfl
theorem KFr.ga(X:KFr K h C N md f):findIn K (.ref C) "__getattribute__"=some (some (.builtin "object.__getattribute__")):=
 X.up (λq=>sO (by right) (by right) (by right)) nofun
theorem KFr.sa(X:KFr K h C N md f):findIn K (.ref C) "__setattr__"=some (some (.builtin "object.__setattr__")):=
 X.up (λq=>sO (by right) (by right) (by right)) nofun
theorem KFr.gk(X:KFr K h C N md f):findIn K (.ref C) "__getattr__"=some none:=
 X.up (λq=>sO (by right) (by right) (by right)) nofun
theorem KFr.spec(X:KFr K h C N md f)(hx:findIn K (.type "member_descriptor") x=some v):specialIn K (.ref md) x=some v:=by unfold specialIn;rw[X.ty];exact hx
theorem KFr.takes(X:KFr K h C N md f):takesIn K (.ref md)=some true:=by unfold takesIn;rw[X.spec (v:=some (.builtin "member_descriptor.__set__")) nofun]
theorem KFr.slot(X:KFr K h C N md f):slotIn K md C=some 0:=by obtain⟨t,b,hr⟩:=X.rec_;unfold slotIn;rw[hr,X.cls];simp
theorem KFr.bind(X:KFr K h C N md f)(od:Pj Obj):findObj K C od (sx "obj")=some (.bind (.builtin "member_descriptor.__get__") (.ref md)):=by
 revert X;exists K,h,C,N,md,f,od;unfold findObj;rw[X.cls,Option.bind_some,X.obj,Option.bind_some];dsimp only;rw[X.spec (v:=some (.builtin "member_descriptor.__get__")) nofun,Option.bind_some];dsimp only;rw[X.takes]
 rfl
noncomputable abbrev mw(C d:Pn)(sl:Array (Pj Ph)):Obj:={cls:= .ref C,dict:=some d,data:= .plain,slots:=sl}
theorem kB{sl}(ho:h.get? a=some (mw C d sl))(hd:h.get? d=some od):InstAt h a (mw C d sl) C (some od):=⟨ho,rfl,rfl,hd⟩
theorem En(x:KCls s.heap C N md f)(ho:s.heap.get? a=some (mw C d #[some u]))(hd:s.heap.get? d=some od)(hu:handedIn u=true)(hQ:Q u {s with toks:=s.toks+1}):
  wpAny (model prog w) A (getAttr (.ref a) (sx "obj") ex) Q E s:=by
 obtain⟨K,X⟩:=zD x;refine get_bind X.i (kB ho hd) X.ga (X.bind _) X.gk (OW ?_);refine slot_get (s:={s with toks:=s.toks+1}) X.i (kB ho hd) X.slot (v:=u) rfl ?_;show wpAny _ _ (handedOut u) _ _ _;rw[handedOut_of hu];exact Oz hQ
theorem Eo(x:KCls s.heap C N md f)(ho:s.heap.get? a=some (mw C d sl))(hsl:sl=#[])(hd:s.heap.get? d=some od)
  (hQ:∀h',Heap.SameBut a s.heap h'->h'.get? a=some (mw C d #[some u])->Q () {s with heap:=h',toks:=s.toks+1}):wpAny (model prog w) A (setAttr (.ref a) (sx "obj") u) Q E s:=by
 revert x ho hsl hd hQ;exists prog,w,A,E,s,C,N,md,a,d,f,u,Q,od,sl;obtain⟨K,X⟩:=zD x;subst hsl;refine set_plain X.i (kB ho hd) X.sa ?_;have pl:plainOver K C=true:=by unfold plainOver;rw[X.cls];rfl
 have tk:takerIn K C (sx "obj")=some (some (.ref md)):=by unfold takerIn;rw[X.obj,Option.bind_some];dsimp only;rw[X.takes];rfl
 refine osa_descr KF.slot_mset (s:={s with toks:=s.toks+1}) X.i (kB ho hd) pl tk X.ty ?_;obtain⟨n,tn,owner,behind,tb,dd,sl,cd,hm,hc,hmm,hb,hi⟩:=slot_of X.i X.slot;have I:=kB ho hd;obtain⟨hh,g,dr,t,os⟩:=s;have L0:=I.type (M:=model prog w);have L1:=looks_mroIn (M:=model prog w) X.i hmm;have L2:Looks (model prog w) hh (Slots.slotNamesOf (.ref C)) cd.slotNames:=(looks_clsIn X.i hc).andThen .now;dsimp only at hm ho L0 L1;have f0:=looks_field (M:=model prog w) hm 0 (v:= .str n tn) rfl;have f1:=looks_field (M:=model prog w) hm 1 (v:=owner) rfl;have f3:=looks_field (M:=model prog w) hm 3 (v:= .builtin "proto.slot#set") rfl;have f4:=looks_field (M:=model prog w) hm 4 (v:= .int behind tb) rfl;refine codeAny_call_builtin KF.slot_mset.plain KF.entry_mset (KF.slot_mset.check _ _ _ _ _ _ _ _ ⟨_,hm,rfl⟩ (KF.args_mset _ _ _) ?_);unfold Builtin.«member_descriptor.__set__» descrSet descrStoreThrough descrCheckInstance descrNameAndClass isInstance;have f5:Looks (model prog w) hh (descrItself (.ref md)) [.ref md]:=((Looks.ld (part:=none) hm).andThen .now).andThen (Looks.of_pure nofun)
 repeat lk
 refine⟨Code.quiet_builtin _ (by right),codeAny_builtin KF.entry_slotset ?_⟩;unfold Builtin.«proto.slot#set» Slots.target
 repeat lk
 rw[if_neg hb];refine Oz (OB ?_);unfold setSlotAt;dsimp only;rw[if_neg (by rw[sizeLine_eq];lia)];refine wpAny_updatePart ho (Oz ?_);rw[<-hi];exact hQ _ (OO ..) (O4 _ ho rfl)
end
end
section
open PySem.MeetsSeq PySem.SeqAt
structure IsMeth (h:Pp) (g:Pn) (cell:Pn) (ps:List Str) (body:List Pq) (sc:Sc) (fd:FuncData):Prop where
 at_:∃o,h.get? g=some o/\o.data= .func fd/\o.cls= .type "function"
 code:h.CodeRec fd.code fd.qualname
 body_:fd.body= .stmts body
 names:fd.scope.names=sc
 kind:fd.scope.kind= .function
 co:fd.scope.isCoroutine=false
 gen:fd.scope.isGenerator=false
 glob:fd.globals=Pb
 bi:fd.builtins=Pc
 bind:∀vals:List Ph,vals.length=ps.length->bindArgs fd ⟨vals,[]⟩=pure (ps.zip vals)
 clo:fd.closure=[]\/fd.closure=[(sx "mycmp",cell)]
 cloq:sc.lookup (sx "mycmp")=some .free->fd.closure=[(sx "mycmp",cell)]
theorem IsMeth.keeps{g cell ps body sc fd}(x:IsMeth h g cell ps body sc fd)(k:∀b o,h.get? b=some o->h'.get? b=some o):IsMeth h' g cell ps body sc fd:=
 {x with at_:=by obtain⟨o,a,b⟩:=x.at_;exact⟨o,k _ _ a,b⟩,code:=x.code.keeps k}
noncomputable def mSc(sc:Sc)(ps:List Str):Bool:=(ps.all λx=>sc.lookup x==some .local)&&(sc.all λp=>p.2 != .cell)&&(sc.all λp=>p.2 != .free||p.1==sx "mycmp")&& !dx sc&&sc.lookup (sx "mycmp") != some .local
section
variable {V:Vw}{F:Fns}{S:Subs}
theorem o6{sc:Sc}(h:(sc.all λp=>p.2 != .cell)=true)(x:Str):sc.lookup x≠some .cell:=λe=>by have:=OQ.mp h _ (lookup_mem e);simp at this
set_option tactic.hygienic true in
theorem qc(O:V.Ok)(BK:V.Booked)(FO:FnsOk V F)(SO:SubsOk V S){g cell:Pn}{ps:List Str}{body:List Pq}{sc:Sc}{fd:FuncData}(n:Nat){A:Po}{θ:Pn}{D:Pn->Prop}{s:Pg}{Q:Pr}{E:Pr}{as:List MV}{vs:List Ph}{r:MV}{ρ':Rho}
  (im:IsMeth s.heap g cell ps body sc fd) (hm:mSc sc ps=true) (hc:s.heap.IsCell cell (some (.ref 169))) (hc5:175<=cell) (R:Room A (n+1)) (W:Wd V s) (tk:1<=s.toks) (B:Bnd D s) (ra:RpL V.W9 θ D s.heap as vs) (hp:aa as=true) (hl:as.length=ps.length)
  (hx:(mx F S false n).ex sc ((ps.zip as).reverse++(if fd.closure=[] then [] else [(sx "mycmp",.ex (.ref 169))])) body=some (.ret r,ρ'))
  (hQ:∀v s',St V none9 s s'->1<=s'.toks->Rp V.W9 θ D s'.heap r v->r.plain=true->Q v s'):wpAny (model V.prog V.w) A (call (.ref g) vs) Q E s:=by
 revert O BK FO SO im hm hc hc5 R W tk B ra hp hl hx hQ;exists V,F,S,g,cell,ps,body,sc,fd,n,A,θ,D,s,Q,E,as,vs,r,ρ';unfold mSc at hm;simp only [Bool.and_eq_true,Bool.not_eq_true',bne_iff_ne,ne_eq]at hm;obtain⟨⟨⟨⟨hm1,hm2⟩,hm3⟩,hm4⟩,hm5⟩:=hm;obtain⟨o,ho,hdata,_⟩:=im.at_;have hvl:vs.length=as.length:=ra.length;have hbind:=im.bind vs (by rw[hvl,hl]);have hlo:∀x∈ps,sc.lookup x=some .local:=λx hx=>by simpa using OQ.mp hm1 x hx
 have hnc:=o6 hm2
 have hfr:∀x,sc.lookup x=some .free->x=sx "mycmp":=λx e=>by have:=OQ.mp hm3 _ (lookup_mem e);simpa using this
 refine OW (codeAny_call_function (by have:=R.depth;lia) ho hdata im.co im.gen im.body_ im.code ?_);rw[hbind];refine Oz (wpAny_newFunctionEnv (λx hx e=>?_) (λx hx=>?_) (λh' hns hsb=>?_) im.kind)
 ·have:=OQ.mp hm2 x (by rw[<-im.names];exact hx);rw[e]at this;simp at this
 ·rw[im.names];exact hlo _ (List.of_mem_zip hx).1
 ·have keep:∀b ob,s.heap.get? b=some ob->h'.get? b=some ob:=λb ob e=>(hsb.2 b (Nat.ne_of_lt (OF e))).trans (OC _ e);have hsz:s.heap.objs.size<h'.objs.size:=hns.lt;have st0:St V none9 s {s with heap:=h',toks:=s.toks+(ps.zip vs).length}:=⟨.ofAll none9 (OL hsz) keep,W.grown O (s':={s with heap:=h',toks:=s.toks+(ps.zip vs).length}) (OL hsz) keep⟩;generalize he:newEnv fd.scope s.heap.objs.size fd.globals fd.closure (fd.qualname++".<locals>.") (some g) fd.code none fd.builtins=env;have hL:env.locals=s.heap.objs.size:=by rw[<-he];rfl
  have hko:∀x,env.kindOf x=sc.lookup x:=λx=>by rw[<-im.names];unfold Env.kindOf;rw[<-he];rfl
  have hce:env.cells=fd.closure:=by rw[<-he];rfl
  have wide:∀mv v,mv.plain=true->Rp V.W9 θ D s.heap mv v->Rp V.W9 θ (λa=>D a\/(s.heap.objs.size<=a/\a<h'.objs.size)) h' mv v:=λmv v p r=>
   Rp.keep0 st0.keep _ _ (Rp.wide (λa ha q=>q.elim id λz=>O8 ha (OU.mpr z.1)) _ _ p r)
  have plz:∀x mv,((ps.zip as).reverse).lookup x=some mv->mv.plain=true:=λx mv e=>by have:=lookup_mem e;rw[List.mem_reverse]at this;obtain⟨i,hi⟩:=List.getElem?_of_mem (List.of_mem_zip this).2;exact fc hp hi
  have inz:∀x mv,((ps.zip as).reverse).lookup x=some mv->sc.lookup x=some .local:=λx mv e=>by have:=lookup_mem e;rw[List.mem_reverse]at this;exact hlo _ (List.of_mem_zip this).1
  generalize w9q:((ps.zip as).reverse++(if fd.closure=[] then [] else [(sx "mycmp",.ex (.ref 169))]))=ρ at hx
  have rho:∀x mv,ρ.lookup x=some mv->(sc.lookup x=some .local->((ps.zip as).reverse).lookup x=some mv)/\((sc.lookup x=some .free)->mv= .ex (.ref 169))/\mv.plain=true:=λx mv e=>by
   rw[<-w9q,b0]at e;cases h1:((ps.zip as).reverse).lookup x with
   |some u=>rw[h1]at e;cases e;exact⟨λ_=>rfl,(λq=>by rw[inz x _ h1]at q;cases q),plz x _ h1⟩
   |none=>
    rw[h1]at e;split at e
    ·cases e
    ·simp only [Option.none_or,List.lookup_cons]at e;split at e
     ·rename_i hb;cases e;refine⟨λq=>?_,λ_=>rfl,rfl⟩;have hxm:x=sx "mycmp":=by simpa using hb
      exact O8 (hxm▸q) hm5
     ·cases e
  have Fr:FrX V θ (λa=>D a\/(s.heap.objs.size<=a/\a<h'.objs.size)) sc ρ env {s with heap:=h',toks:=s.toks+(ps.zip vs).length}:={
   cod:=λh=>by rw[hm4]at h;cases h
   kind:=by rw[<-he];exact im.kind
   glob:=by rw[<-he];exact im.glob
   bi:=by rw[<-he];exact im.bi
   scl:=λx h=>by rw[hko];exact h
   scc:=λx h=>by rw[hko];exact h
   sck:=λx h=>by rw[hko];exact h
   scg:=λx h=>by rw[hko];exact h
   loc:=⟨_,by rw[hL];exact hns,{
    val:=λx mv e l=>by obtain⟨v,hv,hr⟩:=jI ra ((rho x mv e).1 l);exact⟨v,hv,wide mv v (rho x mv e).2.2 hr⟩
    add:=λx y e l=>by have:=(rho x _ e).2.2;cases this
    aft:=λx u c e g l=>by have:=aX (rho x u e).2.2;rw[this]at g;cases g
    one:=λx y u v c e1 e2 g1=>by have:=aX (rho x u e1).2.2;rw[this]at g1;cases g1}⟩
   cl:=λx h=>by have hfx:=h.elim (λq=>O8 q (hnc x)) id;have:=hfr x hfx;subst this;rw[hce,im.cloq hfx];exact⟨cell,by simp⟩
   cv:=λx mv c e l hc'=>by
    have hfx:=l.elim (λq=>O8 q (hnc x)) id;have hx:=hfr x hfx;have hmv:=(rho x mv e).2.1 hfx;subst hmv;rw[hce]at hc';rcases im.clo with h0|h0
    ·rw[h0]at hc';cases hc'
    ·rw[h0]at hc';subst hx;simp only [List.lookup_cons,beq_self_eq_true,Option.some.injEq]at hc';subst hc';exact⟨rfl,_,hc.keeps keep,rfl⟩
   ct:=λx c l hc'=>by
    rw[hce]at hc';rcases im.clo with h0|h0
    ·rw[h0]at hc';cases hc'
    ·rw[h0,List.lookup_cons]at hc';split at hc'
     ·cases hc';exact hc5
     ·cases hc'
   dl:= .inr ⟨by rw[hL];exact OP _,hL▸hsz⟩
   dc:=λx c l hc=>O8 l (hnc x)
   du:=λx y c l1 l2 h1 h2=>O8 l1 (hnc x)
   ca:=λx c l hc=>O8 l (hnc x)
   bnd:=λb q=>q.elim (λq=>⟨(B b q).1,Nat.lt_trans (B b q).2 hsz⟩) λq=>⟨OA W.size q.1,q.2⟩
   ok:=λx u e=>bH (rho x u e).2.2}
  refine⟨O.nolimit _ st0.wd.K,codeAny_func ?_⟩;refine(uy (st:=false) O BK FO SO n).ex _ _ _ _ _ hx (A.deeper env) θ _ env _ _ _ R.deeper st0.wd (OA tk (OI _ _)) Fr λf w97 D' s' o fr=>?_;cases f<;>first|exact fr.elim|skip
  rename_i u;obtain⟨hvp,hvr⟩:=fr
  have stf:St V none9 s s':=by refine⟨⟨OA st0.keep.size o.sta.keep.size,λb ob _ t e=>o.sta.keep.keep b ob (λq=>?_) t (st0.keep.keep b ob (λq=>q) t e),λb ob t c e=>o.sta.keep.code b ob t c (st0.keep.code b ob t c e)⟩,o.sta.wd⟩;have:=q.2;rw[hL]at this;exact O8 (OF e) (OU.mpr this)
  have hr:=hvr D (λb hb=>o.up b (.inl hb) (by rw[hL];exact(B b hb).2)) (λb hb=>by rw[hL];exact(B b hb).2);refine hQ u s' stf o.tk ?_ hvp;rcases o.th with e|e
  ·rw[e]at hr;exact hr
  ·rw[ma]at e;cases e
end
noncomputable def eX:List Pq:=match(pB "cmp_to_key").body with
 | .ClassDef _ _ _ b _ _ _ _ _ _ _::_=>b
 |_=>[]
structure MDef where
 args:Arguments
 body:List Pq
 scope:Scope
 pos:Pos
noncomputable def aA(x:Str):MDef:=(eX.findSome? λst=>match st with
 | .FunctionDef n a b _ _ _ sc _ _ p=>if n==x then some ⟨a,b,sc,p⟩ else none
 |_=>none).getD ⟨⟨[],[],none,[],[],none,[]⟩,[],default,default⟩
noncomputable def mps(x:Str):List Str:=(aA x).args.args.map (·.arg)
def MU(h:Pp)(C:Pn):Prop:=∃N md f cell,KCls h C N md f/\h.IsCell cell (some (.ref 169))/\175<=cell/\∀x∈ai,∃fd,IsMeth h (f x) cell (mps x) (aA x).body (aA x).scope.names fd
def Lm(C:Pn)(l:List (Pn×Obj)):Prop:=(∀h:Pp,(∀p∈l,h.get? p.1=some p.2)->MU h C)/\∀p∈l,¬((∃vs,p.2.data= .fields vs)/\(p.2.cls= .type "list_iterator"\/p.2.cls= .type "range_iterator"))
noncomputable def w9:World9:=⟨Lm,λ_ _ h=>h.2⟩
theorem kC(x:bu w9 D h C):MU h C:=by obtain⟨l,hs,hl⟩:=x;exact hs.1 h λp hp=>(hl p hp).2.2
noncomputable def AX:MV->Pj Str
 | .kobj x=>strOf x
 |_=>none
theorem sP(h:AX x=some s):x= .kobj (.str s):=by cases x<;>first|exact af h|exact ON MV.kobj (aF h)
noncomputable def specAttr(ev:Pm->Pj MV)(e:Pm):Pj MV:=(jU e).bind λa=>(cNm a.1).bind λ_=>if a.2.1=sx "obj" then((ev a.1).bind AX).map .str else none
theorem vJ(h9:V.W9=w9)(I:SndP V n p)(h:specAttr (p.ev sc ρ) e=some mv):bl V (n+1) sc ρ e mv:=by ext e0z e h;obtain⟨v,m,q⟩:=e0z;cases jV e;ext x e h;obtain⟨q2,rfl⟩:=cM e;injections e0z h;subst e0z;revert h;refine mpE λy h e2z=>?_;subst e2z;ext w hev h;cases sP h;intro A θ D env s Q E R W tk F hQ;refine Attribute_name (I.ev _ _ _ _ hev A θ D env s _ E R.pred W tk F λv w99 st1 t1 r1=>?_);obtain⟨a,C,d,u,rfl,nd,nt,ho,⟨_,_,od,hd,_⟩,hc,t,rfl⟩:=r1;rw[h9]at hc;obtain⟨N,md,f,cell,kc,_⟩:=kC hc;exact En kc ho hd rfl (hQ _ _ (st1.trans (.toks st1.wd _ _)) (OK t1) ⟨t,rfl⟩)
noncomputable def Ln:List Pq->Pos
 | [.Assign _ _ p]=>p
 |_=>default
noncomputable def Lp:List Pq->Pos
 | [.Assign [.Attribute _ _ p] _ _]=>p
 |_=>default
noncomputable def Lq:List Pq->Pos
 | [.Assign [.Attribute (.Name _ p) _ _] _ _]=>p
 |_=>default
noncomputable def Lr:List Pq->Pos
 | [.Assign _ (.Name _ p) _]=>p
 |_=>default
noncomputable def vK:List Pq:=(aA (sx "__init__")).body
theorem Ep:vK=[.Assign [.Attribute (.Name (sx "self") (Lq vK)) (sx "obj") (Lp vK)] (.Name (sx "obj") (Lr vK)) (Ln vK)]:=nofun
theorem ni:mps (sx "__init__")=[sx "self",sx "obj"]:=nofun
theorem IT:(aA (sx "__init__")).scope.names.lookup (sx "self")=some .local/\(aA (sx "__init__")).scope.names.lookup (sx "obj")=some .local/\((aA (sx "__init__")).scope.names.all λp=>p.2 != .cell)=true:=⟨nofun,nofun,nofun⟩
section
variable {prog:Program}{w:World}{A:Po}{s:Pg}{C N md a d g cell:Pn}{f:Str->Pn}{v:Ph}{Rr:Result->Pg->Prop}{fd:FuncData}
theorem xS(im:IsMeth s.heap g cell (mps (sx "__init__")) (aA (sx "__init__")).body (aA (sx "__init__")).scope.names fd)(x:KCls s.heap C N md f)(ho:s.heap.get? a=some (mw C d #[]))(hd:s.heap.get? d=some od)(hr:A.depth<recursionLimit)(nl:s.heap.NoLimit)
  (hQ:∀h' tk,(∀b o,b≠a->s.heap.get? b=some o->h'.get? b=some o)->s.heap.objs.size<=h'.objs.size->h'.get? a=some (mw C d #[some v])->s.toks<=tk->Rr (.ok (.ret .none)) {s with heap:=h',toks:=tk}):
  codeAny (model prog w) A (.call (.ref g) ⟨[.ref a,v],[]⟩) Rr s:=by
 revert im x ho hd hr nl hQ;exists prog,w,A,s,C,N,md,a,d,g,cell,f,v,Rr,fd,od;obtain⟨o,hg,hdata,_⟩:=im.at_;obtain⟨l1,l2,hnc⟩:=IT;refine codeAny_call_function hr hg hdata im.co im.gen im.body_ im.code ?_;rw[im.bind [.ref a,v] (by rw[ni];rfl)];refine Oz (wpAny_newFunctionEnv (λy hy e=>?_) (λy hy=>?_) (λh' hns hsb=>?_) im.kind)
 ·have:=OQ.mp hnc y (by rw[<-im.names];exact hy);rw[e]at this;simp at this
 ·rw[im.names];have:=(List.of_mem_zip hy).1;rw[ni]at this;rcases OT.mp this with e|e
  ·rw[e];exact l1
  ·rw[List.mem_singleton.mp e];exact l2
 ·have keep:∀b ob,s.heap.get? b=some ob->h'.get? b=some ob:=λb ob e=>(hsb.2 b (Nat.ne_of_lt (OF e))).trans (OC _ e);generalize he:newEnv fd.scope s.heap.objs.size fd.globals fd.closure (fd.qualname++".<locals>.") (some g) fd.code none fd.builtins=env;have hL:env.locals=s.heap.objs.size:=by rw[<-he];rfl
  have hko:∀y,env.kindOf y=(aA (sx "__init__")).scope.names.lookup y:=λy=>by rw[<-im.names];unfold Env.kindOf;rw[<-he];rfl
  have hkd:env.scope.kind= .function:=by rw[<-he];exact im.kind
  refine⟨nl.keeps keep,codeAny_func ?_⟩;have hb:(aA (sx "__init__")).body=_:=Ep;rw[hb];rw[<-hL]at hns;have m1:((mps (sx "__init__")).zip [.ref a,v]).reverse.lookup (sx "obj")=some v:=by rw[ni];rfl
  have m2:((mps (sx "__init__")).zip [.ref a,v]).reverse.lookup (sx "self")=some (.ref a):=by rw[ni];rfl
  refine wpAny_execs_cons (plainObj_wpAny_Assign_Attribute (wpAny_Name (wpAny_loadName_local hkd (by rw[hko];exact l2) hns m1 (wpAny_Name (wpAny_loadName_local hkd (by rw[hko];exact l1) hns m2 ?_) (by right))) (by right)));refine Eo (x.keeps keep) (keep _ _ ho) rfl (keep _ _ hd) λw93 w91 w9p=>?_;refine wpAny_execs_nil ?_;exact hQ w93 _ (λb ob hne e=>(w91.2 b hne).trans (keep _ _ e)) (by show s.heap.objs.size<=w93.objs.size;rw[w91.1];exact OL (hL▸hns.lt)) w9p (by show s.toks<=s.toks+_+1;lia)
end
theorem lL(ho:h.get? g=some o)(hc:o.cls= .type "function")(self:Ph):Looks M h (bindSpecial (.ref g) self) (.ref g,[self]):=by unfold bindSpecial;have t:Looks M h (typeOf (.ref g)) (.type "function"):=hc▸(Looks.ld ho).andThen .now;exact t.andThen (Looks.of_pure nofun)
def RpK(W:World9)(θ:Pn)(D:Pn->Prop)(h:Pp)(C:Pn)(x:MV)(v:Ph):Prop:=
 ∃a d u,v= .ref a/\¬D a/\¬aJ a/\h.get? a=some {cls:= .ref C,dict:=some d,data:= .plain,slots:=#[some u]}/\DictAt D h d/\Rp W θ D h x u
theorem RpK.rp(r:RpK W θ D h C x v)(c:bu W D h C):Rp W θ D h (.kobj x) v:=
 by obtain⟨a,d,u,e,n,t,o,k,z⟩:=r;exact⟨a,C,d,u,e,n,t,o,k,c,z⟩
theorem RpK.keep(k:Keep D' h h')(m:∀a,D' a->D a)(p:x.plain=true)(r:RpK W θ D h C x v):RpK W θ D h' C x v:=
by obtain⟨a,d,u,e,n,t,o,q,z⟩:=r;exact⟨a,d,u,e,n,t,k.keep a _ (λq=>n (m _ q)) t o,q.keep k m,Rp.keep k m x u p z⟩
theorem o7(O:V.Ok)(h9:V.W9=w9)(R:Room A 3)(W:Wd V s)(tk:1<=s.toks)(B:Bnd D s)(hc:bu V.W9 D s.heap C)(hp:mv.plain=true)(hv:Rp V.W9 θ D s.heap mv v)
  (hQ:∀r s',St V none9 s s'->1<=s'.toks->RpK V.W9 θ D s'.heap C mv r->Q r s'):wpAny (model V.prog V.w) A (call (.ref C) [v]) Q E s:=by
 have hc':=hc;rw[h9]at hc';obtain⟨N,md,f,cell,x,hcell,hc5,hm⟩:=kC hc';have hmem:sx "__init__"∈ai:=by right
 obtain⟨fd,im⟩:=hm _ hmem;obtain⟨o,hg,_,hcl⟩:=id im.at_;obtain⟨hh,gg,dr,t,os⟩:=s;dsimp only at x hg hcell im W B hv hc;have k2:∀b ob,hh.get? b=some ob->((hh.push emptyDict).push (instObj C hh.objs.size)).get? b=some ob:=λb ob e=>OC _ (OC _ e);refine OW (make_core (IQ x.toKCls0) (x.look λq=>sN hmem) (λself=>lL hg hcl self) (.inl rfl) ?_)
 have ha:((hh.push emptyDict).push (instObj C hh.objs.size)).get? (hh.objs.size+1)=some (mw C hh.objs.size #[]):=by have:=OE (hh.push emptyDict) (o:=instObj C hh.objs.size) rfl;rw[Heap.size_push]at this;exact this
 have hd:((hh.push emptyDict).push (instObj C hh.objs.size)).get? hh.objs.size=some emptyDict:=OC _ (OE hh rfl);refine xS (s:=⟨(hh.push emptyDict).push (instObj C hh.objs.size),gg,dr,t,os⟩) (im.keeps k2) (x.keeps k2) ha hd ?_ ((O.nolimit _ W.K).keeps k2) λh' tk' keep sz ho ht=>?_
 ·have:=R.depth;show A.depth+1<recursionLimit;lia
 ·have keep':∀b ob,hh.get? b=some ob->h'.get? b=some ob:=λb ob e=>keep b ob (Nat.ne_of_lt (Nat.lt_succ_of_lt (OF e))) (k2 b ob e);have sz':hh.objs.size<=h'.objs.size:=OA (by show hh.objs.size<=((hh.push emptyDict).push (instObj C hh.objs.size)).objs.size;rw[Heap.size_push,Heap.size_push];lia) sz;have st1:St V none9 ⟨hh,gg,dr,t,os⟩ ⟨h',gg,dr,tk',os⟩:=⟨.ofAll none9 sz' keep',W.grown O (s':=⟨h',gg,dr,tk',os⟩) sz' keep'⟩;have nd:∀b,hh.objs.size<=b->¬D b/\¬aJ b:=λb hb=>⟨λq=>OM _ (OD (B b q).2 hb),aY (OA W.size hb)⟩;refine⟨rfl,?_⟩
  exact hQ _ _ st1 (OA tk ht) ⟨hh.objs.size+1,hh.objs.size,v,rfl,(nd _ (O7 _)).1,(nd _ (O7 _)).2,ho,
   ⟨(nd _ (OP _)).1,(nd _ (OP _)).2,emptyDict,keep _ _ (Nat.ne_of_lt (O6 _)) hd,rfl⟩,hv.keep0 st1.keep⟩
theorem AY(O:V.Ok)(h9:V.W9=w9)(R:Room A 3)(W:Wd V s)(tk:1<=s.toks)(B:Bnd D s)(hc:bu V.W9 D s.heap C)(hp:mv.plain=true)(hv:Rp V.W9 θ D s.heap mv v)
  (hQ:∀r s',St V none9 s s'->1<=s'.toks->Rp V.W9 θ D s'.heap (.kobj mv) r->Q r s'):wpAny (model V.prog V.w) A (call (.ref C) [v]) Q E s:=
 o7 O h9 R W tk B hc hp hv λr s' st t x=>hQ r s' st t (x.rp (hc.keep st.keep λ_ q=>q.elim))
noncomputable def cmpNames:List Str:=[sx "__lt__",sx "__gt__",sx "__eq__",sx "__le__",sx "__ge__"]
theorem xT:∀x∈cmpNames,x∈ai/\(aA x).scope.names.lookup (sx "mycmp")=some .free/\mSc (aA x).scope.names (mps x)=true/\(mps x).length=2:=by
 have h:(cmpNames.all λx=>decide (x∈ai)&&(aA x).scope.names.lookup (sx "mycmp")==some .free&&mSc (aA x).scope.names (mps x)&&(mps x).length==2)=true:=nofun
 intro x hx;have:=OQ.mp h x hx;simp only [Bool.and_eq_true,decide_eq_true_eq,beq_iff_eq]at this;exact⟨this.1.1.1,this.1.1.2,this.1.2,this.2⟩
noncomputable def gD(F:Fns)(S:Subs)(n:Nat)(nm:Str)(a b:MV):Pj MV:=match(mx F S false n).ex (aA nm).scope.names (((mps nm).zip [a,b]).reverse++[(sx "mycmp",.ex (.ref 169))]) (aA nm).body with
 |some (.ret r,_)=>some r
 |_=>none
section
variable {V:Vw}{F:Fns}{S:Subs}{A:Po}{θ:Pn}{D:Pn->Prop}{s:Pg}{E:Pr}
theorem o9(O:V.Ok)(BK:V.Booked)(FO:FnsOk V F)(SO:SubsOk V S){n:Nat}{N md C cell:Pn}{f:Str->Pn}{nm:Str}{a b r:MV}{va vb:Ph}{Q:Pr}(hn:nm∈cmpNames)
  (hm:∀x∈ai,∃fd,IsMeth s.heap (f x) cell (mps x) (aA x).body (aA x).scope.names fd) (hc:s.heap.IsCell cell (some (.ref 169))) (hc5:175<=cell) (R:Room A (n+1)) (W:Wd V s) (tk:1<=s.toks) (B:Bnd D s)
  (ha:Rp V.W9 θ D s.heap a va) (hb:Rp V.W9 θ D s.heap b vb) (pa:a.plain=true) (pb:b.plain=true) (h:gD F S n nm a b=some r)
  (hQ:∀v s',St V none9 s s'->1<=s'.toks->Rp V.W9 θ D s'.heap r v->r.plain=true->Q v s'):wpAny (model V.prog V.w) A (call (.ref (f nm)) [va,vb]) Q E s:=by
 obtain⟨h1,h2,h3,h4⟩:=xT nm hn;obtain⟨fd,im⟩:=hm nm h1;unfold gD at h;generalize hx:(mx F S false n).ex (aA nm).scope.names (((mps nm).zip [a,b]).reverse++[(sx "mycmp",.ex (.ref 169))]) (aA nm).body=X at h;cases X with
 |none=>exact af h
 |some p=>
  obtain⟨fl,ρ'⟩:=p;cases fl<;>first|exact af h|skip
  cases h;refine qc O BK FO SO (as:=[a,b]) (ρ':=ρ') n im h3 hc hc5 R W tk B ⟨va,_,rfl,ha,vb,[],rfl,hb,rfl⟩ (OR.mpr ⟨pa,OR.mpr ⟨pb,rfl⟩⟩) h4.symm ?_ hQ;rw[if_neg (by rw[im.cloq h2];simp)];exact hx
theorem Er(ho:s.heap.get? a=some ox)(hc:ox.cls= .ref C)(hl:Looks M s.heap (typeLookup (.ref C) nm) (some (.ref g)))(hg:s.heap.get? g=some og)(hgc:og.cls= .type "function")
  (h:wpAny M A (call (.ref g) [.ref a,vb]) (λv=>Q (some v)) E s):wpAny M A (callSpecialIfBound? (.ref a) nm [vb]) Q E s:=by
 unfold callSpecialIfBound? bindSpecialIfBound?;have ty:Looks M s.heap (typeOf (.ref a)) (.ref C):=hc▸(Looks.ld ho).andThen .now;refine OJ (wpB (wpB (wpB (ty.here (hl.here ?_)))));refine wpB (wpAny_askSetting (wpAny_ite ?_));have fin:wpAny M A (call (.ref g) ([.ref a]++[vb])>>=λv=>pure (some v)) Q E s:=wpB (OV h (λv s' h'=>Oz h') λ_ _ h'=>h');split
 ·exact wpB ((lL hg hgc _).here (Oz (by exact fin)))
 ·exact wpAny_tryCatch (wpB ((lL hg hgc _).here (Oz (by exact fin))))
theorem IU(O:V.Ok)(BK:V.Booked)(FO:FnsOk V F)(SO:SubsOk V S)(h9:V.W9=w9){n:Nat}{op:CmpOp}{x y:MV}{va vb:Ph}{r:Bool}{Q:Pr}(hn:(cmpInfo op).2.1∈cmpNames)(R:Room A (n+1))(W:Wd V s)(tk:1<=s.toks)(B:Bnd D s)
  (ha:Rp V.W9 θ D s.heap (.kobj x) va) (hb:Rp V.W9 θ D s.heap (.kobj y) vb) (pa:x.plain=true) (pb:y.plain=true) (h:gD F S n (cmpInfo op).2.1 (.kobj x) (.kobj y)=some (.bool r))
  (hQ:∀s',St V none9 s s'->1<=s'.toks->Q (.bool r) s'):wpAny (model V.prog V.w) A (richCompare op va vb) Q E s:=by
 have ha':=ha;have hb':=hb;obtain⟨a,C,d,u,rfl,_,_,hoa,⟨_,_,od,hd,_⟩,hca,_⟩:=ha;obtain⟨b,C',d',u',rfl,_,_,hob,_,hcb,_⟩:=hb;rw[h9]at hca hcb;obtain⟨N,md,f,cell,kc,hcell,hc5,hm⟩:=kC hca;obtain⟨N',md',f',cell',kc',_⟩:=kC hcb;obtain⟨h1,_⟩:=xT _ hn;obtain⟨fd,im⟩:=hm _ h1;obtain⟨og,hg,_,hgc⟩:=im.at_;have tyb:Looks (model V.prog V.w) s.heap (typeOf (.ref b)) (.ref C'):=(Looks.ld hob).andThen .now;have tya:Looks (model V.prog V.w) s.heap (typeOf (.ref a)) (.ref C):=(Looks.ld hoa).andThen .now
 have one:wpAny (model V.prog V.w) A (tryCompare (.ref a) (cmpInfo op).2.1 (.ref b)) (λr s'=>∃v,r=some v/\Q v s') E s:=by unfold tryCompare;refine OB (Er hoa rfl (kc.look λq=>sN h1) hg hgc (o9 O BK FO SO (N:=N) (md:=md) (C:=C) hn hm hcell hc5 R W tk B ha' hb' pa pb h λv s' st t1 rv _=>?_));have hv:v= .bool r:=rv;subst hv;exact Oz ⟨_,rfl,hQ s' st t1⟩
 unfold richCompare;simp only [oneThing_ref];have hu:A.units<cLine:=by have:=R.units;lia
 refine OJ (OB (wpAny_cRoomFor hu ?_));refine OB (tya.here (OB (tyb.here ?_)))
 by_cases hCC:C=C'
 ·subst hCC;simp only [bne_self_eq_false,Bool.false_eq_true,if_false];refine OB (Oz ?_);simp only [Bool.false_eq_true,if_false];refine OB (OV one (λr s' z=>?_) λ_ _ e=>e);obtain⟨v,rfl,hq⟩:=z;exact Oz hq
 ·have hne:(Value.ref C != Value.ref C')=true:=by simpa using hCC
  have sub:Looks (model V.prog V.w) s.heap (isSubtype (.ref C') (.ref C)) false:=by unfold isSubtype;refine kc'.mro.andThen (.of_pure ?_);simp [List.isEmpty,hCC]
  rw[if_pos hne];refine OB (sub.here ?_);simp only [Bool.false_eq_true,if_false];refine OB (OV one (λr s' z=>?_) λ_ _ e=>e);obtain⟨v,rfl,hq⟩:=z;exact Oz hq
end
theorem Es(h:(cmpInfo op).2.1∈cmpNames)(a b:Ph):compareOp op a b=richCompare op a b:=by cases op<;>first|rfl|exact O8 h (by right)
noncomputable def MW:Pm->Pj (Pm×CmpOp×Pm×Pos)
 | .Compare l ops rs q=>(one ops).bind λop=>(one rs).map λr=>(l,op,r,q)
 |_=>none
theorem IV(h:MW e=some (l,op,r,q)):e= .Compare l [op] [r] q:=by
 cases e<;>first|exact af h|skip
 ext op e h;cases bf e;revert h;refine mpE λr e h=>?_;cases bf e;cases h
 rfl
noncomputable def fU(kc:Str->MV->MV->Pj MV)(n0 n:Nat)(ev:Pm->Pj MV)(e:Pm):Pj MV:=(MW e).bind λc=>if bx c.2.2.1=true/\n0+1<=n/\(cmpInfo c.2.1).2.1∈cmpNames then
 ((ev c.1).bind AX).bind λx=>((ev c.2.2.1).bind AX).bind λy=>((kc (cmpInfo c.2.1).2.1 (.kobj (.str x)) (.kobj (.str y))).bind boolOf).map .bool else none
theorem xU(O:V.Ok)(BK:V.Booked)(FO:FnsOk V F)(SO:SubsOk V S)(h9:V.W9=w9)(I:SndP V n p)(h:fU (gD F S n0) n0 n (p.ev sc ρ) e=some mv):bl V (n+1) sc ρ e mv:=by ext e0z e h;obtain⟨l,op,r,q⟩:=e0z;cases IV e;injections e0z h;obtain⟨hr,hn,ho⟩:=e0z;ext x h1 h;revert h1;refine bdE λw h1 e=>?_;cases sP e;ext y h2 h;revert h2;refine bdE λw h2 e=>?_;cases sP e;revert h;refine mpE λb h3 e2z=>?_;subst e2z;revert h3;refine bdE λw h3 e=>?_;cases i7 e;intro A θ D env s Q E R W tk F hQ;refine wpAny_Compare1 (I.ev _ _ _ _ h1 A θ D env s _ E R.pred W tk F λv w99 st1 t1 r1=>?_) (kX hr);refine I.ev _ _ _ _ h2 A θ D env w99 _ E R.pred st1.wd t1 (F.st st1) λu w98 st2 t2 r2=>?_;rw[Es ho];exact IU O BK FO SO h9 ho (R.le (OK hn)) st2.wd t2 (F.st (st1.trans st2)).bnd (Rp.keep0 st2.keep _ _ r1) r2 rfl rfl h3 λw96 st3 t3=>hQ _ _ ((st1.trans st2).trans st3) t3 rfl
end
end
section
open PySem PySem.Calls PyProof.Rows PySem.Spec
theorem zE:mroOf (.type "map")=pure [.type "map",.type "object"]:=by rw[mroOf_type];symm
theorem xV:typeLookup (.type "map") "__new__"=pure (some (.builtin "map.__new__")):=by rw[typeLookup_type,builtinLookup_eq_fast];symm
theorem qe:Slot "map" "__init__" "object.__init__":=
 .of (owner:="object") (n:="__init__") (by rw[typeLookup_type,builtinLookup_eq_fast];symm) (by right) (by right) (by right)
  (by first|exact .inl (by right)|exact .inr (by right)) (by rw[isSubtype_type];symm)
theorem dq:Slot "map" "__next__" "map.__next__":=
 .of (owner:="map") (n:="__next__") (by rw[typeLookup_type,builtinLookup_eq_fast];symm) (by right) (by right) (by right)
  (by first|exact .inl (by right)|exact .inr (by right)) (by rw[isSubtype_type];symm)
theorem jy:Slot "map" "__iter__" "map.__iter__":=
 .of (owner:="map") (n:="__iter__") (by rw[typeLookup_type,builtinLookup_eq_fast];symm) (by right) (by right) (by right)
  (by first|exact .inl (by right)|exact .inr (by right)) (by rw[isSubtype_type];symm)
theorem xW:TypeCalled "map" "map.__new__" "object.__init__":=
 ⟨by right,by right,⟨_,_,zE⟩,madeBy_type zE xV (by right),by right,by rw[isSubtype_type];symm,qe⟩
theorem sQ(a b:Ph):checkTypeCall "map" ⟨[a,b],[]⟩=pure ():=nofun
theorem vL(a b:Ph):checkBuiltinCall "map.__new__" ⟨[.type "map",a,b],[]⟩=pure ():=nofun
theorem qf:entryFor table "map.__new__"=some Builtin.«map.__new__»:=entryFor_of_tree nofun
theorem iT:entryFor table "map.__next__"=some Builtin.«map.__next__»:=entryFor_of_tree nofun
theorem pe:entryFor table "map.__iter__"=some Builtin.«dict_keyiterator.__iter__»:=
 entryFor_alias (id':="dict_keyiterator.__iter__") nofun rfl (by right) nofun
theorem sR(o a b:Ph):argsOk "object.__init__" ⟨[o,a,b],[]⟩:=by unfold argsOk;symm
theorem jz(a:Ph):argsOk "map.__next__" ⟨[a],[]⟩:=by unfold argsOk;symm
theorem qg(a:Ph):argsOk "map.__iter__" ⟨[a],[]⟩:=by unfold argsOk;symm
theorem xX:typeLookup (.type "map") "__len__"=pure none:=by rw[typeLookup_type,builtinLookup_eq_fast];symm
theorem vM:typeLookup (.type "map") "__length_hint__"=pure none:=by rw[typeLookup_type,builtinLookup_eq_fast];symm
theorem IW:isSubtype (.type "map") (.type "map")=pure true:=by rw[isSubtype_type];symm
noncomputable abbrev jR(l:Pn):Obj:={cls:= .type "list_iterator",data:= .fields #[.ref l,.int 0 0]}
noncomputable abbrev gi(tp:Pn)(f:Ph):Obj:={cls:= .type "map",data:= .fields #[.ref tp,f]}
noncomputable abbrev jA(it:Pn):Obj:={cls:= .type "tuple",data:= .seq #[.ref it]}
theorem qh(f:Ph)(l:Pn)(items:Array Ph):Meets (Builtin.«map.__new__» ⟨[.type "map",f,.ref l],[]⟩) (λ_ R s=>s.heap.IsList l items/\
  R (.ok (.ret (.ref (s.heap.objs.size+2)))) {s with heap:=((s.heap.push (jR l)).push (jA s.heap.objs.size)).push (gi (s.heap.objs.size+1) f)}):=
 .of_wp λprog w A R s h=>by
  obtain⟨hp,g,d,tk,os⟩:=s;obtain⟨hL,h⟩:=h;have hsub:=IW;unfold Builtin.«map.__new__» Builtin.SmallTypes.newClass Builtin.SmallTypes.refuseKeywords Builtin.SmallTypes.iterAll Builtin.SmallTypes.newRecord
  wp_walk using wpAny_pyIter_list hL
  exact⟨_,rfl,by simpa [Heap.size_push]using h⟩
section
variable {prog:Program}{w:World}{A:Po}{E:Pr}{s:Pg}
theorem Et(hl:s.heap.IsList l items)
  (hQ:Q (.ref (s.heap.objs.size+2)) {s with heap:=((s.heap.push (jR l)).push (jA s.heap.objs.size)).push (gi (s.heap.objs.size+1) f)}):wpAny (model prog w) A (call (.type "map") [f,.ref l]) Q E s:=
 callType_new xW (by left) (sQ _ _) (vL _ _) (λo=>sR o _ _) qf (qh f l items) ⟨hl,⟨_,by have:=OE ((s.heap.push (jR l)).push (jA s.heap.objs.size)) (o:=gi (s.heap.objs.size+1) f) rfl;simp only [Heap.size_push]at this;exact this,rfl⟩,hQ⟩
theorem qi(hI:s.heap.get? I=some (gi tp f))(ht:s.heap.get? tp=some (jA it))(hit:s.heap.IsListIter it l i)(hl:s.heap.IsList l items)(hx:items[i]?=some x)(hne:I≠it)
  (hQ:∀h',h'.IsListIter it l (i+1)->Heap.SameBut it s.heap h'->wpAny (model prog w) A.in1 (call f [x]) (λv s'=>Q (some v) s') (λ_ _=>False) {s with heap:=h'}):
  wpAny (model prog w) A (pyNext (.ref I)) Q E s:=by
 have hT:s.TypeIs (.ref I) "map":=⟨_,hI,rfl⟩;unfold pyNext
 refine wpB (wpAny_attempt (wpAny_callSpecial?_slot (name:=Pd "__next__") hT dq
  (wpAny_call_entry dq hT iT ?_ (jz _))))
 show wpAny _ _ (field (.ref I) 0>>=_) _ _ _;refine wpB (wpAny_field hI rfl (x:= .ref tp) rfl ?_);refine wpB (wpAny_seqItems ht rfl ?_);show wpAny _ _ (forIn #[Value.ref it] _ _>>=_) _ _ _;rw[<-Array.forIn_toList];show wpAny _ _ (forIn [Value.ref it] _ _>>=_) _ _ _;rw[List.forIn_cons];refine wpB (wpB (wpB (OJ (wpAny_nextOf_list_item hit hl hx λh' h1 h2=>Oz ?_))));show wpAny _ _ (forIn ([]:List Ph) _ _) _ _ _;rw[List.forIn_nil];refine Oz ?_;refine wpB (wpAny_field ((h2.2 I hne).trans hI) rfl (x:=f) rfl ?_);refine wpB (OJ (OV (hQ h' h1 h2) (λv s' hv=>?_) λ_ _ h=>h.elim));refine wpB (wpAny_letGo ?_);exact Oz ⟨v,rfl,Oz hv⟩
theorem sS(hh:A.handled=none)(hI:s.heap.get? I=some (gi tp f))(ht:s.heap.get? tp=some (jA it))(hit:s.heap.IsListIter it l i)(hl:s.heap.IsList l items)(hx:items[i]?=none)
  (hQ:∀h',Heap.ExtBut it s.heap h'->Q none {s with heap:=h'}):
  wpAny (model prog w) A (pyNext (.ref I)) Q E s:=by
 have hT:s.TypeIs (.ref I) "map":=⟨_,hI,rfl⟩;unfold pyNext
 refine wpB (wpAny_attempt (wpAny_callSpecial?_slot (name:=Pd "__next__") hT dq
  (wpAny_call_entry dq hT iT ?_ (jz _))))
 show wpAny _ _ (field (.ref I) 0>>=_) _ _ _;refine wpB (wpAny_field hI rfl (x:= .ref tp) rfl ?_);refine wpB (wpAny_seqItems ht rfl ?_);show wpAny _ _ (forIn #[Value.ref it] _ _>>=_) _ _ _;rw[<-Array.forIn_toList];show wpAny _ _ (forIn [Value.ref it] _ _>>=_) _ _ _;rw[List.forIn_cons];refine wpB (wpB (wpB (OJ (wpAny_nextOf_list_end hh hit hl hx λh' e h1 h2=>?_))));obtain⟨o,ho,hc⟩:=h2;refine wpB (wpAny_isInstance (T:="StopIteration") (b:=true) ⟨o,ho,hc⟩ isSubtype_stop ?_);exact Oz (hQ _ h1)
end
theorem fV:∀{l:List MV},aa l=true->aa (l.map .kobj)=true
 | [],_=>rfl
 |x::l,p=>by have p':x.plain=true/\aa l=true:=ba p;show(x.plain&&aa (l.map .kobj))=true;rw[p'.1,fV p'.2];rfl
theorem iU(r:Room A (n+1)):Room A.in1 n:=⟨r.hd,by have:=r.depth;show A.depth+n<_;lia,by have:=r.units;show A.units+1+8*n<_;lia⟩
theorem Eu(O:V.Ok)(h9:V.W9=w9)(m:∀b,D' b->D b)(hS:D' S)(hi:D' it)(hSi:S≠it)(nI:¬D I/\¬aJ I)(nt:¬D tp/\¬aJ tp)(nl:¬D l/\¬aJ l)(tS:¬aJ S)(ti:¬aJ it):
  ∀(rest done:List MV) (vrest vdone:List Ph) (s:Pg) (acc:Array Ph) (c:Nat) (A:Po) (R:Result->Pg->Prop),Room A 5->Wd V s->1<=s.toks->Bnd D s->s.heap.get? I=some (gi tp (.ref C))->s.heap.get? tp=some (jA it)->s.heap.IsListIter it l vdone.length->s.heap.IsList l (vdone++vrest).toArray->
  s.heap.get? S=some {cls:= .type "list",dict:=none,data:= .seq acc c,slots:=#[]}->acc.size=done.length->done.length+rest.length<=1000->bu V.W9 D s.heap C->aa rest=true->aa done=true->RpL V.W9 θ D s.heap rest vrest->RpL V.W9 θ D s.heap (done.map .kobj) acc.toList->
  (∀s' acc' c',St V D' s s'->1<=s'.toks->s'.heap.get? S=some {cls:= .type "list",dict:=none,data:= .seq acc' c',slots:=#[]}->RpL V.W9 θ D s'.heap ((done++rest).map .kobj) acc'.toList->R (.ok (.ret res)) s')->
  codeAny (model V.prog V.w) A (.builtin "list.extend.loop" ⟨[.ref S,.ref I,res],[]⟩) R s:=by
 intro rest;induction rest with
 |nil=>
  intro done vrest vdone s acc c A R Rm W tk B hI ht hit hl hSo hsz hlen hC pr pd rr rd hR;cases rr;refine codeAny_builtin F.entry_extend_loop ?_;rw[Around.under_plainId F.plain_extend_loop _];show wpAny _ A.in1 (pyNext (.ref I)>>=_) _ _ s;have hit':=hit;refine wpB (l6 (sS (A:=A.in1) Rm.hd hI ht hit hl (by simp) λh' hx hz=>?_));have st:St V D' s {s with heap:=h'}:=⟨⟨hz,λb o q _ e=>hx b o (λq'=>q (q'▸hi)) e,(by obtain⟨_,ho,hcl,_⟩:=id hit;exact λb o _ c e=>hx b o (λq'=>bK ho hcl (by left) o (q'▸e) c) e)⟩,⟨λb o e=>hx b o (λq=>O8 (O.far b o e).2 (OU.mpr (q▸(B it (m _ hi)).1))) (W.K b o e),?_,OA W.size hz,W.bare,O.tabKeep _ _ W.tabs λb o e c=>?_,W.os⟩⟩
  ·refine Oz (hR _ acc c st tk (hx _ _ hSi hSo) ?_);rw[List.append_nil];exact RpL.keep st.keep m _ _ (fV pd) rd
  ·obtain⟨mb,h1,h2⟩:=W.b;exact⟨mb,h1.at λo e=>hx _ o (λq=>O8 (show(Pc:Nat)<175 by left) (OU.mpr (q▸(B it (m _ hi)).1))) e,h2⟩
  ·refine hx b o (λq=>?_) e;obtain⟨o',h1,h2,h3⟩:=hit';rw[q,h1]at e;cases e;rcases c with⟨vs,_,c|c⟩|c
   ·rw[h2]at c;cases c
   ·rw[h2]at c;injection c with c;exact O8 c (by left)
   ·exact O8 c (OU.mpr (q▸(B it (m _ hi)).1))
 |cons x rest ih=>
  intro done vrest vdone s acc c A R Rm W tk B hI ht hit hl hSo hsz hlen hC pr pd rr rd hR;obtain⟨v,vr,rfl,rx,rr⟩:=rr;have pr':x.plain=true/\aa rest=true:=ba pr;refine codeAny_builtin F.entry_extend_loop ?_;rw[Around.under_plainId F.plain_extend_loop _];show wpAny _ A.in1 (pyNext (.ref I)>>=_) _ _ s;obtain⟨oi,hoi,hoc,_⟩:=id hit;refine wpB (qi (A:=A.in1) hI ht hit hl (x:=v) (by simp) (λq=>nI.1 (q▸m _ hi)) λh' hit' hs'=>?_);have st1:St V D' s {s with heap:=h'}:= .same O W hs' hi (B it (m _ hi)).1 s.toks (bK hoi hoc (by left));refine AY (mv:=x) (D:=D) (θ:=θ) O h9 (A:=A.in1.in1) (iU (iU (Rm.le (by left)))) st1.wd tk (B.st st1) (hC.keep st1.keep m) pr'.1 (Rp.keep st1.keep m _ _ pr'.1 rx) λr w98 st2 t2 rk=>?_;have st12:St V D' s w98:=st1.trans st2.any;have hS2:w98.heap.get? S=some {cls:= .type "list",dict:=none,data:= .seq acc c,slots:=#[]}:=st2.keep.keep _ _ (λq=>q) tS ((hs'.2 S hSi).trans hSo);show wpAny _ A.in1 (updateSeq S (·.push r)>>=_) _ _ _;refine wpB ?_;have hss:=OO (h:=w98.heap) (a:=S) (f:=Obj.mapSeq (·.push r));have st3:St V D' w98 {w98 with heap:=w98.heap.update S (Obj.mapSeq (·.push r))}:= .same O st2.wd hss hS (B S (m _ hS)).1 w98.toks (bK hS2 rfl (by left));have st123:=st12.trans st3;refine wpAny_updateSeq hS2 rfl (Oz ⟨plainId_quiet F.plain_extend_loop _,ih (done++[x]) vr (vdone++[v]) _ (acc.push r) _ A R Rm st3.wd t2 ((B.st st12).st st3) ?_ ?_ ?_ ?_ (O4 _ hS2 rfl) ?_ ?_ (hC.keep st123.keep m) pr'.2 (cI pd (OR.mpr ⟨pr'.1,rfl⟩)) (RpL.keep st123.keep m _ _ pr'.2 rr) ?_ ?_⟩) ?_ ?_
  ·exact st123.keep.keep _ _ (λq=>nI.1 (m _ q)) nI.2 hI
  ·exact st123.keep.keep _ _ (λq=>nt.1 (m _ q)) nt.2 ht
  ·have e:=(hit'.at (h':=w98.heap) λo e=>st2.keep.keep _ _ (λq=>q) ti e).at (h':=(w98.heap.update S (Obj.mapSeq (·.push r)))) λo e=>(hss.2 _ (Ne.symm hSi)).trans e;simpa using e
  ·have e:=IsList.keepAt hl (h':=(w98.heap.update S (Obj.mapSeq (·.push r)))) λo e=>st123.keep.keep _ _ (λq=>nl.1 (m _ q)) nl.2 e;simpa using e
  ·simp [hsz]
  ·simp;simp at hlen;lia
  ·rw[Array.toList_push,List.map_append];exact(RpL.keep st123.keep m _ _ (fV pd) rd).append ⟨r,[],rfl,Rp.keep st3.keep m (.kobj x) r pr'.1 rk,rfl⟩
  ·intro s' acc' c' st' tk' hS' hr';refine hR s' acc' c' (st123.trans st') tk' hS' ?_
   rwa [List.append_assoc]at hr'
  ·rw[sizeLine_eq,hsz];simp at hlen;lia
  ·show(acc.push r).size<=_;rw[Array.size_push,sizeLine_eq,hsz];simp at hlen;lia
theorem xY(he:s.heap.get? e=some (gi tp f))(h:Q (.ref e) s):wpAny (model prog w) A (pyIter (.ref e)) Q E s:=by have hT:s.TypeIs (.ref e) "map":=⟨_,he,rfl⟩;refine wpAny_pyIter_slot hT jy (wpAny_call_entry jy hT pe ?_ (qg _));show wpAny _ _ (ret (.ref e)) _ _ s;exact Oz ⟨_,rfl,"map",_,hT,dq.lookup,h⟩
theorem qj(h:@Ne Nat a b):a≠b:=h
noncomputable abbrev dT(h:Pp)(a C:Pn):Pp:=((h.push (jR a)).push (jA h.objs.size)).push (gi (h.objs.size+1) (.ref C))
theorem sT(O:V.Ok)(h9:V.W9=w9)(R:Room A 8)(W:Wd V s)(tk:1<=s.toks)(B:Bnd D s)
  (hl:s.heap.IsList a vs.toArray) (nl:¬D a/\¬aJ a) (hC:bu V.W9 D s.heap C) (pl:aa mvs=true) (hz:mvs.length<=1000) (rl:RpL V.W9 θ D s.heap mvs vs)
  (hQ:∀r s',St V none9 s s'->1<=s'.toks->Rp V.W9 θ D s'.heap (.list (mvs.map .kobj)) r->Q r s'):
  wpAny (model V.prog V.w) A (call (.type "list") [.ref (s.heap.objs.size+2)]) Q E {s with heap:=dT s.heap a C}:=by
 obtain⟨hh,gg,dr,tk0,os⟩:=s;dsimp only at hl nl hC rl tk;have hsz:(dT hh a C).objs.size=hh.objs.size+3:=by simp [dT,Heap.size_push]
 refine callType_codes (Q₁:=λobj w99=>obj= .ref (hh.objs.size+3)/\w99=⟨(dT hh a C).push {cls:= .type "list",data:= .seq #[]},gg,dr,tk0,os⟩) F.called_list (F.typeCall_list_1 _) F.entry_list_init
  (code_list_new _ ⟨by rw[hsz],rfl⟩) λobj w99 w95=>?_
 obtain⟨rfl,rfl⟩:=w95
 have hS:((dT hh a C).push {cls:= .type "list",data:= .seq #[]}).get? (hh.objs.size+3)=some {cls:= .type "list",data:= .seq #[]}:=by have:=OE (dT hh a C) (o:={cls:= .type "list",data:= .seq #[]}) rfl;rw[hsz]at this;exact this
 have hI:((dT hh a C).push {cls:= .type "list",data:= .seq #[]}).get? (hh.objs.size+2)=some (gi (hh.objs.size+1) (.ref C)):=by refine OC _ ?_;have:=OE ((hh.push (jR a)).push (jA hh.objs.size)) (o:=gi (hh.objs.size+1) (.ref C)) rfl;simp only [Heap.size_push]at this;exact this
 have ht:((dT hh a C).push {cls:= .type "list",data:= .seq #[]}).get? (hh.objs.size+1)=some (jA hh.objs.size):=by refine OC _ (OC _ ?_);have:=OE (hh.push (jR a)) (o:=jA hh.objs.size) rfl;simp only [Heap.size_push]at this;exact this
 have hit:((dT hh a C).push {cls:= .type "list",data:= .seq #[]}).get? hh.objs.size=some (jR a):=
  OC _ (OC _ (OC _ (OE hh rfl)))
 have old:∀b o,hh.get? b=some o->((dT hh a C).push {cls:= .type "list",data:= .seq #[]}).get? b=some o:=
  λb o e=>OC _ (OC _ (OC _ (OC _ e)))
 generalize hH:(dT hh a C).push {cls:= .type "list",data:= .seq #[]}=H at*;have hHs:H.objs.size=hh.objs.size+4:=by rw[<-hH,Heap.size_push,hsz]
 refine⟨⟨_,hS,rfl⟩,F.args_list_init_2 _ _,?_⟩;show wpAny _ A.in1.in1 (do let old <-Builtin.List.listItems (.ref _);Builtin.List.listUpdate (.ref _) (λ_=>#[]);letGo old.toList.reverse;Builtin.List.listExtendWith (.ref _) (.ref _) .none) _ _ _;refine wpB ?_;unfold Builtin.List.listItems;refine wpB (wpAny_seqItems hS rfl (Oz ?_));show wpAny _ A.in1.in1 (updateSeq _ (λ_=>#[])>>=λ_=>letGo (#[]:Array Ph).toList.reverse>>=λ_=>Builtin.List.listExtendWith (.ref _) (.ref _) .none) _ _ _;refine wpB (wpAny_updateSeq hS rfl ?_);have w9y:=O4 (Obj.mapSeq (λ_=>(#[]:Array Ph))) hS rfl;have o2:∀b o,b≠hh.objs.size+3->H.get? b=some o->(H.update (hh.objs.size+3) (Obj.mapSeq (λ_=>(#[]:Array Ph)))).get? b=some o:=λb o hb e=>(Heap.get?_update_other _ _ (Ne.symm hb)).trans e;have z2:(H.update (hh.objs.size+3) (Obj.mapSeq (λ_=>(#[]:Array Ph)))).objs.size=H.objs.size:=(OO (h:=H) (a:=hh.objs.size+3) (f:=Obj.mapSeq (λ_=>(#[]:Array Ph)))).1;generalize hH2:H.update (hh.objs.size+3) (Obj.mapSeq (λ_=>(#[]:Array Ph)))=H2 at*;refine wpB (wpAny_letGo ?_);unfold Builtin.List.listExtendWith;have hI2:=o2 _ _ (by lia) hI;refine wpB (wpAny_typeOf (s:=⟨H2,gg,dr,tk0,os⟩) (T:="map") ⟨_,hI2,rfl⟩ ?_);have h1:Builtin.List.listSameRef (.ref (hh.objs.size+3)) (.ref (hh.objs.size+2))=false:=by simp [Builtin.List.listSameRef]
 have h2:(Value.type "map"==Value.type "list")=false:=by left
 have h3:(Value.type "map"==Value.type "tuple")=false:=by left
 simp only [h1,h2,h3,Bool.or_false,Bool.false_eq_true,if_false];refine wpB (xY (s:=⟨H2,gg,dr,tk0,os⟩) hI2 ?_);refine wpB (OJ ?_);unfold Builtin.List.listLengthHint;refine wpB (OY (s:=⟨H2,gg,dr,tk0,os⟩) (T:="map") ⟨_,hI2,rfl⟩ xX ?_);show wpAny _ A.in1.in1 (specialOf (Value.ref _) (Pd "__length_hint__")>>=_) _ _ _;refine wpB (OY (s:=⟨H2,gg,dr,tk0,os⟩) (T:="map") ⟨_,hI2,rfl⟩ vM ?_);refine Oz ?_
 show wpAny _ A.in1.in1 (rule "list.extend.makes-room">>=λ_=>Builtin.List.listTouch (.ref _)>>=λ_=>
  again (.builtin "list.extend.loop" ⟨[.ref _,.ref _,.none],[]⟩)) _ _ _
 refine wpB (wpAny_rule ?_);refine wpB ?_;show wpAny _ A.in1.in1 (updateSeq _ (·.push .none)>>=λ_=>updateSeq _ (·.pop)) _ _ _;refine wpB (wpAny_updateSeq (s:=⟨H2,gg,dr,tk0,os⟩) w9y rfl ?_);have w9x:=O4 (Obj.mapSeq (·.push Value.none)) w9y rfl;refine wpAny_updateSeq (hz:=by seq_fits) w9x rfl ?_;have w9o:=O4 (Obj.mapSeq (·.pop)) w9x rfl;have o4:∀b o,b≠hh.objs.size+3->H2.get? b=some o->((H2.update (hh.objs.size+3) (Obj.mapSeq (·.push Value.none))).update (hh.objs.size+3) (Obj.mapSeq (·.pop))).get? b=some o:=
  λb o hb e=>(Heap.get?_update_other _ _ (Ne.symm hb)).trans ((Heap.get?_update_other _ _ (Ne.symm hb)).trans e)
 have z4:((H2.update (hh.objs.size+3) (Obj.mapSeq (·.push Value.none))).update (hh.objs.size+3) (Obj.mapSeq (·.pop))).objs.size=H2.objs.size:=
  (OO _ _ (Obj.mapSeq (·.pop))).1.trans (OO _ _ (Obj.mapSeq (·.push Value.none))).1
 generalize hH4:(H2.update (hh.objs.size+3) (Obj.mapSeq (·.push Value.none))).update (hh.objs.size+3) (Obj.mapSeq (·.pop))=H4 at*
 have keep4:∀b o,hh.get? b=some o->H4.get? b=some o:=λb o e=>by have hb:=OF e;exact o4 b o (qj (by have:@LT.lt Nat _ b hh.objs.size:=hb;lia)) (o2 b o (qj (by have:@LT.lt Nat _ b hh.objs.size:=hb;lia)) (old b o e))
 have z04:hh.objs.size<=H4.objs.size:=by lia
 have st0:St V none9 ⟨hh,gg,dr,tk0,os⟩ ⟨H4,gg,dr,tk0,os⟩:=⟨.ofAll none9 z04 keep4,W.grown O (s':=⟨H4,gg,dr,tk0,os⟩) z04 keep4⟩;have nt:∀b,hh.objs.size<=b->¬aJ b:=λb hb=>aY (OA W.size hb);have nD:∀b,hh.objs.size<=b->¬D b:=λb hb q=>OM _ (OD (B b q).2 hb);refine Oz ⟨plainId_quiet F.plain_extend_loop _,?_⟩
 have lo:∀b,b=hh.objs.size+3\/b=hh.objs.size->hh.objs.size<=b:=λb q=>by
  rcases q with q|q
  ·rw[q];exact OI _ _
  ·rw[q];exact OP _
 have wide:∀b,b<hh.objs.size->(D b\/b=hh.objs.size+3\/b=hh.objs.size)->D b:=λb hb q=>q.elim id λq=>O8 hb (OU.mpr (lo b q))
 have hC2:bu V.W9 (λb=>D b\/b=hh.objs.size+3\/b=hh.objs.size) H4 C:=by obtain⟨l,e1,e2⟩:=hC;exact⟨l,e1,λp hp=>⟨(e2 p hp).1.imp (λn q=>n (wide _ (OF (e2 p hp).2.2) q)) id,(e2 p hp).2.1,keep4 _ _ (e2 p hp).2.2⟩⟩
 have rl2:=RpL.keep0 (st0.keep) _ _ (RpL.wide (D':=λb=>D b\/b=hh.objs.size+3\/b=hh.objs.size) wide _ _ pl rl)
 have nn:∀k:Nat,k=1\/k=2->¬(D (hh.objs.size+k)\/hh.objs.size+k=hh.objs.size+3\/hh.objs.size+k=hh.objs.size):=λk hk q=>by
  rcases q with q|q|q
  ·exact nD _ (OI _ _) q
  ·have:@Eq Nat (hh.objs.size+k) (hh.objs.size+3):=q;lia
  ·have:@Eq Nat (hh.objs.size+k) hh.objs.size:=q;lia
 refine Eu (D':=λb=>b=hh.objs.size+3\/b=hh.objs.size) (S:=hh.objs.size+3) (it:=hh.objs.size) (I:=hh.objs.size+2) (tp:=hh.objs.size+1) (l:=a) (D:=λb=>D b\/b=hh.objs.size+3\/b=hh.objs.size) (θ:=θ) O h9 (λ_ q=> .inr q) (.inl rfl) (.inr rfl) (qj (by lia))
  ⟨nn 2 (.inr rfl),nt _ (OI _ _)⟩ ⟨nn 1 (.inl rfl),nt _ (OI _ _)⟩ ⟨λq=>nl.1 (wide _ (IsList.lt hl) q),nl.2⟩ (nt _ (OI _ _)) (nt _ (OP _)) mvs [] vs [] _ _ _ _ _ (iU (R.le (by left))) st0.wd tk ?_ (o4 _ _ (qj (by lia)) hI2) (o4 _ _ (qj (by lia)) (o2 _ _ (qj (by lia)) ht))
  ⟨_,o4 _ _ (qj (by lia)) (o2 _ _ (qj (by lia)) hit),rfl,rfl⟩ (IsList.keepAt hl λo e=>keep4 _ _ e) w9o rfl (by simpa using hz) hC2 pl rfl rl2 rfl λs' acc' c' st' tk' hS' hr'=>?_
 ·intro b q;have:=W.size;rcases q with q|q|q
  ·exact⟨(B b q).1,OD (B b q).2 z04⟩
  ·rw[q];exact⟨OA this (OI _ _),by show _<H4.objs.size;lia⟩
  ·rw[q];exact⟨this,by show _<H4.objs.size;lia⟩
 ·refine⟨rfl,hQ _ s' ⟨⟨OA st0.keep.size st'.keep.size,λb o q t e=>st'.keep.keep b o (λq=>O8 (OF e) (OU.mpr (lo b q))) t (keep4 b o e),λb o t c e=>st'.keep.code b o t c (keep4 b o e)⟩,st'.wd⟩ tk' ⟨_,acc'.toList,rfl,nD _ (OI _ _),nt _ (OI _ _),⟨_,hS',rfl,_,rfl⟩,?_⟩⟩;exact RpL.wide (D:=λb=>D b\/b=hh.objs.size+3\/b=hh.objs.size) (D':=D) (λ_ _ q=> .inl q) _ _ (fV pl) hr'
noncomputable def Ls:MV->Bool
 | .kcls=>true
 |_=>false
theorem zF(h:Ls x=true):x= .kcls:=by cases x<;>first|rfl|exact Bool.noConfusion h
noncomputable def nj(n:Nat)(ev:Pm->Pj MV)(e:Pm):Pj MV:=(ie e).bind λc=>(one c.2.1).bind λa=>(ie a).bind λg=>(cNm c.1).bind λ_=>(cNm g.1).bind λ_=>(two g.2.1).bind λcl=>
 if notStar cl.1=true/\notStar cl.2=true/\8<=n then((ev c.1).bind kW).bind λu=>((ev g.1).bind kW).bind λw=>(ev cl.1).bind λk=>((ev cl.2).bind d5).bind λms=>
  if Ls k=true/\u= .type "list"/\w= .type "map"/\aa ms=true/\ms.length<=1000 then some (.list (ms.map .kobj)) else none else none
theorem IX(O:V.Ok)(h9:V.W9=w9)(I:SndP V n p)(hc:notStar c=true)(hl:notStar l=true)(hn:8<=n)(h1:p.ev sc ρ (.Name x q)=some (.ex (.type "list")))(h2:p.ev sc ρ (.Name y q2)=some (.ex (.type "map")))(h3:p.ev sc ρ c=some .kcls)(h4:p.ev sc ρ l=some (.list ms))(hp:aa ms=true)(hz:ms.length<=1000):
  bl V (n+1) sc ρ (.Call (.Name x q) [.Call (.Name y q2) [c,l] [] p2] [] pos) (.list (ms.map .kobj)):=by
 intro A θ D env s Q E R W tk F hQ;refine Call_name1 rfl (I.ev _ _ _ _ h1 A θ D env s _ E R.pred W tk F λv w99 st1 t1 r1=>?_);cases r1;refine callWith_type1 ?_;refine wpAny_Call_NameR (I.ev _ _ _ _ h2 A θ D env w99 _ E R.pred st1.wd t1 (F.st st1) λv w98 st2 t2 r2=>?_);cases r2;replace st2:=st1.trans st2;have ha:aT p sc ρ [c,l]=some [.kcls,.list ms]:=ly hc hl h3 h4;refine PySem.callWith_type (eB ha).2 (bz I ha A θ D env w98 _ E R.pred st2.wd t2 (F.st st2) λvs w96 st3 t3 r3=>?_);obtain⟨u,r,rfl,⟨C,rfl,hC⟩,u2,r,rfl,⟨ad,ws,rfl,d1,d2,d3,d4⟩,rr⟩:=r3;cases rr;replace st3:=st2.trans st3;refine Et d3 ?_;exact sT O h9 (R.le (OK hn)) st3.wd t3 (F.st st3).bnd d3 ⟨d1,d2⟩ hC hp hz d4 λr w9Z st4 t4 r4=>hQ _ _ (st3.trans st4) t4 r4
theorem xZ(O:V.Ok)(h9:V.W9=w9)(I:SndP V n p)(h:nj n (p.ev sc ρ) e=some mv):bl V (n+1) sc ρ e mv:=by revert O h9 I h;exists V,n,sc,ρ,p,e,mv;ext e0z he h;obtain⟨f,as,pos⟩:=e0z;cases gw he;ext a he h;cases bf he;ext e0z he h;obtain⟨g,bs,p2⟩:=e0z;cases gw he;ext x he h;obtain⟨q,rfl⟩:=cM he;ext y he h;obtain⟨q2,rfl⟩:=cM he;ext e0z he h;obtain⟨c,l⟩:=e0z;cases d6 he;injections e0z h;obtain⟨hc,hl,hn⟩:=e0z;ext u h1 h;ext w h2 h;ext k h3 h;ext ms h4 h;injections e0z h;obtain⟨hk,rfl,rfl,hp,hz⟩:=e0z;cases zF hk;cases h;revert h1;refine bdE λu h1 e=>?_;cases gL e;revert h2;refine bdE λw h2 e=>?_;cases gL e;revert h4;refine bdE λw h4 e=>?_;cases bZ e;exact IX O h9 I hc hl hn h1 h2 h3 h4 hp hz
end
section
open PySem PySem.Calls PyProof.Rows PySem.W
section
noncomputable def br{α:Type}(o:Nat->Nat->Pj Bool):KasT α->Pj α
 | .ret a=>some a
 | .ask i j k=>(o i j).bind λb=>br o (k b)
theorem kD{α:Type}{cmp:Nat->Nat->(Bool->Pg->Prop)->Pg->Prop}{o:Nat->Nat->Pj Bool}{I:Pg->Prop}(hc:∀i j b C s,o i j=some b->I s->(∀s',I s'->C b s')->cmp i j C s){a:α}{Q:α->Pg->Prop}(hq:∀s,I s->Q a s):
  ∀(t:KasT α) (s:Pg),br o t=some a->I s->t.kasWp cmp Q s
 | .ret x,s,h,hi=>by cases h;exact hq s hi
 | .ask i j k,s,h,hi=>by
  unfold br at h;cases hb:o i j with
  |none=>rw[hb]at h;cases h
  |some b=>rw[hb]at h;exact hc i j b _ s hb hi λs' hi'=>kD hc hq (k b) s' h hi'
theorem pg{keys:Array Ph}{vs:List Ph}(hz:keys.size=vs.length)(i:Nat):kas_item (keys.zip vs.toArray) i=(keys.toList.getD i .none,vs.getD i .none):=by
 unfold kas_item
 by_cases h:i<vs.length
 ·have h':i<(keys.zip vs.toArray).size:=by simp [hz,h]
  have hk:i<keys.size:=by lia
  have e:(keys.zip vs.toArray).getD i (Value.none,Value.none)=(keys.zip vs.toArray)[i]:=by simp [Array.getD,hz,h]
  rw[e];simp [h,hk]
 ·have h':¬i<(keys.zip vs.toArray).size:=by simp [hz];lia
  have hk:¬i<keys.size:=by lia
  have e:(keys.zip vs.toArray).getD i (Value.none,Value.none)=(Value.none,Value.none):=by simp [Array.getD,hz,h]
  rw[e];simp [h,hk]
theorem RpL.pick:∀{l:List MV} {vs:List Ph},RpL W θ D h l vs->∀i,Rp W θ D h (l.getD i .none) (vs.getD i .none)
 | [],_,r,i=>by cases r;exact rfl
 |_::_,_,⟨v,q,e,r1,r2⟩,0=>by subst e;exact r1
 |_::_,_,⟨v,q,e,r1,r2⟩,i+1=>by subst e;exact RpL.pick r2 i
theorem RpL.picks(r:RpL W θ D h l vs):∀ix:List Nat,RpL W θ D h (ix.map λi=>l.getD i .none) (ix.map λi=>vs.getD i .none)
 | []=>rfl
 |i::ix=>⟨_,_,rfl,r.pick i,RpL.picks r ix⟩
section
variable {V:Vw}{θ:Pn}{D D':Pn->Prop}{a kS C:Pn}{e1:Nat}{vs:List Ph}{ms:List MV}{A:Po}{s:Pg}{P:PySem.Fin->Pg->Prop}{E:Pr}
theorem AZ(O:V.Ok)(h9:V.W9=w9)(m:∀b,D' b->D b)(hk:D' kS)(ha:D' a)(hka:kS≠a)(tkS:¬aJ kS)(ta:¬aJ a)(R:Room A 4)(W:Wd V s)(tk:1<=s.toks)(B:Bnd D s)(ok:s.heap.get? kS=some (seqObj "list" #[] 0))(oa:s.heap.get? a=some (seqObj "list" #[] e1))
  (hC:bu V.W9 D s.heap C) (pl:aa ms=true) (hz:ms.length<64) (rl:RpL V.W9 θ D s.heap ms vs)
  (h:∀s' keys c,St V D' s s'->1<=s'.toks->s'.heap.get? kS=some (seqObj "list" keys c)->s'.heap.get? a=some (seqObj "list" #[] e1)->keys.size=vs.length->(∀i x,ms[i]?=some x->RpK V.W9 θ D s'.heap C x (keys.toList.getD i .none))->
   wpAny (model V.prog V.w) A (ksk_end a false vs.toArray e1 (.ref kS) keys) P E s'):
  wpAny (model V.prog V.w) A (ksk_rest a (.ref C) false vs.toArray e1 (.ref kS)) P E s:=by
 revert O h9 m hk ha hka tkS ta R W tk B ok oa hC pl hz rl h;exists V,θ,D,D',a,kS,C,e1,vs,ms,A,s,P,E;have hl:=rl.length;unfold ksk_rest;refine wpB (wpAny_rule ?_)
 first
  |rw[List.forIn_toArray]
  |(rw[<-Array.forIn_toList];simp only [List.toList_toArray])
  |rw[<-Array.forIn_toList]
 refine wpB (ksk_fold (λi s'=>∃kA c,St V D' s s'/\1<=s'.toks/\s'.heap.get? kS=some (seqObj "list" kA c)/\s'.heap.get? a=some (seqObj "list" #[] e1)/\kA.size=i/\∀j x,j<i->ms[j]?=some x->RpK V.W9 θ D s'.heap C x (kA.toList.getD j .none)) vs 0 s
  ⟨#[],0,.refl W _,tk,ok,oa,rfl,λj x q=>O8 q (Pe _)⟩ ?step ?done)
 case step=>
  rintro j v s' hx ⟨kA,c,st,t1,ok',oa',hsz,hr⟩
  simp only [Nat.zero_add]at hsz hr ⊢;have hj:j<vs.length:=(List.getElem?_eq_some_iff.mp hx).1;obtain⟨x,hx'⟩:∃x,ms[j]?=some x:=⟨_,List.getElem?_eq_getElem (by lia)⟩;obtain⟨v',hv',rx⟩:=rl.get hx';rw[hx]at hv';cases hv';have px:=fc pl hx';refine wpB (wpAny_attempt (o7 (θ:=θ) (D:=D) (mv:=x) O h9 (R.le (by left)) st.wd t1 (B.st st) (hC.keep st.keep m) px (Rp.keep st.keep m x _ px rx) λr w98 st2 t2 rk=>?_));have ok2:=st2.keep.keep kS _ (λq=>q) tkS ok';have oa2:=st2.keep.keep a _ (λq=>q) ta oa';have s1:=OO w98.heap kS (Obj.mapSeq (·.push r));obtain⟨c2,hc2⟩:∃c2,(w98.heap.update kS (Obj.mapSeq (·.push r))).get? kS=some (seqObj "list" (kA.push r) c2):=⟨_,get?_update_seq ok2 (·.push r)⟩;have st3:St V D' w98 {w98 with heap:=w98.heap.update kS (Obj.mapSeq (·.push r))}:= .same O st2.wd s1 hk (B kS (m _ hk)).1 w98.toks (bK ok2 rfl (by left));refine wpB (listUpdate_at ok2 rfl ?_ (by rw[sizeLine_eq];lia) (OA (Nat.le_of_eq (Array.size_push ..)) (by rw[sizeLine_eq];lia)));refine Oz ⟨rfl,kA.push r,c2,(st.trans st2.any).trans st3,t2,hc2,(s1.2 a (Ne.symm hka)).trans oa2,by rw[Array.size_push,hsz],λi y hi hy=>?_⟩;have py:=fc pl hy;rw[Array.toList_push]
  by_cases hij:i<j
  ·have e:(kA.toList++[r]).getD i .none=kA.toList.getD i .none:=by
    have:i<kA.toList.length:=by rw[Array.length_toList];lia
    simp [List.getD,List.getElem?_append_left this]
   rw[e];exact RpK.keep (st2.any.trans st3).keep m py (hr i y hij hy)
  ·have:i=j:=by lia
   subst this;rw[hx']at hy;cases hy
   have e:(kA.toList++[r]).getD i .none=r:=by
    have:i=kA.toList.length:=by rw[Array.length_toList];lia
    subst this;simp [List.getD]
   rw[e];exact rk.keep st3.keep m px
 case done=>
  rintro s' ⟨kA,c,st,t1,ok',oa',hsz,hr⟩
  simp only [Nat.zero_add]at hsz hr;refine wpB (listItems_at ok' rfl ?_);exact h s' kA c st t1 ok' oa' hsz λi x hx=>hr i x (by have:=(List.getElem?_eq_some_iff.mp hx).1;lia) hx
end
noncomputable def my(F:Fns)(S:Subs)(n:Nat)(x y:MV):Pj Bool:=match gD F S n (sx "__lt__") (.kobj x) (.kobj y) with
 |some (.bool b)=>some b
 |_=>none
theorem JT:sx "__lt__"∈cmpNames:=by right
noncomputable def gZ(F:Fns)(S:Subs)(n:Nat)(ms:List MV):Pj (List Nat):=
 if ms.length<2 then some (List.range ms.length)
 else(br (λi j=>if i<ms.length/\j<ms.length then my F S n (ms.getD i .none) (ms.getD j .none) else none) (kas_sort ms.length)).map Array.toList
section
variable {V:Vw}{F:Fns}{S:Subs}{θ:Pn}{D D':Pn->Prop}{a kS C:Pn}{e1:Nat}{vs:List Ph}{ms:List MV}{A:Po}{s:Pg}{P:PySem.Fin->Pg->Prop}{E:Pr}
set_option tactic.hygienic true in
theorem Ew(O:V.Ok)(BK:V.Booked)(FO:FnsOk V F)(SO:SubsOk V S)(h9:V.W9=w9)(R:Room A (n+1))(W:Wd V s)(tk:1<=s.toks)(B:Bnd D s)(hC:bu V.W9 D s.heap C)
  (ha:RpK V.W9 θ D s.heap C x va) (hb:RpK V.W9 θ D s.heap C y vb) (pa:x.plain=true) (pb:y.plain=true) (h:my F S n x y=some r) (hQ:∀s',St V none9 s s'->1<=s'.toks->Q r s'):wpAny (model V.prog V.w) A (keyLt' oneType' va vb) Q E s:=by
 have ra:=ha.rp hC;have rb:=hb.rp hC;obtain⟨a,d,u,rfl,_,_,hoa,⟨_,_,od,hd,_⟩,_⟩:=ha;rw[h9]at hC;obtain⟨N,md,f,cell,kc,hcell,hc5,hm⟩:=kC hC;obtain⟨h1,_⟩:=xT _ JT;obtain⟨fd,im⟩:=hm _ h1;obtain⟨og,hg,_,hgc⟩:=im.at_;rw[keyLt'_oneType,oneLt'_eq];simp only [if_true];have hu:A.units<cLine:=by have:=R.units;lia
 refine wpB (wpAny_cRoomFor hu ?_);unfold my at h;generalize hk:gD F S n (sx "__lt__") (.kobj x) (.kobj y)=X at h;cases X with
 |none=>exact af h
 |some m=>
  cases m<;>first|exact af h|skip
  rename_i b;cases(h);refine wpB (Er (nm:=sx "__lt__") hoa rfl (kc.look λq=>sN h1) hg hgc (o9 O BK FO SO (N:=N) (md:=md) (C:=C) JT hm hcell hc5 R W tk B ra rb pa pb hk λv s' st t1 rv _=>?_));have hv:v= .bool r:=rv;subst hv;exact wpAny_truthy_bool (hQ s' st t1)
theorem rg(O:V.Ok)(hk:D' kS)(ha:D' a)(hka:kS≠a)(B:∀b,D' b->175<=b)(W:Wd V s){keys:Array Ph}{c:Nat}(ok:s.heap.get? kS=some (seqObj "list" keys c))(oa:s.heap.get? a=some (seqObj "list" #[] e1))(hks:keys.size=vs.length)(h64:vs.length<64){p:Array Nat}{st:SortSt}
  (hp:p.size=vs.length) (har:arrOf st=p.map (kas_item (keys.zip vs.toArray))) (hf:failedOf st=none)
  (h:∀s' out c2,St V D' s s'->s'.toks=s.toks->s'.heap.get? a=some (seqObj "list" out c2)->out.toList=(p.toList.map λi=>vs.getD i .none)->P (.done (.ret .none)) s'):
  wpAny (model V.prog V.w) A (ksk_tail a false e1 (.ref kS) st) P E s:=by
 have s1:=OO s.heap kS (Obj.mapSeq λ_=>(#[]:Array Ph));have na1:=(s1.2 a (Ne.symm hka)).trans oa;have st1:St V D' s {s with heap:=s.heap.update kS (Obj.mapSeq λ_=>(#[]:Array Ph))}:= .same O W s1 hk (B _ hk) s.toks (bK ok rfl (by left))
 have hout:((arrOf st).map (·.2)).toList=p.toList.map λi=>vs.getD i .none:=by rw[har,Array.map_map,Array.toList_map];exact List.map_congr_left λi _=>by show(kas_item (keys.zip vs.toArray) i).2=_;rw[pg hks]
 have hsz:((arrOf st).map (·.2)).size=vs.length:=by rw[har,Array.map_map,Array.size_map,hp]
 unfold ksk_tail;simp only [Bool.false_eq_true,if_false];refine wpB (listUpdate_at ok rfl ?_ (by rw[hks,sizeLine_eq];lia) (Nat.zero_le _));refine wpB (wpAny_letGo ?_);refine wpB (seqEpoch_at na1 rfl ?_);refine wpB (listUpdate_at na1 rfl ?_ (Nat.zero_le _) (OA (Nat.le_of_eq hsz) (by rw[sizeLine_eq];lia)));rw[hf];simp only [bne_self_eq_false,Bool.false_eq_true,if_false];have s2:=OO (s.heap.update kS (Obj.mapSeq λ_=>(#[]:Array Ph))) a (Obj.mapSeq λ_=>(arrOf st).map (·.2));have st2:=St.same O st1.wd s2 ha (B _ ha) s.toks (bK na1 rfl (by left));have fin:=get?_update_seq na1 λ_=>(arrOf st).map (·.2);have st12:=st1.trans st2;generalize (s.heap.update kS (Obj.mapSeq λ_=>(#[]:Array Ph))).update a (Obj.mapSeq λ_=>(arrOf st).map (·.2))=H at*;generalize (arrOf st).map (·.2)=out at*;exact Oz (h _ out _ st12 rfl fin hout)
theorem Ey(O:V.Ok)(BK:V.Booked)(FO:FnsOk V F)(SO:SubsOk V S)(h9:V.W9=w9){n:Nat}{ix:List Nat}(m:∀b,D' b->D b)(hk:D' kS)(ha:D' a)(hka:kS≠a)(tkS:¬aJ kS)(ta:¬aJ a)(R:Room A (n+1))(W:Wd V s)(tk:1<=s.toks)(B:Bnd D s)
  {keys:Array Ph} {c:Nat} (ok:s.heap.get? kS=some (seqObj "list" keys c)) (oa:s.heap.get? a=some (seqObj "list" #[] e1)) (hks:keys.size=vs.length) (hz:ms.length<64) (hvs:vs.length=ms.length) (hC:bu V.W9 D s.heap C) (pl:aa ms=true)
  (hr:∀i x,ms[i]?=some x->RpK V.W9 θ D s.heap C x (keys.toList.getD i .none)) (hix:gZ F S n ms=some ix)
  (h:∀s' out c2,St V D' s s'->1<=s'.toks->s'.heap.get? a=some (seqObj "list" out c2)->out.toList=(ix.map λi=>vs.getD i .none)->P (.done (.ret .none)) s'):
  wpAny (model V.prog V.w) A (ksk_end a false vs.toArray e1 (.ref kS) keys) P E s:=by
 revert O BK FO SO h9 m hk ha hka tkS ta R W tk B ok oa hks hz hvs hC pl hr hix h;exists V,F,S,θ,D,D',a,kS,C,e1,vs,ms,A,s,P,E,n,ix,keys,c;have B':∀b,D' b->175<=b:=λb q=>(B b (m b q)).1;have hzs:(keys.zip vs.toArray).size=vs.length:=by rw[Array.size_zip,hks,List.size_toArray,Nat.min_self]
 have erange:(List.toArray (List.range vs.length)).map (kas_item (keys.zip vs.toArray))=keys.zip vs.toArray:=by
  have:=kas_range (keys.zip vs.toArray)
  rwa [hzs]at this
 unfold ksk_end;dsimp only;simp only [Bool.false_eq_true,if_false];unfold gZ at hix
 by_cases h2:ms.length<2
 ·rw[if_pos h2]at hix;cases hix;rw[if_pos (by rw[List.size_toArray];lia),if_pos (by rw[List.size_toArray];lia)];refine OB (Oz ?_);rw[StateT.run_pure];refine OB (Oz ?_);dsimp only;refine rg (p:=List.toArray (List.range vs.length)) O hk ha hka B' W ok oa hks (by lia) (by simp) erange.symm rfl λs' out c2 st e o1 o2=>h s' out c2 st (by rw[e];exact tk) o1 ?_;rw[o2,hvs]
 ·rw[if_neg h2]at hix;rw[if_neg (by rw[List.size_toArray];lia),if_neg (by rw[List.size_toArray];lia)]
  have hT:∀v∈keys.toList,Looks (model V.prog V.w) s.heap (typeOf v) (.ref C):=by
   intro v hv;obtain⟨i,hi,rfl⟩:=List.getElem_of_mem hv;rw[Array.length_toList]at hi;obtain⟨x,hx⟩:∃x,ms[i]?=some x:=⟨_,List.getElem?_eq_getElem (by lia)⟩;obtain⟨ad,d,u,e,_,_,o,_⟩:=hr i x hx;have e':keys.toList[i]= .ref ad:=by rw[<-e];simp [List.getD,hi]
   rw[e'];exact(Looks.ld o).andThen .now
  have hkk:=kas_kind (M:=model V.prog V.w) (A:=A) (E:=E) (s:=s) (vs:=keys.toList) (T:= .ref C) (Q:=λκ s'=>κ=oneType'/\s'=s) (by rw[Array.length_toList];lia) hT (by rfl) (by simp) ⟨rfl,rfl⟩;rw[Array.toArray_toList]at hkk;refine OB (OV hkk ?_ λ_ _ e=>e)
  rintro κ s' ⟨rfl,rfl⟩
  cases hrun:br (λi j=>if i<ms.length/\j<ms.length then my F S n (ms.getD i .none) (ms.getD j .none) else none) (kas_sort ms.length) with
  |none=>rw[hrun]at hix;cases hix
  |some p=>
   rw[hrun]at hix;cases hix
   have est:SortSt.mk' oneType' (keys.zip vs.toArray) #[] 7 none=kas_st oneType' (keys.zip vs.toArray) (List.toArray (List.range vs.length)):=by show _=SortSt.mk' oneType' ((List.toArray (List.range vs.length)).map (kas_item (keys.zip vs.toArray))) #[] 7 none;rw[erange]
   have run:=kas_runs (prog:=V.prog) (w:=V.w) (A:=A) (κ:=oneType') (it:=keys.zip vs.toArray) (E:=E) (s:=s') (n:=vs.length) (Q:=λ_ st' s''=>∃p':Array Nat,p'=p/\p'.size=vs.length/\arrOf st'=p'.map (kas_item (keys.zip vs.toArray))/\failedOf st'=none/\St V none9 s' s''/\1<=s''.toks) (G:=λp' s''=>p'=p/\St V none9 s' s''/\1<=s''.toks)
    (by lia) (by lia) (λp' st' s'' a1 a2 a3 a4=>⟨p',a4.1,a1,a2,a3,a4.2⟩) (by
     rw[hvs];refine kD (I:=λs''=>St V none9 s' s''/\1<=s''.toks) (o:=λi j=>if i<ms.length/\j<ms.length then my F S n (ms.getD i .none) (ms.getD j .none) else none) (a:=p) (λi j b Cn s'' hb hI hC'=>?_) (λs'' hI=>⟨rfl,hI⟩) _ _ hrun ⟨.refl W _,tk⟩;split at hb
     ·rename_i hij;obtain⟨hi,hj⟩:=hij;have ei:ms[i]?=some (ms.getD i .none):=by simp [List.getD,hi]
      have ej:ms[j]?=some (ms.getD j .none):=by simp [List.getD,hj]
      have pi:=fc pl ei;have pj:=fc pl ej;unfold kas_cmp;rw[pg hks,pg hks];have k:=hI.1.keep;refine Ew (θ:=θ) (D:=D) (C:=C) O BK FO SO h9 R hI.1.wd hI.2 (B.st hI.1) (hC.keep k λ_ q=>q.elim) ((hr i _ ei).keep k (λ_ q=>q.elim) pi) ((hr j _ ej).keep k (λ_ q=>q.elim) pj) pi pj hb λs3 st3 t3=>hC' s3 ⟨hI.1.trans st3,t3⟩
     ·cases hb)
   rw[<-est]at run;refine OB (OV run ?_ λ_ _ e=>e)
   rintro ⟨⟨⟩,st'⟩ s'' ⟨p',rfl,hp,har,hf,st,t1⟩
   dsimp only;refine rg (p:=p') O hk ha hka B' st.wd (st.keep.keep kS _ (λq=>q) tkS ok) (st.keep.keep a _ (λq=>q) ta oa) hks (by lia) hp har hf λs3 out c2 st3 e o1 o2=>h s3 out c2 (st.any.trans st3) (by rw[e];exact t1) o1 o2
end
theorem fW(h:Pp)(o:Obj):(h.push o).objs.size=h.objs.size+1:=Heap.size_push ..
theorem x9(O:V.Ok)(BK:V.Booked)(FO:FnsOk V F)(SO:SubsOk V S)(h9:V.W9=w9)
  (R:Room A (n+6)) (W:Wd V s) (tk:1<=s.toks) (B:Bnd D s) (hl:s.heap.IsList l vs.toArray) (hC:bu V.W9 D s.heap C) (pl:aa ms=true) (hz:ms.length<64) (rl:RpL V.W9 θ D s.heap ms vs) (hix:gZ F S n ms=some ix)
  (hQ:∀r s',St V none9 s s'->1<=s'.toks->Rp V.W9 θ D s'.heap (.list (ix.map λi=>ms.getD i .none)) r->Q r s'):
  wpAny (model V.prog V.w) A (call (.builtin "sorted") [.ref l] [(Pd "key",.ref C)]) Q E s:=by
 have hlen:=rl.length;have W5:=W.size;refine call_function_entry_kw kind_sorted plain_sorted entry_sorted (ksk_s1 _ _) ?_;unfold Builtin.«sorted»;refine OB (m:=checkCount "sorted" 1 1 _) (Oz ?_);refine OB (collect_list hl ?_ (by rw[sizeLine_eq];lia));refine wpB (wpAny_newList ?_ (by rw[sizeLine_eq];lia));obtain⟨hh,gg,dr,tk0,os⟩:=s;dsimp only at hl hC rl tk W5;have hsz:((hh.push (seqObj "list" #[] 0)).update hh.objs.size (Obj.mapSeq (·++vs.toArray))).objs.size=hh.objs.size+1:=by rw[Heap.size_update,fW]
 have hoL:(((hh.push (seqObj "list" #[] 0)).update hh.objs.size (Obj.mapSeq (·++vs.toArray))).push (seqObj "list" vs.toArray 0)).get? (hh.objs.size+1)=some (seqObj "list" vs.toArray 0):=by rw[<-hsz];exact OE _ rfl
 have keep:∀b o,hh.get? b=some o->(((hh.push (seqObj "list" #[] 0)).update hh.objs.size (Obj.mapSeq (·++vs.toArray))).push (seqObj "list" vs.toArray 0)).get? b=some o:=λb o q=>by have hlt:b<hh.objs.size:=OF q;rw[Heap.get?_push_ne _ _ _ (by rw[hsz];exact Nat.ne_of_lt (Nat.lt_succ_of_lt hlt)),Heap.get?_update_ne _ _ _ _ (Nat.ne_of_lt hlt),Heap.get?_push_ne _ _ _ (Nat.ne_of_lt hlt)];exact q
 have hsz0:(((hh.push (seqObj "list" #[] 0)).update hh.objs.size (Obj.mapSeq (·++vs.toArray))).push (seqObj "list" vs.toArray 0)).objs.size=hh.objs.size+2:=by rw[fW,hsz]
 show wpAny _ _ _ _ _ ⟨((hh.push (seqObj "list" #[] 0)).update hh.objs.size (Obj.mapSeq (·++vs.toArray))).push (seqObj "list" vs.toArray 0),gg,dr,tk0,os⟩;rw[hsz];generalize ((hh.push (seqObj "list" #[] 0)).update hh.objs.size (Obj.mapSeq (·++vs.toArray))).push (seqObj "list" vs.toArray 0)=H0 at*;refine wpB (OJ (wpAny_call_entry_kw slot_list_sort ⟨_,hoL,rfl⟩ entry_list_sort ?body (ksk_l1 _ _)));show wpAny (model V.prog V.w) A.in1.in1 (Builtin.«list.sort» ⟨[.ref (hh.objs.size+1)],[(Pd "key",.ref C)]⟩) _ _ _;rw[ksk_t1];have s1:=OO H0 (hh.objs.size+1) (Obj.mapSeq λ_=>(#[]:Array Ph));obtain⟨e1,ho1⟩:∃e1,(H0.update (hh.objs.size+1) (Obj.mapSeq λ_=>(#[]:Array Ph))).get? (hh.objs.size+1)=some (seqObj "list" #[] e1):=⟨_,get?_update_seq hoL λ_=>#[]⟩;unfold ksk_tree;refine wpB (listItems_at hoL rfl ?_);refine wpB (listUpdate_at hoL rfl ?_ (by rw[List.size_toArray,sizeLine_eq];lia) (Nat.zero_le _));refine wpB (seqEpoch_at ho1 rfl ?_);refine wpB (wpAny_newTuple ?_ (by show vs.length<=_;rw[sizeLine_eq];lia));refine wpB (wpAny_newList ?_ (Nat.zero_le _));refine OJ ?_;show wpAny _ _ (ksk_rest (hh.objs.size+1) (.ref C) false vs.toArray e1 _) _ _ _;generalize H0.update (hh.objs.size+1) (Obj.mapSeq λ_=>(#[]:Array Ph))=H1 at*;have hz1:H1.objs.size=hh.objs.size+2:=s1.1.trans hsz0;have hz2:(H1.push (seqObj "tuple" vs.toArray 0)).objs.size=hh.objs.size+3:=by rw[fW,hz1]
 have hz3:((H1.push (seqObj "tuple" vs.toArray 0)).push (seqObj "list" #[] 0)).objs.size=hh.objs.size+4:=by rw[fW,hz2]
 have ok2:((H1.push (seqObj "tuple" vs.toArray 0)).push (seqObj "list" #[] 0)).get? (hh.objs.size+3)=some (seqObj "list" #[] 0):=by rw[<-hz2];exact OE _ rfl
 have oa2:((H1.push (seqObj "tuple" vs.toArray 0)).push (seqObj "list" #[] 0)).get? (hh.objs.size+1)=some (seqObj "list" #[] e1):=OC _ (OC _ ho1);have keep2:∀b o,hh.get? b=some o->((H1.push (seqObj "tuple" vs.toArray 0)).push (seqObj "list" #[] 0)).get? b=some o:=λb o q=>
  OC _ (OC _ ((s1.2 b (Nat.ne_of_lt (Nat.lt_succ_of_lt (OF q)))).trans (keep b o q)))
 have st0:St V none9 ⟨hh,gg,dr,tk0,os⟩ ⟨(H1.push (seqObj "tuple" vs.toArray 0)).push (seqObj "list" #[] 0),gg,dr,tk0,os⟩:=
  have z:hh.objs.size<=((H1.push (seqObj "tuple" vs.toArray 0)).push (seqObj "list" #[] 0)).objs.size:=by rw[hz3];lia
  ⟨.ofAll none9 z keep2,W.grown O (s':=⟨(H1.push (seqObj "tuple" vs.toArray 0)).push (seqObj "list" #[] 0),gg,dr,tk0,os⟩) z keep2⟩
 show wpAny _ _ (ksk_rest (hh.objs.size+1) (.ref C) false vs.toArray e1 (.ref (H1.push (seqObj "tuple" vs.toArray 0)).objs.size)) _ _ ⟨(H1.push (seqObj "tuple" vs.toArray 0)).push (seqObj "list" #[] 0),gg,dr,tk0,os⟩;rw[hz2];generalize (H1.push (seqObj "tuple" vs.toArray 0)).push (seqObj "list" #[] 0)=H2 at*;have nt:∀b,hh.objs.size<=b->¬aJ b:=λb hb=>aY (OA W5 hb);have nD:∀b,hh.objs.size<=b->¬D b:=λb hb q=>OM _ (OD (B b q).2 hb)
 have lo:∀b,b=hh.objs.size+3\/b=hh.objs.size+1->hh.objs.size<=b:=λb q=>by
  rcases q with q|q
  ·rw[q];exact OI _ _
  ·rw[q];exact OI _ _
 have wide:∀b,b<hh.objs.size->(D b\/b=hh.objs.size+3\/b=hh.objs.size+1)->D b:=λb hb q=>q.elim id λq=>O8 hb (OU.mpr (lo b q))
 have hC2:bu V.W9 (λb=>D b\/b=hh.objs.size+3\/b=hh.objs.size+1) H2 C:=by obtain⟨l,e1,e2⟩:=hC;exact⟨l,e1,λp hp=>⟨(e2 p hp).1.imp (λn q=>n (wide _ (OF (e2 p hp).2.2) q)) id,(e2 p hp).2.1,keep2 _ _ (e2 p hp).2.2⟩⟩
 have rl2:=RpL.keep0 (st0.keep) _ _ (RpL.wide (D':=λb=>D b\/b=hh.objs.size+3\/b=hh.objs.size+1) wide _ _ pl rl)
 have B2:Bnd (λb=>D b\/b=hh.objs.size+3\/b=hh.objs.size+1) ⟨H2,gg,dr,tk0,os⟩:=by
  intro b q;rcases q with q|q|q
  ·exact⟨(B b q).1,OD (B b q).2 st0.keep.size⟩
  ·rw[q];exact⟨OA W5 (OI _ _),by show _<H2.objs.size;lia⟩
  ·rw[q];exact⟨OA W5 (OI _ _),by show _<H2.objs.size;lia⟩
 have m:∀b,(b=hh.objs.size+3\/b=hh.objs.size+1)->(D b\/b=hh.objs.size+3\/b=hh.objs.size+1):=λ_ q=> .inr q;have R2:Room A.in1.in1 (n+4):=iU (iU R);refine AZ (D':=λb=>b=hh.objs.size+3\/b=hh.objs.size+1) (D:=λb=>D b\/b=hh.objs.size+3\/b=hh.objs.size+1) (θ:=θ) (C:=C) O h9 m (.inl rfl) (.inr rfl) (qj (by lia)) (nt _ (OI _ _)) (nt _ (OI _ _)) (R2.le (by lia)) st0.wd tk B2 ok2 oa2 hC2 pl hz rl2
  λs' keys c st1 t1 ok' oa' hks hr=>?_
 refine Ey (D':=λb=>b=hh.objs.size+3\/b=hh.objs.size+1) (D:=λb=>D b\/b=hh.objs.size+3\/b=hh.objs.size+1) (θ:=θ) (C:=C) O BK FO SO h9 m (.inl rfl) (.inr rfl) (qj (by lia)) (nt _ (OI _ _)) (nt _ (OI _ _)) (R2.le (by lia)) st1.wd t1 (B2.st st1) ok' oa' hks hz hlen (hC2.keep st1.keep m) pl hr hix
  λs3 out c2 st2 t2 o1 o2=>⟨_,rfl,Oz ⟨_,rfl,?_⟩⟩
 have st12:=st1.trans st2;have rl3:=RpL.keep st12.keep m _ _ pl rl2;have rl4:=RpL.wide (D:=λb=>D b\/b=hh.objs.size+3\/b=hh.objs.size+1) (D':=D) (λ_ _ q=> .inl q) _ _ pl rl3;refine hQ _ s3 ⟨⟨OA st0.keep.size st12.keep.size,λb o q t e=>st12.keep.keep b o (λq=>O8 (OF e) (OU.mpr (lo b q))) t (keep2 b o e),λb o t c e=>st12.keep.code b o t c (keep2 b o e)⟩,st12.wd⟩ t2 ⟨_,out.toList,rfl,nD _ (OI _ _),nt _ (OI _ _),⟨seqObj "list" out c2,o1,rfl,c2,?_⟩,?_⟩
 ·show Data.seq out c2=_;rw[Array.toArray_toList]
 ·rw[o2];exact rl4.picks ix
noncomputable def cKw:Pm->Pj (Pm×Pm×Str×Pm)
 | .Call f as kws _=>(one as).bind λa=>(one kws).bind λk=>k.arg.map λnm=>(f,a,nm,k.value)
 |_=>none
theorem Lu(h:cKw e=some (f,a,nm,v)):∃kp pos,e= .Call f [a] [⟨some nm,v,kp⟩] pos:=by
 revert h;exists e,f,a,v,nm;cases e<;>first|exact af h|skip
 ext a e h;cases bf e;ext e0z e h;obtain⟨o,v,kp⟩:=e0z;cases bf e;revert h;refine mpE λnm e h=>?_;cases h;cases(show o=some _ from e);exact⟨kp,_,rfl⟩
noncomputable def g0(F:Fns)(S:Subs)(n0 n:Nat)(ev:Pm->Pj MV)(e:Pm):Pj MV:=(cKw e).bind λc=>(cNm c.1).bind λ_=>if notStar c.2.1=true/\c.2.2.1=sx "key"/\n0+6<=n then
 ((ev c.1).bind kW).bind λu=>((ev c.2.1).bind d5).bind λms=>(ev c.2.2.2).bind λk=>if u= .builtin "sorted"/\Ls k=true/\aa ms=true/\ms.length<64 then(gZ F S n0 ms).map λix=> .list (ix.map λi=>ms.getD i .none) else none else none
theorem ya(O:V.Ok)(BK:V.Booked)(FO:FnsOk V F)(SO:SubsOk V S)(h9:V.W9=w9)(I:SndP V n p)(hs:notStar l=true)(hn:n0+6<=n)(h1:p.ev sc ρ (.Name x q)=some (.ex (.builtin "sorted")))(h2:p.ev sc ρ l=some (.list ms))(h3:p.ev sc ρ k=some .kcls)(hp:aa ms=true)(hz:ms.length<64)(hix:gZ F S n0 ms=some ix):
  bl V (n+1) sc ρ (.Call (.Name x q) [l] [⟨some (sx "key"),k,kp⟩] pos) (.list (ix.map λi=>ms.getD i .none)):=by
 intro A θ D env s Q E R W tk F' hQ;refine wpAny_Call_Name_kw (I.ev _ _ _ _ h1 A θ D env s _ E R.pred W tk F' λv w99 st1 t1 r1=>?_);cases r1;have hb:backTo pos (starEach [l] env)=[(false,eval l env)]:=by rw[aW hs];rfl
 rw[hb];refine callWith_builtin_kwB rfl rfl (evalArgs_kwB rfl (spliced_cons (I.ev _ _ _ _ h2 A θ D env w99 _ E R.pred st1.wd t1 (F'.st st1) λv w98 st2 t2 r2=>spliced_nil ?_)));replace st1:=st1.trans st2;refine kws_cons (I.ev _ _ _ _ h3 A θ D env w98 _ E R.pred st1.wd t2 (F'.st st1) λu w96 st3 t3 r3=>kws_nil ?_);replace st1:=st1.trans st3;have r2':=Rp.keep0 st3.keep (.list ms) _ r2;obtain⟨C,rfl,hC⟩:=r3;obtain⟨ad,ws,rfl,d1,d2,d3,d4⟩:=r2';exact x9 O BK FO SO h9 (n:=n0) (R.le (by lia)) st1.wd t3 (F'.st st1).bnd d3 hC hp hz d4 hix λr w9Z st4 t4 r4=>hQ _ _ (st1.trans st4) t4 r4
theorem qk(O:V.Ok)(BK:V.Booked)(FO:FnsOk V F)(SO:SubsOk V S)(h9:V.W9=w9)(I:SndP V n p)(h:g0 F S n0 n (p.ev sc ρ) e=some mv):bl V (n+1) sc ρ e mv:=by revert O BK FO SO h9 I h;exists V,F,S,n0,n,sc,ρ,p,e,mv;ext e0z e h;obtain⟨f,l,nm,k⟩:=e0z;obtain⟨kp,pos,rfl⟩:=Lu e;ext x e h;obtain⟨q,rfl⟩:=cM e;injections e0z h;obtain⟨hs,rfl,hn⟩:=e0z;ext u h1 h;revert h1;refine bdE λw h1 e=>?_;cases gL e;ext ms h2 h;revert h2;refine bdE λw h2 e=>?_;cases bZ e;ext k2 h3 h;injections e0z h;obtain⟨rfl,hk,hp,hz⟩:=e0z;cases zF hk;revert h;refine mpE λix hix e2z=>?_;subst e2z;exact ya O BK FO SO h9 I hs hn h1 h2 h3 hp hz hix
end
section
open PySem.Builtin
theorem jg:mroOf (.type "object")=pure [.type "object"]:=by rw[mroOf_type];symm
theorem vN:mroOf (.type "type")=pure [.type "type",.type "object"]:=by rw[mroOf_type];symm
theorem rh:Slots.solid (.type "object")=pure (.type "object"):=by unfold Slots.solid;rw[jg];symm
theorem Ez:Slots.bestBase [.type "object"]=pure (.type "object"):=by unfold Slots.bestBase;simp only [List.forIn_cons,rh];symm
theorem IY:extendedBase [.type "object"]=pure (.type "object"):=by unfold extendedBase;simp only [List.forIn_cons,rh];symm
theorem yb:notOverATurnedClass [.type "object"]=pure ():=by unfold notOverATurnedClass;simp only [List.forIn_cons,jg];symm
theorem A1:mroHook? (.type "type")=pure none:=by unfold mroHook?;rw[typeLookup_type,builtinLookup_eq_fast];symm
theorem IZ:linearize [.type "object"] mroOf=pure [.type "object"]:=by unfold linearize;simp only [List.mapM_cons,List.mapM_nil,jg];symm
theorem EA:Bind.madeBy (.type "object")=pure (some "object.__new__"):=by unfold Bind.madeBy;rw[jg];symm
theorem vO:Slots.givesDict (.type "object")=pure false:=nofun
theorem vP:Slots.givesWeak (.type "object")=pure false:=by unfold Slots.givesWeak;rw[jg,typeLookup_type,builtinLookup_eq_fast];symm
theorem zG:Slots.varSize (.type "object")=pure false:=by unfold Slots.varSize;rw[jg];symm
theorem A2:Slots.slotNamesOf (.type "object")=pure []:=nofun
theorem vQ(a:Pn):noteSubclassOfBuiltin "object" a=pure ():=nofun
theorem ph:isType (.type "object")=pure true:=nofun
theorem sub_tt:isSubtype (.type "type") (.type "type")=pure true:=by rw[isSubtype_type];symm
theorem I3:isSubtype (.type "tuple") (.type "tuple")=pure true:=by rw[isSubtype_type];symm
theorem EB:isSubtype (.type "dict") (.type "dict")=pure true:=by rw[isSubtype_type];symm
noncomputable def kE(hs:Nat->Int)(ts:Nat->Tok)(vs:Nat->Ph):List DictEntry:=[⟨hs 0,.str (sx "__module__") (ts 0),vs 0⟩,⟨hs 1,.str (sx "__qualname__") (ts 1),vs 1⟩,⟨hs 2,.str (sx "__firstlineno__") (ts 2),vs 2⟩,⟨hs 3,.str (sx "__slots__") (ts 3),vs 3⟩,⟨hs 4,.str (sx "__init__") (ts 4),vs 4⟩,⟨hs 5,.str (sx "__lt__") (ts 5),vs 5⟩,
 ⟨hs 6,.str (sx "__gt__") (ts 6),vs 6⟩,⟨hs 7,.str (sx "__eq__") (ts 7),vs 7⟩,⟨hs 8,.str (sx "__le__") (ts 8),vs 8⟩,⟨hs 9,.str (sx "__ge__") (ts 9),vs 9⟩,⟨hs 10,.str (sx "__hash__") (ts 10),vs 10⟩,⟨hs 11,.str (sx "__static_attributes__") (ts 11),vs 11⟩]
noncomputable abbrev dct(es:List DictEntry)(n:Nat):Obj:={cls:= .type "dict",data:= .dict es.toArray n}
section
variable {M:Model}{A:Po}{E:Pr}{s:Pg}{α:Type}
theorem bQ(ho:s.heap.get? a=some o)(he:nsLook name o=pure r)(h:Q r s):wpAny M A (nsGet a name) Q E s:=
 wpB (wpAny_loadPart ho (OG he h))
theorem lN{h:Pp}{a:Pn}{f:Obj->Obj}{o o':Obj}(ho:h.get? a=some o)(hf:f o=o')(hfr:o'.isFreed=false):(h.update a f).get? a=some o':=by subst hf;exact O4 f ho hfr
end
section
variable {M:Model}{A:Po}{E:Pr}{h:Pp}{g:Array GenState}{d:Drawn}{t:Nat}{os:OsState}
theorem EC(o':Obj)(ho:h.get? a=some o)(hf:f o=o')(hfr:o'.isFreed=false)(q:∀H',H'.get? a=some o'->Heap.SameBut a h H'->Q () ⟨H',g,d,t,os⟩):wpAny M A (updatePart a part f) Q E ⟨h,g,d,t,os⟩:=
 wpAny_updatePart ho (q _ (lN ho hf hfr) (OO ..))
theorem Lv(o':Obj)(ho:h.get? a=some o)(hf:f o=o')(hfr:o'.isFreed=false)(q:∀H',H'.get? a=some o'->Heap.SameBut a h H'->Q () ⟨H',g,d,t,os⟩):wpAny M A (update a f) Q E ⟨h,g,d,t,os⟩:=
 wpAny_update ho (q _ (lN ho hf hfr) (OO ..))
theorem JU(hfr:o.isFreed=false)(q:∀N,N=h.objs.size->∀H',H'.get? N=some o->(∀b ob,h.get? b=some ob->H'.get? b=some ob)->H'.objs.size=h.objs.size+1->Q N ⟨H',g,d,t,os⟩):wpAny M A (alloc o) Q E ⟨h,g,d,t,os⟩:=
 wpAny_alloc (q _ rfl _ (OE _ hfr) (λ_ _ e=>OC _ e) (Heap.size_push ..))
theorem gG(hfr:({cls:= .type T,dict:=dict,data:=data}:Obj).isFreed=false)(hd:sizeOk data)(q:∀N,N=h.objs.size->∀H',H'.get? N=some {cls:= .type T,dict:=dict,data:=data}->(∀b ob,h.get? b=some ob->H'.get? b=some ob)->H'.objs.size=h.objs.size+1->Q (.ref N) ⟨H',g,d,t,os⟩):wpAny M A (newObj (.type T) data dict) Q E ⟨h,g,d,t,os⟩:=
 wpAny_newObj_type (q _ rfl _ (OE _ hfr) (λ_ _ e=>OC _ e) (Heap.size_push ..)) hd
theorem pv(o':Obj)(ho:h.get? a=some o)(hi:i<100)(hf:{o with slots:=(o.slots++Array.replicate (i+1-o.slots.size) none).setIfInBounds i v}=o')(hfr:o'.isFreed=false)(q:∀H',H'.get? a=some o'->Heap.SameBut a h H'->Q () ⟨H',g,d,t,os⟩):wpAny M A (setSlotAt a i v) Q E ⟨h,g,d,t,os⟩:=by unfold setSlotAt;rw[if_neg (by rw[sizeLine_eq];lia)];exact EC o' ho hf hfr q
theorem ED(o':Obj)(ho:h.get? a=some o)(he:nsHas name o=pure true)(hf:Obj.dropName name o=o')(hfr:o'.isFreed=false)(q:∀H',H'.get? a=some o'->Heap.SameBut a h H'->Q true ⟨H',g,d,t,os⟩):wpAny M A (nsDel a name) Q E ⟨h,g,d,t,os⟩:=by unfold nsDel;refine OB (wpAny_loadPart ho (OB (OG he ?_)));rw[if_pos rfl];exact OB (EC o' ho hf hfr λH' e s=>Oz (q H' e s))
theorem pw(o':Int->Obj)(ho:h.get? a=some (dct es n))(hx:name.length<=1000)(hr:aRefKeyMayBeTheName name es.toArray=false)(hf:∀k,Obj.putName name k (.str name t) v (dct es n)=o' k)(hfr:∀k,(o' k).isFreed=false)
  (q:∀k H',H'.get? a=some (o' k)->Heap.SameBut a h H'->Q () ⟨H',g,d,t+1,os⟩):wpAny M A (nsSet a name v) Q E ⟨h,g,d,t,os⟩:=by
 unfold nsSet strHash;refine wpB (wpB (wpAny_askSetting (Oz ?_)));refine wpB (O3 ?_);refine wpB (wpAny_loadPart ho ?_);show wpAny M A (if aRefKeyMayBeTheName name es.toArray=true then _ else _) Q E _;exact wpF hr (EC (o' _) ho (hf _) (hfr _) λH' e s=>q _ H' e s)
theorem EE(o':Obj)(ho:h.get? a=some o)(hd:o.data= .cls cd)(hf:Obj.mapCls f o=o')(hp:o'.data.pastItsLine=none)(hfr:o'.isFreed=false)(q:∀H',H'.get? a=some o'->Heap.SameBut a h H'->Q () ⟨H',g,d,t,os⟩):wpAny M A (updateCls a f) Q E ⟨h,g,d,t,os⟩:=by unfold updateCls lookBehind;refine OB (wpAny_load ho ?_);rw[hd];refine OB (Lv o' ho hf hfr λH' e s=>?_);refine OB (wpAny_loadPart e ?_);rw[hp];exact Oz (q H' e s)
end
noncomputable def kE1(hs:Nat->Int)(ts:Nat->Tok)(vs:Nat->Ph):List DictEntry:=[⟨hs 0,.str (sx "__module__") (ts 0),vs 0⟩,⟨hs 2,.str (sx "__firstlineno__") (ts 2),vs 2⟩,⟨hs 3,.str (sx "__slots__") (ts 3),vs 3⟩,⟨hs 4,.str (sx "__init__") (ts 4),vs 4⟩,⟨hs 5,.str (sx "__lt__") (ts 5),vs 5⟩,
 ⟨hs 6,.str (sx "__gt__") (ts 6),vs 6⟩,⟨hs 7,.str (sx "__eq__") (ts 7),vs 7⟩,⟨hs 8,.str (sx "__le__") (ts 8),vs 8⟩,⟨hs 9,.str (sx "__ge__") (ts 9),vs 9⟩,⟨hs 10,.str (sx "__hash__") (ts 10),vs 10⟩,⟨hs 11,.str (sx "__static_attributes__") (ts 11),vs 11⟩]
noncomputable def aZ(N:Pn)(mro:List Ph)(sn:List Str)(hd:Bool)(sl:Array (Pj Ph)):Obj:={cls:= .type "type",data:= .cls {name:=sx "K",bases:=[.type "object"],mro:=mro,ns:=N,qualname:=sx "cmp_to_key.<locals>.K",hasDict:=hd,slotNames:=sn},slots:=sl}
section
variable {M:Model}{A:Po}{E:Pr}{h:Pp}{g:Array GenState}{d:Drawn}{t:Nat}{os:OsState}
theorem MX(hC:h.get? C=some (aZ N [.ref C,.type "object"] sn hd sl))(hN:h.get? N=some o)(he:nsLook name o=pure none)(b:fastBuiltinOwn "object" name=v)(q:Q v ⟨h,g,d,t,os⟩):
  wpAny M A (typeLookup (.ref C) name) Q E ⟨h,g,d,t,os⟩:=by
 rw[typeLookup_eq];refine wpB ?_;show wpAny M A (classData C>>=λc=>pure c.mro) _ _ _
 have cd:∀{Q':ClassData->Pg->Prop},Q' {name:=sx "K",bases:=[.type "object"],mro:=[.ref C,.type "object"],ns:=N,qualname:=sx "cmp_to_key.<locals>.K",hasDict:=hd,slotNames:=sn} ⟨h,g,d,t,os⟩->wpAny M A (classData C) Q' E ⟨h,g,d,t,os⟩:=λq=>by unfold classData;exact wpB (wpAny_load hC (Oz q))
 refine wpB (cd (Oz ?_));show wpAny M A (lookupAlong [.ref C,.type "object"] name) _ _ _;rw[lookupAlong_cons];refine wpB ?_;show wpAny M A (classData C>>=λc=>nsGet c.ns name) _ _ _;refine wpB (cd (bQ hN he ?_));show wpAny M A (lookupAlong [.type "object"] name) _ _ _;rw[lookupAlong_cons];refine wpB ?_;show wpAny M A (pure (builtinOwn "object" name)) _ _ _;rw[builtinOwn_eq_fast,b];refine Oz ?_;cases v with
 |none=>exact Oz q
 |some v=>exact Oz q
theorem yc(hC:h.get? C=some (aZ N [.ref C,.type "object"] sn hd sl))(hsl:(sl[4]?).join.isNone=false)(hN:h.get? N=some o)(he:nsLook (Pd "__new__") o=pure none)(q:Q () ⟨h,g,d,t,os⟩):
  wpAny M A (Bind.refreshMaker C) Q E ⟨h,g,d,t,os⟩:=by
 unfold Bind.refreshMaker slotAt;refine wpB (wpB (wpAny_loadPart hC (Oz ?_)));refine wpF hsl ?_;refine wpB (MX hC hN he (v:=some (.builtin "object.__new__")) nofun ?_);show wpAny M A (if(!"object.__new__".endsWith ".__new__")=true then _ else _) _ _ _;exact wpF (by right) (Oz q)
end
theorem yd{prog:Program}{w:World}{A:Po}{E:Pr}{h:Pp}{g:Array GenState}{d:Drawn}{t:Nat}{os:OsState}{sl:Pn}{hs:Nat->Int}{ts:Nat->Tok}{vs:Nat->Ph}{tx:Tok}{Q:Slots.Plan->Pg->Prop}(hsl:vs 3= .ref sl)(hl:h.IsList sl #[.str (sx "obj") tx])
  (hQ:∀H',(∀b ob,h.get? b=some ob->H'.get? b=some ob)->h.objs.size<=H'.objs.size->Q {names:=[sx "obj"],dict:=false,weak:=false,inherited:=[]} ⟨H',g,d,t,os⟩):
  wpAny (model prog w) A (Slots.read (sx "K") [.type "object"] (kE hs ts vs).toArray) Q E ⟨h,g,d,t,os⟩:=by
 revert hsl hl hQ;exists prog,w,A,E,h,g,d,t,os,sl,hs,ts,vs,tx,Q;obtain⟨o,ho,hc,n,hd⟩:=id hl;unfold Slots.read;refine wpB (OG Ez ?_);refine wpB (OG A2 ?_);refine wpB (OG vO ?_);refine wpB (OG vP ?_);refine wpB (OG zG ?_);rw[show((kE hs ts vs).toArray.find? λx=>x.key.isStr (Str.ofString "__slots__"))=some ⟨hs 3,.str (sx "__slots__") (ts 3),vs 3⟩ from by symm];dsimp only;refine wpB (wpAny_rule ?_);have as:asStr? (vs 3)=(do match(<-load sl).data with| .prim (.str s _)=>pure (some s)|_=>pure none):=by rw[hsl];rfl
 rw[as];refine OB (OB (wpAny_load ho ?_));rw[hd];refine Oz ?_;rw[if_neg (by left),hsl];refine OB (collect_list (vs:=[Value.str (sx "obj") tx]) hl ?_ (by show 1<=sizeLine;rw[sizeLine_eq];omega));rw[if_pos (by rfl)];refine OB (OG zG ?_);rw[if_neg (by left)];refine wpB (nA ?_);refine wpB (Oz ?_);refine OG (a:=ForInStep.yield (false,false,#[sx "obj"],[])) nofun ?_;dsimp only
 exact OG nofun (hQ _ (λb ob e=>by rw[Heap.get?_update_ne _ _ _ _ (Nat.ne_of_lt (Heap.lt_size e))];exact OC _ e) (by rw[Heap.size_update,Heap.size_push];exact O7 _))
section
variable {prog:Program}{w:World}{A:Po}{E:Pr}{h:Pp}{g:Array GenState}{d:Drawn}{t:Nat}{os:OsState}{C N:Pn}{sn:List Str}{hd:Bool}{sl:Array (Pj Ph)}
theorem ye(hC:h.get? C=some (aZ N [.ref C,.type "object"] sn hd sl)):Looks M h (mroOf (.ref C)) [.ref C,.type "object"]:=(Looks.ld (part:=none) hC).andThen .now |>.andThen .now
theorem Lw(hC:h.get? C=some (aZ N [.ref C,.type "object"] sn hd sl)):Looks M h (isSubtype (.ref C) (.ref C)) true:=by unfold isSubtype;exact(ye hC).andThen (.of_pure (by simp [List.isEmpty]))
theorem A3(hC:h.get? C=some (aZ N [.ref C,.type "object"] sn hd sl))
  (hq:∀so h',so=h.objs.size->h'.get? so=some {cls:= .type "super",dict:=none,data:= .fields #[.ref C,.ref C,.ref C],slots:=#[]}->(∀y o,h.get? y=some o->h'.get? y=some o)->Q (.ref so) ⟨h',g,d,t,os⟩):
  wpAny (model prog w) A (call (.type "super") [.ref C,.ref C]) Q E ⟨h,g,d,t,os⟩:=by
 revert hC hq;exists prog,w,A,E,h,g,d,t,os,C,N,sn,hd,sl,Q;refine ks_callType_codesW (Q₁:=λobj w99=>obj= .ref h.objs.size/\w99=⟨h.push {cls:= .type "super",data:= .fields #[.none,.none,.none]},g,d,t,os⟩) PySem.F.ks_called_super (ks_wpAny_checkTypeCall_super hC rfl) PySem.F.ks_entry_super_init
  (ks_code_super_new _ _ ⟨rfl,rfl⟩) λobj w99 w95=>?_
 obtain⟨rfl,rfl⟩:=w95;have up:∀y o,h.get? y=some o->(h.push {cls:= .type "super",data:= .fields #[.none,.none,.none]}).get? y=some o:=λy o e=>OC _ e;have hso:(h.push {cls:= .type "super",data:= .fields #[.none,.none,.none]}).get? h.objs.size=some {cls:= .type "super",dict:=none,data:= .fields #[.none,.none,.none],slots:=#[]}:=Heap.get?_push_at rfl rfl;have hC':=up _ _ hC;have hsub:=Lw (M:=model prog w) hC';refine⟨⟨_,hso,rfl⟩,PySem.F.ks_initArgs_super _ _ _,?_⟩;unfold Builtin.«super.__init__» noKeywords
 repeat (first|(with_reducible refine ks_wpAny_isType_cls hC' rfl ?_)|(with_reducible refine Looks.at hsub ?_)|(with_reducible refine ks_wpAny_super_set3 hso ?_)|wp_step)
 all_goals (intro h' e k;exact⟨rfl,hq _ h' rfl e λy o ey=>k y o (Nat.ne_of_lt (OF ey)) (up y o ey)⟩)
end
noncomputable abbrev kF(id:String)(c:Ph):Obj:={cls:= .type "builtin_function_or_method",data:= .fields #[.builtin id,c]}
theorem I4:(kfb_private%"ownerAndName") "object.__init_subclass__"=("object","__init_subclass__"):=by first|right|symm
theorem EF:(kfb_private%"ownerAndName") "type.__prepare__"=("type","__prepare__"):=by first|right|symm
theorem vR:typeOf (.builtin "object.__init_subclass__")=pure (.type "classmethod_descriptor"):=by show builtinType _=_;rw[builtinType_eq_fast];symm
theorem A4:typeOf (.builtin "type.__prepare__")=pure (.type "classmethod_descriptor"):=by show builtinType _=_;rw[builtinType_eq_fast];symm
section
variable {prog:Program}{w:World}{M:Model}{A:Po}{E:Pr}{h:Pp}{g:Array GenState}{d:Drawn}{t:Nat}{os:OsState}{C N:Pn}{sn:List Str}{hd:Bool}{sl:Array (Pj Ph)}
theorem I5(hC:h.get? C=some (aZ N [.ref C,.type "object"] sn hd sl)):Looks M h (isSubtype (.ref C) (.type "object")) true:=by unfold isSubtype;exact(ye hC).andThen (.of_pure (by simp [List.isEmpty]))
theorem I6{P:PySem.Fin->Pg->Prop}(hC:h.get? C=some (aZ N [.ref C,.type "object"] sn hd sl))
  (q:∀b H',b=h.objs.size->H'.get? b=some (kF "object.__init_subclass__" (.ref C))->(∀y o,h.get? y=some o->H'.get? y=some o)->H'.objs.size=h.objs.size+1->P (.done (.ret (.ref b))) ⟨H',g,d,t,os⟩):
  wpAny M A (Builtin.«classmethod_descriptor.__get__» ⟨[.builtin "object.__init_subclass__",.none,.ref C],[]⟩) P E ⟨h,g,d,t,os⟩:=by
 unfold Builtin.«classmethod_descriptor.__get__»;refine OB (OG (a:=(.builtin "object.__init_subclass__",none,some (.ref C))) (by first|rfl|symm) ?_);simp only [I4];refine OB (OG (a:= .ref C) rfl ?_);refine OB (ks_wpAny_isType_cls hC rfl ?_);refine wpF rfl ?_;refine OB (Looks.at (I5 hC) ?_);refine wpF rfl ?_;unfold newFields;exact OB (gG rfl (by size_fits) λb hb H' e k z=>Oz (q b H' hb e k z))
theorem EG{P:PySem.Fin->Pg->Prop}
  (q:∀b H',b=h.objs.size->H'.get? b=some (kF "type.__prepare__" (.type "type"))->(∀y o,h.get? y=some o->H'.get? y=some o)->H'.objs.size=h.objs.size+1->P (.done (.ret (.ref b))) ⟨H',g,d,t,os⟩):
  wpAny M A (Builtin.«classmethod_descriptor.__get__» ⟨[.builtin "type.__prepare__",.none,.type "type"],[]⟩) P E ⟨h,g,d,t,os⟩:=by
 unfold Builtin.«classmethod_descriptor.__get__»;refine OB (OG (a:=(.builtin "type.__prepare__",none,some (.type "type"))) (by first|rfl|symm) ?_);simp only [EF];refine OB (OG (a:= .type "type") rfl ?_);refine OB (OG (a:=true) nofun ?_);refine wpF rfl ?_;refine OB (OG (a:=true) sub_tt ?_);refine wpF rfl ?_;unfold newFields;exact OB (gG rfl (by size_fits) λb hb H' e k z=>Oz (q b H' hb e k z))
end
theorem A5:entryFor table "object.__init_subclass__"=some Builtin.«object.__init_subclass__»:=entryFor_of_tree nofun
theorem A6:(Code.builtin "object.__init_subclass__" as).quiet=true:=Code.quiet_builtin _ (by right)
noncomputable def Lx:Manifest.Signature:=⟨.noArgs,"object.__init_subclass__","__init_subclass__",.cls,[]⟩
theorem I7:Manifest.signature? "object.__init_subclass__"=some Lx:=nofun
theorem EH:builtinKind "object.__init_subclass__"=some .classMethod:=by right
theorem I8:Manifest.varargsMethods.contains "object.__init_subclass__"=false:=by right
theorem I9:isSubtype (.type "type") (.type "module")=pure false:=by rw[isSubtype_type];symm
section
variable {prog:Program}{w:World}{M:Model}{A:Po}{E:Pr}{h:Pp}{g:Array GenState}{d:Drawn}{t:Nat}{os:OsState}{C N:Pn}{sn:List Str}{hd:Bool}{sl:Array (Pj Ph)}
noncomputable abbrev EI(C:Pn):Obj:={cls:= .type "super",dict:=none,data:= .fields #[.ref C,.ref C,.ref C],slots:=#[]}
theorem EJ(hC:h.get? C=some (aZ N [.ref C,.type "object"] sn hd sl))(hso:h.get? so=some (EI C))(ho:Looks (model prog w) h (opaqueClassAbove (.ref C)) none)
  (q:∀b H',b=h.objs.size->H'.get? b=some (kF "object.__init_subclass__" (.ref C))->(∀y o,h.get? y=some o->H'.get? y=some o)->H'.objs.size=h.objs.size+1->Q (.done (.ret (.ref b))) ⟨H',g,d,t,os⟩):
  wpAny (model prog w) A (Builtin.«super.__getattribute__» ⟨[.ref so,.str (sx "__init_subclass__") tk],[]⟩) Q E ⟨h,g,d,t,os⟩:=by
 have hlk:=PySem.W.KFB.slot_get.lookup;have hdw:([Value.ref C,.type "object"].dropWhile (· != .ref C)).drop 1=[.type "object"]:=by simp
 unfold Builtin.«super.__getattribute__»;refine wpB (Oz ?_);refine wpF rfl ?_;refine wpB (Oz ?_);refine wpB (wpAny_field hso rfl (x:= .ref C) rfl ?_);refine wpB (wpAny_field hso rfl (x:= .ref C) rfl ?_);refine wpB (wpAny_field hso rfl (x:= .ref C) rfl ?_);refine wpF nofun ?_;refine wpB (ks_wpAny_notOpaque ho ?_);refine wpF rfl ?_;refine OB (Looks.at (ye hC) ?_);rw[hdw];refine wpB (nA ?_)
 have own:classOwn (.type "object") (sx "__init_subclass__")=pure (some (.builtin "object.__init_subclass__")):=by show pure (builtinOwn "object" _)=_;rw[builtinOwn_eq_fast];symm
 refine wpB (OG own ?_);refine wpB (OG vR ?_);refine wpB (OG hlk ?_);have hself:(Value.ref C==Value.ref C)=true:=by simp
 rw[if_pos hself];refine wpB (OJ (wpAny_call_entry (T:="classmethod_descriptor") PySem.W.KFB.slot_get (show Shared.TypeIs _ _ _ from vR) PySem.W.KFB.entry_get (I6 hC λb H' hb e k z=>?_) (PySem.W.KFB.args_get _ _ _)));exact⟨_,rfl,wpB (Oz (Oz (Oz (q b H' hb e k z))))⟩
theorem A7(hC:h.get? C=some (aZ N [.ref C,.type "object"] sn hd sl))(hso:h.get? so=some (EI C))(ho:Looks (model prog w) h (opaqueClassAbove (.ref C)) none)
  (q:∀b H',b=h.objs.size->H'.get? b=some (kF "object.__init_subclass__" (.ref C))->(∀y o,h.get? y=some o->H'.get? y=some o)->H'.objs.size=h.objs.size+1->Q (.ref b) ⟨H',g,d,t+1,os⟩):
  wpAny (model prog w) A (getAttr (.ref so) (sx "__init_subclass__")) Q E ⟨h,g,d,t,os⟩:=by
 have hlk:=PySem.F.ks_slot_super_ga.lookup;have hT:∀t',(⟨h,g,d,t',os⟩:Pg).TypeIs (.ref so) "super":=λ_=>⟨_,hso,rfl⟩;unfold getAttr getAttrBy;refine wpB (O3 (OJ (wpB (wpAny_typeOf (hT _) (wpB (OG hlk ?_))))));show wpAny _ _ (getAttrByItsOwn (.ref so) (.str (sx "__init_subclass__") t) (.type "super") (.builtin "super.__getattribute__") true false) _ _ _;unfold getAttrByItsOwn hookBefore callGetattribute boundAndCalled;refine wpB (OG (show(if onTheHeap (.type "super") then typeLookup (.type "super") "__getattr__" else pure none)=pure none from rfl) ?_);refine wpB (wpAny_attempt (OJ ?_));show wpAny _ _ (bindSpecial (.builtin "super.__getattribute__") (.ref so)>>=_) _ _ _;refine wpB (OG (PySem.F.ks_slot_super_ga.bind _) ?_);refine wpAny_call_entry PySem.F.ks_slot_super_ga (hT _) PySem.F.ks_entry_super_ga (EJ hC hso ho λb H' hb e k z=>⟨_,rfl,?_⟩) (PySem.F.ks_gaArgs_super _ _);exact Oz (q b H' hb e k z)
theorem A8{M:Model}{Q:Unit->Pg->Prop}(hC:h.get? C=some (aZ N [.ref C,.type "object"] sn hd sl))(q:Q () ⟨h,g,d,t,os⟩):wpAny M A (checkBoundCall "object.__init_subclass__" ⟨[.ref C],[]⟩) Q E ⟨h,g,d,t,os⟩:=by revert hC q;exists A,E,h,g,d,t,os,C,N,sn,hd,sl,M,Q;have hT:(⟨h,g,d,t,os⟩:Pg).TypeIs (.ref C) "type":=⟨_,hC,rfl⟩;unfold checkBoundCall;rw[I7];dsimp only;rw[EH];dsimp only;refine wpF (by left) ?_;refine wpB (wpAny_isInstance hT I9 ?_);refine wpF (by rw[I8];rfl) ?_;refine wpB (ks_wpAny_isType_cls hC rfl ?_);refine wpT rfl (OB (Oz ?_));dsimp only;refine wpB ?_;unfold classData;refine wpB (wpAny_load hC (Oz ?_));refine wpB (wpAny_typeOf hT ?_);refine wpT rfl ?_;exact OG nofun q
theorem EK(hC:h.get? C=some (aZ N [.ref C,.type "object"] sn hd sl))(hb:h.get? b=some (kF "object.__init_subclass__" (.ref C)))(q:Q .none ⟨h,g,d,t,os⟩):wpAny (model prog w) A (call (.ref b) []) Q E ⟨h,g,d,t,os⟩:=by refine OW (codeAny_of_tree ?_);show wpAny _ A.in1 (callAny (.ref b) ⟨[],[]⟩) _ _ _;simp only [callAny];refine OB (wpAny_load hb ?_);simp only [kF,show(Value.type "builtin_function_or_method"==Value.type "method"||Value.type "builtin_function_or_method"==Value.type "builtin_function_or_method"||Value.type "builtin_function_or_method"==Value.type "method-wrapper")=true by left,if_true];refine wpT (by left) ?_;refine wpB (A8 hC ?_);refine wpB (Oz (Oz ?_));refine⟨A6,codeAny_builtin A5 ?_⟩;unfold Builtin.«object.__init_subclass__»;exact wpT rfl (Oz q)
end
theorem sU{M:Model}{A:Po}{E:Pr}{s:Pg}{α β:Type}{b:β}{f:α->β->Sem (ForInStep β)}{Q:β->Pg->Prop}:∀{l:List α},(∀x∈l,∀Q':ForInStep β->Pg->Prop,Q' (.yield b) s->wpAny M A (f x b) Q' E s)->Q b s->wpAny M A (forIn l b f) Q E s
 | [],_,q=>L5 q
 |x::l,st,q=>J5 (st x (.head _) _ (sU (λy hy=>st y (.tail _ hy)) q))
def fC(h:Pp)(v:Ph):Prop:=∃T,(∀g d t os,Shared.TypeIs ⟨h,g,d,t,os⟩ v T)/\typeLookup (.type T) (Pd "__set_name__")=pure none/\∀k,heldUnderItsOwnName k v=false
theorem fC.keeps(x:fC h v)(k:∀b o,h.get? b=some o->h'.get? b=some o):fC h' v:=by
 obtain⟨T,a,b,c⟩:=x;refine⟨T,λg d t os=>?_,b,c⟩;have:=a g d t os;cases v with
 |ref r=>obtain⟨o,e1,e2⟩:=this;exact⟨o,k _ _ e1,e2⟩
 |_=>exact this
theorem pz(h:Pp):fC h .none:=⟨"NoneType",λ_ _ _ _=>rfl,by rw[typeLookup_type,builtinLookup_eq_fast];symm,λ_=>rfl⟩
theorem A9(h:Pp)(x:Str)(t:Tok):fC h (.str x t):=⟨"str",λ_ _ _ _=>rfl,by rw[typeLookup_type,builtinLookup_eq_fast];symm,λ_=>rfl⟩
theorem Ba(h:Pp)(i:Int)(t:Tok):fC h (.int i t):=⟨"int",λ_ _ _ _=>rfl,by rw[typeLookup_type,builtinLookup_eq_fast];symm,λ_=>rfl⟩
theorem jh(ho:h.get? a=some o)(hc:o.cls= .type T)(hT:typeLookup (.type T) (Pd "__set_name__")=pure none):fC h (.ref a):=⟨T,λ_ _ _ _=>⟨o,ho,hc⟩,hT,λ_=>rfl⟩
theorem yf:typeLookup (.type "list") (Pd "__set_name__")=pure none:=by rw[typeLookup_type,builtinLookup_eq_fast];symm
theorem vS:typeLookup (.type "tuple") (Pd "__set_name__")=pure none:=by rw[typeLookup_type,builtinLookup_eq_fast];symm
theorem yg:typeLookup (.type "function") (Pd "__set_name__")=pure none:=by rw[typeLookup_type,builtinLookup_eq_fast];symm
theorem EL:typeLookup (.type "member_descriptor") (Pd "__set_name__")=pure none:=by rw[typeLookup_type,builtinLookup_eq_fast];symm
noncomputable def kE2(hs:Nat->Int)(ts:Nat->Tok)(vs:Nat->Ph)(k:Int)(t:Tok)(md:Pn):List DictEntry:=kE1 hs ts vs++[⟨k,.str (sx "obj") t,.ref md⟩]
noncomputable def kE3(hs:Nat->Int)(ts:Nat->Tok)(vs:Nat->Ph)(k:Int)(t:Tok)(md:Pn)(k':Int)(t':Tok):List DictEntry:=kE1 hs ts vs++[⟨k,.str (sx "obj") t,.ref md⟩,⟨k',.str (sx "__doc__") t',.none⟩]
theorem yh{prog:Program}{w:World}{A:Po}{E:Pr}{h:Pp}{g:Array GenState}{d:Drawn}{t:Nat}{os:OsState}{C N:Pn}{hs:Nat->Int}{ts:Nat->Tok}{vs:Nat->Ph}{n:Nat}{sl:Array (Pj Ph)}{Q:Unit->Pg->Prop}(nNC:N≠C)
  (hC:h.get? C=some (aZ N [.ref C,.type "object"] [] true sl)) (hN:h.get? N=some (dct (kE1 hs ts vs) n))
  (q:∀md,md=h.objs.size->∀H' k t1 t2 t3 tk',t<=tk'->H'.get? md=some (iS C t1 t2)->H'.get? N=some (dct (kE2 hs ts vs k t3 md) (n+1))->H'.get? C=some (aZ N [.ref C,.type "object"] [sx "obj"] false sl)->(∀b ob,b≠C->b≠N->h.get? b=some ob->H'.get? b=some ob)->H'.objs.size=h.objs.size+1->Q () ⟨H',g,d,tk',os⟩):
  wpAny (model prog w) A (Slots.install (.ref C) N [.type "object"] {names:=[sx "obj"],dict:=false,weak:=false,inherited:=[]}) Q E ⟨h,g,d,t,os⟩:=by
 unfold Slots.install;refine wpB (nA ?_);refine wpB (bQ hN (r:=none) nofun ?_);refine wpT rfl (wpB (wpAny_mkStr' ?_ (by show 3<=sizeLine;rw[sizeLine_eq];lia)));refine wpB ?_;unfold newFields;refine gG rfl (by size_fits) λmd hmd H1 m1 k1 z1=>?_;have n1:=k1 _ _ hN;have c1:=k1 _ _ hC;have nMN:md≠N:=hmd▸Nat.ne_of_gt (OF hN);have nMC:md≠C:=hmd▸Nat.ne_of_gt (OF hC);unfold nsSetByValue;refine wpB ?_;refine wpB (wpAny_loadPart n1 ?_);refine wpF (by rw[show decide ((kE1 hs ts vs).toArray.size>sizeLine)=false from by rw[decide_eq_false_iff_not,sizeLine_eq];show ¬11>_;lia];rfl) ?_;refine pw (λk=>dct (kE2 hs ts vs k (t+1) md) (n+1)) n1 (by right) nofun (λk=>by symm) (λk=>rfl) λk H2 n2 s2=>?_;refine Oz ?_;have c2:=(s2.2 C (Ne.symm nNC)).trans c1;refine wpB (nA (wpB (OG vO (wpF rfl (Oz ?_)))));refine nz (if_neg (by show ¬1>sizeLine;rw[sizeLine_eq];lia)) ?_;refine EE (aZ N [.ref C,.type "object"] [sx "obj"] false sl) c2 rfl rfl rfl rfl λH3 c3 s3=>?_;refine q md hmd H3 k t 0 (t+1) _ (by lia) ((s3.2 md nMC).trans ((s2.2 md nMN).trans m1)) ((s3.2 N nNC).trans n2) c3 (λb ob h1 h2 e=>(s3.2 b h1).trans ((s2.2 b h2).trans (k1 b ob e))) (s3.1.trans (s2.1.trans z1))
noncomputable def Ja(e:DictEntry):Pj Str:=match e.key with| .str s _=>some s|_=>none
theorem Jb(h:Ja e=some y):∃u,e.key= .str y u:=by
 unfold Ja at h;cases hk:e.key with
 |str s u=>rw[hk]at h;exact⟨u,ON (Value.str · u) (OH h)⟩
 |_=>rw[hk]at h;exact af h
noncomputable def EM:List Str:=[sx "__module__",sx "__firstlineno__",sx "__slots__",sx "__init__",sx "__lt__",sx "__gt__",sx "__eq__",sx "__le__",sx "__ge__",sx "__hash__",sx "__static_attributes__",sx "obj",sx "__doc__"]
theorem zH(hx:x∈kE3 hs ts vs k t md k' t'):∃y,y∈EM/\∃u,x.key= .str y u:=by have h:Ja x∈EM.map some:=List.mem_map_of_mem (f:=Ja) hx;obtain⟨y,hy,e⟩:=OS.mp h;exact⟨y,hy,Jb e.symm⟩
theorem pA:∀x∈kE3 hs ts vs k t md k' t',∃y u,x.key= .str y u:=λx hx=>by obtain⟨y,_,u,e⟩:=zH hx;exact⟨y,u,e⟩
noncomputable def kIx:List Nat:=[0,2,3,4,5,6,7,8,9,10,11]
theorem EN:∀i∈kIx,i<=11/\i≠1:=by left
theorem EO(hv:∀i,i<=11->i≠1->fC h (vs i))(hm:fC h (.ref md)):∀x∈kE3 hs ts vs k t md k' t',fC h x.val:=λx hx=>
 have h:x.val∈kIx.map vs++[Value.ref md,Value.none]:=List.mem_map_of_mem (f:=DictEntry.val) hx
 (List.mem_append.mp h).elim (λq=>by obtain⟨i,hi,e⟩:=OS.mp q;exact Eq.subst (motive:=fC _) e (hv i (EN i hi).1 (EN i hi).2)) λq=>(OT.mp q).elim (λe=>Eq.subst (motive:=fC _) e.symm hm) λq=>Eq.subst (motive:=fC _) (List.mem_singleton.mp q).symm (pz _)
theorem EP{prog:Program}{w:World}{A:Po}{E:Pr}{hp:Pp}{g:Array GenState}{d:Drawn}{tk:Nat}{os:OsState}{bT nsA sl:Pn}{hs:Nat->Int}{ts:Nat->Tok}{vs:Nat->Ph}{n:Nat}{tN tq tx:Tok}{Q:PySem.Fin->Pg->Prop}
  (hb:hp.get? bT=some {cls:= .type "tuple",data:= .seq #[.type "object"]}) (hn:hp.get? nsA=some (dct (kE hs ts vs) n)) (hsl:vs 3= .ref sl) (hl:hp.IsList sl #[.str (sx "obj") tx]) (hq:vs 1= .str (sx "cmp_to_key.<locals>.K") tq) (hns:(nsA==sysModules)=false)
  (hno:∀i,i<=11->i≠1->fC hp (vs i)) (hopq:∀h' C,(∀b o,hp.get? b=some o->h'.get? b=some o)->Looks (model prog w) h' (opaqueClassAbove (.ref C)) none)
  (hQ:∀C N md H' tk' k t1 t2 t3 k' t4,(∀b o,hp.get? b=some o->H'.get? b=some o)->hp.objs.size<=C->hp.objs.size<=N->hp.objs.size<=md->tk<=tk'->H'.get? C=some (aZ N [.ref C,.type "object"] [sx "obj"] false #[some (.ref bT),none,some (.str (sx "K") tN),some (vs 1),some (.builtin "object.__new__"),some (.bool false)])->
   H'.get? N=some (dct (kE3 hs ts vs k t3 md k' t4) 3)->H'.get? md=some (iS C t1 t2)->Q (.done (.ret (.ref C))) ⟨H',g,d,tk',os⟩):
  wpAny (model prog w) A (Builtin.«type.__new__» ⟨[.type "type",.str (sx "K") tN,.ref bT,.ref nsA],[]⟩) Q E ⟨hp,g,d,tk,os⟩:=by
 revert hb hn hsl hl hq hns hno hopq hQ;exists prog,w,A,E,hp,g,d,tk,os,bT,nsA,sl,hs,ts,vs,n,tN,tq,tx,Q;have tb:(Shared.mk hp g d tk os).TypeIs (.ref bT) "tuple":=⟨_,hb,rfl⟩;have tn:(Shared.mk hp g d tk os).TypeIs (.ref nsA) "dict":=⟨_,hn,rfl⟩;have q1:=I3;have q2:=EB;have q3:=ph;unfold Builtin.«type.__new__»;refine wpB (Oz ?_);refine wpB (wpAny_isInstance tb q1 ?_);refine wpB (wpAny_isInstance tn q2 ?_);refine wpB (wpAny_seqItems hb rfl ?_);refine wpB (nA (x:=Value.type "object") (wpB (OG q3 (wpF rfl (Oz ?_)))));refine wpB (nA (x:=Value.type "object") (wpB (OG (show typeOf (.type "object")=pure (.type "type") from rfl) (wpB (OG sub_tt (wpT rfl (Oz ?_)))))));refine wpF rfl ?_;refine wpB (OG yb ?_);refine wpB (OG IY ?_);refine wpF hns ?_;refine wpB (wpAny_dictEntries hn rfl ?_);refine wpB (OY tn PySem.F.slot_dict_iter.lookup ?_);refine wpT rfl ?_;refine wpB (Oz ?_);refine wpB (OJ (yd hsl hl λH1 k1 z1=>?_));refine wpB (gG rfl (by show 12<=sizeLine+1;rw[sizeLine_eq];lia) λN hN H2 hN2 k2 z2=>?_);refine wpF nofun ?_;refine wpB (wpF nofun (Oz ?_));refine wpF nofun ?_;refine wpB (bQ hN2 (r:=some (vs 1)) nofun ?_);refine wpB (bQ hN2 (r:=some (vs 1)) nofun ?_);refine wpB (OG (show asStr? (vs 1)=pure (some (sx "cmp_to_key.<locals>.K")) from by rw[hq];rfl) ?_);refine wpB (Oz ?_);refine wpB (bQ hN2 (r:=none) nofun ?_);refine wpB (JU rfl λC hC H3 hC3 k3 z3=>?_);have nNC:N≠C:=Nat.ne_of_lt (hC▸z2▸hN▸O6 _);have c0:H3.get? C=some (aZ N [] [] true #[]):=hC3;have n0:H3.get? N=some (dct (kE hs ts vs) 0):=k3 _ _ hN2;refine wpT rfl (wpB (pv (aZ N [] [] true #[some (.ref bT)]) c0 (by left) rfl rfl λH4 c4 s4=>?_));refine wpB (pv (aZ N [] [] true #[some (.ref bT),none,some (.str (sx "K") tN)]) c4 (by left) rfl rfl λH5 c5 s5=>?_);refine wpB (pv (aZ N [] [] true #[some (.ref bT),none,some (.str (sx "K") tN),some (vs 1)]) c5 (by left) rfl rfl λH6 c6 s6=>?_);have n6:H6.get? N=some (dct (kE hs ts vs) 0):=(s6.2 N nNC).trans ((s5.2 N nNC).trans ((s4.2 N nNC).trans n0));refine wpB (ED (dct (kE1 hs ts vs) 1) n6 nofun nofun rfl λH7 n7 s7=>?_);have c7:=(s7.2 C (Ne.symm nNC)).trans c6;refine wpB (bQ n7 (r:=none) nofun ?_);refine wpB (J5 (wpB (bQ n7 (r:=none) nofun (Oz (nA (wpB (bQ n7 (r:=none) nofun (Oz ?_))))))));refine wpB (bQ n7 (r:=none) nofun ?_);refine wpB (bQ n7 (r:=none) nofun ?_);refine wpB (OG A1 ?_);refine wpB (OG IZ ?_);refine wpB (Oz ?_);have filt:List.filter (λx=>x != Value.ref C) [Value.ref C,Value.type "object"]=[Value.type "object"]:=by simp
 refine wpB (nz (ON (List.anyM _) filt) (OG (a:=false) nofun ?_));refine wpB (EE (aZ N [.ref C,.type "object"] [] true #[some (.ref bT),none,some (.str (sx "K") tN),some (vs 1)]) c7 rfl nofun rfl rfl λH8 c8 s8=>?_);refine wpB (OG EA ?_);refine wpB (pv (aZ N [.ref C,.type "object"] [] true #[some (.ref bT),none,some (.str (sx "K") tN),some (vs 1),some (.builtin "object.__new__")]) c8 (by left) rfl rfl λH9 c9 s9=>?_);have n9:=(s9.2 N nNC).trans ((s8.2 N nNC).trans n7);refine wpB (yc c9 rfl n9 nofun ?_);refine wpB (yh nNC c9 n9 λmd hmd H10 k10 t1 t2 t3 tk' htk m10 n10 c10 kp10 z10=>?_);refine wpB (OG vP ?_);refine wpB (pv (aZ N [.ref C,.type "object"] [sx "obj"] false #[some (.ref bT),none,some (.str (sx "K") tN),some (vs 1),some (.builtin "object.__new__"),some (.bool false)]) c10 (by left) rfl rfl λH11 c11 s11=>?_);have n11:=(s11.2 N nNC).trans n10;refine wpF rfl (wpF rfl ?_);refine wpB (bQ n11 (r:=none) nofun ?_);refine wpT rfl ?_;refine wpB (pw (λkk=>dct (kE3 hs ts vs k10 t3 md kk tk') 3) n11 (by right) nofun (λkk=>by symm) (λkk=>rfl) λk12 H12 n12 s12=>?_);refine wpB (bQ n12 (r:=some (vs 7)) nofun ?_);refine wpT rfl ?_;refine wpB (bQ n12 (r:=some (vs 10)) nofun ?_);refine wpF rfl ?_;refine wpB (nA (x:=Value.type "object") (wpB (OG (vQ C) (Oz ?_))));have c12:=(s12.2 C (Ne.symm nNC)).trans c11;have nMC:md≠C:=hmd▸Nat.ne_of_gt (OF c9);have nMN:md≠N:=hmd▸Nat.ne_of_gt (OF n9);have m12:=(s12.2 md nMN).trans ((s11.2 md nMC).trans m10);have keep3:∀b o,hp.get? b=some o->H3.get? b=some o:=λb o e=>k3 b o (k2 b o (k1 b o e));have loC:hp.objs.size<=C:=hC▸z2▸OK z1;have loN:hp.objs.size<=N:=hN▸z1
 have keep12:∀b o,hp.get? b=some o->H12.get? b=some o:=λb o e=>by have nC:b≠C:=Nat.ne_of_lt (OD (OF e) loC);have nN:b≠N:=Nat.ne_of_lt (OD (OF e) loN);have e6:=(s6.2 b nC).trans ((s5.2 b nC).trans ((s4.2 b nC).trans (keep3 b o e)));have e9:=(s9.2 b nC).trans ((s8.2 b nC).trans ((s7.2 b nN).trans e6));exact(s12.2 b nN).trans ((s11.2 b nC).trans (kp10 b o nC nN e9))
 have hz:hp.objs.size<=md:=by have e9:H9.objs.size=H3.objs.size:=s9.1.trans (s8.1.trans (s7.1.trans (s6.1.trans (s5.1.trans s4.1))));rw[hmd,e9,z3,z2];exact OK (OK z1)
 refine wpB (wpAny_tryCatch (OJ ?_));refine wpB (wpAny_dictEntries n12 rfl ?_);refine wpB (forA (sU (λx hx Q' hq'=>?_) ?_))
 ·obtain⟨y,u,e⟩:=pA x hx;rw[e];exact wpB (Oz (wpF rfl (Oz hq')))
 refine wpF rfl ?_;refine wpB (wpAny_dictEntries n12 rfl ?_);refine wpB (forA (sU (λx hx Q' hq'=>?_) ?_))
 ·obtain⟨y,u,e⟩:=pA x hx;obtain⟨T,a1,a2,a3⟩:=EO (h:=H12) (λi h1 h2=>(hno i h1 h2).keeps keep12) (jh m12 rfl EL) x hx;rw[e];refine wpF (a3 y) (wpB (OY (a1 _ _ _ _) a2 ?_));exact Oz hq'
 refine wpB (A3 c12 λso H13 hso e13 k13=>?_);refine wpB (OJ (A7 (k13 _ _ c12) e13 (hopq _ _ λb o e=>k13 _ _ (keep12 _ _ e)) λbm H14 hbm e14 k14 z14=>?_));refine wpB (EK (k14 _ _ (k13 _ _ c12)) e14 (Oz ?_));refine Oz ?_;exact hQ C N md H14 _ k10 t1 t2 t3 k12 tk' (λb o e=>k14 _ _ (k13 _ _ (keep12 _ _ e))) loC loN hz (by lia) (k14 _ _ (k13 _ _ c12)) (k14 _ _ (k13 _ _ n12)) (k14 _ _ (k13 _ _ m12))
theorem Bb:Bind.madeBy (.type "type")=pure (some "type.__new__"):=by unfold Bind.madeBy;rw[vN];symm
theorem vT(a b c:Ph):checkTypeCall "type" ⟨[a,b,c],[]⟩=pure ():=nofun
theorem vU(a b c:Ph):checkBuiltinCall "type.__new__" ⟨[.type "type",a,b,c],[]⟩=pure ():=nofun
theorem yi:entryFor table "type.__new__"=some Builtin.«type.__new__»:=entryFor_of_tree nofun
theorem pC:plainId "type.__new__"=true:=by right
theorem iV:Slot "type" "__init__" "type.__init__":=
 .of (owner:="type") (n:="__init__") (by rw[typeLookup_type,builtinLookup_eq_fast];symm) (by right) (by right) (by right)
  (by first|exact .inl (by right)|exact .inr (by right)) (by rw[isSubtype_type];symm)
theorem vV:entryFor table "type.__init__"=some Builtin.«type.__init__»:=entryFor_of_tree nofun
theorem yj(o a b c:Ph):argsOk "type.__init__" ⟨[o,a,b,c],[]⟩:=by unfold argsOk;symm
section
variable {prog:Program}{w:World}{A:Po}{E:Pr}
theorem Bc{hp:Pp}{g:Array GenState}{d:Drawn}{tk:Nat}{os:OsState}{a b c:Ph}{Q:Pr}
  (hnew:∀(A':Po) (P:PySem.Fin->Pg->Prop) (E':Ph->Pg->Prop),(∀C s',(∃o,s'.heap.get? C=some o/\o.cls= .type "type")->Q (.ref C) s'->P (.done (.ret (.ref C))) s')->wpAny (model prog w) A' (Builtin.«type.__new__» ⟨[.type "type",a,b,c],[]⟩) P E' ⟨hp,g,d,tk,os⟩):
  wpAny (model prog w) A (call (.type "type") [a,b,c]) Q E ⟨hp,g,d,tk,os⟩:=by
 revert hnew;exists prog,w,A,E,hp,g,d,tk,os,a,b,c,Q;refine OW (codeAny_of_tree ?_);show wpAny _ _ (callAny (.type "type") _) _ _ _;refine Oz ⟨Code.quiet_builtin _ (by right),codeAny_builtin PySem.F.entry_type_call ?_⟩;rw[Around.under_plain (weight_type_call_type "type" [a,b,c] []) rfl];unfold Builtin.«type.__call__»;refine wpT rfl (wpF rfl (wpF rfl ?_));refine wpF nofun ?_;refine wpB (OG (vT a b c) ?_);refine wpB (OG vN ?_);refine wpF rfl ?_;refine wpB (OG Bb ?_);refine wpB (Oz ?_);refine wpB (OJ ?_);refine OW (codeAny_of_tree ?_);show wpAny _ A.in1.in1 (do checkBuiltinCall "type.__new__" ⟨[.type "type",a,b,c],[]⟩;again (.builtin "type.__new__" ⟨[.type "type",a,b,c],[]⟩)) _ _ _;refine wpB (OG (vU a b c) (Oz ⟨plainId_quiet pC _,codeAny_builtin yi ?_⟩));rw[Around.under_plainId pC _];refine hnew _ _ _ λC s' ho hq=>?_;have hT:s'.TypeIs (.ref C) "type":=ho;show wpAny _ A.in1 _ _ _ _;refine wpB (wpAny_isInstance hT sub_tt ?_);refine wpF rfl ?_;refine wpB (OJ (wpAny_callSpecial?_slot (name:=Pd "__init__") hT iV (wpAny_call_entry iV hT vV ?_ (yj _ _ _ _))));unfold Builtin.«type.__init__»;refine wpF rfl (wpF rfl (Oz ⟨.none,rfl,?_⟩));refine wpF rfl ?_;exact Oz hq
end
theorem yk:findCls [] (.type "type") (.type "type") (Pd "__prepare__")=some (.get (.builtin "classmethod_descriptor.__get__") (.builtin "type.__prepare__") .none (.type "type")):=nofun
theorem Bd:opaqueClassAbove (.type "type")=pure none:=by unfold opaqueClassAbove;dsimp only;rw[show Manifest.isStub "type"=false by right];rfl
theorem yl:entryFor table "type.__prepare__"=some Builtin.«type.__prepare__»:=entryFor_of_tree nofun
theorem ER:hookBefore (.type "type")=pure none:=nofun
section
variable {prog:Program}{w:World}{A:Po}{E:Pr}{h:Pp}{g:Array GenState}{d:Drawn}{t:Nat}{os:OsState}
theorem ES(fp:findCls [] (.type "type") (.type "type") nm=some (.get (.builtin "classmethod_descriptor.__get__") (.builtin "type.__prepare__") .none (.type "type")))(q:∀b H',b=h.objs.size->H'.get? b=some (kF "type.__prepare__" (.type "type"))->(∀y o,h.get? y=some o->H'.get? y=some o)->H'.objs.size=h.objs.size+1->Q (some (.ref b)) ⟨H',g,d,t+1,os⟩):
  wpAny (model prog w) A (getAttr? (.type "type") nm) Q E ⟨h,g,d,t,os⟩:=by
 revert fp q;exists prog,w,A,E,h,g,d,t,os,nm,Q;have X:Frag.In ([]:Frag) h:=λ_ _ e=>by cases e
 have L0:Looks (model prog w) h (typeOf (.type "type")) (.type "type"):=Looks.of_pure (by first|rfl|symm);have hg:findIn [] (.type "type") "__getattribute__"=some (some (.builtin "type.__getattribute__")):=type_tga;have LO:Looks (model prog w) h (opaqueClassAbove (.type "type")) none:=Looks.of_pure Bd;unfold getAttr? getAttrBy?;refine wpB (O3 (wpB (wpAny_attempt ?_)));unfold getAttrBy;refine OJ (wpB (L0 _ _ _ _ (λ_ _ e=>e) (wpB (looks_findIn X hg _ _ _ _ (λ_ _ e=>e) ?_))));dsimp only;refine wpF (by right) ?_;unfold getAttrByItsOwn;refine wpB (OG ER (wpB (wpAny_attempt (OJ ?_))));unfold callGetattribute;refine wpF rfl ?_;unfold boundAndCalled;rw[KF.slot_tga.bind];refine wpB (Oz ?_);show wpAny _ _ (call (.builtin "type.__getattribute__") [.type "type",.str nm t]) _ _ _;refine OW ?_;refine codeAny_call_builtin KF.slot_tga.plain KF.entry_tga ?_;refine @check_slot (model prog w) _ _ ⟨h,g,d,t+1,os⟩ "type.__getattribute__" "type" "__getattribute__" (.type "type") [.str nm t] [] _ (by right) (by right) (L0.andThen (Looks.of_pure sub_tt)) (KF.args_tga (.type "type") (.str nm t)) ?_;refine tga_run (s:=⟨h,g,d,t+1,os⟩) X LO L0 fp ?_;show wpAny _ _ (holding [.builtin "type.__prepare__"] (call (.builtin "classmethod_descriptor.__get__") [.builtin "type.__prepare__",.none,.type "type"])>>=λv=>ret v) _ _ _;refine wpB (OJ (wpAny_call_entry PySem.W.KFB.slot_get (show Shared.TypeIs _ _ _ from A4) PySem.W.KFB.entry_get (EG λb H' hb e k z=>⟨_,rfl,Oz ?_⟩) (PySem.W.KFB.args_get _ _ _)));exact Oz (Oz (q b H' hb e k z))
end
theorem ym(x:Str)(t:Tok)(b:Pn):checkBoundCall "type.__prepare__" ⟨[.type "type",.str x t,.ref b],[]⟩=pure ():=nofun
theorem yn:(Code.builtin "type.__prepare__" as).quiet=true:=Code.quiet_builtin _ (by right)
section
variable {prog:Program}{w:World}{A:Po}{E:Pr}{h:Pp}{g:Array GenState}{d:Drawn}{t:Nat}{os:OsState}
theorem Be(hb:h.get? b=some (kF "type.__prepare__" (.type "type")))
  (q:∀N H',N=h.objs.size->H'.get? N=some (dct [] 0)->(∀y o,h.get? y=some o->H'.get? y=some o)->H'.objs.size=h.objs.size+1->Q (.ref N) ⟨H',g,d,t,os⟩):wpAny (model prog w) A (call (.ref b) [.str x u,.ref bT]) Q E ⟨h,g,d,t,os⟩:=by
 refine OW (codeAny_of_tree ?_);show wpAny _ A.in1 (callAny (.ref b) ⟨[.str x u,.ref bT],[]⟩) _ _ _;simp only [callAny];refine wpB (wpAny_load hb ?_);simp only [kF,show(Value.type "builtin_function_or_method"==Value.type "method"||Value.type "builtin_function_or_method"==Value.type "builtin_function_or_method"||Value.type "builtin_function_or_method"==Value.type "method-wrapper")=true by left,if_true];refine wpT (by left) ?_;refine wpB (OG (a:=()) (ym x u bT) ?_);refine wpB (Oz (Oz ?_));refine⟨yn,codeAny_builtin yl ?_⟩;unfold Builtin.«type.__prepare__» newDict;exact wpB (gG rfl (by size_fits) λN hN H' e k z=>Oz (q N H' hN e k z))
end
section
variable {M:Model}{A:Po}{E:Pr}{s:Pg}
theorem qn{env:Env}{c P:Pn}{ps:Array Ph}{pos:Pos}{fl:Nat}{name qualname:Str}{scope:Scope}{Q:Pr}(hc:env.code= .ref c)(hok:s.heap.IsCode c P ps)(htab:s.heap.TableAt c P ps)(hnf:codeAmong pos ps.toList=none)
  (hQ:∀c' h' tk P',Heap.ExtBut P s.heap h'->s.heap.objs.size<=c'->c'<h'.objs.size->h'.CodeRec (.ref c') qualname->h'.TableAt c P (ps++#[rawInt pos.line,rawInt pos.col,.ref c'])->s.heap.objs.size<=P'->h'.IsCode c' P' #[]->h'.TableAt c' P' #[]->Q (.ref c') {s with heap:=h',toks:=tk}):
  wpAny M A (classCode env pos fl name qualname scope) Q E s:=by
 revert hc hok htab hnf hQ;exists M,A,E,s,env,c,P,ps,pos,fl,name,qualname,scope,Q;obtain⟨o,vs,file,tf,flags,tg,inF,text,tt,op,ho,hd,h11,h2,h7,h9,h10,hop,hpd,htr,hne⟩:=id hok;unfold classCode codeAt;rw[hc,if_neg (show ¬((Value.ref c==Value.none)=true) from Bool.false_ne_true)];refine OB (wpAny_fieldsOf ho hd ?_);rw[h11];refine OB (wpAny_fieldsOf hop hpd ?_);rw[hnf,h2,h7,h9,h10];refine wpB (wpAny_newCodeX λc' P' h' tk hk hc' hP' hcode' htab' hrec'=>?_);refine wpB (wpAny_updateFieldsOfTheText (hk _ _ hop) hpd ?_);obtain⟨⟨oc,vc,hoc,hcc,hdc,h11c⟩,htP⟩:=htab;obtain⟨⟨oc',vc',hoc',hcc',hdc',h11c'⟩,htP'⟩:=id htab';have e1:op={cls:= .none,data:= .fields ps}:=OH (hop.symm.trans htP);have sb:=OO h' P (Obj.mapFields (λvs=>if(codeAmong pos vs.toList).isSome=true then vs else vs++#[rawInt pos.line,rawInt pos.col,.ref c']));have hget:(h'.update P (Obj.mapFields (λvs=>if(codeAmong pos vs.toList).isSome=true then vs else vs++#[rawInt pos.line,rawInt pos.col,.ref c']))).get? P=some {cls:= .none,data:= .fields (ps++#[rawInt pos.line,rawInt pos.col,.ref c'])}:=
  lN (hk _ _ hop) (by rw[e1];simp only [Obj.mapFields,hnf];rfl) rfl
 have hcP:c'≠P:=Nat.ne_of_gt (OD (OF hop) hc');have hP'P:P'≠P:=Nat.ne_of_gt (OD (OF hop) hP');refine OB (wpAny_fieldsOf hget rfl ?_);have hl:(ps++#[rawInt pos.line,rawInt pos.col,Value.ref c']).toList=ps.toList++[rawInt pos.line,rawInt pos.col,.ref c']:=by simp
 rw[hl,codeAmong_snoc _ htr hnf];refine Oz (hQ _ _ _ P' (λb o' hb e=>sb.extBut b o' hb (hk b o' e)) hc' (by rw[sb.1];exact hcode'.lt.1) ?_ ⟨⟨oc,vc,sb.extBut _ _ hne (hk _ _ hoc),hcc,hdc,h11c⟩,hget⟩ hP' (hcode'.extBut sb.extBut hcP hP'P) ⟨⟨oc',vc',sb.extBut _ _ hcP hoc',hcc',hdc',h11c'⟩,sb.extBut _ _ hP'P htP'⟩);obtain⟨c₂,w9n,w9m,w9l,w9k,w9j,w9i⟩:=hrec';cases w9k;exact⟨_,w9n,w9m,w9l,rfl,sb.extBut _ _ hcP w9j,w9i⟩
end
section
variable {M:Model}{A:Po}{E:Pr}{h:Pp}{g:Array GenState}{d:Drawn}{t:Nat}{os:OsState}
theorem mz(o':Int->Obj)(ho:h.get? env.locals=some (dct es n))(hx:name.length<=1000)(hr:aRefKeyMayBeTheName name es.toArray=false)(hf:∀k,Obj.putName name k (.str name t) v (dct es n)=o' k)(hfr:∀k,(o' k).isFreed=false)
  (q:∀k H',H'.get? env.locals=some (o' k)->Heap.SameBut env.locals h H'->Q () ⟨H',g,d,t+1,os⟩):wpAny M A (localSet env name v) Q E ⟨h,g,d,t,os⟩:=by
 unfold localSet;refine OB (wpAny_load ho ?_);exact wpT rfl (pw o' ho hx hr hf hfr q)
theorem mA(o':Int->Obj)(hk:env.scope.kind= .class)(hn:env.kindOf name=some .local\/(env.kindOf name=none/\env.blockKind≠ .function/\compilersOwnNames.contains name=true))(ho:h.get? env.locals=some (dct es n))(hx:name.length<=1000)(hr:aRefKeyMayBeTheName name es.toArray=false)(hf:∀k,Obj.putName name k (.str name t) v (dct es n)=o' k)(hfr:∀k,(o' k).isFreed=false)
  (q:∀k H',H'.get? env.locals=some (o' k)->Heap.SameBut env.locals h H'->Q () ⟨H',g,d,t+1,os⟩):wpAny M A (storeName env name v) Q E ⟨h,g,d,t,os⟩:=by
 have hc:(env.scope.kind== .class||(env.scope.kind== .module&&env.locals != env.globals))=true:=by rw[hk];rfl
 unfold storeName;rcases hn with hn|⟨hn,hb,hm⟩
 ·rw[hn];exact wpT hc (mz o' ho hx hr hf hfr q)
 ·rw[hn]
  refine wpF (by rw[hm];cases hq:(env.blockKind==ScopeKind.function) with
   |true=>exact O8 (by simpa using hq) hb
   |false=>simp) (wpT hc (mz o' ho hx hr hf hfr q))
end
theorem Ly(h:(es.any λe=>e.key.isStr name)=false):Obj.putName name k key v (dct es n)=dct (es++[⟨k,key,v⟩]) (n+1):=by
 rw[Obj.putName_eq];unfold Obj.putNameByArray;dsimp only [dct]
 have:es.toArray.findIdx? (λx=>x.key.isStr name)=none:=by rw[Array.findIdx?_eq_none_iff];intro e he;have:=List.any_eq_false.mp h e (by simpa using he);simpa using this
 rw[this];simp
theorem noRef{es:List DictEntry}{name:Str}(h:(es.any λe=>e.refKey)=false):aRefKeyMayBeTheName name es.toArray=false:=by
 rw[aRefKeyMayBeTheName_at];have:es.toArray.any (λx=>x.refKey)=false:=by simpa using h
 rw[this,Bool.and_false]
theorem mX{p q:Pos}{c:Ph}(hne:p.line≠q.line)(l:List Ph)(h:TriplesOk l):codeAmong p (l++[rawInt q.line,rawInt q.col,c])=codeAmong p l:=by
 fun_induction TriplesOk l with
 |case1=>simp only [List.nil_append,rawInt,codeAmong];rw[if_neg];simp only [Bool.and_eq_true,beq_iff_eq,not_and];intro e;exact O8 (by lia) hne
 |case2 a t b u x rest ih=>
  simp only [List.cons_append,codeAmong];split
  ·rfl
  ·exact ih h
 |case3 l h1 h2=>exact h.elim
theorem yo(h:TriplesOk (a:: .str q t::l)):False:=by cases a<;>exact h
theorem yp{h:Pp}{c P:Pn}{q:Str}{ps:Array Ph}(x:h.CodeRec (.ref c) q)(hp:h.get? P=some (tabObj ps))(ht:TriplesOk ps.toList):c≠P:=by
 intro ne;obtain⟨c',o,vs,t,e,ho,hd,hv⟩:=x;have ho:=(ON h.get? (ne.symm.trans (Value.ref.inj e))).symm.trans hp;have e2:ps=vs:=Data.fields.inj ((ON Obj.data (OH (ho.symm.trans ‹_›))).trans hd);rw[e2]at ht;rw[<-Array.getElem?_toList]at hv;generalize vs.toList=l at hv ht;cases l with
 |nil=>exact af hv
 |cons a l=>
  cases l with
  |nil=>exact af hv
  |cons b l=>exact yo (q:=q) (t:=t) (OH hv▸ht)
structure KP (fr:Prop) (N P:Pn) (h h':Pp):Prop where
 size:h.objs.size<=h'.objs.size
 keep:∀b o,b≠N->(fr->b≠P)->h.get? b=some o->h'.get? b=some o
theorem KP.trans{fr:Prop}{N P:Pn}{w95 w93 w94:Pp}(a:KP fr N P w95 w93)(b:KP fr N P w93 w94):KP fr N P w95 w94:=⟨OA a.size b.size,λc o n p e=>b.keep c o n p (a.keep c o n p e)⟩
theorem KP.all{fr:Prop}{N P:Pn}{h h':Pp}(s:h.objs.size<=h'.objs.size)(k:∀b o,h.get? b=some o->h'.get? b=some o):KP fr N P h h':=⟨s,λb o _ _ e=>k b o e⟩
theorem KP.same{fr:Prop}{N P:Pn}{h h':Pp}(s:Heap.SameBut N h h'):KP fr N P h h':=⟨Nat.le_of_eq s.1.symm,λb o n _ e=>(s.2 b n).trans e⟩
theorem KP.meth{fr:Prop}{N P:Pn}{h h':Pp}{es n ps}(x:KP fr N P h h')(hN:h.get? N=some (dct es n))(hP:h.get? P=some (tabObj ps))(ht:TriplesOk ps.toList){g cell:Pn}{qs:List Str}{body:List Pq}{sc:Sc}{fd:FuncData}(m:IsMeth h g cell qs body sc fd):IsMeth h' g cell qs body sc fd:=
 {m with
  at_:=by
   obtain⟨o,a,b,c⟩:=m.at_;refine⟨o,x.keep g o ?_ (λ_=>?_) a,b,c⟩
   ·rintro rfl;rw[hN]at a;cases a;cases b
   ·rintro rfl;rw[hP]at a;cases a;cases b
  code:=by
   obtain⟨c,o,vs,t,e,ho,hd,hv⟩:=id m.code;have cr:h.CodeRec (.ref c) fd.qualname:=⟨c,o,vs,t,rfl,ho,hd,hv⟩;refine⟨c,o,vs,t,e,x.keep c o ?_ (λ_=>yp cr hP ht) ho,hd,hv⟩
   rintro rfl;rw[hN]at ho;cases ho;cases hd}
def dU(h:Pp)(c:Pn)(q:Str):Prop:=∃o vs t,h.get? c=some o/\o.cls= .type "code"/\o.data= .fields vs/\vs[1]?=some (.str q t)
theorem dU.rec'(x:dU h c q):h.CodeRec (.ref c) q:=by obtain⟨o,vs,t,a,_,b,e⟩:=x;exact⟨c,o,vs,t,rfl,a,b,e⟩
theorem KP.mcode{fr:Prop}{N P:Pn}{h h':Pp}{es n ps}(x:KP fr N P h h')(hN:h.get? N=some (dct es n))(hP:h.get? P=some (tabObj ps)){c:Pn}{q:Str}(m:dU h c q):dU h' c q:=by
 obtain⟨o,vs,t,ho,hc,hd,hv⟩:=m;refine⟨o,vs,t,x.keep c o ?_ (λ_=>?_) ho,hc,hd,hv⟩
 ·rintro rfl;rw[hN]at ho;cases ho;cases hd
 ·rintro rfl;rw[hP]at ho;cases ho;cases hc
theorem KP.hd{fr:Prop}{N P:Pn}{h h':Pp}{es n}(x:KP fr N P h h')(hN:h.get? N=some (dct es n)){c:Pn}(m:CodeHd h c P):CodeHd h' c P:=by
 obtain⟨o,vs,file,tf,flags,tg,inF,text,tt,e,r1,r2,r3,r4,r5,r6,r7,r8,r9⟩:=m;refine⟨o,vs,file,tf,flags,tg,inF,text,tt,x.keep c o ?_ (λ_=>r9) e,r1,r2,r3,r4,r5,r6,r7,r8,r9⟩
 rintro rfl;rw[hN]at e;cases e;cases r2
theorem KP.main{fr:Prop}{N P:Pn}{h h':Pp}(x:KP fr N P h h')(n3:Pb≠N)(p3:Pb≠P)(n4:(4:Nat)≠N)(m:∃mg,h.Ns Pb mg/\mg "__builtins__"=some (.ref 4)/\(4:Nat)≠P/\∃o,h.get? 4=some o/\o.cls= .type "module"/\o.dict=some Pc/\o.data= .plain):
  ∃mg,h'.Ns Pb mg/\mg "__builtins__"=some (.ref 4)/\(4:Nat)≠P/\∃o,h'.get? 4=some o/\o.cls= .type "module"/\o.dict=some Pc/\o.data= .plain:=by
 obtain⟨mg,⟨o,es,ep,e,r⟩,a,b,o',e',r'⟩:=m;exact⟨mg,⟨o,es,ep,x.keep _ _ n3 (λ_=>p3) e,r⟩,a,b,o',x.keep _ _ n4 (λ_=>b) e',r'⟩
noncomputable def aI:Scope:=match(pB "cmp_to_key").body with
 | .ClassDef _ _ _ _ _ _ sc _ _ _ _::_=>sc
 |_=>default
noncomputable def ed:Pos:=match(pB "cmp_to_key").body with
 | .ClassDef _ _ _ _ _ _ _ _ _ _ p::_=>p
 |_=>default
noncomputable def jB:Str:=sx "cmp_to_key.<locals>.K"
noncomputable def qm(x:Str):Str:=jB++sx "."++x
structure CEnv (env:Env) (cc N cell:Pn):Prop where
 sc:env.scope=aI
 loc:env.locals=N
 glob:env.globals=Pb
 qual:env.qual=jB++sx "."
 code:env.code= .ref cc
 cells:env.cells=[(sx "mycmp",cell)]
noncomputable def sV(x:Str)(cell:Pn):List (Str×Pn):=if x=sx "__init__" then [] else [(sx "mycmp",cell)]
structure MOk (x:Str):Prop where
 dfl:∀env,defaultsOf (aA x).args env=([],[])
 ann:∀env,annTrees (aA x).args none env=[]
 kind:(aA x).scope.kind= .function
 co:(aA x).scope.isCoroutine=false
 gen:(aA x).scope.isGenerator=false
 len:(mps x).length=2
 bind:∀qual scope cl doc pm cdv ct a b,bindArgs (fnX x qual (aA x).args (aA x).body scope cl .none .none doc pm none cdv ct) ⟨[a,b],[]⟩=pure ((mps x).zip [a,b])
 loc:aI.names.lookup x=some .local
 free:(aA x).scope.names.lookup (sx "mycmp")=some .free->x≠sx "__init__"
 clo:∀env cell,env.cells=[(sx "mycmp",cell)]->closureFor (aA x).scope env=pure (sV x cell)
 xlen:x.length<=1000
 kq:(if aI.names.lookup x==some .globalExplicit then true else false)=false
theorem mok:∀x∈ai,MOk x:=by
 intro x hx;simp only [ai,List.mem_cons,List.not_mem_nil,or_false]at hx;rcases hx with rfl|rfl|rfl|rfl|rfl|rfl<;>
 exact⟨λenv=>by symm,λenv=>by symm,nofun,nofun,nofun,nofun,λqual scope cl doc pm cdv ct a b=>by symm,nofun,by right,
  λenv cell h=>by obtain⟨e1,e2,e3,e4,e5,e6⟩:=env;cases h;symm,by right,by right⟩
theorem yr:∀x∈ai,∀y∈ai,x≠y->(aA x).pos.line≠(aA y).pos.line:=by right
theorem pD:aI.kind= .class:=nofun
def Has(h:Pp)(ps:Array Ph)(y:Str):Prop:=∃c',codeAmong (aA y).pos ps.toList=some (.ref c')/\dU h c' (qm y)
def yt(h:Pp)(P:Pn):Prop:=∃mg,h.Ns Pb mg/\mg "__builtins__"=some (.ref 4)/\(4:Nat)≠P/\∃o,h.get? 4=some o/\o.cls= .type "module"/\o.dict=some Pc/\o.data= .plain
structure BS (fr:Prop) (cell cc P N:Pn) (h:Pp) (es:List DictEntry) (n:Nat) (ps:Array Ph) (done:List Str) (f:Str->Pn):Prop where
 dict:h.get? N=some (dct es n)
 tab:h.get? P=some (tabObj ps)
 tok:TriplesOk ps.toList
 hd:CodeHd h cc P
 all:∀y∈ai,Has h ps y\/(codeAmong (aA y).pos ps.toList=none/\fr)
 done:∀y∈done,y∈ai/\N<f y/\Has h ps y/\∃fd c',IsMeth h (f y) cell (mps y) (aA y).body (aA y).scope.names fd/\fd.code= .ref c'/\dU h c' (qm y)
 main:yt h P
 ap:175<=N/\175<=P
theorem n3N(h:175<=N):Pb≠N:=λe=>O8 (e▸h) (by left)
theorem n4N(h:175<=N):(4:Nat)≠N:=λe=>O8 (e▸h) (by left)
theorem BS.next{fr:Prop}{cell cc P N:Pn}{h h':Pp}{es es' n n' ps ps' done f}(B:BS fr cell cc P N h es n ps done f)(k:KP fr N P h h')(d:h'.get? N=some (dct es' n'))(t:h'.get? P=some (tabObj ps'))(tk:TriplesOk ps'.toList)
  (al:∀y∈ai,(codeAmong (aA y).pos ps'.toList=codeAmong (aA y).pos ps.toList)\/Has h' ps' y):BS fr cell cc P N h' es' n' ps' done f where
 dict:=d
 tab:=t
 tok:=tk
 hd:=k.hd B.dict B.hd
 all:=λy hy=>by
  rcases al y hy with e|e
  ·rcases B.all y hy with⟨c',e1,e2⟩|⟨e1,e2⟩
   ·exact .inl ⟨c',e.trans e1,k.mcode B.dict B.tab e2⟩
   ·exact .inr ⟨e.trans e1,e2⟩
  ·exact .inl e
 done:=λy hy=>by
  obtain⟨h1,hN,⟨c',e1,e2⟩,fd,c2,m,m2,m3⟩:=B.done y hy;refine⟨h1,hN,?_,fd,c2,k.meth B.dict B.tab B.tok m,m2,k.mcode B.dict B.tab m3⟩;rcases al y h1 with e|e
  ·exact⟨c',e.trans e1,k.mcode B.dict B.tab e2⟩
  ·exact e
 main:=k.main (n3N B.ap.1) (n3N B.ap.2) (n4N B.ap.1) B.main
 ap:=B.ap
section
variable {prog:Program}{w:World}{A:Po}{E:Pr}{h:Pp}{g:Array GenState}{d:Drawn}{t:Nat}{os:OsState}
theorem ee{fr:Prop}{cell cc P N:Pn}{es:List DictEntry}{n:Nat}{ps done f}{env:Env}{x:Str}{v:Ph}{Q:Unit->Pg->Prop}(C:CEnv env cc N cell)(hn:aI.names.lookup x=some .local\/(aI.names.lookup x=none/\compilersOwnNames.contains x=true))(hx:x.length<=1000)
  (hr:(es.any λe=>e.refKey)=false) (hk:(es.any λe=>e.key.isStr x)=false) (B:BS fr cell cc P N h es n ps done f)
  (q:∀k H',BS fr cell cc P N H' (es++[⟨k,.str x t,v⟩]) (n+1) ps done f->KP fr N P h H'->Q () ⟨H',g,d,t+1,os⟩):wpAny (model prog w) A (storeName env x v) Q E ⟨h,g,d,t,os⟩:=by
 have hko:env.kindOf x=aI.names.lookup x:=by unfold Env.kindOf;rw[C.sc]
 have hkd:env.scope.kind= .class:=by rw[C.sc];exact pD
 refine mA (λk=>dct (es++[⟨k,.str x t,v⟩]) (n+1)) hkd ?_ (C.loc▸B.dict) hx (noRef hr) (λk=>Ly hk) (λ_=>rfl) λk H' e s=>?_
 ·rw[hko];rcases hn with hn|⟨hn,hc⟩
  ·exact .inl hn
  ·refine .inr ⟨hn,?_,hc⟩;unfold Env.blockKind;rw[hkd]
   decide
 ·rw[C.loc]at e s;have hP:H'.get? P=some (tabObj ps):=(s.2 P (λq=>by have:=B.tab;rw[q,B.dict]at this;cases this)).trans B.tab;exact q k H' (B.next (.same s) e hP B.tok λy _=> .inl rfl) (.same s)
end
theorem yt.get{h:Pp}{P:Pn}(m:yt h P):∃mg,h.Ns Pb mg/\h.BuiltinsAt mg P:=
 by obtain⟨mg,a,b,c,o,e1,e2,e3,e4⟩:=m;exact⟨mg,a,4,o,b,by left,by left,c,e1,e2,e3,e4⟩
theorem vW(hx:x∈ai)(ho:h.get? g=some o)(hd:o.data= .func (fnX x (qm x) (aA x).args (aA x).body (aA x).scope (sV x cell) .none .none doc pm none (.ref c') ctv))(hc:o.cls= .type "function")(cr:h.CodeRec (.ref c') (qm x)):
  IsMeth h g cell (mps x) (aA x).body (aA x).scope.names (fnX x (qm x) (aA x).args (aA x).body (aA x).scope (sV x cell) .none .none doc pm none (.ref c') ctv) where
 at_:=⟨o,ho,hd,hc⟩
 code:=cr
 body_:=rfl
 names:=rfl
 kind:=(mok x hx).kind
 co:=(mok x hx).co
 gen:=(mok x hx).gen
 glob:=rfl
 bi:=rfl
 bind:=λvals hv=>by rw[(mok x hx).len]at hv;obtain⟨a,b,rfl⟩:=Hm hv;exact(mok x hx).bind _ _ _ _ _ _ _ a b
 clo:=by
  show sV x cell=[]\/sV x cell=_;unfold sV;split
  ·exact .inl rfl
  ·exact .inr rfl
 cloq:=λhf=>by show sV x cell=_;unfold sV;rw[if_neg ((mok x hx).free hf)]
theorem MY:∀x∈ai,docOf (aA x).body=none:=by intro x hx;simp only [ai,List.mem_cons,List.not_mem_nil,or_false]at hx;rcases hx with rfl|rfl|rfl|rfl|rfl|rfl<;>symm
theorem mB(r:h.CodeRec (.ref c) q)(x:∃P',h.TableAt c P' #[]):dU h c q:=by obtain⟨c',o,vs,t,e,ho,hd,hv⟩:=r;cases e;obtain⟨P',⟨o',vs',e1,e2,e3,e4⟩,_⟩:=x;rw[ho]at e1;cases e1;exact⟨o,vs,t,ho,e2,hd,hv⟩
section
variable {M:Model}{A:Po}{E:Pr}{s:Pg}
theorem Lz{env:Env}{name qual:Str}{params:Arguments}{body:List Pq}{scope:Scope}{clos:List (Str×Pn)}{c P:Pn}{ps:Array Ph}{pos:Pos}{fl:Nat}{mg}{Q:Pr}(hcl:closureFor scope env=pure clos)(hge0:env.globals=Pb)(hg:s.heap.Ns Pb mg)(hcode:env.code= .ref c)(C:CodeHd s.heap c P)(hP:s.heap.get? P=some (tabObj ps))(ht:TriplesOk ps.toList)
  (hnf:codeAmong pos ps.toList=none) (hgP:Pb≠P) (hb:s.heap.BuiltinsAt mg P) (hdoc:docOf body=none)
  (h:∀c' ctv pm h' tk,Heap.ExtBut P s.heap h'->s.heap.objs.size<=c'->c'<h'.objs.size->dU h' c' qual->h'.get? P=some (tabObj (ps++#[rawInt pos.line,rawInt pos.col,.ref c']))->
   Q (.ref h'.objs.size) {s with heap:=h'.push {cls:= .type "function",data:= .func (fnX name qual params body scope clos .none .none .none pm none (.ref c') ctv)},toks:=tk}):
  wpAny M A (makeFunction name qual params (.stmts body) scope env [] [] [] pos fl) Q E s:=by
 rw[makeFunction_eq];simp only [List.zip_nil_right,List.filterMap_nil,List.isEmpty_nil,if_true,pure_bind];obtain⟨bm,ob,hbm,hne0,_,hneP,hbo,hcls,hdict,hdata⟩:=hb;unfold makeTail;rw[hcl,hge0];refine wpB (Oz ?_);cases clos with
 |nil=>simp only [List.isEmpty_nil,if_true];refine wpB (Oz ?_);refine wpB (wpAny_functionCodeX hcode (C.code hP ht) (C.tab hP) hnf λc' h' tk hx hge hlt _ hrec htb htc=>?_);have hg':=hg.extBut hx hgP;refine wpB (wpAny_builtinsFor hg' hbm hne0 (hx _ _ hneP hbo) hcls hdict hdata (wpB (wpAny_nsGet hg' ?_)));rw[hdoc];exact wpB (Oz (wpAny_newObj_type (h c' .none _ h' tk hx hge hlt (mB hrec (by obtain⟨P',_,_,x⟩:=htc;exact⟨P',x⟩)) htb.2) (by size_fits)))
 |cons q r=>simp only [List.isEmpty_cons,Bool.false_eq_true,if_false];refine wpB (wpAny_newTextTuple ?_);have kp:∀(o:Obj) b ob,s.heap.get? b=some ob->(s.heap.push o).get? b=some ob:=λo b ob e=>OC _ e;refine wpB (wpAny_functionCodeX hcode ((C.keeps (kp _)).code (kp _ _ _ hP) ht) ((C.keeps (kp _)).tab (kp _ _ _ hP)) hnf λc' h' tk hx hge hlt _ hrec htb htc=>?_);have hg':=(hg.push _).extBut hx hgP;have hx':Heap.ExtBut P s.heap h':=λb o hb' e=>hx b o hb' (kp _ _ _ e);refine wpB (wpAny_builtinsFor hg' hbm hne0 (hx' _ _ hneP hbo) hcls hdict hdata (wpB (wpAny_nsGet hg' ?_)));rw[hdoc];exact wpB (Oz (wpAny_newObj_type (h c' _ _ h' tk hx' (OA (by rw[Heap.size_push];lia) hge) hlt (mB hrec (by obtain⟨P',_,_,x⟩:=htc;exact⟨P',x⟩)) htb.2) (by size_fits)))
end
section
variable {prog:Program}{w:World}{A:Po}{E:Pr}{h:Pp}{g:Array GenState}{d:Drawn}{t:Nat}{os:OsState}
theorem fi{fr:Prop}{cell cc P N:Pn}{es:List DictEntry}{n:Nat}{ps done f}{env:Env}{x:Str}{Q:Flow->Pg->Prop}(C:CEnv env cc N cell)(hx:x∈ai)(hr:(es.any λe=>e.refKey)=false)(hk:(es.any λe=>e.key.isStr x)=false)(B:BS fr cell cc P N h es n ps done f)
  (q:∀k tx a H' ps' t',BS fr cell cc P N H' (es++[⟨k,.str x tx,.ref a⟩]) (n+1) ps' (x::done) (λy=>if y=x then a else f y)->KP fr N P h H'->Q .next ⟨H',g,d,t',os⟩):
  wpAny (model prog w) A (exec (.FunctionDef x (aA x).args (aA x).body [] none [] (aA x).scope none x (aA x).pos) env) Q E ⟨h,g,d,t,os⟩:=by
 have mk:=mok x hx;have hko:env.kindOf x=some .local:=by unfold Env.kindOf;rw[C.sc];exact mk.loc
 have hq:qualnameIn env x x=qm x:=by
  unfold qualnameIn;rw[hko,C.qual]
  rfl
 rw[exec_def,hq,mk.dfl env,mk.ann env];refine wpB (OZ (wpB (OJ ?_)));refine wpB (Oz (wpB (OJ (Oz (OJ (wpB (Oz ?_)))))));have tail:∀(a:Pn) (H1:Pp) (ps1:Array Ph) (t1:Nat),a=H1.objs.size->BS fr cell cc P N H1 es n ps1 done f->KP fr N P h H1->∀o c' doc pm ctv,o.isFreed=false->o.data= .func (fnX x (qm x) (aA x).args (aA x).body (aA x).scope (sV x cell) .none .none doc pm none (.ref c') ctv)->o.cls= .type "function"->dU H1 c' (qm x)->codeAmong (aA x).pos ps1.toList=some (.ref c')->
   wpAny (model prog w) A (do standAt (aA x).pos;bindName env x (.ref a);pure Flow.next) Q E ⟨H1.push o,g,d,t1,os⟩:=by
  intro a H1 ps1 t1 ha B1 k1 o c' doc pm ctv hf hd hc cr ca;refine wpB (OZ (wpB (wpAny_bindName ?_)));have kp:∀b ob,H1.get? b=some ob->(H1.push o).get? b=some ob:=λb ob e=>OC _ e;have k2:KP fr N P H1 (H1.push o):= .all (by rw[Heap.size_push];lia) kp;have B2:BS fr cell cc P N (H1.push o) es n ps1 done f:=B1.next k2 (kp _ _ B1.dict) (kp _ _ B1.tab) B1.tok λy _=> .inl rfl;refine ee (prog:=prog) (w:=w) C (.inl mk.loc) mk.xlen hr hk B2 λk H3 B3 k3=>Oz (q k t1 a H3 ps1 _ ?_ ((k1.trans k2).trans k3));have ho:(H1.push o).get? a=some o:=by rw[ha];exact OE _ hf
  exact {B3 with
   done:=λy hy=>by
    by_cases e:y=x
    ·subst e;refine⟨hx,by rw[if_pos rfl,ha];exact OF B1.dict,⟨c',ca,k3.mcode B2.dict B2.tab (k2.mcode B1.dict B1.tab cr)⟩,?_⟩;rw[if_pos rfl];exact⟨_,c',k3.meth B2.dict B2.tab B2.tok (vW hx ho hd hc (k2.mcode B1.dict B1.tab cr).rec'),rfl,k3.mcode B2.dict B2.tab (k2.mcode B1.dict B1.tab cr)⟩
    ·rw[if_neg e];exact B3.done y ((OT.mp hy).elim (λz=>O8 z e) id)}
 obtain⟨mg,G,BA⟩:=B.main.get;rcases B.all x hx with⟨c',ca,cr⟩|⟨ca,hfr⟩
 ·refine makeFunction_hit (mk.clo env cell C.cells) C.glob G C.code B.hd B.tab B.tok ca BA λctv doc h' tk kh sz=>?_;have k1:KP fr N P h h':= .all sz kh;exact tail _ h' ps tk rfl (B.next k1 (kh _ _ B.dict) (kh _ _ B.tab) B.tok λy _=> .inl rfl) k1 _ _ _ _ _ rfl rfl rfl (k1.mcode B.dict B.tab cr) ca
 ·refine Lz (mk.clo env cell C.cells) C.glob G C.code B.hd B.tab B.tok ca (n3N B.ap.2) BA (MY x hx) λc' ctv pm h' tk kh ge lt cr htb=>?_;have nNP:N≠P:=λe=>by have:=B.tab;rw[<-e,B.dict]at this;cases this
  have k1:KP fr N P h h':=⟨OL (O9 ge lt),λb o _ np e=>kh b o (np hfr) e⟩;have et:(ps++#[rawInt (aA x).pos.line,rawInt (aA x).pos.col,Value.ref c']).toList=ps.toList++[rawInt (aA x).pos.line,rawInt (aA x).pos.col,.ref c']:=by simp
  have hca:codeAmong (aA x).pos (ps++#[rawInt (aA x).pos.line,rawInt (aA x).pos.col,Value.ref c']).toList=some (.ref c'):=by rw[et];exact codeAmong_snoc _ B.tok ca
  refine tail _ h' _ tk rfl (B.next k1 (kh _ _ nNP B.dict) htb (by rw[et];exact TriplesOk_snoc _ _ _ _ B.tok) λy hy=>?_) k1 _ _ _ _ _ rfl rfl rfl cr hca
  by_cases e:y=x
  ·subst e;exact .inr ⟨c',hca,cr⟩
  ·rw[et];exact .inl (mX (yr y hy x hx e) _ B.tok)
end
structure SA where
 p:Pos
 r:Pos
 k:Nat
 q:Pos
 l:Pos
noncomputable def stA(i:Nat):SA:=match eX[i]? with
 |some (.Assign [.Name _ p] (.Constant _ k q) r)=>⟨p,r,k,q,q⟩
 |some (.Assign [.Name _ p] (.List [.Constant _ k q] l) r)=>⟨p,r,k,q,l⟩
 |_=>⟨default,default,0,default,default⟩
noncomputable abbrev Bf(x:Str):Pq:= .FunctionDef x (aA x).args (aA x).body [] none [] (aA x).scope none x (aA x).pos
theorem yu:eX=[.Assign [.Name (sx "__module__") (stA 0).p] (.Constant (.str (sx "cpy313.functools")) (stA 0).k (stA 0).q) (stA 0).r,.Assign [.Name (sx "__slots__") (stA 1).p] (.List [.Constant (.str (sx "obj")) (stA 1).k (stA 1).q] (stA 1).l) (stA 1).r,
 Bf (sx "__init__"),Bf (sx "__lt__"),Bf (sx "__gt__"),Bf (sx "__eq__"),Bf (sx "__le__"),Bf (sx "__ge__"),.Assign [.Name (sx "__hash__") (stA 8).p] (.Constant .none (stA 8).k (stA 8).q) (stA 8).r]:=nofun
theorem vX:hasAnns eX=false:=nofun
theorem Bg:docOf eX=none:=nofun
theorem zI:aI.names.lookup (sx "__module__")=some .local:=nofun
theorem Bh:aI.names.lookup (sx "__slots__")=some .local:=nofun
theorem ET:aI.names.lookup (sx "__hash__")=some .local:=nofun
theorem EU:aI.names.lookup (sx "__qualname__")=none/\compilersOwnNames.contains (sx "__qualname__")=true:=⟨nofun,by right⟩
theorem Bi:aI.names.lookup (sx "__firstlineno__")=none/\compilersOwnNames.contains (sx "__firstlineno__")=true:=⟨nofun,by right⟩
theorem EW:aI.names.lookup (sx "__static_attributes__")=none/\compilersOwnNames.contains (sx "__static_attributes__")=true:=⟨nofun,by right⟩
theorem vY:aI.names.lookup (sx "__name__")=none/\compilersOwnNames.contains (sx "__name__")=true:=⟨nofun,by right⟩
section
variable {prog:Program}{w:World}{A:Po}{E:Pr}{h:Pp}{g:Array GenState}{d:Drawn}{t:Nat}{os:OsState}
theorem Bj{fr:Prop}{cell cc P N:Pn}{n:Nat}{ps done f}{env:Env}{v v0 v1 v2:Ph}{k0 k1 k2:Int}{t0 t1 t2:Tok}{Q:Unit->Pg->Prop}(C:CEnv env cc N cell)
  (B:BS fr cell cc P N h [⟨k0,.str (sx "__module__") t0,v0⟩,⟨k1,.str (sx "__qualname__") t1,v1⟩,⟨k2,.str (sx "__firstlineno__") t2,v2⟩] n ps done f)
  (q:∀H',BS fr cell cc P N H' [⟨k0,.str (sx "__module__") t0,v⟩,⟨k1,.str (sx "__qualname__") t1,v1⟩,⟨k2,.str (sx "__firstlineno__") t2,v2⟩] n ps done f->KP fr N P h H'->Q () ⟨H',g,d,t+1,os⟩):wpAny (model prog w) A (storeName env (sx "__module__") v) Q E ⟨h,g,d,t,os⟩:=by
 have hko:env.kindOf (sx "__module__")=some .local:=by unfold Env.kindOf;rw[C.sc];exact zI
 have hkd:env.scope.kind= .class:=by rw[C.sc];exact pD
 refine mA (λk=>dct [⟨k0,.str (sx "__module__") t0,v⟩,⟨k1,.str (sx "__qualname__") t1,v1⟩,⟨k2,.str (sx "__firstlineno__") t2,v2⟩] n) hkd (.inl hko) (C.loc▸B.dict) (by left) (noRef rfl) (λk=>by symm) (λ_=>rfl) λk H' e s=>?_;rw[C.loc]at e s;have hP:H'.get? P=some (tabObj ps):=(s.2 P (λq=>by have:=B.tab;rw[q,B.dict]at this;cases this)).trans B.tab;exact q H' (B.next (.same s) e hP B.tok λy _=> .inl rfl) (.same s)
end
theorem KP.list{fr:Prop}{N P:Pn}{h h':Pp}{es n ps}(x:KP fr N P h h')(hN:h.get? N=some (dct es n))(hP:h.get? P=some (tabObj ps)){l:Pn}{xs:Array Ph}(m:h.IsList l xs):h'.IsList l xs:=by
 obtain⟨o,ho,hc,n,hd⟩:=m;refine⟨o,x.keep l o ?_ (λ_=>?_) ho,hc,n,hd⟩
 ·rintro rfl;rw[hN]at ho;cases ho;cases hd
 ·rintro rfl;rw[hP]at ho;cases ho;cases hd
noncomputable abbrev Oj(k:Nat->Int)(tx:Nat->Tok)(v1 v2:Ph)(u:Tok)(sl:Pn)(a:Nat->Pn):List DictEntry:=
 [⟨k 0,.str (sx "__module__") (tx 0),.str (sx "cpy313.functools") u⟩,⟨k 1,.str (sx "__qualname__") (tx 1),v1⟩,⟨k 2,.str (sx "__firstlineno__") (tx 2),v2⟩,⟨k 3,.str (sx "__slots__") (tx 3),.ref sl⟩,⟨k 4,.str (sx "__init__") (tx 4),.ref (a 4)⟩,⟨k 5,.str (sx "__lt__") (tx 5),.ref (a 5)⟩,
 ⟨k 6,.str (sx "__gt__") (tx 6),.ref (a 6)⟩,⟨k 7,.str (sx "__eq__") (tx 7),.ref (a 7)⟩,⟨k 8,.str (sx "__le__") (tx 8),.ref (a 8)⟩,⟨k 9,.str (sx "__ge__") (tx 9),.ref (a 9)⟩,⟨k 10,.str (sx "__hash__") (tx 10),.none⟩]
noncomputable def fOf(a:Nat->Pn)(x:Str):Pn:=if x=sx "__init__" then a 4 else if x=sx "__lt__" then a 5 else if x=sx "__gt__" then a 6 else if x=sx "__eq__" then a 7 else if x=sx "__le__" then a 8 else a 9
section
variable {prog:Program}{w:World}{A:Po}{E:Pr}{h:Pp}{g:Array GenState}{d:Drawn}{t:Nat}{os:OsState}
theorem EX(q:∀sl H' z,(∀b o,h.get? b=some o->H'.get? b=some o)->h.objs.size<=H'.objs.size->H'.IsList sl #[.str x z]->Q (.ref sl) ⟨H',g,d,t+1,os⟩):
  wpAny (model prog w) A (eval (.List [.Constant (.str x) k p] l) env) Q E ⟨h,g,d,t,os⟩:=by
 refine wpAny_List_spliced (spliced_cons (wpAny_Constant_str (k:=k) (pos:=p) (spliced_nil ⟨by show 1<=sizeLine;rw[sizeLine_eq];lia,?_⟩)));exact q h.objs.size _ t (λb o e=>OC _ e) (by show _<=(h.push _).objs.size;rw[Heap.size_push];lia) ⟨_,OE _ rfl,rfl,_,rfl⟩
theorem Jc{fr:Prop}{cell cc P N:Pn}{n:Nat}{ps f}{env:Env}{v0 v1 v2:Ph}{m0 m1 m2:Int}{t0 t1 t2:Tok}{Q:Flow->Pg->Prop}(C:CEnv env cc N cell)
  (B:BS fr cell cc P N h [⟨m0,.str (sx "__module__") t0,v0⟩,⟨m1,.str (sx "__qualname__") t1,v1⟩,⟨m2,.str (sx "__firstlineno__") t2,v2⟩] n ps [] f)
  (q:∀H' t' k tx u sl a n' ps' z,BS fr cell cc P N H' (Oj k tx v1 v2 u sl a) n' ps' [sx "__ge__",sx "__le__",sx "__eq__",sx "__gt__",sx "__lt__",sx "__init__"] (fOf a)->KP fr N P h H'->H'.IsList sl #[.str (sx "obj") z]->Q .next ⟨H',g,d,t',os⟩):
  wpAny (model prog w) A (execs eX env) Q E ⟨h,g,d,t,os⟩:=by
 rw[yu];refine wpAny_execs_cons (wpAny_Assign_Name (wpAny_Constant_str (Bj C B λH1 B1 k1=>?_)));refine wpAny_execs_cons (wpAny_Assign_Name (EX λsl H2 z kp sz hl2=>?_));have k2:KP fr N P H1 H2:= .all sz kp;have B2:=B1.next k2 (kp _ _ B1.dict) (kp _ _ B1.tab) B1.tok λy _=> .inl rfl;refine ee C (.inl Bh) (by left) rfl nofun B2 λq3 H3 B3 k3=>?_;refine wpAny_execs_cons (fi C (by left) rfl nofun B3 λq4 t4 a4 H4 p4 u4 B4 k4=>?_);refine wpAny_execs_cons (fi C (by left) rfl nofun B4 λq5 t5 a5 H5 p5 u5 B5 k5=>?_);refine wpAny_execs_cons (fi C (by left) rfl nofun B5 λq6 t6 a6 H6 p6 u6 B6 k6=>?_);refine wpAny_execs_cons (fi C (by left) rfl nofun B6 λq7 t7 a7 H7 p7 u7 B7 k7=>?_);refine wpAny_execs_cons (fi C (by left) rfl nofun B7 λq8 t8 a8 H8 p8 u8 B8 k8=>?_);refine wpAny_execs_cons (fi C (by left) rfl nofun B8 λq9 t9 a9 H9 p9 u9 B9 k9=>?_);refine wpAny_execs_cons (wpAny_Assign_Name (wpAny_Constant_none (ee C (.inl ET) (by left) rfl nofun B9 λq10 H10 B10 k10=>wpAny_execs_nil ?_)));have kk:=(((((((k3.trans k4).trans k5).trans k6).trans k7).trans k8).trans k9).trans k10);refine q H10 _ (λi=>[m0,m1,m2,q3,q4,q5,q6,q7,q8,q9,q10].getD i 0) (λi=>[t0,t1,t2,t+1+1+1,t4,t5,t6,t7,t8,t9,u9].getD i 0) t sl (λi=>[0,0,0,0,a4,a5,a6,a7,a8,a9].getD i 0) (n+1+1+1+1+1+1+1+1) p9 z ?_ ((k1.trans k2).trans kk) (kk.list B2.dict B2.tab hl2)
 exact {B10 with
  dict:=B10.dict
  done:=λy hy=>by
   obtain⟨h1,h2,h3⟩:=B10.done y hy;refine⟨h1,?_⟩
   have e:fOf (λi=>[0,0,0,0,a4,a5,a6,a7,a8,a9].getD i 0) y=(if y=sx "__ge__" then a9 else if y=sx "__le__" then a8 else if y=sx "__eq__" then a7 else if y=sx "__gt__" then a6 else if y=sx "__lt__" then a5 else if y=sx "__init__" then a4 else f y):=by simp only [List.mem_cons,List.not_mem_nil,or_false]at hy;rcases hy with rfl|rfl|rfl|rfl|rfl|rfl<;>symm
   rw[e];exact⟨h2,h3⟩}
end
theorem EY:∀y∈EM,y∈ai\/y=sx "obj"\/y=sx "__module__"\/y=sx "__firstlineno__"\/y=sx "__slots__"\/y=sx "__hash__"\/y=sx "__static_attributes__"\/y=sx "__doc__":=by right
noncomputable def Jd(x:Str):Nat:=4+(ai.idxOf x)%6
theorem zJ(x:Str):4<=Jd x/\Jd x<=9:=⟨OI _ _,Nat.add_le_add_left (Nat.le_of_lt_succ (Nat.mod_lt (ai.idxOf x) (by left:0<6))) 4⟩
theorem EZ{p:Str->Prop}(h1:p (sx "__init__"))(h2:p (sx "__lt__"))(h3:p (sx "__gt__"))(h4:p (sx "__eq__"))(h5:p (sx "__le__"))(h6:p (sx "__ge__")):∀x∈ai,p x:=
 List.forall_mem_cons.mpr ⟨h1,List.forall_mem_cons.mpr ⟨h2,List.forall_mem_cons.mpr ⟨h3,List.forall_mem_cons.mpr ⟨h4,List.forall_mem_cons.mpr ⟨h5,List.forall_mem_cons.mpr ⟨h6,λ_ q=>nomatch q⟩⟩⟩⟩⟩⟩
theorem E0{hs:Nat->Int}{ts:Nat->Tok}{vs:Nat->Ph}{k:Int}{t:Tok}{md:Pn}{k':Int}{t':Tok}:∀x∈ai,nsFind (kE3 hs ts vs k t md k' t').toArray x=some (vs (Jd x)):=
 EZ nofun nofun nofun nofun nofun nofun
theorem LA(a:Nat->Pn):∀x∈ai,a (Jd x)=fOf a x:=
 EZ nofun nofun nofun nofun nofun nofun
theorem E1(hs:Nat->Int)(ts:Nat->Tok)(vs:Nat->Ph)(k:Int)(t:Tok)(md:Pn)(k':Int)(t':Tok)(a:Nat->Pn)(hv:∀i,4<=i->i<=9->vs i= .ref (a i)):∃r,∀name,nsFind (kE3 hs ts vs k t md k' t').toArray name=lK md (fOf a) r name:=by
 refine⟨λname=>nsFind (kE3 hs ts vs k t md k' t').toArray name,λname=>?_⟩
 by_cases hx:name∈ai
 ·exact((E0 name hx).trans (ON some ((hv _ (zJ name).1 (zJ name).2).trans (ON Value.ref (LA a name hx))))).trans (if_pos hx).symm
 ·refine Eq.trans ?_ (if_neg hx).symm
  by_cases h2:name=sx "obj"
  ·exact(ON (nsFind (kE3 hs ts vs k t md k' t').toArray) h2).trans (Eq.trans nofun (if_pos h2).symm)
  ·refine Eq.trans ?_ (if_neg h2).symm
   by_cases h3:name=sx "__module__"\/name=sx "__firstlineno__"\/name=sx "__slots__"\/name=sx "__hash__"\/name=sx "__static_attributes__"\/name=sx "__doc__"
   ·exact(if_pos h3).symm
   ·refine Eq.trans ?_ (if_neg h3).symm;refine ON (Option.map DictEntry.val) (Array.find?_eq_none.mpr λe he q=>?_);obtain⟨y,hy,u,ek⟩:=zH (List.mem_toArray.mp he);have:y=name:=eq_of_beq ((ON (λv=>Value.isStr v name) ek).symm.trans q);subst this;exact(EY y hy).elim hx λq=>q.elim h2 h3
theorem Bk{hs ts vs tN}(hv:∀i,4<=i->i<=9->vs i= .ref (a i))(e1:H.get? C=some (aZ N [.ref C,.type "object"] [sx "obj"] false #[some (.ref bT),none,some (.str (sx "K") tN),some q,some (.builtin "object.__new__"),some (.bool false)]))
  (e2:H.get? N=some (dct (kE3 hs ts vs k t3 md k' t4) 3)) (e3:H.get? md=some (iS C t1 t2)):KCls H C N md (fOf a) where
 cls:=⟨_,e1,rfl⟩
 ns:=by obtain⟨r,hr⟩:=E1 hs ts vs k t3 md k' t4 a hv;refine⟨r,_,_,_,e2,rfl,?_,hr⟩;exact λe he=>pA e (List.mem_toArray.mp he)
 md:=⟨_,_,e3⟩
theorem vZ:isType (.type "type")=pure true:=nofun
theorem pE:typeOf (.type "object")=pure (.type "type"):=by rfl
theorem wpS{M:Model}{A:Po}{E:Pr}{s:Pg}{α:Type}{x y:Sem α}{Q:α->Pg->Prop}(e:x=y)(q:wpAny M A y Q E s):wpAny M A x Q E s:=e▸q
noncomputable def dgi:Ph:=(fastBuiltinOwn "dict" (Pd "__getitem__")).getD .none
theorem sW:typeLookup (.type "dict") (Pd "__getitem__")=pure (some dgi):=by rw[typeLookup_type,builtinLookup_eq_fast];symm
theorem pF:aI.names.lookup (Pd "__class__")=none/\aI.names.lookup (Pd "__classdict__")=none:=⟨nofun,nofun⟩
theorem Je(env:Env)(cell:Pn)(h:env.cells=[(sx "mycmp",cell)]):closureFor aI env=pure [(sx "mycmp",cell)]:=by obtain⟨e1,e2,e3,e4,e5,e6⟩:=env;cases h;symm
structure ClsCode (fr:Prop) (h:Pp) (cc P:Pn) (ps:Array Ph):Prop where
 hd:CodeHd h cc P
 tab:h.get? P=some (tabObj ps)
 tok:TriplesOk ps.toList
 all:∀y∈ai,Has h ps y\/(codeAmong (aA y).pos ps.toList=none/\fr)
 ge:175<=P
 top:∃qs,h.get? 88=some (tabObj qs)/\TriplesOk qs.toList/\codeAmong ed qs.toList=some (.ref cc)
def JV(h:Pp)(v:Ph):Prop:=∃mg,h.Ns Pb mg/\mg "__builtins__"=some (.ref 4)/\mg "__name__"=some v/\∃o,h.get? 4=some o/\o.cls= .type "module"/\o.dict=some Pc/\o.data= .plain
theorem sX{M:Model}{A:Po}{E:Pr}{h:Pp}{g:Array GenState}{d:Drawn}{t:Nat}{os:OsState}{env:Env}{mg}{v:Ph}{Q:Pr}(hs:env.scope=aI)(hl:h.get? env.locals=some (dct [] 0))(hg:h.Ns env.globals mg)(hv:mg (Pd "__name__")=some v)(q:Q v ⟨h,g,d,t,os⟩):
  wpAny M A (loadName env (Pd "__name__")) Q E ⟨h,g,d,t,os⟩:=by
 have hk:env.scope.kind= .class:=by rw[hs];exact pD
 have hko:env.kindOf (Pd "__name__")=none:=by unfold Env.kindOf;rw[hs];exact vY.1
 have hb:env.blockKind= .class:=by unfold Env.blockKind;rw[hk];rfl
 have hcn:=vY.2;unfold loadName;rw[hk,hb,hko];refine wpF rfl ?_;dsimp only;refine wpF (by rw[show compilersOwnNames.contains (Str.ofString "__name__")=true from hcn];rfl) ?_;unfold localGet;refine wpB (wpB (wpAny_load hl ?_));refine wpT rfl (bQ hl (r:=none) rfl ?_);unfold loadGlobal;refine wpB (wpAny_nsGet hg ?_);rw[hv];exact Oz q
theorem ntm{M:Model}{A:Po}{E:Pr}{s:Pg}{who:String}{a:Pn}{Q:Unit->Pg->Prop}(h:(a==sysModules)=false)(q:Q () s):wpAny M A (notTheModulesDict who a) Q E s:=by unfold notTheModulesDict;exact wpF h (Oz q)
theorem Jf{M:Model}{A:Po}{E:Pr}{h:Pp}{g:Array GenState}{d:Drawn}{t:Nat}{os:OsState}{code:Ph}{gl lo bi:Pn}{mg}{Q:Pn->Pg->Prop}(G:h.Ns gl mg)
  (q:∀N H',N=h.objs.size->(∀b ob,h.get? b=some ob->H'.get? b=some ob)->H'.objs.size=h.objs.size+1->Q N ⟨H',g,d,t,os⟩):wpAny M A (newBodyFrame code gl lo bi) Q E ⟨h,g,d,t,os⟩:=by
 unfold newBodyFrame;exact wpB (wpAny_nsGet G (JU rfl λN hN H' _ k z=>q N H' hN k z))
theorem MZ{m:Type->Type}[Monad m][LawfulMonad m]{α β:Type}(f:α->m β)(a:α):List.mapM f [a]=f a>>=λb=>pure [b]:=by simp
theorem Ol{M:Model}{A:Po}{E:Pr}{h:Pp}{g:Array GenState}{d:Drawn}{t:Nat}{os:OsState}{l:List Ph}{Q:Pr}
  (q:∀a H',a=h.objs.size->H'.get? a=some {cls:= .type "tuple",data:= .seq l.toArray}->(∀b ob,h.get? b=some ob->H'.get? b=some ob)->H'.objs.size=h.objs.size+1->Q (.ref a) ⟨H',g,d,t,os⟩):wpAny M A (newTextTuple l) Q E ⟨h,g,d,t,os⟩:=
 wpAny_newTextTuple (q _ _ rfl (OE _ rfl) (λ_ _ e=>OC _ e) (Heap.size_push ..))
structure ClsMade (h H:Pp) (cell C N md:Pn) (cc P:Pn) (f:Str->Pn) (ps:Array Ph):Prop where
 kc:KCls H C N md f
 meth:∀y∈ai,h.objs.size<=f y/\Has H ps y/\∃fd c',IsMeth H (f y) cell (mps y) (aA y).body (aA y).scope.names fd/\fd.code= .ref c'/\dU H c' (qm y)
 ge:h.objs.size<=C/\h.objs.size<=N/\h.objs.size<=md
 hd:CodeHd H cc P
 tab:H.get? P=some (tabObj ps)
 tok:TriplesOk ps.toList
 ge2:175<=P
 top:∃qs,H.get? 88=some (tabObj qs)/\TriplesOk qs.toList/\codeAmong ed qs.toList=some (.ref cc)
 keep:∀b o,b≠88->h.get? b=some o->H.get? b=some o
 size:h.objs.size<=H.objs.size
section
variable {prog:Program}{w:World}{A:Po}{E:Pr}{h:Pp}{g:Array GenState}{d:Drawn}{t:Nat}{os:OsState}
theorem Om:∀i,i<=11->i≠1->i=0\/i=2\/i=3\/i=4\/i=5\/i=6\/i=7\/i=8\/i=9\/i=10\/i=11:=by left
theorem Oo:∀i,i<=9->4<=i->i=4\/i=5\/i=6\/i=7\/i=8\/i=9:=by left
theorem E2{fr:Prop}{nameV:Ph}{cell:Pn}{env:Env}{pos:Pos}{fl:Nat}{Q:Pr}(hglob:env.globals=Pb)(hcell:env.cells=[(sx "mycmp",cell)])(hM:JV h nameV)(h175:175<=h.objs.size)(hnl:h.NoLimit)(hdep:A.depth+8<recursionLimit)
  (hcc:∀(h':Pp) (t':Nat) (A':Po) (E':Ph->Pg->Prop) (Q':Ph->Pg->Prop),(∀b o,h.get? b=some o->h'.get? b=some o)->h.objs.size<=h'.objs.size->
   (∀cc P2 ps2 h'' t'',Heap.ExtBut 88 h' h''->h'.objs.size<=h''.objs.size->ClsCode fr h'' cc P2 ps2->(fr->h'.objs.size<=P2)->Q' (.ref cc) ⟨h'',g,d,t'',os⟩)->wpAny (model prog w) A' (classCode env pos fl (sx "K") jB aI) Q' E' ⟨h',g,d,t',os⟩)
  (hopq:∀h' C,(∀b o,b≠88->h.get? b=some o->h'.get? b=some o)->Looks (model prog w) h' (opaqueClassAbove (.ref C)) none)
  (hQ:∀C N md cc P f ps H t',ClsMade h H cell C N md cc P f ps->Q (.ref C) ⟨H,g,d,t',os⟩):
  wpAny (model prog w) A (buildClass (sx "K") jB [.type "object"] [] eX aI [sx "obj"] fl env pos none) Q E ⟨h,g,d,t,os⟩:=by
 revert hglob hcell hM h175 hnl hdep hcc hopq hQ;exists prog,w,A,E,h,g,d,t,os,fr,nameV,cell,env,pos,fl,Q;have fp:=yk;have hgi:=sW;unfold buildClass;refine wpB (gG rfl (by size_fits) λbT ebT h1 gT k1 z1=>?_);refine wpB (nA (x:=Value.type "object") (wpB (OG ph ?_)));refine wpT rfl ?_;refine wpS (if_neg (by left)) (Oz ?_);refine wpB (OG pE ?_);refine wpB (OG vZ ?_);refine wpT rfl ?_;refine wpB (nA (x:=Value.type "object") (wpB (OG pE (wpB (OG sub_tt ?_)))));refine wpT rfl (Oz ?_);refine wpB (O3 ?_);refine wpF rfl ?_;refine wpB (Oz ?_);refine OJ (wpB (ES fp λb h2 hb eb k2 z2=>?_));refine wpB (Be eb λN h3 hN eN k3 z3=>?_);have h2s:h.objs.size<=h2.objs.size:=by rw[z2,z1];exact Nat.le_add_right_of_le (OI _ _)
 have N175:175<=N:=hN▸OA h175 h2s
 have nN:(N==sysModules)=false:=by
  have:N≠sysModules:=λe=>by rw[e]at N175;exact O8 N175 (by left)
  simpa using this
 refine wpB (ntm nN ?_);refine wpB (OY (T:="dict") ⟨_,eN,rfl⟩ hgi ?_);refine wpF rfl ?_;refine OJ ?_;refine wpF (by rw[pF.1];rfl) ?_;refine wpB (Oz ?_);refine wpF (by rw[pF.2];rfl) ?_;refine wpB (Oz ?_);have kh3:∀b o,h.get? b=some o->h3.get? b=some o:=λb o e=>k3 _ _ (k2 _ _ (k1 _ _ e));have sz3:h.objs.size<=h3.objs.size:=by rw[z3,z2,z1];exact Nat.le_add_right_of_le (Nat.le_add_right_of_le (OI _ _))
 refine wpB (hcc h3 _ _ _ _ kh3 sz3 λcc P2 ps2 h4 t4 x4 z4 CC hP2=>?_);obtain⟨mg,G0,hbi,hna,o4,e4,e5,e6,e7⟩:=hM;have G4:h4.Ns Pb mg:=(G0.keeps kh3).extBut x4 (by left);have b4:h4.get? 4=some o4:=x4 _ _ (by left) (kh3 _ _ e4)
 have N4:h4.get? N=some (dct [] 0):=x4 _ _ (λe=>by rw[e]at N175;exact O8 N175 (by left)) eN
 have nl4:h4.NoLimit:=by obtain⟨mc,a,b⟩:=hnl;exact⟨mc,(a.keeps kh3).extBut x4 (by left),b⟩
 refine wpB (wpAny_builtinsFor (hglob▸G4) hbi (by left) b4 e5 e6 e7 ?_);refine wpB (Jf (mg:=mg) (hglob▸G4) λF h5 hF k5 z5=>?_);refine wpB (OG (Je env cell hcell) ?_);refine OJ (wpB (wpAny_enterFrame ?_ (by lia) ?_))
 ·exact nl4.keeps k5
 have N5:=k5 _ _ N4
 have B0:BS fr cell cc P2 N h5 [] 0 ps2 [] (λ_=>0):={
  dict:=N5
  tab:=k5 _ _ CC.tab
  tok:=CC.tok
  hd:=CC.hd.keeps k5
  all:=λy hy=>(CC.all y hy).imp (λ⟨c',a,o,vs,t,b,r⟩=>⟨c',a,o,vs,t,k5 _ _ b,r⟩) id
  done:=λy hy=>by cases hy
  main:=⟨mg,G4.keeps k5,hbi,n4N CC.ge,o4,k5 _ _ b4,e5,e6,e7⟩
  ap:=⟨N175,CC.ge⟩}
 have C:CEnv {scope:=aI,locals:=N,globals:=env.globals,cells:=[(sx "mycmp",cell)],qual:=jB++Pd ".",code:=Value.ref cc,frame:=some F,builtins:=Pc} cc N cell:=⟨rfl,rfl,hglob,rfl,rfl,rfl⟩;refine wpB (wpAny_onRaise (wpB (sX rfl N5 (hglob▸G4.keeps k5) hna ?_)));refine wpB (ee C (.inl zI) (by left) rfl nofun B0 λq0 h6 B6 k6=>?_);refine wpB (O3 ?_);refine wpB (ee C (.inr EU) (by left) rfl nofun B6 λq1 h7 B7 k7=>?_);refine wpB (wpAny_mkInt ?_);refine wpB (ee C (.inr Bi) (by left) rfl nofun B7 λq2 h8 B8 k8=>?_);refine Oz ?_;refine wpB (wpAny_run (codeAny_body vX Bg (Jc C B8 λh9 t9 k tx u sl a n9 ps9 z B9 k9 hl9=>?_)));refine wpB (wpAny_onRaise (wpB (nz (MZ _ _) (wpB (O3 (Oz ?_))))));refine wpB (Ol λst h10 hst est k10 z10=>?_);have kp10:KP fr N P2 h9 h10:= .all (z10▸O7 _) k10;have B10:=B9.next kp10 (k10 _ _ B9.dict) (k10 _ _ B9.tab) B9.tok λy _=> .inl rfl;refine wpB (ee C (.inr EW) (by left) rfl nofun B10 λq11 h11 B11 k11=>?_);refine Oz ?_;refine wpF rfl ?_;have B11':=B11;have k511:KP fr N P2 h5 h11:=(((((k6.trans k7).trans k8).trans k9).trans kp10).trans k11)
 have keepAll:∀b o,b≠88->h.get? b=some o->h11.get? b=some o:=λb o h88 e=>by
  have e3:=kh3 b o e;have hb:=OF e;refine k511.keep b o (λq=>?_) (λf q=>?_) (k5 _ _ (x4 _ _ h88 e3))
  ·have:N<N:=by
    have h1:b<N:=hN▸OD hb h2s;rw[q]at h1;exact h1
   exact OM _ this
  ·have h1:b<P2:=OD (OF e3) (hP2 f);rw[q]at h1;exact OM _ h1
 have sz11:h.objs.size<=h11.objs.size:=OA (OA sz3 (OA z4 (z5▸O7 _))) k511.size
 have bT5:h5.get? bT=some {cls:= .type "tuple",data:= .seq [Value.type "object"].toArray}:=k5 _ _ (x4 _ _ (λq=>by have:175<=bT:=ebT▸h175;rw[q]at this;exact O8 this (by left)) (k3 _ _ (k2 _ _ gT)))
 have bTN:bT≠N:=λq=>by rw[q,N5]at bT5;simp at bT5
 have bTP:bT≠P2:=λq=>by have:=k5 _ _ CC.tab;rw[<-q,bT5]at this;simp at this
 have bT11:=k511.keep bT _ bTN (λ_=>bTP) bT5;have sl11:h11.IsList sl #[.str (sx "obj") z]:=(kp10.trans k11).list B9.dict B9.tab hl9
 have st11:h11.get? st=some {cls:= .type "tuple",data:= .seq [Value.str (sx "obj") t9].toArray}:=k11.keep st _ (λq=>by have e:=B10.dict;rw[<-q,est]at e;simp at e) (λ_ q=>by have e:=B10.tab;rw[<-q,est]at e;simp at e) est
 refine wpB (Bc λA' P' E' hP=>?_)
 have facts:∀y∈ai,_:=λy hy=>B11.done y (by simp only [ai,List.mem_cons,List.not_mem_nil,or_false]at hy;rcases hy with rfl|rfl|rfl|rfl|rfl|rfl<;>decide)
 have fn:∀y∈ai,fC h11 (.ref (fOf a y)):=λy hy=>by obtain⟨_,_,_,fd,c',m,_⟩:=facts y hy;obtain⟨o,ho,hdd,hc⟩:=m.at_;exact jh ho hc yg
 have e11:h11.get? N=some (dct (kE (λi=>[k 0,k 1,k 2,k 3,k 4,k 5,k 6,k 7,k 8,k 9,k 10,q11].getD i 0) (λi=>[tx 0,tx 1,tx 2,tx 3,tx 4,tx 5,tx 6,tx 7,tx 8,tx 9,tx 10,t9+1].getD i 0)
  (λi=>[.str (sx "cpy313.functools") u,.str jB (t4+1),.int fl (t4+1+1+1),.ref sl,.ref (a 4),.ref (a 5),.ref (a 6),.ref (a 7),.ref (a 8),.ref (a 9),.none,.ref st].getD i .none)) (n9+1)):=B11.dict
 refine EP bT11 e11 rfl sl11 rfl nN (λi hi h1=>?_) (λh' C' kk=>hopq h' C' λb o h88 e=>kk _ _ (keepAll b o h88 e)) λC' N' md H tk' k' s1 s2 s3 k'' s4 kk g1 g2 g3 ht eC eN' eM=>?_
 ·have q4:=fn _ (show sx "__init__"∈ai by left);have q5:=fn _ (show sx "__lt__"∈ai by left);have q6:=fn _ (show sx "__gt__"∈ai by left);have q7:=fn _ (show sx "__eq__"∈ai by left);have q8:=fn _ (show sx "__le__"∈ai by left);have q9:=fn _ (show sx "__ge__"∈ai by left);have c:=Om i hi h1;rcases c with rfl|rfl|rfl|rfl|rfl|rfl|rfl|rfl|rfl|rfl|rfl
  ·exact A9 _ _ _
  ·exact Ba _ _ _
  ·obtain⟨o,ho,hc,_⟩:=sl11;exact jh ho hc yf
  ·exact q4
  ·exact q5
  ·exact q6
  ·exact q7
  ·exact q8
  ·exact q9
  ·exact pz _
  ·exact jh st11 rfl vS
 ·refine hP C' _ ⟨_,eC,rfl⟩ (Oz ?_)
  have kc:KCls H C' N' md (fOf a):=Bk (a:=a) (λi h1 h2=>by have c:=Oo i (by first|exact h2|exact h1) (by first|exact h1|exact h2);rcases c with rfl|rfl|rfl|rfl|rfl|rfl<;>rfl) eC eN' eM
  refine hQ C' N' md cc P2 (fOf a) ps9 H tk' {
   kc:=kc
   meth:=λy hy=>by obtain⟨_,f1,⟨c1,f2,f3⟩,fd,c',m,f4,f5⟩:=facts y hy;have mk:∀{c q},dU h11 c q->dU H c q:=λ⟨o,vs,t,x,r⟩=>⟨o,vs,t,kk _ _ x,r⟩;exact⟨OL (O9 (hN▸h2s:h.objs.size<=N) f1),⟨c1,f2,mk f3⟩,fd,c',m.keeps kk,f4,mk f5⟩
   ge:=⟨OA sz11 g1,OA sz11 g2,OA sz11 g3⟩
   hd:=B11.hd.keeps kk
   tab:=kk _ _ B11.tab
   tok:=B11.tok
   ge2:=CC.ge
   top:=by
    obtain⟨qs,x1,x2,x3⟩:=CC.top;refine⟨qs,kk _ _ (k511.keep 88 _ (λq=>?_) (λ_ q=>?_) (k5 _ _ x1)),x2,x3⟩
    ·have:=N175;rw[<-q]at this;exact O8 this (by left)
    ·have:=CC.ge;rw[<-q]at this;exact O8 this (by left)
   keep:=λb o h88 e=>kk _ _ (keepAll b o h88 e)
   size:=OA (OA sz11 g1) (OL (OF eC))}
end
def T88(h:Pp):Prop:=∃qs,h.get? 88=some (tabObj qs)/\TriplesOk qs.toList/\(codeAmong ed qs.toList=none\/∃cc P ps,codeAmong ed qs.toList=some (.ref cc)/\175<=P/\CodeHd h cc P/\h.get? P=some (tabObj ps)/\TriplesOk ps.toList/\∀y∈ai,Has h ps y)
def gj(h:Pp):Prop:=Ek h/\MS h/\T88 h
theorem dU.keep(x:dU h c q)(k:∀a o,h.get? a=some o->bt o->h'.get? a=some o):dU h' c q:=by obtain⟨o,vs,t,a,b,d,e⟩:=x;exact⟨o,vs,t,k _ _ a ⟨vs,d,.inr b⟩,b,d,e⟩
theorem sY{h h':Pp}{c P:Pn}(x:CodeHd h c P)(k:∀a o,h.get? a=some o->bt o->h'.get? a=some o):CodeHd h' c P:=by obtain⟨o,vs,file,tf,flags,tg,inF,text,tt,e,r1,r2,r⟩:=x;exact⟨o,vs,file,tf,flags,tg,inF,text,tt,k _ _ e ⟨vs,r2,.inr r1⟩,r1,r2,r⟩
theorem T88.keep(t:T88 h)(k:∀a o,h.get? a=some o->bt o->h'.get? a=some o):T88 h':=by
 obtain⟨qs,a,b,c⟩:=t;refine⟨qs,k _ _ a ⟨_,rfl,.inl rfl⟩,b,c.imp id ?_⟩
 rintro ⟨cc,P,ps,e1,e2,e3,e4,e5,e6⟩
 exact⟨cc,P,ps,e1,e2,sY e3 k,k _ _ e4 ⟨_,rfl,.inl rfl⟩,e5,λy hy=>by obtain⟨c',x1,x2⟩:=e6 y hy;exact⟨c',x1,x2.keep k⟩⟩
theorem Bl(t:gj h)(k:∀a o,h.get? a=some o->bt o\/a<175->h'.get? a=some o):gj h':=by obtain⟨⟨o,a,r⟩,⟨ps,b,c⟩,d⟩:=t;exact⟨⟨o,k 4 o a (.inr (by left)),r⟩,⟨ps,k 74 _ b (.inr (by left)),c⟩,d.keep λa o e c=>k a o e (.inl c)⟩
theorem T88.but74(t:T88 h)(h74:∃ps,h.get? 74=some (tabObj ps))(k:Heap.ExtBut 74 h h'):T88 h':=by
 revert t h74 k;exists h,h';obtain⟨p0,e0⟩:=h74
 have n74:∀{c o},h.get? c=some o->o.cls= .type "code"->c≠74:=λe1 e2 q=>by rw[q,e0]at e1;cases e1;cases e2
 obtain⟨qs,a,b,c⟩:=t;refine⟨qs,k _ _ (by left) a,b,c.imp id ?_⟩
 rintro ⟨cc,P,ps,e1,e2,⟨o,vs,file,tf,flags,tg,inF,text,tt,e,r1,r2,r⟩,e4,e5,e6⟩
 refine⟨cc,P,ps,e1,e2,⟨o,vs,file,tf,flags,tg,inF,text,tt,k _ _ (n74 e r1) e,r1,r2,r⟩,k _ _ (λq=>?_) e4,e5,λy hy=>?_⟩
 ·rw[q]at e2;exact O8 e2 (by left)
 ·obtain⟨c',x1,o,vs,t,x,x2,x3⟩:=e6 y hy;exact⟨c',x1,o,vs,t,k _ _ (n74 x x2) x,x2,x3⟩
theorem LB(e:V.tab=gj):TabAt V 74 where
 mod:=λh t=>by rw[e]at t;exact t.1
 at_:=λh t=>by rw[e]at t;exact t.2.1
 put:=λh h' ps t hx hp ht=>by rw[e]at t ⊢;obtain⟨⟨o,a,r⟩,⟨p0,e0,_⟩,d⟩:=t;exact⟨⟨o,hx 4 o (by left) a,r⟩,⟨ps,hp,ht⟩,d.but74 ⟨p0,e0⟩ hx⟩
theorem okC{V:Vw}{P:Pk}(hK:V.K=KK P)(ht:V.tab=gj):V.Ok:=MT hK (by rw[ht];exact λh h' t k=>Bl t k)
structure CBp where
 p1:Pos
 p2:Pos
 p3:Pos
 ts:Pj Scope
noncomputable def cb:CBp:=match(pB "cmp_to_key").body with
 | [.ClassDef _ [.Name _ a] _ _ _ _ _ ts _ _ _,.Return (some (.Name _ b)) c]=>⟨a,b,c,ts⟩
 |_=>⟨default,default,default,none⟩
noncomputable abbrev E3:Pq:= .ClassDef (sx "K") [.Name (sx "object") cb.p1] [] eX [] [] aI cb.ts (sx "K") [sx "obj"] ed
theorem M0:(pB "cmp_to_key").body=[E3,.Return (some (.Name (sx "K") cb.p2)) cb.p3]:=nofun
theorem Jg:bootBuiltins (Pd "__build_class__")=some (.builtin "__build_class__"):=nofun
theorem E4:glob (sx "object")=some (.ex (.type "object")):=nofun
theorem Oq(P:Pk):nsIn (KK P) cStatics "thirdparty.any"=some none:=nofun
theorem kNm(P:Pk):∃v,nsIn (KK P) Pb "__name__"=some (some v):=⟨((nsIn (KK P) Pb "__name__").getD none).getD .none,nofun⟩
section
variable {M:Model}{A:Po}{E:Pr}{s:Pg}
theorem yv
  (h:wpAny M A (spliced ((false,x)::rest)) (λvs s'=>Q ⟨vs,[]⟩ s') E s):wpAny M A (evalArgs f false ((false,x)::rest) []) Q E s:=by
 unfold evalArgs;show wpAny M A (spliced ((false,x)::rest)>>=_) Q E s;refine wpB (OV h (λvs s' h'=>?_) λ_ _ x=>x);refine OJ ?_;exact wpB (Oz (wpB (Oz (Oz h'))))
end
section
variable {V:Vw}{P:Pk}
theorem LC(O:V.Ok)(hK:V.K=KK P)(X:V.K.In h){prog w}:∀h' C,(∀b o,b≠88->h.get? b=some o->h'.get? b=some o)->Looks (model prog w) h' (opaqueClassAbove (.ref C)) none:=by
 intro h' C k A Q E s ks q
 have X':(KK P).In s.heap:=λa o e=>by
  have e':V.K.lookup a=some o:=by rw[hK];exact e
  exact ks _ _ (k a o (λq=>(O.far a o e').1 (.inr q)) (X a o e'))
 unfold opaqueClassAbove anyOpaqueLoaded;refine wpB (wpB (wpAny_nsGet (je X') ?_));rw[ns_none_of X' (je X') (Oq P)];exact Oz (wpT rfl (Oz q))
theorem E5(hK:V.K=KK P)(ht:V.tab=gj)(X:V.K.In h)(t:V.tab h):∃v,JV h v:=by obtain⟨v,hv⟩:=kNm P;have X':(KK P).In h:=hK▸X;have G:h.Ns Pb (h.nsMap Pb):= .of_isNs (isNs_of_in X' (Hl P));rw[ht]at t;exact⟨v,_,G,fN X' G (Mw P),fN X' G hv,t.1⟩
end
theorem Ot(P:Pk):(KK P).lookup 92=some (oAt (KK P) 92):=nofun
theorem Ou(P:Pk):(oAt (KK P) 92).cls= .type "code"/\(oAt (KK P) 92).data= .fields (ax (oAt (KK P) 92))/\(ax (oAt (KK P) 92))[11]?=some (.ref 88)/\(ax (oAt (KK P) 92)).getD 11 .none= .ref 88:=
 ⟨nofun,nofun,nofun,nofun⟩
theorem Ov(P:Pk):xt ((ax (oAt (KK P) 92)).getD 18 .none)=true/\oo ((ax (oAt (KK P) 92)).getD 7 .none)=true/\sj ((ax (oAt (KK P) 92)).getD 9 .none)=true/\oo ((ax (oAt (KK P) 92)).getD 10 .none)=true:=
 ⟨nofun,nofun,nofun,nofun⟩
theorem Jh(P:Pk):(aD (KK P) 93).code= .ref 92:=nofun
theorem E6{K:Frag}{P:Pk}(hK:K=KK P){h:Pp}(X:K.In h):CodeHd h 92 88:=by revert hK X;exists K,P,h;obtain⟨a,b,c,d⟩:=Ou P;obtain⟨e,f,g,i⟩:=Ov P;obtain⟨x1,t1,e⟩:=qK e;obtain⟨x2,t2,f⟩:=jc f;obtain⟨x3,g⟩:=oq g;obtain⟨x4,t4,i⟩:=jc i;exact⟨_,_,x1,t1,x2,t2,x3,x4,t4,X 92 _ (by rw[hK];exact Ot P),a,b,c,d,e,f,g,i,by left⟩
section
variable {M:Model}{g:Array GenState}{d:Drawn}{os:OsState}
theorem yw{V:Vw}{P:Pk}(hK:V.K=KK P)(ht:V.tab=gj){env:Env}(hcode:env.code= .ref 92){h:Pp}(X:V.K.In h)(t:V.tab h)(h175:175<=h.objs.size){fl:Nat}:
  ∃fr:Prop,∀(h':Pp) (t':Nat) (A':Po) (E':Ph->Pg->Prop) (Q':Ph->Pg->Prop),(∀b o,h.get? b=some o->h'.get? b=some o)->h.objs.size<=h'.objs.size->
   (∀cc P2 ps2 h'' t'',Heap.ExtBut 88 h' h''->h'.objs.size<=h''.objs.size->ClsCode fr h'' cc P2 ps2->(fr->h'.objs.size<=P2)->Q' (.ref cc) ⟨h'',g,d,t'',os⟩)->wpAny M A' (classCode env ed fl (sx "K") jB aI) Q' E' ⟨h',g,d,t',os⟩:=by
 rw[ht]at t;obtain⟨qs,a,b,c⟩:=t.2.2;have C0:=E6 hK X;rcases c with c|⟨cc,P2,ps2,e1,e2,e3,e4,e5,e6⟩
 ·refine⟨True,λh' t' A' E' Q' k sz hq=>?_⟩;have C1:=C0.keeps k;refine qn hcode (C1.code (k _ _ a) b) (C1.tab (k _ _ a)) c λc' h'' tk P' hx hge hlt hrec htab hP hcode' htab'=>?_;have et:(qs++#[rawInt ed.line,rawInt ed.col,Value.ref c']).toList=qs.toList++[rawInt ed.line,rawInt ed.col,.ref c']:=by simp
  exact hq c' P' #[] h'' tk hx (OL (O9 hge hlt)) {
   hd:=CodeHd.of hcode' htab'
   tab:=htab'.2
   tok:=trivial
   all:=λy _=> .inr ⟨rfl,trivial⟩
   ge:=OA h175 (OA sz hP)
   top:=⟨_,htab.2,by rw[et];exact TriplesOk_snoc _ _ _ _ b,by rw[et];exact codeAmong_snoc _ b c⟩} λ_=>hP
 ·refine⟨False,λh' t' A' E' Q' k sz hq=>?_⟩;have C1:=C0.keeps k;unfold classCode
  refine wpAny_codeAt_hit hcode (C1.code (k _ _ a) b) e1 (hq cc P2 ps2 h' t' (Heap.ExtBut.refl _ _) (OP _) {
   hd:=e3.keeps k
   tab:=k _ _ e4
   tok:=e5
   all:=λy hy=> .inl (by obtain⟨c',x1,o,vs,t,x,r⟩:=e6 y hy;exact⟨c',x1,o,vs,t,k _ _ x,r⟩)
   ge:=e2
   top:=⟨qs,k _ _ a,b,e1⟩} False.elim)
end
section
variable {V:Vw}{P:Pk}{A:Po}{E:Pr}{h:Pp}{g:Array GenState}{d:Drawn}{t:Nat}{os:OsState}
theorem yx(hK:V.K=KK P)(ht:V.tab=gj)(O:V.Ok)(W:Wd V ⟨h,g,d,t,os⟩){env:Env}{cell:Pn}{m:Str->Pj Ph}{Q:Flow->Pg->Prop}(hkd:env.scope.kind= .function)(hglob:env.globals=Pb)(hbi:env.builtins=Pc)(hcell:env.cells=[(sx "mycmp",cell)])(hcode:env.code= .ref 92)(hq:qualnameIn env (sx "K") (sx "K")=jB)
  (ho:env.kindOf (sx "object")=some .globalImplicit) (hkK:env.kindOf (sx "K")=some .local) (hn:h.Ns env.locals m) (hl:175<=env.locals) (hdep:A.depth+8<recursionLimit)
  (q:∀C N md cc P2 f ps H t' H2,ClsMade h H cell C N md cc P2 f ps->H2.Ns env.locals (λy=>if y=sx "K" then some (.ref C) else m y)->Heap.SameBut env.locals H H2->Q .next ⟨H2,g,d,t',os⟩):
  wpAny (model V.prog V.w) A (exec E3 env) Q E ⟨h,g,d,t,os⟩:=by
 obtain⟨mb,hb,hbb⟩:=W.b;obtain⟨nv,hM⟩:=E5 hK ht W.K W.tabs;rw[arm_exec_ClassDef];refine wpB (Oz (wpB (OZ ?_)));refine wpB ?_;unfold buildClassGuard;refine wpB (wpAny_nsGet (hbi▸hb) ?_);rw[hbb _ (by left),Jg];refine Oz (wpB (OJ ?_));refine wpB (yv (spliced_cons ?_));refine Name_function_global hkd ho ?_ (by left);obtain⟨mg,hg,hv⟩:=O.glob _ _ _ W.K E4
 have fin:wpAny (model V.prog V.w) A (loadGlobal env (sx "object")) (λv w99=>v= .type "object"/\w99=⟨h,g,d,t,os⟩) E ⟨h,g,d,t,os⟩:=by
  rcases hv with⟨v,hv,hm⟩|⟨hv,hn,v,hb2,hm⟩
  ·refine loadGlobal_global (show Heap.Ns h env.globals mg from hglob▸hg) hv ?_;rcases hm with hm|⟨y,t,hm,rfl⟩
   ·cases hm;exact⟨rfl,rfl⟩
   ·cases hm
  ·cases hm;exact loadGlobal_builtin (show Heap.Ns h env.globals mg from hglob▸hg) hv (show Heap.Ns h env.builtins mb from hbi▸hb) ((hbb _ hn).trans hb2) ⟨rfl,rfl⟩
 refine OV fin (λv w99 hvs=>?_) λ_ _ e=>e;obtain⟨rfl,rfl⟩:=hvs;refine spliced_nil (wpB (OZ (OJ ?_)));obtain⟨fr,hcc⟩:=yw (M:=model V.prog V.w) (g:=g) (d:=d) (os:=os) (fl:=firstLineOf [] ed) hK ht hcode W.K W.tabs W.size;show wpAny _ A (buildClass (sx "K") (qualnameIn env (sx "K") (sx "K")) [.type "object"] [] eX aI [sx "obj"] (firstLineOf [] ed) env ed none) _ _ _;rw[hq];refine E2 hglob hcell hM W.size (O.nolimit _ W.K) hdep hcc (LC O hK W.K) λC N md cc P2 f ps H t' cm=>?_;refine wpB (Oz (wpB (OZ (wpB (wpAny_bindName ?_)))));have hn':H.Ns env.locals m:=Ns.keepAt hn λo e=>cm.keep _ o (λq=>by rw[q]at hl;exact O8 hl (by left)) e;exact wpAny_storeName_local hkK hn' (λH2 hN2 hs2=>Oz (q C N md cc P2 f ps H _ H2 cm hN2 hs2)) (by rw[hkd];rfl)
end
theorem Bm{D:Pn->Prop}{H0 H H2:Pp}{lo cell C N md cc P2 L:Pn}{f:Str->Pn}{ps:Array Ph}(cm:ClsMade H0 H cell C N md cc P2 f ps)(hD:∀a,lo<=a->¬D a/\175<=a)(h0:lo<=H0.objs.size)(hcl:lo<=cell)(hc:H.IsCell cell (some (.ref 169)))
  (same:∀a o,a≠L->H.get? a=some o->H2.get? a=some o) (hL:∃m,H.Ns L m) (hLl:L<H0.objs.size) (ht74:∃ps,H.get? 74=some (tabObj ps)):bu w9 D H2 C:=by
 revert cm hD h0 hcl hc same hL hLl ht74;exists D,H0,H,H2,lo,cell,C,N,md,cc,P2,L,f,ps;have nT:∀a,175<=a->¬aJ a:=λa h=>aY h;obtain⟨mL,oL,esL,epL,eL,dL,_⟩:=hL;have cf:∃c:Str->Pn,∀y∈ai,∃fd,IsMeth H (f y) cell (mps y) (aA y).body (aA y).scope.names fd/\fd.code= .ref (c y)/\dU H (c y) (qm y):=
  (Classical.skolem (p:=λ(y:Str) (c:Pn)=>y∈ai->∃fd,IsMeth H (f y) cell (mps y) (aA y).body (aA y).scope.names fd/\fd.code= .ref c/\dU H c (qm y))).mp λy=>by
   by_cases hy:y∈ai
   ·obtain⟨_,_,fd,c,m,e1,e2⟩:=cm.meth y hy;exact⟨c,λ_=>⟨fd,m,e1,e2⟩⟩
   ·exact⟨0,λh=>O8 h hy⟩
 obtain⟨cf,hcf⟩:=cf;obtain⟨sl,hC,hC4⟩:=cm.kc.cls;obtain⟨r,oN,esN,epN,eN,dN,rN⟩:=cm.kc.ns;obtain⟨tm,bm,hM⟩:=cm.kc.md;obtain⟨oc,hoc,hdc⟩:=hc;have nL:∀a,H0.objs.size<=a->a≠L:=λa h q=>OM _ (OD hLl (q▸h));have hcL:cell≠L:=λq=>by rw[q,eL]at hoc;cases hoc;rw[hdc]at dL;cases dL
 have codeL:∀{c q},dU H c q->c≠L:=λ⟨o,vs,t,a,_,b,_⟩ q=>by rw[q,eL]at a;cases a;rw[b]at dL;cases dL
 have codeT:∀{c q},dU H c q->¬aJ c:=λ⟨o,vs,t,a,b,_,_⟩ q=>by
  rcases q with q|q
  ·obtain⟨p,e⟩:=ht74;rw[q,e]at a;cases a;cases b
  ·obtain⟨qs,e,_⟩:=cm.top;rw[q,e]at a;cases a;cases b
 let l:List (Pn×Obj):=([C,N,md,cell]++ai.map f++ai.map cf).filterMap λa=>(H2.get? a).map (a,·)
 have mem:∀a o,a∈[C,N,md,cell]++ai.map f++ai.map cf->H2.get? a=some o->(a,o)∈l:=λa o h e=>List.mem_filterMap.mpr ⟨a,h,by rw[e];rfl⟩;refine⟨l,⟨λh hl=>?_,?_⟩,?_⟩
 ·have tr:∀a o,a∈[C,N,md,cell]++ai.map f++ai.map cf->a≠L->H.get? a=some o->h.get? a=some o:=λa o ha hne e=>hl _ (mem a o ha (same a o hne e));refine⟨N,md,f,cell,{cls:=⟨sl,tr _ _ (by simp) (nL _ cm.ge.1) hC,hC4⟩,ns:=⟨r,oN,esN,epN,tr _ _ (by simp) (nL _ cm.ge.2.1) eN,dN,rN⟩,md:=⟨tm,bm,tr _ _ (by simp) (nL _ cm.ge.2.2) hM⟩},⟨oc,tr _ _ (by simp) hcL hoc,hdc⟩,(hD _ hcl).2,λx hx=>?_⟩;obtain⟨fd,m,e1,e2⟩:=hcf x hx;have kc:=codeL e2;obtain⟨o,vs,t,y1,y2,y3,y4⟩:=e2
  refine⟨fd,{m with
   at_:=by obtain⟨o,a,b⟩:=m.at_;exact⟨o,tr _ _ (by simp only [List.mem_append,List.mem_map];exact .inl (.inr ⟨x,hx,rfl⟩)) (nL _ (cm.meth x hx).1) a,b⟩
   code:=?_}⟩
  obtain⟨c',o',vs',t',z1,z2,z3,z4⟩:=m.code;rw[e1]at z1;cases z1;exact⟨cf x,o',vs',t',e1,tr _ _ (by simp only [List.mem_append,List.mem_map];exact .inr ⟨x,hx,rfl⟩) kc z2,z3,z4⟩
 ·rintro ⟨a,o⟩ hp ⟨⟨vs,q1⟩,q2⟩
  obtain⟨a',ha,hq⟩:=List.mem_filterMap.mp hp;obtain⟨o',ho',hq'⟩:=Option.map_eq_some_iff.mp hq;cases(hq');have same':∀{w9w},a≠L->H.get? a=some w9w->w9w=o:=λn e=>OH ((same _ _ n e).symm.trans ho');simp only [List.mem_append,List.mem_cons,List.not_mem_nil,or_false,List.mem_map]at ha;rcases ha with((rfl|rfl|rfl|rfl)|⟨y,hy,rfl⟩)|⟨y,hy,rfl⟩
  ·have e:=same' (nL _ cm.ge.1) hC;subst e;cases q1
  ·have e:=same' (nL _ cm.ge.2.1) eN;subst e;rw[dN]at q1;cases q1
  ·have e:=same' (nL _ cm.ge.2.2) hM;subst e;rcases q2 with q|q<;>simp [iS]at q
  ·have e:=same' hcL hoc;subst e;rw[hdc]at q1;cases q1
  ·obtain⟨fd,m,_⟩:=hcf y hy;obtain⟨o1,x1,x2,x3⟩:=m.at_;have e:=same' (nL _ (cm.meth y hy).1) x1;subst e;rw[x2]at q1;cases q1
  ·obtain⟨fd,m,_,e2⟩:=hcf y hy;have kc:=codeL e2;obtain⟨o1,vs1,t1,x1,x2,_⟩:=e2;have e:=same' kc x1;subst e;rw[x2]at q2;rcases q2 with q|q<;>simp at q
 ·rintro ⟨a,o⟩ hp
  obtain⟨a',ha,hq⟩:=List.mem_filterMap.mp hp;obtain⟨o',ho',hq'⟩:=Option.map_eq_some_iff.mp hq;cases(hq');have big:lo<=a->(¬D a\/bt o)/\¬aJ a/\H2.get? a=some o:=λh=>⟨.inl (hD _ h).1,nT _ (hD _ h).2,ho'⟩;simp only [List.mem_append,List.mem_cons,List.not_mem_nil,or_false,List.mem_map]at ha;rcases ha with((rfl|rfl|rfl|rfl)|⟨y,hy,rfl⟩)|⟨y,hy,rfl⟩
  ·exact big (OA h0 cm.ge.1)
  ·exact big (OA h0 cm.ge.2.1)
  ·exact big (OA h0 cm.ge.2.2)
  ·exact big hcl
  ·exact big (OA h0 (cm.meth y hy).1)
  ·obtain⟨fd,m,_,e2⟩:=hcf y hy;have kc:=codeL e2;have kt:=codeT e2;obtain⟨o1,vs1,t1,x1,x2,x3,_⟩:=e2;have e:=OH ((same _ _ kc x1).symm.trans ho');subst e;exact⟨.inr ⟨vs1,x3,.inr x2⟩,kt,ho'⟩
noncomputable def yy:List MV->Pj MV
 | [.ex (.ref a)]=>if a=169 then some .kcls else none
 |_=>none
theorem v3:(pB "cmp_to_key").names.lookup (sx "object")=some .globalImplicit/\(pB "cmp_to_key").names.lookup (sx "K")=some .local/\(∀n,cellsFrom n (pB "cmp_to_key").names []=[(sx "mycmp",n)]):=⟨nofun,nofun,λn=>by symm⟩
theorem Ow(P:Pk):(aD (KK P) 93).qualname=sx "cmp_to_key":=nofun
theorem E7:sx "cmp_to_key"++".<locals>."++sx "K"=jB:=by right
set_option tactic.hygienic true in
theorem Ji(h:yy as=some r):as=[.ex (.ref 169)]/\r= .kcls:=by
 cases as with
 |nil=>exact af h
 |cons m l=>
  cases l with
  |cons _ _=>cases m<;>first|exact af h|(rename_i v;cases v<;>exact af h)
  |nil=>
   cases m<;>first|exact af h|skip
   rename_i v;cases v<;>first|exact af h|skip
   rename_i a;obtain⟨e,h⟩:=eG (c:=a=169) h;exact⟨ON (λa=>[MV.ex (.ref a)]) e,(OH h).symm⟩
theorem sZ{V:Vw}{P:Pk}(hK:V.K=KK P)(ht:V.tab=gj)(h9:V.W9=w9):aC V 93 21 yy:=by
 revert hK ht h9;exists V,P;have O:=okC hK ht;have d:=cmp_to_key.isDef hK;intro A θ D s Q E as vs r R W tk B ra hp h hQ;obtain⟨e1,e2⟩:=Ji h;subst e1 e2;obtain⟨v,q,rfl,r1,r2⟩:=ra;cases r1;cases r2;obtain⟨o,ho,hdata⟩:=d.at_;obtain⟨c,co,cvs,ct,hc1,hc2,hc3,hc4⟩:=d.code;have dep:=R.depth;refine OW (codeAny_call_function (by lia) (W.K 93 o ho) hdata d.co d.gen d.body_ ⟨c,co,cvs,ct,hc1,W.K c co hc2,hc3,hc4⟩ ?_);rw[d.clo];refine d.bind [.ref 169] rfl s W.K _ _ _ _ (cP tk (wpAny_newFunctionEnv_cells d.kind (λx hx=>?_) λenv he w99 ic tk1=>?_))
 ·have hm:x.1∈cmp_to_key.ps:=j9 (b:=x.2) hx;rcases d.pk x.1 hm with h|h
  ·exact .inl h
  ·refine .inr ⟨h,?_⟩;obtain⟨c,hc⟩:=jJ (aD (KK P) 93).scope.names (s.heap.objs.size+1) [] (.inl h);rw[hc];rfl
 ·have hL:env.locals=s.heap.objs.size:=by rw[he];rfl
  have hscope:env.scope=(aD (KK P) 93).scope:=by rw[he];rfl
  have hglob:env.globals=Pb:=by rw[he];exact d.glob
  have hbi:env.builtins=Pc:=by rw[he];exact d.bi
  have hcode:env.code= .ref 92:=by rw[he];exact Jh P
  have hnm:(aD (KK P) 93).scope.names=(pB "cmp_to_key").names:=cmp_to_key.names0 P;have hko:∀x,env.kindOf x=(pB "cmp_to_key").names.lookup x:=λx=>by unfold Env.kindOf;rw[hscope,hnm]
  have hcells:env.cells=[(sx "mycmp",s.heap.objs.size+1)]:=by
   have:env.cells=cellsFrom (s.heap.objs.size+1) (aD (KK P) 93).scope.names []:=by rw[he];rfl
   rw[this,hnm,v3.2.2]
  have hq:qualnameIn env (sx "K") (sx "K")=jB:=by
   unfold qualnameIn;rw[hko,v3.2.1];have:env.qual=sx "cmp_to_key"++".<locals>.":=by rw[he];show(aD (KK P) 93).qualname++_=_;rw[Ow]
   rw[this];exact E7
  obtain⟨⟨⟨h',tk',w9W⟩,hns,keep,hle⟩,hcell,hap,hab⟩:=ic;have hsz:s.heap.objs.size<w99.heap.objs.size:=hL▸hns.lt;have hcl:=hcell (sx "mycmp") (s.heap.objs.size+1) (by rw[hcells];simp);subst w9W;have st0:St V none9 s {s with heap:=h',toks:=tk'}:=⟨.ofAll none9 (OL hsz) keep,W.grown O (s':={s with heap:=h',toks:=tk'}) (OL hsz) keep⟩;refine⟨O.nolimit _ st0.wd.K,codeAny_func ?_⟩;rw[M0];have hl175:175<=env.locals:=hL▸W.size;have hkd:env.scope.kind= .function:=by rw[hscope];exact d.kind
  refine wpAny_execs_cons (cP tk1 (yx (g:=s.gens) (d:=s.drawn) (os:=s.os) (cell:=s.heap.objs.size+1) hK ht O st0.wd hkd hglob hbi hcells hcode hq (by rw[hko];exact v3.1) (by rw[hko];exact v3.2.1) hns hl175 (by show A.depth+1+8<_;lia) λC N md cc P2 f ps H t' H2 cm hN2 hs2 tk2=>?_));refine wpAny_execs_cons (wpAny_Return_some (wpAny_Name (wpAny_loadName_local hkd (by rw[hko];exact v3.2.1) hN2 (if_pos rfl) ?_) (by left)));have keepH:∀b o,b≠88->h'.get? b=some o->b≠env.locals->H2.get? b=some o:=λb o h88 e n=>(hs2.2 b n).trans (cm.keep b o h88 e);have keepS:∀b o,b≠88->s.heap.get? b=some o->H2.get? b=some o:=λb o h88 e=>keepH b o h88 (keep b o e) (λq=>by rw[hL]at q;exact OM _ (q▸OF e));have nt:∀{b},¬aJ b->b≠88:=λh q=>h (.inr q);have hnH:H.Ns env.locals (bindL env.kindOf (cmp_to_key.ps.zip [Value.ref 169]) λ_=>none):=Ns.keepAt hns λo e=>cm.keep _ o (λq=>by rw[q]at hl175;exact O8 hl175 (by left)) e;have szH:h'.objs.size<=H2.objs.size:=by rw[hs2.1];exact cm.size
  have wt:gj h':=ht▸st0.wd.tabs
  have tabs:gj H2:=by
   obtain⟨⟨o4,a4,r4⟩,⟨p7,b7,c7⟩,_⟩:=wt;have low:∀b:Pn,b<175->b≠env.locals:=λb hb q=>by rw[q]at hb;exact O8 hl175 (Nat.not_le.mpr hb)
   refine⟨⟨o4,keepH 4 _ (by left) a4 (low 4 (by left)),r4⟩,⟨p7,keepH 74 _ (by left) b7 (low 74 (by left)),c7⟩,?_⟩;obtain⟨qs,x1,x2,x3⟩:=cm.top;have tH:T88 H:=⟨qs,x1,x2,.inr ⟨cc,P2,ps,x3,cm.ge2,cm.hd,cm.tab,cm.tok,λy hy=>(cm.meth y hy).2.1⟩⟩;exact tH.keep λa o e c=>(hs2.2 a (λq=>cy hnH o (q▸e) c)).trans e
  have st1:St V none9 s {s with heap:=H2,toks:=t'}:=⟨⟨OA (OL hsz) szH,λa o _ t e=>keepS a o (nt t) e,λa o t _ e=>keepS a o (nt t) e⟩,{
   K:=λb o e=>keepS b o (nt (O.far b o e).1) (W.K b o e)
   b:=by obtain⟨mb,h1,h2⟩:=W.b;exact⟨mb,Ns.keepAt h1 λo e=>keepS _ o (by left) e,h2⟩
   size:=OA W.size (OA (OL hsz) szH)
   bare:=W.bare
   tabs:=ht▸tabs
   os:=W.os}⟩
  have hD:∀a,s.heap.objs.size<=a->¬D a/\175<=a:=λa h=>⟨λq=>OM _ (OD (B a q).2 h),OA W.size h⟩
  have hcH:H.IsCell (s.heap.objs.size+1) (some (.ref 169)):=by
   have e:bindC env.kindOf (cmp_to_key.ps.zip ([Value.ref 169]++[])) (λ_=>none) (sx "mycmp")=some (.ref 169):=by rw[nY (by rw[hko];right)];rfl
   rw[e]at hcl;exact IsCell.keepAt hcl λo eo=>cm.keep _ o (λq=>by have:=W.size;rw[show(88:Nat)=88 from rfl]at q;exact O8 (q▸OK this:(175:Nat)<=88) (by left)) eo
  have ik:bu w9 D H2 C:=Bm (lo:=s.heap.objs.size) (L:=env.locals) cm hD (OL hsz) (O7 _) hcH (λa o n e=>(hs2.2 a n).trans e) ⟨_,hnH⟩ (hL▸hsz) (by obtain⟨p7,b7,_⟩:=wt.2.1;exact⟨p7,cm.keep 74 _ (by left) b7⟩);exact hQ (.ref C) _ st1 tk2 ⟨C,rfl,h9▸ik⟩ rfl
end
section
noncomputable def E8(n:Nat)(sc:Sc)(ev:Pm->Pj MV)(e:Pm):Pj MV:=if Nat.beq e.ctorIdx 16=true then(zc ev e).or (C6 ev e) else none
theorem LD(as:List MV)(v:MV)(h:HS as=some v):mk fn0 (SS E8) 20 "escape" escape.ps [] false as=some v:=by
 ext x e h;cases Dj e;replace h:=di h;rcases h with⟨rfl,h⟩|⟨_,h⟩
 ·cases h;symm
 ·injections e0z h;subst e0z;cases h;symm
theorem aC.mono(c:aC V a k g)(hk:k<=k')(h:∀as v,g' as=some v->g as=some v):aC V a k' g':=
 λA θ D s Q E as vs r R W tk B ra hp hg hQ=>c A θ D s Q E as vs r (R.le hk) W tk B ra hp (h as r hg) hQ
section
variable {V:Vw}{P:Pk}
theorem pG(hK:V.K=KK P)(O:V.Ok):SubsOk V (SS spN):=oj hK O λn sc ρ p e mv I h=>by cases h
theorem E9(hK:V.K=KK P)(O:V.Ok)(T:TabAt V 74):SubsOk V (SS zm):=oj hK O λn sc ρ p e mv I h=>by
 rcases iD (eG h).2 with h|h
 ·exact uJ I h
 rcases iD h with h|h
 ·exact xv hK O T I h
 ·exact uP hK O T I h
theorem Bn(hK:V.K=KK P)(O:V.Ok):SubsOk V (SS E8):=oj hK O λn sc ρ p e mv I h=>by
 rcases iD (eG h).2 with h|h
 ·exact xq I h
 ·exact Ax hK O I h
theorem mkC{F:Fns}{S:Subs}{a:Pn}{fd:FuncData}{ps:List Str}{nm:String}{dv:List Ph}{dm:List MV}{g:List MV->Pj MV}(O:V.Ok)(BK:V.Booked)(FO:FnsOk V F)(SO:SubsOk V S)(d:IsDef V a fd ps (pB nm).body dv)(hn:fd.scope.names=(pB nm).names)(hdm:∀θ D h,RpL V.W9 θ D h dm dv)(hdp:aa dm=true){st:Bool}{n:Nat}
  (h:∀as v,g as=some v->mk F S n nm ps dm st as=some v):aC V a (n+1) g:=by
 have c:=gO O BK FO SO d hdm hdp st n;rw[hn]at c;exact c.mono (OP _) h
theorem isFn(d:IsDef V a fd ps body dv):∃o fd,V.K.lookup a=some o/\o.data= .func fd:=by obtain⟨o,h1,h2⟩:=d.at_;exact⟨o,fd,h1,h2⟩
theorem rp0:∀(θ:Pn) (D:Pn->Prop) (h:Pp),RpL V.W9 θ D h [] []:=λ_ _ _=>rfl
theorem Fb:∀as v,gz 0 as=some v->mk fn0 (SS spN) (lvK 0+30) "_law_goes" l_goes.ps [] false as=some v:=by
 intro as v h;obtain⟨is,r,rfl,h1,h2,h3,h4,rfl⟩:=vd h;have:is=[]:=List.eq_nil_of_length_eq_zero h2;subst this;refine cU rfl rfl ?_ (.inl rfl);show ∃ρ',(mx fn0 (SS spN) false (lvK 0+30)).ex cV (bO [] r) (pB "_law_goes").body=_;rw[nf];refine⟨bO [] r,jM nofun (f:= .ret (.bool r.isEmpty)) (bI rfl ?_ rfl) rfl⟩;cases r with
 |nil=>symm
 |cons c r=>symm
structure Tower (V:Vw):Prop where
 esc:aC V 72 21 HS
 tr:aC V 79 51 trG
 jn:aC V 86 51 jG
 trl:aC V 60 61 DT
 row:aC V 109 21 sq
 srv:aC V 114 21 Dl
 takes:aC V 121 21 lC
 fits:aC V 126 31 qX
 qd:aC V 48 21 qdG
 hop:aC V 131 101 oW
 text:aC V 143 51 vq
 goes:aC V 148 121 (gz 3)
 left:aC V 155 201 o5
 dots:aC V 162 21 jw
 more:aC V 169 41 oF
 red:aC V 102 201 sL
theorem Fc(hK:V.K=KK P)(ht:V.tab=gj):Tower V:=by
 revert hK ht;exists V,P;have O:=okC hK ht;have BK:V.Booked:=jf hK;have T:=LB ht;have N:=pG hK O;have F0:FnsOk V fn0:=dS;have esc:=mkC (g:=HS) O BK F0 (Bn hK O) (escape.isDef hK) (escape.names0 P) rp0 rfl LD;have FT:FnsOk V HT:=bj dS esc (isFn (escape.isDef hK));have tr:=mkC (g:=trG) O BK FT (E9 hK O T) (u_translate.isDef hK) (u_translate.names0 P) rp0 rfl MJ;have jn:aC V 86 51 jG:=mkC (g:=jG) O BK F0 N (join_translated_parts.isDef hK) (join_translated_parts.names0 P) rp0 rfl (λas v h=>h);have FTr:FnsOk V DS:=bj (bj dS jn (isFn (join_translated_parts.isDef hK))) tr (isFn (u_translate.isDef hK));have trl:=mkC (g:=DT) O BK FTr N (translate.isDef hK) (translate.names0 P) rp0 rfl K5;have row:=mkC (g:=sq) O BK F0 N (l_row.isDef hK) (l_row.names0 P) rp0 rfl KJ;have srv:=mkC (g:=Dl) O BK F0 N (l_server.isDef hK) (l_server.names0 P) rp0 rfl KL;have takes:=mkC (g:=lC) O BK F0 N (l_takes.isDef hK) (l_takes.names0 P) rp0 rfl Dr;have FF:FnsOk V dA:=bj dS takes (isFn (l_takes.isDef hK));have fits:=mkC (g:=qX) O BK FF N (l_fits.isDef hK) (l_fits.names0 P) rp0 rfl Ia;have qd:=mkC (g:=qdG) O BK F0 N (quotedata.isDef hK) (quotedata.names0 P) rp0 rfl ML;have FH:FnsOk V iK:=bj (bj (bj dS fits (isFn (l_fits.isDef hK))) qd (isFn (quotedata.isDef hK))) tr (isFn (u_translate.isDef hK));have hop:=mkC (g:=oW) O BK FH N (l_hop.isDef hK) (l_hop.names0 P) rp0 rfl Le;have text:=mkC (g:=vq) O BK F0 N (l_text.isDef hK) (l_text.names0 P) rp0 rfl HV
 have go:∀k,k<=4->aC V 148 (lvK k+31) (gz k):=λk=>by
  induction k with
  |zero=>intro k4;exact mkC (g:=gz 0) O BK F0 N (l_goes.isDef hK) (l_goes.names0 P) rp0 rfl Fb
  |succ k ih=>intro k4;have FG:FnsOk V (dO (k+1)):=bj dS ((ih (by lia)).mono (by unfold lvK;lia) (λas v h=>h)) (isFn (l_goes.isDef hK));exact mkC (g:=gz (k+1)) O BK FG N (l_goes.isDef hK) (l_goes.names0 P) rp0 rfl (HO k4)
 have goes:=go 3 (by left);have FL:FnsOk V eK:=bj (bj dS goes (isFn (l_goes.isDef hK))) row (isFn (l_row.isDef hK));have left:=mkC (g:=o5) O BK FL N (l_left.isDef hK) (l_left.names0 P) rp0 rfl IF;have dots:=mkC (g:=jw) O BK F0 N (l_dots.isDef hK) (l_dots.names0 P) rp0 rfl HP;have FM:FnsOk V oE:=bj dS dots (isFn (l_dots.isDef hK));have more:=mkC (g:=oF) O BK FM N (l_more.isDef hK) (l_more.names0 P) rp0 rfl HR;have FR:FnsOk V gC:=bj dS hop (isFn (l_hop.isDef hK));have rD3:∀(θ:Pn) (D:Pn->Prop) (h:Pp),RpL V.W9 θ D h [] []:=rp0;have c3:=gO O BK FR N (reduce.isDef3 hK) rD3 rfl false 200;have c2:=gO O BK FR N (reduce.isDef2 hK) (dm:=[.ex (.ref 94)]) (λθ D h=>⟨.ref 94,[],rfl,rfl,rfl⟩) rfl false 200;rw[show(aD (KK P) 102).scope.names=(pB "reduce").names from reduce.names0 P]at c3 c2
 have red:aC V 102 201 sL:=by
  intro A θ D s Q E as vs r R W tk B ra hp hg hQ;obtain⟨x,l,hpl,hf,rfl|rfl⟩:=IK hg
  ·exact c3 A θ D s Q E _ vs r R W tk B ra hp (IL hpl hf) hQ
  ·exact c2 A θ D s Q E _ vs r R W tk B ra hp (IM hpl hf) hQ
 exact⟨esc,tr,jn,trl,row,srv,takes,fits,qd,hop,text,goes,left,dots,more,red⟩
end
end
section
open PySem.Spec
theorem kG(P:Pk):nsIn (KK P) Pb (sx "TypeError")=some none:=nofun
theorem lO(P:Pk):nsIn (KK P) Pb (sx "StopIteration")=some none:=nofun
theorem iW:bootBuiltins (sx "TypeError")=some (.type "TypeError"):=nofun
theorem jS:bootBuiltins (sx "StopIteration")=some (.type "StopIteration"):=nofun
section
variable {V:Vw}{P:Pk}{A:Po}{E:Pr}{s:Pg}{env:Env}
structure EnvOk (env:Env):Prop where
 kind:env.scope.kind= .function
 glob:env.globals=Pb
 bi:env.builtins=Pc
theorem pH(hK:V.K=KK P)(W:Wd V s)(f:EnvOk env)(hk:env.kindOf x=some .globalImplicit)(h1:nsIn (KK P) Pb x=some none)(h2:bootBuiltins x=some (.type T))(hn:x≠"__name__")(hd:(x==("__debug__":Str))=false)(h:Q (.type T) s):wpAny (model V.prog V.w) A (eval (.Name x q) env) Q E s:=by have X:=W.K;rw[hK]at X;have G:s.heap.Ns Pb (s.heap.nsMap Pb):= .of_isNs (isNs_of_in X (Hl P));obtain⟨mb,hb,hbb⟩:=W.b;exact Name_function_global f.kind hk (loadGlobal_builtin (show s.heap.Ns env.globals _ from f.glob▸G) (ns_none_of X G h1) (show s.heap.Ns env.builtins mb from f.bi▸hb) ((hbb x hn).trans h2) h) hd
structure FrF (h1:Pp) (F:List Pn):Prop where
 low:∀b∈F,175<=b
 at_:∀b∈F,∃o,h1.get? b=some o/\∀vs,o.data≠ .fields vs
 one:∃b,b∈F
theorem td:Pc<175:=by left
theorem Wd.jk(O:V.Ok)(W:Wd V s)(f:FrF s.heap F)(x:Jk s.heap F s'.heap)(hg:s'.gens=s.gens)(ho:s'.os=s.os):Wd V s':=by
 have out:∀{a o},s.heap.get? a=some o->a∉F->s'.heap.get? a=some o:=λ{a o} e n=>by obtain⟨sl,q,z⟩:=x a o e;rw[z n]at q;exact q
 have low:∀{a},a<175->a∉F:=λh m=>O8 (f.low _ m) (Nat.not_le.mpr h);obtain⟨mb,⟨o,es,ep,h1,h2,h3⟩,h4⟩:=W.b;refine⟨λa o e=>out (W.K a o e) (low (O.far a o e).2),⟨mb,⟨o,es,ep,out h1 (low td),h2,h3⟩,h4⟩,?_,hg▸W.bare,O.tabKeep _ _ W.tabs λa o e c=>out e λm=>?_,ho.trans W.os⟩
 ·obtain⟨b,hb⟩:=f.one;obtain⟨o,e,_⟩:=f.at_ b hb;obtain⟨sl,q,_⟩:=x b o e;exact OA (f.low b hb) (OL (OF q))
 ·rcases c with⟨vs,c,_⟩|c
  ·obtain⟨o',e',z⟩:=f.at_ a m;rw[e]at e';cases e';exact z vs c
  ·exact low c m
theorem Fd:isSubtype (.type "StopIteration") (.type "StopIteration")=pure true:=by rw[isSubtype_type];symm
theorem Fe:isSubtype (.type "TypeError") (.type "TypeError")=pure true:=by rw[isSubtype_type];symm
theorem Ff:isSubtype (.type "StopIteration") (.type "BaseException")=pure true:=by rw[isSubtype_type];symm
theorem Bo:isSubtype (.type ((Manifest.find? "StopIteration").elim "type" λx=>x.metatype)) (.type "tuple")=pure false:=by rw[isSubtype_type];symm
theorem meta_type:isSubtype (.type ((Manifest.find? "TypeError").elim "type" λx=>x.metatype)) (.type "tuple")=pure false:=by rw[isSubtype_type];symm
theorem Ex.there(X:Ex h1 cls c2 e fl h):∃o,h.get? e=some o/\o.cls=cls:=by obtain⟨_,oe,vs,T,oT,ts,he,hcls,_⟩:=X;exact⟨oe,he,hcls⟩
theorem LF(f:FrF h1 F)(hn:h1.get? e=none):e∉F:=λm=>by obtain⟨o,q,_⟩:=f.at_ e m;rw[hn]at q;cases q
end
end
section
open PySem.Spec PySem.F
section
variable {V:Vw}{P:Pk}{A:Po}{E:Pr}{s:Pg}{env:Env}
theorem Fg(O:V.Ok)(hK:V.K=KK P){s1:Pg}{F:List Pn}{e1 L:Pn}{outer:List Env}{np cp p0 p1 p2:Pos}{x:Str}{k0 k1:Nat}{Q:Flow->Pg->Prop}(hh:A.handled=some (.ref e1))(hfr:A.frames=some (env::outer))(fo:hJ s1.heap F (env::outer))(hf:env.frame=some L)(f:EnvOk env)(hk:env.kindOf (sx "TypeError")=some .globalImplicit)
  (W:Wd V s1) (fF:FrF s1.heap F) (x1:Jk s1.heap F s.heap) (hg:s.gens=s1.gens) (ho:s.os=s1.os) {fl:Ph} (X:Ex s1.heap (.type "StopIteration") .none e1 fl s.heap) (hx:x.length<=1000)
  (hE:∀s' e,Jk s1.heap F s'.heap->Ex s1.heap (.type "TypeError") (.ref e1) e (rawInt L) s'.heap->s'.gens=s1.gens->s'.os=s1.os->E (.ref e) s'):
  wpAny (model V.prog V.w) A (exec (.Raise (some (.Call (.Name (sx "TypeError") np) [.Constant (.str x) k0 p0] [] cp)) (some (.Constant .none k1 p1)) p2) env) Q (notedBy (model V.prog V.w) A env E) s:=by
 revert O hK hh hfr fo hf f hk W fF x1 hg ho X hx hE;exists V,P,A,E,s,env,s1,F,e1,L,outer,np,cp,p0,p1,p2,x,k0,k1,Q,fl;rw[arm_exec_Raise];refine wpB (OZ ?_);show wpAny (model V.prog V.w) A (raiseStmt env (some (do let v <-eval (.Call (.Name (sx "TypeError") np) [.Constant (.str x) k0 p0] [] cp) env;standAt p2;pure v)) (some (do let c <-eval (.Constant .none k1 p1) env;standAt p2;pure c))) Q _ s;refine xm excRaise_TypeError hh (wpB ?_);refine wpAny_Call_ofName (pH hK (W.jk O fF x1 hg ho) f hk (kG P) iW (by left) (by left) ?_);refine callWith_excType rfl (evalArgs_plain (spliced_cons (x:=eval (.Constant (.str x) k0 p0) env) (Constant_str (spliced_nil ?_))));obtain⟨hp,g,d,tk,os⟩:=s;refine wpAny_call_exc excCall_TypeError λh' e2 hm=>?_;refine wpB (OZ (Oz ?_));obtain⟨t,ht,_,_⟩:=hm.there;obtain⟨hen,oe,vs,T,oT,ts,he,hcls,hd,h2,_⟩:=X
 have hne:e1≠e2:=λq=>by have:=hm.new;rw[<-q,he]at this;cases this
 refine⟨e2,t,oe,vs,rfl,ht,hne,hm.keeps _ _ he,hd,h2,?_⟩;refine wpB ?_;refine wpAny_Constant_none ?_;refine wpB (OZ (Oz ⟨rfl,rfl,λh'' he2 sb=>?_⟩));have x2:Jk s1.heap F h':=Jk.keeps x1 hm.keeps
 have n2:s1.heap.get? e2=none:=by
  cases q:s1.heap.get? e2 with
  |none=>rfl
  |some o=>obtain⟨sl,w,_⟩:=x1 _ o q;have:=hm.new;rw[w]at this;cases this
 refine uB hfr fo hf (x2.but n2 sb) he2 n2 rfl rfl rfl (LF fF n2) λh3 x3 X3=>?_;exact hE _ e2 x3 X3 hg ho
end
section
variable {V:Vw}{P:Pk}{A:Po}{E:Pr}{s:Pg}{env:Env}{θ:Pn}{D:Pn->Prop}{sc:Sc}{ρ:Rho}
theorem Fh(hf:env.frame=some L)(x:Jk h1 F s.heap)(X:Ex h1 cls c2 e fl s.heap)(h:∀h',Jk h1 F h'->Ex h1 cls c2 e (rawInt L) h'->E (.ref e) {s with heap:=h'}):cameBackBy M A env E (.ref e) s:=by unfold cameBackBy;have X0:=X;obtain⟨hen,oe,vs,T,oT,ts,he,hcls,hd,h2,h1',_⟩:=X;refine OB (wpAny_field he hd h1' ?_);rw[if_neg (show ¬((Value.ref T==Value.none)=true) from Bool.false_ne_true)];rw[hf];exact ll (fr:=some L) x X0 λh' a b=>h h' a b
theorem Jj(O:V.Ok)(hK:V.K=KK P)(R:Room A n)(hfr:A.frames=some (env::outer))(fo:hJ s.heap F (env::outer))(hf:env.frame=some L)(fF:FrF s.heap F)(fD:∀b∈F,∀o,s.heap.get? b=some o->∀vs,o.data≠ .fields vs)(W:Wd V s)(tk:1<=s.toks)(fx:FrX V θ D sc ρ env s)
  (hg:sc.lookup (sx "next")=some .globalImplicit) (hz:sc.lookup z=some .local) (hn:bg z=true) (h:ρ.lookup z=some (.iter [])) (ht:sc.lookup (sx "TypeError")=some .globalImplicit) (hs:sc.lookup (sx "StopIteration")=some .globalImplicit) (hx:x.length<=1000)
  (hE:∀s1 s' e1 e,Keep (Own D env.locals) s.heap s1.heap->Wd V s1->hJ s1.heap F (env::outer)->FrF s1.heap F->Jk s1.heap F s'.heap->Ex s1.heap (.type "TypeError") (.ref e1) e (rawInt L) s'.heap->s'.gens=s1.gens->s'.os=s1.os->E (.ref e) s'):
  wpAny (model V.prog V.w) A (exec (.Try [.Assign [.Name y yq] (.Call (.Name (sx "next") gq) [.Name z zq] [] cq) aq] [.ExceptHandler (some (.Name (sx "StopIteration") p3)) none [.Raise (some (.Call (.Name (sx "TypeError") np) [.Constant (.str x) k0 p0] [] cp)) (some (.Constant .none k1 p1)) p2] p4] [] [] pos) env) Q E s:=by
 refine wpAny_Try_except (wpAny_execs_cons (wpAny_Assign_Name (wpAny_Call_NameR ?_)));refine iv O (mv:= .ex (.builtin "next")) (n:=n) (by left) (by rw[hg];rfl) A θ D env s _ _ R W tk fx λu w99 st1 t1 r1=>?_;cases r1;have F1:=fx.st st1;refine callWith_builtin rfl (evalArgs_plain (spliced_cons (x:=eval (.Name z zq) env) (d9 F1 hz hn h λm w hm Lo hw rw=>spliced_nil ?_)));obtain⟨it,c,vs,i,rfl,d,t,hi,nc,tc,hl,r'⟩:=rw
 have hvs:vs[i]?=none:=by have:vs.drop i=[]:=r';rw[<-List.head?_drop,this];rfl
 refine next_end R.hd hi hl (by simpa using hvs) λh1 h' e sb mk=>?_
 have st2:St V (Own D env.locals) w99 {w99 with heap:=h1}:=St.same O st1.wd sb ⟨d,OL (Lo.aft z _ it h rfl hz hw)⟩ (F1.bnd _ d).1 w99.toks (by obtain⟨o,ho,hcl,hd⟩:=hi;exact bK ho hcl (by left))
 have kk:Keep (Own D env.locals) s.heap h1:=(st1.keep.any (D:=Own D env.locals)).trans st2.keep
 have stay:∀b∈F,∃o,h1.get? b=some o/\s.heap.get? b=some o:=λb hb=>by
  obtain⟨o,q,z⟩:=fF.at_ b hb;have q1:=st1.keep.keep b o (λq=>q) (aY (fF.low b hb)) q
  by_cases e:b=it
  ·subst e;obtain⟨o',ho',_,hd'⟩:=hi;rw[q1]at ho';cases ho';exact O8 hd' (z _)
  ·exact⟨o,(sb.2 b e).trans q1,q⟩
 have fF1:FrF h1 F:=⟨fF.low,λb hb=>by obtain⟨o,q1,q2⟩:=stay b hb;exact⟨o,q1,fD b hb o q2⟩,fF.one⟩
 have fo1:hJ h1 F (env::outer):=λv hv=>by obtain⟨k,La,o,a1,a2,a3,a4⟩:=fo v hv;obtain⟨o',q1,q2⟩:=stay La a2;rw[a3]at q2;cases q2;exact⟨k,La,o,a1,a2,q1,a4⟩
 obtain⟨tp,he,_,_⟩:=mk.there;have x0:Jk h1 F h':=(Jk.refl h1 F).keeps mk.keeps;have eo:EnvOk env:=⟨fx.kind,fx.glob,fx.bi⟩;show wpAny (model V.prog V.w) A (noteFrame (.ref e) env) _ E {w99 with heap:=h'};refine uB (h1:=h1) hfr fo1 hf x0 he mk.new rfl rfl rfl (LF fF1 mk.new) λh2 x2 X2=>?_;refine ll (fr:=none) x2 X2 λh3 x3 X3=>?_;refine wpAny_handleBy_builtin (X:="StopIteration") (T:="StopIteration") (b:=true) Ff Bo Fd ?_;refine pH hK (Wd.jk O (s:={w99 with heap:=h1}) st2.wd fF1 x3 rfl rfl) eo (fx.scg _ hs) (lO P) jS (by left) (by left) ?_;refine⟨rfl,X3.there,?_⟩;rw[if_pos rfl];refine ll (fr:=none) x3 X3 λh4 x4 X4=>?_;refine wpAny_execs_cons ?_;refine Fg O hK (s1:={w99 with heap:=h1}) (F:=F) (e1:=e) (L:=L) (outer:=outer) rfl hfr fo1 hf eo (fx.scg _ ht) st2.wd fF1 x4 rfl rfl X4 hx λs' e2 x5 X5 hg5 ho5=>?_;exact Fh hf x5 X5 λh6 x6 X6=>hE {w99 with heap:=h1} _ e e2 kk st2.wd fo1 fF1 x6 X6 hg5 ho5
end
noncomputable def hE:ExceptHandler->Pm
 | .ExceptHandler (some e) _ _ _=>e
 |_=>noE
noncomputable def hB:ExceptHandler->List Pq
 | .ExceptHandler _ _ b _=>b
noncomputable def hP:ExceptHandler->Pos
 | .ExceptHandler _ _ _ p=>p
noncomputable def noH:ExceptHandler:= .ExceptHandler none none [] default
noncomputable def rE(s:Pq):Pm:=aE s
noncomputable def rC(s:Pq):Pm:=fT s
noncomputable def rP(s:Pq):Pos:=aP s
noncomputable def cS(e:Pm):Str:=(cStr e).getD (sx "")
noncomputable def cK:Pm->Nat
 | .Constant _ k _=>k
 |_=>0
noncomputable def reA:Pq:=stN (tB reT) 0
noncomputable def reH:ExceptHandler:=(tH reT).getD 0 noH
noncomputable def reR:Pq:=stN (hB reH) 0
theorem Jl:aB reI=[.Try [.Assign [.Name (sx "value") (aQ reA)] (.Call (.Name (sx "next") (cF (aE reA)).pos) [.Name (sx "it") (cA (aE reA) 0).pos] [] (aE reA).pos) (aP reA)] [.ExceptHandler (some (.Name (sx "StopIteration") (hE reH).pos)) none [.Raise (some (.Call (.Name (sx "TypeError") (cF (rE reR)).pos) [.Constant (.str (cS (cA (rE reR) 0))) (cK (cA (rE reR) 0)) (cA (rE reR) 0).pos] [] (rE reR).pos)) (some (.Constant .none (cK (rC reR)) (rC reR).pos)) (rP reR)] (hP reH)] [] [] (tP reT)]:=nofun
theorem LG:(cS (cA (rE reR) 0)).length<=1000:=by right
section
variable {V:Vw}{P:Pk}{A:Po}{E:Pr}{s:Pg}{env:Env}{θ:Pn}{D:Pn->Prop}
noncomputable abbrev reE:Rho:=[(sx "initial",.ex (.ref 94)),(sx "sequence",.list []),(sx "function",.ex (.ref 131))]
theorem FrX.frame(F:FrX V θ D sc ρ env s):∃o,s.heap.get? env.locals=some o/\∀vs,o.data≠ .fields vs:=by obtain⟨m,⟨o,es,ep,h1,h2,_⟩,_⟩:=F.loc;exact⟨o,h1,λvs q=>by rw[h2]at q;cases q⟩
theorem Fi(O:V.Ok)(BK:V.Booked)(hK:V.K=KK P){F:List Pn}{outer:List Env}{vs:List Ph}{Q:Pr}(R:Room A 52)(hfr:A.frames=some outer)(fo:hJ s.heap F outer)(fF:FrF s.heap F)(W:Wd V s)(tk:1<=s.toks)(B:Bnd D s)(ra:RpL V.W9 θ D s.heap [.ex (.ref 131),.list []] vs)
  (hX:∀s1 s' e1 e,Keep none9 s.heap s1.heap->Wd V s1->FrF s1.heap (s.heap.objs.size::F)->hJ s1.heap (s.heap.objs.size::F) outer->Jk s1.heap (s.heap.objs.size::F) s'.heap->Ex s1.heap (.type "TypeError") (.ref e1) e .none s'.heap->s'.gens=s1.gens->s'.os=s1.os->E (.ref e) s'):
  wpAny (model V.prog V.w) A (call (.ref 102) vs) Q E s:=by
 revert O BK hK R hfr fo fF W tk B ra hX;exists V,P,A,E,s,θ,D,F,outer,vs,Q;refine jb O (reduce.isDef2 hK) (dm:=[.ex (.ref 94)]) (n:=51) (λθ D h=>⟨.ref 94,[],rfl,rfl,rfl⟩) rfl rfl R W B ra rfl λenv w99 st0 tk0 hf hL hsz Fr=>?_;have tk1:=OA tk tk0;rw[show(aD (KK P) 102).scope.names=(pB "reduce").names from reduce.names0 P]at Fr;change FrX V θ _ gY reE env w99 at Fr;rw[sJ];refine wpAny_execs_cons ?_;have s0:(me fn0 (SS spN) 49).ev gY reE (.Name (sx "sequence") (cA AV 0).pos)=some (.list []):=nofun
 have FN:FnsOk V fn0:=⟨λa k g h=>(by cases h),λa k g h=>(by cases h)⟩;have I:=l9 O BK FN (pG hK O);refine uv (st:=false) (I 49) O nofun nofun nofun s0 rfl (A.deeper env) θ _ env w99 _ _ (R.deeper.le (by left)) st0.wd tk1 Fr λf w97 D' s2 o fr=>?_;cases f<;>first|exact fr.elim|skip
 show wpAny _ _ (execs _ env) _ _ s2;refine wpAny_execs_cons (wpAny_If ?_);have t1:(me fn0 (SS spN) 50).tst gY (ae reE (sx "it") (.iter [])) (aE reI)=some true:=nofun
 refine(I 50).tst _ _ _ _ t1 (A.deeper env) w97 D' env s2 _ _ (R.deeper.le (by left)) o.sta.wd o.tk o.F λs3 st3 tk3=>?_;rw[if_pos rfl,Jl];refine wpAny_execs_cons ?_;have F3:=o.F.st st3;have kk:Keep (λb=>s.heap.objs.size<=b) s.heap s3.heap:=(((st0.keep.any (D:=λb=>s.heap.objs.size<=b)).trans (o.sta.keep.mono λa q=>hL▸q.2)).trans st3.keep.any);have old:∀{b ob},175<=b->s.heap.get? b=some ob->s3.heap.get? b=some ob:=λ{b ob} l e=>kk.keep b ob (Nat.not_le.mpr (OF e)) (aY l) e;obtain⟨oL,hoL,hdL⟩:=F3.frame;rw[hL]at hoL
 have fF3:FrF s3.heap (s.heap.objs.size::F):=⟨λb hb=>by
   rcases OT.mp hb with q|q
   ·rw[q];exact W.size
   ·exact fF.low b q,λb hb=>by
   rcases OT.mp hb with q|q
   ·rw[q];exact⟨oL,hoL,hdL⟩
   ·obtain⟨ob,e,z⟩:=fF.at_ b q;exact⟨ob,old (fF.low b q) e,z⟩,⟨_,.head _⟩⟩
 have fo':hJ s3.heap (s.heap.objs.size::F) outer:=λv hv=>by obtain⟨k,La,ob,a1,a2,a3,a4⟩:=fo v hv;exact⟨k,La,ob,a1,.tail _ a2,old (fF.low _ a2) a3,a4⟩
 have fo3:hJ s3.heap (s.heap.objs.size::F) (env::outer):=λv hv=>by
  rcases OT.mp hv with q|q
  ·rw[q];exact⟨by rw[F3.kind];decide,_,oL,by rw[hf,hL],.head _,hoL,hdL⟩
  ·exact fo' v q
 refine Jj O hK (n:=49) (L:=s.heap.objs.size) (R.deeper.le (by left)) (Around.frames_deeper hfr) fo3 (by rw[hf,hL]) fF3 (λb hb ob e=>by obtain⟨o',e',z⟩:=fF3.at_ b hb;rw[e]at e';cases e';exact z) st3.wd tk3 F3 nofun nofun nofun nofun nofun nofun LG λs4 s5 e1 e k4 W4 fo4 fF4 x5 X5 hg5 ho5=>?_
 show wpAny _ (A.deeper env) (leaving env (.ref e)) _ _ s5;unfold leaving;refine wpB (Ar (by rw[hf,hL]) X5 ?_);refine ll (fr:=none) x5 X5 λh6 x6 X6=>?_;refine hX s4 _ e1 e ?_ W4 fF4 (λv hv=>fo4 v (.tail _ hv)) x6 X6 hg5 ho5;have k5:Keep (λb=>s.heap.objs.size<=b) s.heap s4.heap:=kk.trans (k4.mono λa q=>hL▸q.2);exact⟨k5.size,λb ob _ t e=>k5.keep b ob (Nat.not_le.mpr (OF e)) t e,k5.code⟩
end
noncomputable def rfB:List Pq:=(pB "_law_refused").body
noncomputable abbrev LH:Sc:=(pB "_law_refused").names
noncomputable def rfT:Pq:=stN rfB 0
noncomputable def rfX:Pq:=stN (tB rfT) 0
noncomputable def exE(s:Pq):Pm:=aE s
noncomputable def exP(s:Pq):Pos:=aP s
noncomputable def rfC:Pm:=exE rfX
noncomputable def rfH:ExceptHandler:=(tH rfT).getD 0 noH
noncomputable def rfR:Pq:=stN (hB rfH) 0
theorem Jm:(pB "_law_refused").body=[.Try [.Expr (.Call (.Name (sx "reduce") (cF rfC).pos) [.Name (sx "_law_hop") (cA rfC 0).pos,.Name (sx "servers") (cA rfC 1).pos] [] rfC.pos) (exP rfX)] [.ExceptHandler (some (.Name (sx "TypeError") (hE rfH).pos)) none [.Return (some (.Constant (.bool true) (cK (aE rfR)) (aE rfR).pos)) (aP rfR)] (hP rfH)] [] [] (tP rfT),stN rfB 1]:=nofun
section
variable {V:Vw}{P:Pk}{A:Po}{E:Pr}{s:Pg}{env:Env}{θ:Pn}{D:Pn->Prop}
theorem te(O:V.Ok)(BK:V.Booked)(hK:V.K=KK P){F:List Pn}{outer:List Env}{vs:List Ph}{Q:Pr}(R:Room A 60)(hfr:A.frames=some outer)(fo:hJ s.heap F outer)(fF:∀b∈F,175<=b/\∃o,s.heap.get? b=some o/\∀vs,o.data≠ .fields vs)(W:Wd V s)(tk:1<=s.toks)(B:Bnd D s)(ra:RpL V.W9 θ D s.heap [.list []] vs)
  (hQ:∀(s1 s':Pg) (a b:Pn),Keep none9 s.heap s1.heap->s.heap.objs.size<=a->s.heap.objs.size<=b->Jk s1.heap (a::b::F) s'.heap->Wd V s'->Q (.bool true) s'):
  wpAny (model V.prog V.w) A (call (.ref 138) vs) Q E s:=by
 revert O BK hK R hfr fo fF W tk B ra hQ;exists V,P,A,E,s,θ,D,F,outer,vs,Q;refine jb O (l_refused.isDef hK) (dm:=[]) (n:=59) rp0 rfl rfl R W B ra rfl λenv w99 st0 tk0 hf hL hsz Fr=>?_;have tk1:=OA tk tk0;rw[show(aD (KK P) 138).scope.names=(pB "_law_refused").names from l_refused.names0 P]at Fr;change FrX V θ _ LH [(sx "servers",.list [])] env w99 at Fr;rw[Jm];have FN:FnsOk V fn0:=⟨λa k g h=>(by cases h),λa k g h=>(by cases h)⟩;have I:=l9 O BK FN (pG hK O);have n1:(me fn0 (SS spN) 50).ev LH [(sx "servers",.list [])] (.Name (sx "reduce") (cF rfC).pos)=some (.ex (.ref 102)):=nofun
 have n2:aT (me fn0 (SS spN) 50) LH [(sx "servers",.list [])] [.Name (sx "_law_hop") (cA rfC 0).pos,.Name (sx "servers") (cA rfC 1).pos]=some [.ex (.ref 131),.list []]:=nofun
 refine wpAny_execs_cons (wpAny_Try_except (wpAny_execs_cons (wpAny_Expr_any (wpAny_Call_NameR ?_) (by unfold interactive;rw[Fr.kind];rfl) rfl)));refine(I 50).ev _ _ _ _ n1 (A.deeper env) θ _ env w99 _ _ (R.deeper.le (by left)) st0.wd tk1 Fr λv s2 st2 t2 r2=>?_;cases r2;obtain⟨o,fd,ho,hd⟩:=isFn (reduce.isDef2 hK);refine callWith_function (o:=o) (fd:=fd) (bz (I 50) n2 (A.deeper env) θ _ env s2 _ _ (R.deeper.le (by left)) st2.wd t2 (Fr.st st2) λus s3 st3 t3 r3=>⟨⟨st3.wd.K _ o ho,hd⟩,?_⟩);have F3:=(Fr.st st2).st st3;obtain⟨oL,hoL,hdL⟩:=F3.frame;rw[hL]at hoL;have kk:=(st0.keep.trans st2.keep).trans st3.keep;have old:∀{b ob},175<=b->s.heap.get? b=some ob->s3.heap.get? b=some ob:=λ{b ob} l e=>kk.keep b ob (λq=>q) (aY l) e
 have fF3:FrF s3.heap (s.heap.objs.size::F):=⟨λb hb=>by
   rcases OT.mp hb with q|q
   ·rw[q];exact W.size
   ·exact(fF b q).1,λb hb=>by
   rcases OT.mp hb with q|q
   ·rw[q];exact⟨oL,hoL,hdL⟩
   ·obtain⟨l,ob,e,z⟩:=fF b q;exact⟨ob,old l e,z⟩,⟨_,.head _⟩⟩
 have fo3:hJ s3.heap (s.heap.objs.size::F) (env::outer):=λv hv=>by
  rcases OT.mp hv with q|q
  ·rw[q];exact⟨by rw[F3.kind];decide,_,oL,by rw[hf,hL],.head _,hoL,hdL⟩
  ·obtain⟨k,La,ob,a1,a2,a3,a4⟩:=fo v q;exact⟨k,La,ob,a1,.tail _ a2,old (fF _ a2).1 a3,a4⟩
 have hz:s.heap.objs.size<=s3.heap.objs.size:=kk.size;refine Fi O BK hK (R.deeper.le (by left)) (Around.frames_deeper hfr) fo3 fF3 st3.wd t3 F3.bnd r3 λs4 s5 e1 e k4 W4 fF4 fo4 x5 X5 hg5 ho5=>?_;show wpAny _ (A.deeper env) (noteFrame (.ref e) env) _ _ s5;refine As (Around.frames_deeper hfr) fo4 (by rw[hf,hL]) x5 X5 (LF fF4 X5.new) λh6 x6 X6=>?_;refine ll (fr:=none) x6 X6 λh7 x7 X7=>?_;refine wpAny_handleBy_builtin (X:="TypeError") (T:="TypeError") (b:=true) excRaise_TypeError.isExc meta_type Fe ?_;refine pH hK (Wd.jk O W4 fF4 x7 hg5 ho5) ⟨Fr.kind,Fr.glob,Fr.bi⟩ (Fr.scg _ nofun) (kG P) iW (by left) (by left) ?_;refine⟨rfl,X7.there,?_⟩;rw[if_pos rfl];refine ll (fr:=none) x7 X7 λh8 x8 X8=>?_;refine wpAny_execs_cons (wpAny_Return_some ?_);refine wpAny_Constant_bool ?_;exact hQ s4 _ _ _ (kk.trans k4) hz (OP _) x8 (Wd.jk O W4 fF4 x8 hg5 ho5)
end
end
section
noncomputable def mY(d k:Nat):List Nat:=List.replicate d 46++sfx k
def inD(n:Nat)(r:List Nat):Prop:=∃d k,d<=n/\k<4/\r=mY d k
theorem four(h:k<4):k=0\/k=1\/k=2\/k=3:=cs4 k h
theorem Fj(h:k<4):(sfx k).head?≠some 46:=by rcases four h with rfl|rfl|rfl|rfl<;>decide
theorem Bp(h:k<4):((mY d k).head?==some 46)=decide (0<d):=by
 cases d with
 |zero=>have:=Fj h;have e:mY 0 k=sfx k:=rfl;rw[e];simpa using this
 |succ d=>rfl
theorem zK(h:inD n r)(c:Bool):inD (n+(if c then 1 else 0)) (aV c r):=by
 obtain⟨d,k,h1,h2,rfl⟩:=h;unfold aV;rw[Bp h2];cases c with
 |false=>exact⟨d,k,h1,h2,rfl⟩
 |true=>
  cases d with
  |zero=>exact⟨0,k,Nat.zero_le _,h2,rfl⟩
  |succ d=>exact⟨d+2,k,by simp;omega,h2,rfl⟩
theorem v5(h:inD n r)(hm:n<=m):inD m r:=by obtain⟨d,k,a,b,c⟩:=h;exact⟨d,k,OA a hm,b,c⟩
theorem LI(h:k<4):(∀c∈sfx k,aH c)/\(sfx k).length<=2:=by
 rcases four h with rfl|rfl|rfl|rfl
 ·exact⟨λc hc=>(by cases hc),by left⟩
 ·exact⟨λc hc=>by rw[List.mem_singleton.mp hc];exact .inr (.inl rfl),by left⟩
 ·exact⟨λc hc=>by rcases OT.mp hc with e|e;(rw[e];exact .inr (.inl rfl));rw[List.mem_singleton.mp e];exact .inr (.inr rfl),by left⟩
 ·exact⟨λc hc=>by rw[List.mem_singleton.mp hc];exact .inr (.inr rfl),by left⟩
theorem g4(h:inD n r):(∀c∈r,aH c)/\r.length<=n+2:=by
 obtain⟨d,k,h1,h2,rfl⟩:=h;obtain⟨s1,s2⟩:=LI h2;refine⟨λc hc=>?_,?_⟩
 ·rcases List.mem_append.mp hc with q|q
  ·exact .inl (List.eq_of_mem_replicate q)
  ·exact s1 c q
 ·unfold mY;rw[List.length_append,List.length_replicate];lia
theorem Bq(h:k<4):lead (mY d k)=d:=by
 unfold lead mY;induction d with
 |zero=>rcases four h with rfl|rfl|rfl|rfl<;>rfl
 |succ d ih=>show((46::(List.replicate d 46++sfx k)).takeWhile (·==46)).length=d+1;rw[List.takeWhile_cons_of_pos (by rfl),List.length_cons,ih]
theorem tj(h:∀c∈r,aH c):jO r:=λc hc=>by rcases h c hc with rfl|rfl|rfl<;>rfl
theorem v7(r:List Nat):dbl r=aV true r:=by
 unfold dbl aV
 by_cases h:r.head?=some 46
 ·rw[if_pos h];simp [h]
 ·rw[if_neg h];have:(r.head?==some 46)=false:=by simpa using h
  simp [this]
theorem Br(r:List Nat):cW (dbl r)=r:=by
 unfold dbl
 by_cases h:r.head?=some 46
 ·rw[if_pos h];rfl
 ·rw[if_neg h];exact if_neg h
theorem v8(c:Bool)(rs:List (List Nat)):gW c (rs.map dbl)=rs.map (aV c):=by
 cases c with
 |true=>exact List.map_congr_left λr _=>v7 r
 |false=>
  show(rs.map dbl).map cW=_;rw[List.map_map];refine List.map_congr_left λr _=>?_;show cW (dbl r)=aV false r;rw[Br]
  rfl
theorem v9(h:gh L)(hn:∀u∈L.map (·.1),jO u):bV (ah (bP L))=ah (ay (L.map (·.1)))/\eD (bV (ah (bP L)))=ah (ay ((L.map (·.1)).map dbl))/\cC (ah (bP L))=(L.map (·.1)).map dbl:=by
 have e1:bV (ah (bP L))=ah (ay (L.map (·.1))):=xC h;have e2:eD (bV (ah (bP L)))=ah (ay ((L.map (·.1)).map dbl)):=by rw[e1];exact xD hn
 refine⟨e1,e2,?_⟩
 have hd:∀u∈(L.map (·.1)).map dbl,jO u:=λu hu=>by
  obtain⟨v,hv,rfl⟩:=OS.mp hu;unfold dbl;split
  ·exact λc hc=>(OT.mp hc).elim (λe=>by rw[e];rfl) (hn v hv c)
  ·exact hn v hv
 unfold cC;rw[e2,show ah (ay ((L.map (·.1)).map dbl))=⟨(ay ((L.map (·.1)).map dbl)).toArray⟩ from rfl,xF hd,List.dropLast_concat,List.map_map];have:(λu:List Nat=>(Str.mk u.toArray).cps.toList)=id:=by funext u;simp
 show List.map (λu:List Nat=>(Str.mk u.toArray).cps.toList) _=_;rw[this,List.map_id]
noncomputable def pI(a:Nat):Bool:=(List.range 6).all λb=>(List.range 6).all λc=>(List.range 9).all λd=>(List.range 4).all λk=>fP (mY d k) (mW [a,b,c])==bD [a,b,c] (mY d k)
theorem fg0:pI 0=true:=by right
theorem fg1:pI 1=true:=by right
theorem fg2:pI 2=true:=by right
theorem fg3:pI 3=true:=by right
theorem fg4:pI 4=true:=by right
theorem fg5:pI 5=true:=by right
theorem Bs(ha:a<6)(hb:b<6)(hd:d<6)(hr:inD n r)(hn:n<=8):fP r (mW [a,b,d])=bD [a,b,d] r:=by
 obtain⟨e,k,h1,h2,rfl⟩:=hr
 have h:pI a=true:=by
  have:=cs6 a (by assumption);rcases this with rfl|rfl|rfl|rfl|rfl|rfl
  ·exact fg0
  ·exact fg1
  ·exact fg2
  ·exact fg3
  ·exact fg4
  ·exact fg5
 have h:=OQ.mp (OQ.mp (OQ.mp (OQ.mp h b (List.mem_range.mpr hb)) d (List.mem_range.mpr hd)) e (List.mem_range.mpr (by lia))) k (List.mem_range.mpr h2);exact eq_of_beq h
noncomputable def iX(s:Srv)(rs:List (List Nat)):List (List Nat):=(rs.map (aV s.c)).filter λr=> !bD s.p r
noncomputable def kH(ss:List Srv)(r:List Nat):Pj (List Nat):=if(ss.foldl eV (r,true)).2 then some (ss.foldl eV (r,true)).1 else none
noncomputable def eF(ss:List Srv)(rs:List (List Nat)):List (List Nat):=rs.filterMap (kH ss)
theorem pJ:∀(ss:List Srv) (r:List Nat),(ss.foldl eV (r,false)).2=false
 | [],_=>rfl
 |s::ss,r=>by show(ss.foldl eV (aV s.c r,false&&_)).2=false;rw[Bool.false_and];exact pJ ss _
theorem fE(s:Srv)(ss:List Srv):∀rs:List (List Nat),eF (s::ss) rs=eF ss (iX s rs)
 | []=>rfl
 |r::rs=>by
  have ih:=fE s ss rs;unfold eF iX at*;rw[List.filterMap_cons,List.map_cons]
  have e:kH (s::ss) r=if bD s.p (aV s.c r) then none else kH ss (aV s.c r):=by
   unfold kH;show(if(ss.foldl eV (aV s.c r,true&& !bD s.p (aV s.c r))).2 then some (ss.foldl eV (aV s.c r,true&& !bD s.p (aV s.c r))).1 else none)=_;rw[Bool.true_and];cases bD s.p (aV s.c r) with
   |true=>rw[Bool.not_true,pJ];rfl
   |false=>rfl
  rw[e];cases hg:bD s.p (aV s.c r) with
  |true=>rw[List.filter_cons_of_neg (by rw[hg];decide),if_pos rfl];exact ih
  |false=>rw[List.filter_cons_of_pos (by rw[hg];rfl),if_neg (by left),List.filterMap_cons,ih]
theorem lP(rs:List (List Nat)):eF [] rs=rs:=by
 unfold eF;have:kH []=some:=by funext r;rfl
 rw[this,List.filterMap_some]
theorem yA(xs:List Int)(ss:List Srv):iP xs ss=eF ss (xs.map eW):=by
 unfold iP eF;rw[List.filterMap_map]
 rfl
theorem tl(h:∀r∈rs,inD n r):∀r∈iX s rs,inD (n+if s.c then 1 else 0) r:=λr hr=>by obtain⟨q,hq,rfl⟩:=OS.mp (List.mem_filter.mp hr).1;exact zK (h q hq) s.c
theorem Bt(s:Srv)(rs:List (List Nat)):(iX s rs).length<=rs.length:=by unfold iX;exact OA (List.length_filter_le _ _) (by rw[List.length_map];exact OP _)
noncomputable abbrev fX(e:List Nat)(rs:List (List Nat)):List (List Nat×List Nat):=rs.map λr=>(r,e)
theorem Fl(e:List Nat)(rs:List (List Nat)):bP (fX e rs)=rs.flatMap (·++e):=by unfold bP;rw[List.flatMap_map]
theorem tu(he:iI e):∀{rs:List (List Nat)},(∀r∈rs,∀c∈r,aH c)->gh (fX e rs)
 | [],_=>trivial
 |r::rs,h=>by
  refine⟨tj (h r (.head _)),he,?_,tu he λq hq=>h q (.tail _ hq)⟩
  rintro (rfl:e=[13])
  cases rs with
  |nil=>simp [bP]
  |cons q rs=>
   show(q++[13]++bP (fX [13] rs)).head?≠some 10;cases q with
   |nil=>simp
   |cons c q=>have:=h (c::q) (by simp) c (.head _);rcases this with rfl|rfl|rfl<;>simp
theorem kI(e:List Nat)(rs:List (List Nat)):(fX e rs).map (·.1)=rs:=by rw[List.map_map];exact List.map_id _
theorem ri(h:∀u∈us,u.length<=k):(ay us).length<=us.length*(k+2):=by
 induction us with
 |nil=>simp [ay]
 |cons u us ih=>
  have h1:=ih λv hv=>h v (.tail _ hv);have h2:=h u (.head _);have e:(ay (u::us)).length=u.length+2+(ay us).length:=by rw[dB];simp;lia
  rw[e,show(u::us).length=us.length+1 from rfl,Nat.add_one_mul];lia
theorem Fm(h:∀p∈L,p.1.length<=k/\p.2.length<=2):(bP L).length<=L.length*(k+2):=by
 induction L with
 |nil=>simp [bP]
 |cons p L ih=>
  have h1:=ih λv hv=>h v (.tail _ hv);have h2:=h p (.head _);have e:(bP (p::L)).length=p.1.length+p.2.length+(bP L).length:=by simp [bP];lia
  rw[e,show(p::L).length=L.length+1 from rfl,Nat.add_one_mul];lia
theorem mC:∀{L:List (List Nat×List Nat)},gh L->∀p∈L,p.2.length<=2
 |q::L,h,p,hp=>by
  rcases OT.mp hp with e|hp
  ·rw[e];rcases h.2.1 with q|q|q<;>rw[q]<;>decide
  ·exact mC h.2.2.2 p hp
theorem Jn(h:∀i∈[a,b,d],i<6):oW [.str x,aS ⟨c,e,[a,b,d]⟩]=if x.length<=1000/\(bV x).length<=3000/\(eD (bV x)).length<=5000/\jP (cC x)=true/\e.length<=2 then some (.str (ah (lJ e.cps.toList (mW [a,b,d]) (gW c (cC x))))) else none:=by have q:D1 [.str x,aS ⟨c,e,[a,b,d]⟩]=some (x,c,e,[a,b,d]):=bnd rfl (bnd rfl (bnd rfl (bnd rfl (bnd rfl (ON (Option.map _) (sC h))))));exact bnd q rfl
theorem Fn(h:gh L)(hD:∀r∈L.map (·.1),inD n r)(hn:n+(if s.c then 1 else 0)<=8)(hl:L.length<=20)(so:eS s)(he:s.e.length<=2):oW [.str (ah (bP L)),aS s]=some (.str (ah (bP (fX s.e.cps.toList (iX s (L.map (·.1))))))):=by
 obtain⟨c,e,is⟩:=s;obtain⟨a,b,d,rfl⟩:=CZ so.1;have ha:=so.2 a (by simp);have hb:=so.2 b (by simp);have hd:=so.2 d (by simp);have hc:∀u∈L.map (·.1),jO u:=λu hu=>tj (g4 (hD u hu)).1;obtain⟨e1,e2,e3⟩:=v9 h hc;have n8:n<=8:=by lia
 have l1:(ah (bP L)).length<=1000:=by rw[eI];have:=Fm (L:=L) (k:=10) λp hp=>⟨OA (g4 (hD p.1 (List.mem_map_of_mem hp))).2 (by lia),mC h p hp⟩;lia
 have l2:(bV (ah (bP L))).length<=3000:=by rw[e1,eI];have:=ri (us:=L.map (·.1)) (k:=10) λu hu=>OA (g4 (hD u hu)).2 (by lia);rw[List.length_map]at this;lia
 have dl:∀u∈(L.map (·.1)).map dbl,u.length<=11/\∀c∈u,aH c:=λu hu=>by obtain⟨v,hv,rfl⟩:=OS.mp hu;obtain⟨o1,o2⟩:=g4 (hD v hv);obtain⟨g1,g2⟩:=oZ (c:=true) o1;rw[v7];exact⟨by lia,g1⟩
 have l3:(eD (bV (ah (bP L)))).length<=5000:=by rw[e2,eI];have:=ri (us:=(L.map (·.1)).map dbl) (k:=11) λu hu=>(dl u hu).1;rw[List.length_map,List.length_map]at this;lia
 have l4:jP (cC (ah (bP L)))=true:=by rw[e3];unfold jP;rw[Bool.and_eq_true,decide_eq_true_eq,List.all_eq_true];refine⟨by rw[List.length_map,List.length_map];lia,λu hu=>jN (dl u hu).2 (OA (dl u hu).1 (by left))⟩
 refine(Jn so.2).trans ((if_pos ⟨l1,l2,l3,l4,he⟩).trans ?_);dsimp only;rw[e3,v8,Fl];unfold lJ iX
 congr 4
 refine List.filter_congr λr hr=>?_;obtain⟨q,hq,rfl⟩:=OS.mp hr;rw[Bs ha hb hd (zK (hD q hq) c) hn]
noncomputable def iY(ss:List Srv):Nat:=(ss.map λs=>if s.c then 1 else 0).sum
noncomputable def kJ:List Srv->List Nat
 | []=>[]
 | [s]=>s.e.cps.toList
 |_::ss=>kJ ss
theorem lQ:∀(ss:List Srv) (s:Srv) (L:List (List Nat×List Nat)) (n:Nat),gh L->(∀r∈L.map (·.1),inD n r)->n+iY (s::ss)<=8->L.length<=20->(∀q∈s::ss,eS q/\iI q.e.cps.toList)->
  cE (.str (ah (bP L))) ((s::ss).map aS)=some (.str (ah (bP (fX (kJ (s::ss)) (eF (s::ss) (L.map (·.1)))))))
 |ss,s,L,n,h,hD,hn,hl,so=>by
  obtain⟨s1,s2⟩:=so s (.head _)
  have he:s.e.length<=2:=by
   have:s.e.cps.toList.length<=2:=by rcases s2 with q|q|q<;>rw[q]<;>decide
   simpa [Str.length]using this
  have cn:iY (s::ss)=(if s.c then 1 else 0)+iY ss:=by simp [iY]
  have st:=Fn h hD (by lia) hl s1 he;show(oW [.str (ah (bP L)),aS s]).bind (λu=>cE u (ss.map aS))=_;rw[st,Option.bind_some,fE];cases ss with
  |nil=>rw[lP];rfl
  |cons q ss=>
   have ih:=lQ ss q (fX s.e.cps.toList (iX s (L.map (·.1)))) (n+if s.c then 1 else 0) (tu s2 λr hr=>(g4 (tl hD r hr)).1) (by rw[kI];exact tl hD) (by lia) (by rw[List.length_map];exact OA (Bt _ _) (by rw[List.length_map];exact hl)) (λv hv=>so v (.tail _ hv));rw[ih,kI]
   rfl
noncomputable def iZ:Fns:=⟨λa=>if a=109 then some (21,sq) else if a=114 then some (21,Dl) else if a=102 then some (201,sL) else if a=155 then some (201,o5) else none⟩
noncomputable abbrev ak:Sc:=(pB "law").names
noncomputable def lwB:List Pq:=(pB "law").body
noncomputable abbrev lwP(n:Nat):P:=me iZ (SS spN) n
noncomputable def lwE(i:Nat):Pm:=aE (stN lwB i)
noncomputable def pK:List Int:=[5,12,14,8,1,0,11,9,3,6]
noncomputable def Fo:List Int:=[1167,54,869,146]
noncomputable def hOf(x:Int):Int:=197*x+65
noncomputable def ix6(i:Int):Nat:=(i%6).toNat
noncomputable def dG(h:Int):Srv:=⟨h%2==1,Hw (h/2%3).toNat,[ix6 (h/6 ^ 1),ix6 (h/6 ^ 2),ix6 (h/6 ^ 3)]⟩
theorem LJ(i:Int):ix6 i<6:=by obtain⟨n,h,e⟩:=mi i 6 (by left);unfold ix6;rw[show i%6=n from e];exact h
theorem fG(h:Int):eS (dG h)/\iI (dG h).e.cps.toList:=by
 refine⟨⟨rfl,λi hi=>?_⟩,?_⟩
 ·simp only [dG,List.mem_cons,List.not_mem_nil,or_false]at hi;rcases hi with rfl|rfl|rfl<;>exact LJ _
 ·show iI (Hw (h/2%3).toNat).cps.toList;obtain⟨n,l,e⟩:=mi (h/2) 3 (by left);rw[show h/2%3=n from e];rcases cs3 n l with rfl|rfl|rfl
  ·exact .inl (by right)
  ·exact .inr (.inl (by right))
  ·exact .inr (.inr (by right))
noncomputable def eO(l:List Int):MV:= .list (l.map .int)
theorem wa(a b:List Int)(h:a.length+b.length<=1000):ib .Add (eO a) (eO b)=some (eO (a++b)):=by show(if aa (a.map .int)&&aa (b.map .int)&&decide ((a.map MV.int).length+(b.map MV.int).length<=1000) then some (MV.list (a.map .int++b.map .int)) else none)=_;rw[bh,bh,if_pos (by simpa using h)];unfold eO;rw[List.map_append]
theorem Bu{α:Type}{l:List α}(k:Nat):de l none (some (k:Int))=l.take k:=by
 have h1:kms_lo none l.length=0:=by unfold kms_lo;rfl
 have h2:kms_hi (some (k:Int)) l.length=min k l.length:=by unfold kms_hi;simp;intro h;lia
 unfold de;rw[h1,h2,List.drop_zero,Nat.sub_zero]
 by_cases h:k<=l.length
 ·rw[Nat.min_eq_left h]
 ·rw[Nat.min_eq_right (by lia),List.take_of_length_le (Nat.le_refl _),List.take_of_length_le (by lia)]
theorem g5{l:List MV}(k:Nat)(hp:aa l=true)(hz:l.length<=1000):dh (.list l) none (some (k:Int))=some (.list (l.take k)):=by show(if aa l&&decide (l.length<=1000) then some (MV.list (de l none (some (k:Int)))) else none)=_;rw[hp,if_pos (by simpa using hz),Bu]
theorem yB{l:List MV}(k:Nat)(hk:k<=l.length)(hp:aa l=true)(hz:l.length<=1000):dh (.list l) (some (k:Int)) none=some (.list (l.drop k)):=by show(if aa l&&decide (l.length<=1000) then some (MV.list (de l (some (k:Int)) none)) else none)=_;rw[hp,if_pos (by simpa using hz),lE hk]
section
variable (xs:List Int)
noncomputable abbrev lw0:Rho:=[(sx "script",eO xs)]
noncomputable def nums:List Int:=pK++xs.take 3
noncomputable def hs:List Int:=Fo++(xs.take 3).map hOf
noncomputable def dI:List Srv:=(hs xs).map dG
noncomputable abbrev lw1:Rho:=ae (lw0 xs) (sx "numbers") (eO (nums xs))
noncomputable abbrev lw2:Rho:=ae (lw1 xs) (sx "servers") (.list ((dI xs).map aS))
theorem take3(h:xs.length<=63):dh (eO xs) none (some ((3:Nat):Int))=some (eO (xs.take 3)):=by have:=g5 (l:=xs.map .int) 3 (bh _) (by rw[List.length_map];lia);rw[<-List.map_take]at this;exact this
theorem LK(h:xs.length<=63):ib .Add (eO pK) (eO (xs.take 3))=some (eO (nums xs)):=wa _ _ (by have:=List.length_take_le 3 xs;show 10+_<=1000;lia)
theorem Fp(h:xs.length<=63):(lwP 398).ev ak (lw0 xs) (bR (lwE 0))=some (eO (xs.take 3)):=by
 have a2:(lwP 397).ev ak (lw0 xs) (.Name (sx "script") (bL (bR (lwE 0))).pos)=some (eO xs):=nofun
 have a3:(lwP 397).ev ak (lw0 xs) (sHi (bR (bR (lwE 0))))=some (.int ((3:Nat):Int)):=nofun
 have a4:=cj ag (q:=(bR (bR (lwE 0))).pos) (q':=(bR (lwE 0)).pos) a2 bJ (bb a3) (take3 xs h);exact a4
end
section
variable (xs:List Int)
noncomputable def eY:Pm:=lwE 1
noncomputable def Bv:Pm:=gI (au eY)
noncomputable def bE:Pm:=bR Bv
theorem Fq:lwE 1=bU eY (sx "h"):=nofun
theorem Fs:Bv= .BinOp (bL Bv) .Add (bU bE (sx "x")) Bv.pos:=nofun
theorem wb:gF (au eY)=[]/\gF (au bE)=[]:=⟨nofun,nofun⟩
noncomputable def mE:Pm:=gI (au bE)
theorem Bw:mE= .Subscript (.Name (sx "script") (bL mE).pos) (.Slice none (some (sHi (bR mE))) none (bR mE).pos) mE.pos:=nofun
theorem Bx:aw bE= .BinOp (.BinOp (bL (bL (aw bE))) .Mult (.Name (sx "x") (bR (bL (aw bE))).pos) (bL (aw bE)).pos) .Add (bR (aw bE)) (aw bE).pos:=nofun
noncomputable def fH:MV->Int
 | .int i=>i
 |_=>0
theorem lR(l:List Int):(some (eO l)).bind aM=some (l.map .int):=by show(if aa (l.map MV.int) then some (l.map MV.int) else none)=_;rw[bh,if_pos (Eq.refl true)]
theorem M1(h:xs.length<=63):dj (lwP 396) ak (lw1 xs) (aw bE) (cSc bE) [⟨.Name (sx "x") (gP (au bE)),gI (au bE),gF (au bE),0⟩]=some (eO ((xs.take 3).map hOf)):=by
 rw[wb.2];have a2:(lwP 395).ev ak (lw1 xs) (.Name (sx "script") (bL mE).pos)=some (eO xs):=nofun
 have a3:(lwP 395).ev ak (lw1 xs) (sHi (bR mE))=some (.int ((3:Nat):Int)):=nofun
 have hit:((lwP 396).ev ak (lw1 xs) (gI (au bE))).bind aM=some ((xs.take 3).map .int):=by rw[show gI (au bE)=mE from rfl,Bw,cj ag a2 bJ (bb a3) (take3 xs h),lR]
 have:=fO (f:=λv=> .int (hOf (fH v))) (keep:=λ_=>true) hit (by symm:aK ak (cSc bE)=true) (by symm:(cSc bE).names.lookup (sx "x")=some .local) nofun (ifs:=[]) (elt:=aw bE) (px:=gP (au bE)) (λv hv=>⟨rfl,λ_=>⟨?_,rfl⟩⟩) (by rw[List.length_map];have:=List.length_take_le 3 xs;lia)
 ·rw[this,filter_all,List.map_map];unfold eO;rw[List.map_map]
  rfl
 ·obtain⟨x,_,rfl⟩:=OS.mp hv;rw[Bx];have b1:(lwP 394).ev (cSc bE).names (ae (ao (cSc bE) (lw1 xs)) (sx "x") (.int x)) (bL (bL (aw bE)))=some (.int 197):=nofun
  have b2:(lwP 394).ev (cSc bE).names (ae (ao (cSc bE) (lw1 xs)) (sx "x") (.int x)) (.Name (sx "x") (bR (bL (aw bE))).pos)=some (.int x):=nofun
  have b3:(lwP 395).ev (cSc bE).names (ae (ao (cSc bE) (lw1 xs)) (sx "x") (.int x)) (bR (aw bE))=some (.int 65):=nofun
  exact dM ag (dM ag b1 b2 (show ib .Mult (.int 197) (.int x)=some (.int (197*x)) by symm)) b3 rfl
theorem yC(h:xs.length<=63):dj (lwP 398) ak (lw1 xs) (aw eY) (cSc eY) [⟨.Name (sx "h") (gP (au eY)),gI (au eY),gF (au eY),0⟩]=some (.list ((dI xs).map aS)):=by
 rw[wb.1];have a1:(lwP 397).ev ak (lw1 xs) (bL Bv)=some (eO Fo):=nofun
 have a2:(lwP 397).ev ak (lw1 xs) (bU bE (sx "x"))=some (eO ((xs.take 3).map hOf)):=(cB rfl).trans (M1 xs h)
 have hl:(hs xs).length<=7:=by unfold hs;rw[List.length_append,List.length_map];have:=List.length_take_le 3 xs;show 4+_<=7;lia
 have hit:((lwP 398).ev ak (lw1 xs) (gI (au eY))).bind aM=some ((hs xs).map .int):=by
  rw[show gI (au eY)=Bv from rfl,Fs,dM ag a1 a2 (wa _ _ (by rw[List.length_map];have:=List.length_take_le 3 xs;show 4+_<=1000;lia)),lR]
  rfl
 have:=fO (f:=λv=>MC (fH v)) (keep:=λ_=>true) hit (by symm:aK ak (cSc eY)=true) (by symm:(cSc eY).names.lookup (sx "h")=some .local) nofun (ifs:=[]) (elt:=aw eY) (px:=gP (au eY)) (λv hv=>⟨rfl,λ_=>⟨?_,rfl⟩⟩) (by rw[List.length_map];lia)
 ·rw[this,filter_all,List.map_map];unfold dI;rw[List.map_map]
  rfl
 ·obtain⟨x,_,rfl⟩:=OS.mp hv;have e:aw eY= .Call (.Name (sx "_law_server") (cF (aw eY)).pos) [.Name (sx "h") (cA (aw eY) 0).pos] [] (aw eY).pos:=nofun
  rw[e];have b1:(lwP 397).ev (cSc eY).names (ae (ao (cSc eY) (lw1 xs)) (sx "h") (.int x)) (.Name (sx "_law_server") (cF (aw eY)).pos)=some (.ex (.ref 114)):=nofun
  have b2:(lwP 397).ev (cSc eY).names (ae (ao (cSc eY) (lw1 xs)) (sx "h") (.int x)) (.Name (sx "h") (cA (aw eY) 0).pos)=some (.int x):=nofun
  exact bq ag b1 (cH rfl b2) (show iZ.f 114=some (21,Dl) by symm) (by left) rfl rfl
theorem M3(h:xs.length<=63):bo (lwP 399) false ak (lw1 xs) (sx "servers") (aQ (stN lwB 1)).line (lwE 1)=some (lw2 xs):=by rw[Fq];refine jd nofun (λq=>O8 q.1 (by right)) ((cB rfl).trans (yC xs h)) (bc _)
end
section
variable (xs:List Int)
noncomputable def gm(x:Int):List Nat:=if x%2=1 then [13,10] else [10]
noncomputable def kK:List (List Nat×List Nat):=(nums xs).map λx=>(eW x,gm x)
noncomputable abbrev kL:Str:=ah (bP (kK xs))
noncomputable abbrev lw3:Rho:=ae (lw2 xs) (sx "mail") (.str (kL xs))
noncomputable def hW:Pm:=cA (lwE 2) 0
noncomputable def eP:Pm:=aw hW
theorem Ft:lwE 2= .Call (.Attribute (bL (cF (lwE 2))) (sx "join") (cF (lwE 2)).pos) [bU hW (sx "x")] [] (lwE 2).pos:=nofun
theorem Fu:eP= .BinOp (.Call (.Name (sx "_law_row") (cF (bL eP)).pos) [.Name (sx "x") (cA (bL eP) 0).pos] [] (bL eP).pos) .Add (.IfExp (.Compare (.BinOp (.Name (sx "x") (bL (bL (ifT (bR eP)))).pos) .Mod (bR (bL (ifT (bR eP)))) (bL (ifT (bR eP))).pos) [.Eq] [bR (ifT (bR eP))] (ifT (bR eP)).pos) (ifB (bR eP)) (ifO (bR eP)) (bR eP).pos) eP.pos:=nofun
theorem Fv:gF (au hW)=[]:=nofun
noncomputable abbrev yD(x:Int):Rho:=ae (ao (cSc hW) (lw2 xs)) (sx "x") (.int x)
theorem gH:(nums xs).length<=13:=by unfold nums;rw[List.length_append];have:=List.length_take_le 3 xs;show 10+_<=13;lia
theorem Jo(x:Int):lz x=ah (eW x):=by unfold eW ah;rfl
theorem wc(x:Int):(gm x).length<=2:=by unfold gm;split<;>decide
theorem Jp(x:Int):(lwP 397).ev (cSc hW).names (yD xs x) eP=some (.str (ah (eW x++gm x))):=by
 rw[Fu];have b1:(lwP 395).ev (cSc hW).names (yD xs x) (.Name (sx "_law_row") (cF (bL eP)).pos)=some (.ex (.ref 109)):=nofun
 have b2:(lwP 395).ev (cSc hW).names (yD xs x) (.Name (sx "x") (cA (bL eP) 0).pos)=some (.int x):=nofun
 have b3:=bq ag (pos:=(bL eP).pos) b1 (cH rfl b2) (show iZ.f 109=some (21,sq) by symm) (by left) rfl (show sq [.int x]=some (.str (lz x)) from rfl);have c1:(lwP 393).ev (cSc hW).names (yD xs x) (.Name (sx "x") (bL (bL (ifT (bR eP)))).pos)=some (.int x):=nofun
 have c2:(lwP 393).ev (cSc hW).names (yD xs x) (bR (bL (ifT (bR eP))))=some (.int 2):=nofun
 have c3:=dM ag (q:=(bL (ifT (bR eP))).pos) c1 c2 (show ib .Mod (.int x) (.int 2)=some (.int (x%2)) by symm);have c4:(lwP 394).ev (cSc hW).names (yD xs x) (bR (ifT (bR eP)))=some (.int 1):=nofun
 have c5:=en (q:=(ifT (bR eP)).pos) nofun c3 c4 (show fL .Eq (.int (x%2)) (.int 1)=some (x%2==1) by rfl)
 have c6:(lwP 395).ev (cSc hW).names (yD xs x) (if(x%2==1) then ifB (bR eP) else ifO (bR eP))=some (.str (ah (gm x))):=by
  unfold gm
  by_cases h:x%2=1
  ·rw[h];symm
  ·rw[if_neg h,show(x%2==1)=false from beq_eq_false_iff_ne.mpr h];symm
 have c7:=xJ ag (q:=(bR eP).pos) c5 c6;have:=add_str (r:=eW x) (e:=ah (gm x)) (by have:=(nh x).2;lia) (by rw[eI];have:=wc x;lia);rw[Jo]at b3;rw[show(ah (gm x)).cps.toList=gm x by simp [ah]]at this;exact dM ag b3 c7 this
theorem Fw:(⟨(cat ((nums xs).map λx=>ah (eW x++gm x))).toArray⟩:Str)=kL xs:=by
 show _=ah (bP (kK xs));unfold bP kK ah
 congr 2
 rw[List.flatMap_def,List.map_map,cat,List.flatMap_def,List.map_map]
 rfl
theorem Fx:bF ((nums xs).map λx=>ah (eW x++gm x))<=16777216:=by
 have hn:=gH xs
 have:=sumLen_le (l:=(nums xs).map λx=>eW x++gm x) (k:=7) (λr hr=>by obtain⟨q,hq,rfl⟩:=OS.mp hr;have h1:=(nh q).2;have h2:=wc q;rw[List.length_append];lia)
 rw[List.map_map,List.length_map]at this;refine OA this ?_;lia
theorem Jq:(lwP 399).ev ak (lw2 xs) (lwE 2)=some (.str (kL xs)):=by
 rw[Ft];have a1:(lwP 398).ev ak (lw2 xs) (bL (cF (lwE 2)))=some (.str (sx "")):=nofun
 have hn:=gH xs;have e1:(lwP 397).ev ak (lw2 xs) (gI (au hW))=some (eO (nums xs)):=nofun
 have hit:((lwP 397).ev ak (lw2 xs) (gI (au hW))).bind aM=some ((nums xs).map .int):=by rw[e1,lR]
 have hc:=fO (f:=λv=> .str (ah (eW (fH v)++gm (fH v)))) (keep:=λ_=>true) hit (by symm:aK ak (cSc hW)=true) (by symm:(cSc hW).names.lookup (sx "x")=some .local) nofun (ifs:=[]) (elt:=aw hW) (px:=gP (au hW)) (λv hv=>⟨rfl,λ_=>⟨by obtain⟨x,_,rfl⟩:=OS.mp hv;exact Jp xs x,rfl⟩⟩) (by rw[List.length_map];lia)
 rw[filter_all,List.map_map]at hc
 have a2:(lwP 398).ev ak (lw2 xs) (bU hW (sx "x"))=some (.list ((nums xs).map λx=>MV.str (ah (eW x++gm x)))):=by refine(cB rfl).trans ?_;rw[Fv];exact hc
 have hm:=ng (S:=SS spN) (a:= .list ((nums xs).map λx=>MV.str (ah (eW x++gm x)))) rfl (strs_map (λx=>ah (eW x++gm x)) _) (Fx xs);exact fR ag nofun a1 (cH nofun a2) (hm.trans (ON (λy=>some (MV.str y)) (Fw xs)))
theorem M4:bo (lwP 399) false ak (lw2 xs) (sx "mail") (aQ (stN lwB 2)).line (lwE 2)=some (lw3 xs):=
 km nofun nofun (Jq xs) rfl
end
theorem rj:∀(a b:List Srv) (rs:List (List Nat)),eF (a++b) rs=eF b (eF a rs)
 | [],b,rs=>by rw[lP];rfl
 |s::a,b,rs=>by rw[List.cons_append,fE,fE,rj a b]
theorem g6(s:Srv)(ss:List Srv):iY (s::ss)=(if s.c then 1 else 0)+iY ss:=by simp [iY]
theorem we:∀ss:List Srv,iY ss<=ss.length
 | []=>OP _
 |s::ss=>by rw[g6,List.length_cons];have:=we ss;split<;>lia
theorem tv:∀(ss:List Srv) {n:Nat} {rs:List (List Nat)},(∀r∈rs,inD n r)->∀r∈eF ss rs,inD (n+iY ss) r
 | [],n,rs,h=>by rw[lP];exact h
 |s::ss,n,rs,h=>by rw[fE,g6,<-Nat.add_assoc];exact tv ss (tl h)
theorem rm(ss:List Srv)(rs:List (List Nat)):(eF ss rs).length<=rs.length:=List.length_filterMap_le _ _
theorem LL(x:Int):inD 3 (eW x):=by
 refine⟨(x%4).toNat,(x/4%4).toNat,by lia,by lia,?_⟩;unfold eW lz rowOf mY
 rfl
section
variable (xs:List Int)
noncomputable def srA:List Srv:=[dG 1167,dG 54]
noncomputable def srB:List Srv:=dG 869::dG 146::(xs.take 3).map λx=>dG (hOf x)
theorem eZ:dI xs=srA++srB xs:=by
 unfold dI hs srB;rw[List.map_append,List.map_map]
 rfl
noncomputable def mG:List (List Nat):=(nums xs).map eW
noncomputable def mJ:List (List Nat):=eF srA (mG xs)
noncomputable def bX:List (List Nat):=eF (dI xs) (mG xs)
theorem zL:bX xs=eF (srB xs) (mJ xs):=by unfold bX mJ;rw[eZ,rj]
noncomputable abbrev pL:Str:=ah (bP (fX [10] (mJ xs)))
noncomputable abbrev Fy:Str:=ah (bP (fX (kJ (srB xs)) (bX xs)))
theorem zM:∀r∈mG xs,inD 3 r:=λr hr=>by obtain⟨x,_,rfl⟩:=OS.mp hr;exact LL x
theorem rn:(mG xs).length<=13:=by unfold mG;rw[List.length_map];exact gH xs
theorem JW:iY srA=1:=by right
theorem JX:iY (srB xs)<=4:=by
 unfold srB;rw[g6,g6];have h1:=we ((xs.take 3).map λx=>dG (hOf x));rw[List.length_map]at h1;have h2:=List.length_take_le 3 xs;have h3:(dG 146).c=false:=by right
 have h4:(if(dG 869).c then 1 else 0)<=1:=by split<;>decide
 have h5:(if(dG 146).c then 1 else 0)=0:=by rw[h3];rfl
 rw[h5];lia
theorem kN:∀r∈mJ xs,inD 4 r:=by have:=tv srA (zM xs);rw[JW]at this;exact this
theorem g7:∀r∈bX xs,inD 8 r:=λr hr=>by rw[zL]at hr;exact v5 (tv (srB xs) (kN xs) r hr) (by have:=JX xs;lia)
theorem lS:(mJ xs).length<=13:=OA (rm _ _) (rn xs)
theorem eh:(bX xs).length<=13:=OA (rm _ _) (rn xs)
theorem Jr:gh (kK xs):=by
 have:∀l:List Int,gh (l.map λx=>(eW x,gm x)):=λl=>by
  induction l with
  |nil=>trivial
  |cons x l ih=>
   refine⟨tj (nh x).1,?_,?_,ih⟩
   ·show iI (gm x);unfold gm;split
    ·exact .inr (.inr rfl)
    ·exact .inl rfl
   ·show gm x=[13]->_;unfold gm;split<;>intro q<;>cases q
 exact this _
theorem wg:(kK xs).map (·.1)=mG xs:=by
 unfold kK mG;rw[List.map_map]
 rfl
theorem Fz:(kK xs).length<=13:=by unfold kK;rw[List.length_map];exact gH xs
theorem FA:∀q∈srA,eS q/\iI q.e.cps.toList:=λq hq=>by
 rcases OT.mp hq with rfl|hq
 ·exact fG _
 ·rw[List.mem_singleton.mp hq];exact fG _
theorem LM:∀q∈srB xs,eS q/\iI q.e.cps.toList:=λq hq=>by
 rcases OT.mp hq with rfl|hq
 ·exact fG _
 ·rcases OT.mp hq with rfl|hq
  ·exact fG _
  ·obtain⟨x,_,rfl⟩:=OS.mp hq;exact fG _
theorem M5:kJ srA=[10]:=by right
theorem By:cE (.str (kL xs)) (srA.map aS)=some (.str (pL xs)):=by have:=lQ [dG 54] (dG 1167) (kK xs) 3 (Jr xs) (by rw[wg];exact zM xs) (by have:=JW;unfold srA at this;lia) (by have:=Fz xs;lia) FA;rw[wg]at this;rw[show kJ [dG 1167,dG 54]=[10] from M5]at this;exact this
theorem FC:cE (.str (pL xs)) ((srB xs).map aS)=some (.str (Fy xs)):=by have hb:=JX xs;have ho:=LM xs;have hl:=zL xs;unfold Fy;rw[hl];unfold srB at hb ho ⊢;have:=lQ (dG 146::(xs.take 3).map λx=>dG (hOf x)) (dG 869) (fX [10] (mJ xs)) 4 (tu (.inl rfl) λr hr=>(g4 (kN xs r hr)).1) (by rw[kI];exact kN xs) (by lia) (by rw[List.length_map];have:=lS xs;lia) ho;rw[kI]at this;exact this
end
theorem zN(hs:∀n sc ev e,S.spec n sc ev e=none)(h:aT (me F S n) sc ρ es=some l)(hp:aa l=true)(hz:l.length<=1000):(me F S (n+1)).ev sc ρ (.List es q)=some (.list l):=
 have e:jY (me F S n) sc ρ es=some l:=bnd h (if_pos ⟨hp,hz⟩)
 (iG hs).trans (ON (Option.map MV.list) e)
theorem FD(hc:aR sc y=true)(he:es.isEmpty=false)(h:p.ev sc ρ (.List es q)=some v)(hp:v.plain=true):bo p false sc ρ y line (.List es q)=some (ae ρ y v):=
 (if_neg (not_false hc)).trans ((if_neg (λe=>Bool.noConfusion (he.symm.trans e))).trans ((if_neg λq=>Bool.noConfusion q.1).trans (m6 h hp)))
theorem add_list(ha:aa a=true)(hb:aa b=true)(h:a.length+b.length<=1000):ib .Add (.list a) (.list b)=some (.list (a++b)):=by refine bnd rfl (if_pos ?_);rw[ha,hb];exact Pa h
theorem wh(h:∀s∈ss,eS s)(h1:is.length<=300)(h2:ss.length<=20):o5 [eO is,.list (ss.map aS)]=some (rsM (iP is ss)):=
 bnd rfl (jj rfl (IC is) (jj rfl (ID h) (if_pos ⟨h1,h2⟩)))
theorem JY(hp:aa l=true)(h:cE (.str x) l=some u):sL [.ex (.ref 131),.list l,.str x]=some u:=(if_pos ⟨rfl,hp⟩).trans h
theorem M6(hp:aa l=true)(h:cE (.str x) l=some u):sL [.ex (.ref 131),.list (.str x::l)]=some u:=(if_pos ⟨rfl,hp⟩).trans h
section
variable (xs:List Int)
noncomputable abbrev lw4:Rho:=ae (lw3 xs) (sx "halfway") (.str (pL xs))
noncomputable def JZ:MV:= .list [.str (kL xs),.str (pL xs),.str (Fy xs)]
noncomputable abbrev lw5:Rho:=ae (lw4 xs) (sx "told") (JZ xs)
noncomputable abbrev lw6:Rho:=ae (lw5 xs) (sx "left") (rsM (bX xs))
theorem kO:(dI xs).length<=7:=by unfold dI hs;rw[List.length_map,List.length_append,List.length_map];have:=List.length_take_le 3 xs;show 4+_<=7;lia
theorem tw:∀s∈dI xs,eS s:=λs hs=>by obtain⟨x,_,rfl⟩:=OS.mp hs;exact(fG _).1
theorem wi:dh (.list ((dI xs).map aS)) none (some ((2:Nat):Int))=some (.list (srA.map aS)):=by have:=g5 (l:=(dI xs).map aS) 2 (bc _) (by rw[List.length_map];have:=kO xs;lia);rw[<-List.map_take,eZ]at this;rw[eZ];exact this
theorem FE:dh (.list ((dI xs).map aS)) (some ((2:Nat):Int)) none=some (.list ((srB xs).map aS)):=by
 have hl:2<=((dI xs).map aS).length:=by rw[List.length_map,eZ,List.length_append];show 2<=2+_;lia
 have:=yB (l:=(dI xs).map aS) 2 hl (bc _) (by rw[List.length_map];have:=kO xs;lia);rw[<-List.map_drop,eZ]at this;rw[eZ];exact this
theorem FI:lwE 3= .Call (.Name (sx "reduce") (cF (lwE 3)).pos) [.Name (sx "_law_hop") (cA (lwE 3) 0).pos,.Subscript (.Name (sx "servers") (bL (cA (lwE 3) 1)).pos) (.Slice none (some (sHi (bR (cA (lwE 3) 1)))) none (bR (cA (lwE 3) 1)).pos) (cA (lwE 3) 1).pos,.Name (sx "mail") (cA (lwE 3) 2).pos] [] (lwE 3).pos:=nofun
theorem M7:bo (lwP 399) false ak (lw3 xs) (sx "halfway") (aQ (stN lwB 3)).line (lwE 3)=some (lw4 xs):=by
 rw[FI];have a1:(lwP 398).ev ak (lw3 xs) (.Name (sx "reduce") (cF (lwE 3)).pos)=some (.ex (.ref 102)):=nofun
 have a2:(lwP 398).ev ak (lw3 xs) (.Name (sx "_law_hop") (cA (lwE 3) 0).pos)=some (.ex (.ref 131)):=nofun
 have a3:(lwP 397).ev ak (lw3 xs) (.Name (sx "servers") (bL (cA (lwE 3) 1)).pos)=some (.list ((dI xs).map aS)):=nofun
 have a4:(lwP 397).ev ak (lw3 xs) (sHi (bR (cA (lwE 3) 1)))=some (.int ((2:Nat):Int)):=nofun
 have a5:=cj ag (q:=(bR (cA (lwE 3) 1)).pos) (q':=(cA (lwE 3) 1).pos) a3 bJ (bb a4) (wi xs);have a6:(lwP 398).ev ak (lw3 xs) (.Name (sx "mail") (cA (lwE 3) 2).pos)=some (.str (kL xs)):=nofun
 refine iO nofun (by right) (by right) (bq ag a1 (oX rfl rfl rfl a2 a5 a6) (show iZ.f 102=some (201,sL) by symm) (by left) ?_ (JY (bc _) (By xs))) rfl;show(true&&(aa (srA.map aS)&&true))=true;rw[bc];rfl
noncomputable def kP:Pm:=cA (lwE 4) 0
noncomputable def tA:Pm:=cA (lwE 4) 2
noncomputable def hZ:Pm:=cA tA 1
theorem FJ:lwE 4= .List [.Call (.Name (sx "reduce") (cF kP).pos) [.Name (sx "_law_hop") (cA kP 0).pos,.List [] (cA kP 1).pos,.Name (sx "mail") (cA kP 2).pos] [] kP.pos,.Name (sx "halfway") (cA (lwE 4) 1).pos,.Call (.Name (sx "reduce") (cF tA).pos) [.Name (sx "_law_hop") (cA tA 0).pos,.BinOp (bL hZ) .Add (.Subscript (.Name (sx "servers") (bL (bR hZ)).pos) (.Slice (some (sLo (bR (bR hZ)))) none none (bR (bR hZ)).pos) (bR hZ).pos) hZ.pos] [] tA.pos] (lwE 4).pos:=nofun
theorem Js:(srB xs).length<=5:=by unfold srB;have:=List.length_take_le 3 xs;simp only [List.length_cons,List.length_map];lia
theorem M8:(lwP 398).ev ak (lw4 xs) (.Call (.Name (sx "reduce") (cF kP).pos) [.Name (sx "_law_hop") (cA kP 0).pos,.List [] (cA kP 1).pos,.Name (sx "mail") (cA kP 2).pos] [] kP.pos)=some (.str (kL xs)):=by
 have a1:(lwP 397).ev ak (lw4 xs) (.Name (sx "reduce") (cF kP).pos)=some (.ex (.ref 102)):=nofun
 have a2:(lwP 397).ev ak (lw4 xs) (.Name (sx "_law_hop") (cA kP 0).pos)=some (.ex (.ref 131)):=nofun
 have a3:(lwP 397).ev ak (lw4 xs) (.List [] (cA kP 1).pos)=some (.list []):=nofun
 have a4:(lwP 397).ev ak (lw4 xs) (.Name (sx "mail") (cA kP 2).pos)=some (.str (kL xs)):=nofun
 exact bq ag a1 (oX rfl rfl rfl a2 a3 a4) (show iZ.f 102=some (201,sL) by symm) (by left) rfl (JY rfl rfl)
theorem M9:(lwP 398).ev ak (lw4 xs) (.Call (.Name (sx "reduce") (cF tA).pos) [.Name (sx "_law_hop") (cA tA 0).pos,.BinOp (bL hZ) .Add (.Subscript (.Name (sx "servers") (bL (bR hZ)).pos) (.Slice (some (sLo (bR (bR hZ)))) none none (bR (bR hZ)).pos) (bR hZ).pos) hZ.pos] [] tA.pos)=some (.str (Fy xs)):=by
 have a1:(lwP 397).ev ak (lw4 xs) (.Name (sx "reduce") (cF tA).pos)=some (.ex (.ref 102)):=nofun
 have a2:(lwP 397).ev ak (lw4 xs) (.Name (sx "_law_hop") (cA tA 0).pos)=some (.ex (.ref 131)):=nofun
 have b1:(lwP 396).ev ak (lw4 xs) (bL hZ)=some (.list [.str (pL xs)]):=nofun
 have b2:(lwP 395).ev ak (lw4 xs) (.Name (sx "servers") (bL (bR hZ)).pos)=some (.list ((dI xs).map aS)):=nofun
 have b3:(lwP 395).ev ak (lw4 xs) (sLo (bR (bR hZ)))=some (.int ((2:Nat):Int)):=nofun
 have b4:=cj ag (q:=(bR (bR hZ)).pos) (q':=(bR hZ).pos) b2 (bb b3) bJ (FE xs);have b5:=dM ag (q:=hZ.pos) b1 b4 (add_list rfl (bc _) (by rw[List.length_map];have:=Js xs;show 1+_<=1000;lia));refine bq ag a1 (gy rfl rfl a2 b5) (show iZ.f 102=some (201,sL) by symm) (by left) ?_ (M6 (bc _) (FC xs));show(true&&((true&&aa ((srB xs).map aS))&&true))=true;rw[bc];rfl
theorem Na:bo (lwP 399) false ak (lw4 xs) (sx "told") (aQ (stN lwB 4)).line (lwE 4)=some (lw5 xs):=by
 have a2:(lwP 398).ev ak (lw4 xs) (.Name (sx "halfway") (cA (lwE 4) 1).pos)=some (.str (pL xs)):=nofun
 rw[FJ];refine FD nofun rfl ?_ rfl;exact zN ag (oX rfl rfl rfl (M8 xs) a2 (M9 xs)) rfl (show 3<=1000 by left)
theorem FK:lwE 5= .Call (.Name (sx "_law_left") (cF (lwE 5)).pos) [.Name (sx "numbers") (cA (lwE 5) 0).pos,.Name (sx "servers") (cA (lwE 5) 1).pos] [] (lwE 5).pos:=nofun
theorem zO:iP (nums xs) ss=eF ss (mG xs):=yA _ _
theorem Nb:bo (lwP 399) false ak (lw5 xs) (sx "left") (aQ (stN lwB 5)).line (lwE 5)=some (lw6 xs):=by
 rw[FK];have a1:(lwP 398).ev ak (lw5 xs) (.Name (sx "_law_left") (cF (lwE 5)).pos)=some (.ex (.ref 155)):=nofun
 have a2:(lwP 398).ev ak (lw5 xs) (.Name (sx "numbers") (cA (lwE 5) 0).pos)=some (eO (nums xs)):=nofun
 have a3:(lwP 398).ev ak (lw5 xs) (.Name (sx "servers") (cA (lwE 5) 1).pos)=some (.list ((dI xs).map aS)):=nofun
 have hg:=wh (is:=nums xs) (tw xs) (by have:=gH xs;lia) (by have:=kO xs;lia);rw[zO]at hg;refine iO nofun (by right) (by right) (bq ag a1 (gy rfl rfl a2 a3) (show iZ.f 155=some (201,o5) by symm) (by left) ?_ hg) (dp _);show(aa ((nums xs).map .int)&&(aa ((dI xs).map aS)&&true))=true;rw[bh,bc];rfl
end
theorem FP(e:List Nat)(rs:List (List Nat)):(⟨(cat (rs.map λr=>ah (r++e))).toArray⟩:Str)=ah (bP (fX e rs)):=by
 unfold bP fX ah
 congr 2
 rw[List.flatMap_def,List.map_map,cat,List.flatMap_def,List.map_map]
 rfl
theorem FQ{e:List Nat}(he:e.length<=2){rs:List (List Nat)}(hl:rs.length<=20)(hr:∀r∈rs,inD 8 r):bF (rs.map λr=>ah (r++e))<=16777216:=by
 have:=sumLen_le (l:=rs.map λr=>r++e) (k:=12) (λr hr'=>by obtain⟨q,hq,rfl⟩:=OS.mp hr';have h1:=(g4 (hr q hq)).2;rw[List.length_append];lia)
 rw[List.map_map,List.length_map]at this;refine OA this ?_;lia
theorem mK{F:Fns}{n:Nat}{sc:Sc}{ρ:Rho}{o a:Pm}{apos pos:Pos}{e:List Nat}{rs:List (List Nat)}(hk:attrOk o (sx "join") apos pos [a]=true)(ho:(me F (SS spN) n).ev sc ρ o=some (.str (sx "")))(hn:notStar a=true)(ha:(me F (SS spN) n).ev sc ρ a=some (.list (rs.map λr=> .str (ah (r++e)))))(he:e.length<=2)(hl:rs.length<=20)(hr:∀r∈rs,inD 8 r):(me F (SS spN) (n+1)).ev sc ρ (.Call (.Attribute o (sx "join") apos) [a] [] pos)=some (.str (ah (bP (fX e rs)))):=by have hm:=ng (S:=SS spN) (a:= .list (rs.map λr=>MV.str (ah (r++e)))) rfl (strs_map (λr=>ah (r++e)) _) (FQ he hl hr);exact fR ag hk ho (cH hn ha) (hm.trans (ON (λy=>some (MV.str y)) (FP e rs)))
section
variable (xs:List Int)
noncomputable def lwX:Pm:=bR (aE (stN lwB 6))
noncomputable def wj:Pm:=cA lwX 1
noncomputable def wk:Pm:=cA lwX 2
noncomputable def i0:Pm:=cA wj 0
noncomputable def dZ:Pm:=cA wk 0
noncomputable def jm:Pm:=gI (au i0)
theorem Jt:aE (stN lwB 6)= .Compare (.Name (sx "told") (bL (aE (stN lwB 6))).pos) [.NotEq] [.List [.Name (sx "mail") (cA lwX 0).pos,.Call (.Attribute (bL (cF wj)) (sx "join") (cF wj).pos) [bU i0 (sx "row")] [] wj.pos,.Call (.Attribute (bL (cF wk)) (sx "join") (cF wk).pos) [bU dZ (sx "row")] [] wk.pos] lwX.pos] (aE (stN lwB 6)).pos:=nofun
theorem FU:jm= .Call (.Name (sx "_law_left") (cF jm).pos) [.Name (sx "numbers") (cA jm 0).pos,.Subscript (.Name (sx "servers") (bL (cA jm 1)).pos) (.Slice none (some (sHi (bR (cA jm 1)))) none (bR (cA jm 1)).pos) (cA jm 1).pos] [] jm.pos:=nofun
theorem FV:aw i0= .BinOp (.Name (sx "row") (bL (aw i0)).pos) .Add (bR (aw i0)) (aw i0).pos:=nofun
theorem FW:aw dZ= .BinOp (.Name (sx "row") (bL (aw dZ)).pos) .Add (.Subscript (.Subscript (.Name (sx "servers") (bL (bL (bR (aw dZ)))).pos) (bR (bL (bR (aw dZ)))) (bL (bR (aw dZ))).pos) (bR (bR (aw dZ))) (bR (aw dZ)).pos) (aw dZ).pos:=nofun
theorem ro:gF (au i0)=[]/\gF (au dZ)=[]:=⟨nofun,nofun⟩
noncomputable abbrev Nc(r:List Nat):Rho:=ae (ao (cSc i0) (lw6 xs)) (sx "row") (.str (ah r))
noncomputable abbrev Ju(r:List Nat):Rho:=ae (ao (cSc dZ) (lw6 xs)) (sx "row") (.str (ah r))
theorem FX:(lwP 395).ev ak (lw6 xs) jm=some (rsM (mJ xs)):=by
 rw[FU];have a1:(lwP 394).ev ak (lw6 xs) (.Name (sx "_law_left") (cF jm).pos)=some (.ex (.ref 155)):=nofun
 have a2:(lwP 394).ev ak (lw6 xs) (.Name (sx "numbers") (cA jm 0).pos)=some (eO (nums xs)):=nofun
 have a3:(lwP 393).ev ak (lw6 xs) (.Name (sx "servers") (bL (cA jm 1)).pos)=some (.list ((dI xs).map aS)):=nofun
 have a4:(lwP 393).ev ak (lw6 xs) (sHi (bR (cA jm 1)))=some (.int ((2:Nat):Int)):=nofun
 have a5:=cj ag (q:=(bR (cA jm 1)).pos) (q':=(cA jm 1).pos) a3 bJ (bb a4) (wi xs);have hg:=wh (is:=nums xs) (ss:=srA) (λs hs=>(FA s hs).1) (by have:=gH xs;lia) (by left);rw[zO]at hg;refine bq ag a1 (gy rfl rfl a2 a5) (show iZ.f 155=some (201,o5) by symm) (by left) ?_ hg;show(aa ((nums xs).map .int)&&(aa (srA.map aS)&&true))=true;rw[bh,bc];rfl
theorem lT(rs:List (List Nat)):(some (rsM rs)).bind aM=some (rs.map λr=>MV.str (ah r)):=sE rs
theorem Nd:(lwP 397).ev ak (lw6 xs) (.Call (.Attribute (bL (cF wj)) (sx "join") (cF wj).pos) [bU i0 (sx "row")] [] wj.pos)=some (.str (pL xs)):=by
 have a1:(lwP 396).ev ak (lw6 xs) (bL (cF wj))=some (.str (sx "")):=nofun
 have hit:((lwP 395).ev ak (lw6 xs) jm).bind aM=some ((mJ xs).map λr=>MV.str (ah r)):=by rw[FX,lT]
 have hc:=fO (f:=λv=> .str (ah (dC v++[10]))) (keep:=λ_=>true) hit (by symm:aK ak (cSc i0)=true) (by symm:(cSc i0).names.lookup (sx "row")=some .local) nofun (ifs:=[]) (elt:=aw i0) (px:=gP (au i0)) (λv hv=>⟨rfl,λ_=>⟨?_,rfl⟩⟩) (by rw[List.length_map];have:=lS xs;lia)
 ·rw[filter_all,List.map_map]at hc;refine mK nofun a1 nofun ?_ (by left) (by have:=lS xs;lia) λr hr=>v5 (kN xs r hr) (by left);refine(cB rfl).trans ?_;rw[ro.1];exact hc
 ·obtain⟨r,hr,rfl⟩:=OS.mp hv;rw[cJ,FV];have b1:(lwP 394).ev (cSc i0).names (Nc xs r) (.Name (sx "row") (bL (aw i0)).pos)=some (.str (ah r)):=nofun
  have b2:(lwP 394).ev (cSc i0).names (Nc xs r) (bR (aw i0))=some (.str (sx "\n")):=nofun
  have b3:=add_str (r:=r) (e:=sx "\n") (by have:=(g4 (kN xs r hr)).2;lia) (by left);rw[show(sx "\n").cps.toList=[10] by right]at b3;exact dM ag b1 b2 b3
end
theorem zP:∀{ss:List Srv},ss≠[]->∃s,ss[ss.length-1]?=some s/\kJ ss=s.e.cps.toList/\s∈ss
 | [],h=>O8 rfl h
 | [s],_=>⟨s,rfl,rfl,.head _⟩
 |s::q::ss,_=>by obtain⟨r,h1,h2,h3⟩:=zP (ss:=q::ss) (by simp);refine⟨r,?_,h2,.tail _ h3⟩;simpa using h1
theorem Bz(hp:aa l=true)(h0:0<l.length)(h:l[l.length-1]?=some m):gK (.list l) (.int (-1))=some m:=by
 show(if cX (-1)&&aa l then(seqIndex? (-1) l.length).bind (l[·]?) else none)=_
 have e1:seqIndex? (-1) l.length=some (l.length-1):=by
  have e:(-1:Int)+l.length=((l.length-1:Nat):Int):=by rw[Int.natCast_sub h0,Int.add_comm];rfl
  show(if(decide (0<=(-1:Int)+l.length)&&decide ((-1:Int)+l.length<l.length))=true then some ((-1:Int)+l.length).toNat else none)=_;rw[e];exact if_pos (OR.mpr ⟨Pa (Int.natCast_nonneg _),Pa (Int.ofNat_lt.mpr (Nat.sub_lt h0 Nat.one_pos))⟩)
 rw[hp,if_pos (by right),e1,Option.bind_some];exact h
section
variable (xs:List Int)
theorem FY:kJ (dI xs)=kJ (srB xs):=by
 rw[eZ];unfold srA srB
 rfl
theorem FZ(a b c:Str):fL .NotEq (.list [.str a,.str b,.str c]) (.list [.str a,.str b,.str c])=some false:=by
 show((if 3=3 then(some ((a==a)&&((b==b)&&((c==c)&&true)))) else some false:Pj Bool)).map (!·)=_;rw[beq_self_eq_true,beq_self_eq_true,beq_self_eq_true]
 rfl
theorem Nf:(lwP 397).ev ak (lw6 xs) (.Call (.Attribute (bL (cF wk)) (sx "join") (cF wk).pos) [bU dZ (sx "row")] [] wk.pos)=some (.str (Fy xs)):=by
 have hne:dI xs≠[]:=by rw[eZ];unfold srA;simp
 obtain⟨s,h1,h2,h3⟩:=zP hne;rw[FY]at h2
 have he:s.e.cps.toList.length<=2:=by obtain⟨x,_,rfl⟩:=OS.mp h3;rcases(fG x).2 with q|q|q<;>rw[q]<;>decide
 have hl:gK (.list ((dI xs).map aS)) (.int (-1))=some (aS s):=by
  refine Bz (bc _) ?_ ?_
  ·rw[List.length_map,eZ,List.length_append];show 0<2+_;lia
  ·rw[List.length_map,List.getElem?_map,h1];rfl
 have a1:(lwP 396).ev ak (lw6 xs) (bL (cF wk))=some (.str (sx "")):=nofun
 have i1:(lwP 395).ev ak (lw6 xs) (gI (au dZ))=some (rsM (bX xs)):=nofun
 have hit:((lwP 395).ev ak (lw6 xs) (gI (au dZ))).bind aM=some ((bX xs).map λr=>MV.str (ah r)):=by rw[i1,lT]
 have hc:=fO (f:=λv=> .str (ah (dC v++s.e.cps.toList))) (keep:=λ_=>true) hit (by symm:aK ak (cSc dZ)=true) (by symm:(cSc dZ).names.lookup (sx "row")=some .local) nofun (ifs:=[]) (elt:=aw dZ) (px:=gP (au dZ)) (λv hv=>⟨rfl,λ_=>⟨?_,rfl⟩⟩) (by rw[List.length_map];have:=eh xs;lia)
 ·rw[filter_all,List.map_map]at hc;show _=some (MV.str (ah (bP (fX (kJ (srB xs)) (bX xs)))));rw[h2];refine mK nofun a1 nofun ?_ he (by have:=eh xs;lia) λr hr=>g7 xs r hr;refine(cB rfl).trans ?_;rw[ro.2];exact hc
 ·obtain⟨r,hr,rfl⟩:=OS.mp hv;rw[cJ,FW];have b1:(lwP 394).ev (cSc dZ).names (Ju xs r) (.Name (sx "row") (bL (aw dZ)).pos)=some (.str (ah r)):=nofun
  have b2:(lwP 392).ev (cSc dZ).names (Ju xs r) (.Name (sx "servers") (bL (bL (bR (aw dZ)))).pos)=some (.list ((dI xs).map aS)):=nofun
  have b3:(lwP 392).ev (cSc dZ).names (Ju xs r) (bR (bL (bR (aw dZ))))=some (.int (-1)):=nofun
  have b4:=gd ag (q:=(bL (bR (aw dZ))).pos) nofun b2 b3 hl;have b5:(lwP 393).ev (cSc dZ).names (Ju xs r) (bR (bR (aw dZ)))=some (.int 1):=nofun
  have b6:=gd ag (q:=(bR (aw dZ)).pos) nofun b4 b5 (show gK (aS s) (.int 1)=some (.str s.e) by
   show(if cX 1&&aa [MV.bool s.c,.str s.e,.list (s.p.map pcM)] then some (MV.str s.e) else none)=_;rw[show aa [MV.bool s.c,.str s.e,.list (s.p.map pcM)]=true by show(true&&(true&&(aa (s.p.map pcM)&&true)))=true;rw[bC];rfl]
   rfl)
  exact dM ag b1 b6 (add_str (by have:=(g4 (g7 xs r hr)).2;omega) (by have:s.e.length=s.e.cps.toList.length:=(by simp [Str.length]);lia))
theorem Ng:(lwP 399).tst ak (lw6 xs) (aE (stN lwB 6))=some false:=by
 rw[Jt];have a1:(lwP 398).ev ak (lw6 xs) (.Name (sx "told") (bL (aE (stN lwB 6))).pos)=some (JZ xs):=nofun
 have a2:(lwP 397).ev ak (lw6 xs) (.Name (sx "mail") (cA lwX 0).pos)=some (.str (kL xs)):=nofun
 have a3:=zN ag (q:=lwX.pos) (oX nofun nofun nofun a2 (Nd xs) (Nf xs)) rfl (show 3<=1000 by left);exact en nofun a1 a3 (FZ _ _ _)
end
section
variable (xs:List Int)
noncomputable abbrev lwA(i:Nat)(y:Str):Pq:= .Assign [.Name y (aQ (stN lwB i))] (lwE i) (aP (stN lwB i))
noncomputable def zQ:List Pq:=(lwB.take 7).drop 1
theorem LN:zQ=[lwA 1 (sx "servers"),lwA 2 (sx "mail"),lwA 3 (sx "halfway"),lwA 4 (sx "told"),lwA 5 (sx "left"),.If (aE (stN lwB 6)) (aB (stN lwB 6)) [] (aP (stN lwB 6))]:=nofun
theorem F5(h:xs.length<=63):(mx iZ (SS spN) false 400).ex ak (lw1 xs) zQ=some (.next,lw6 xs):=by rw[LN];exact(bG (M3 xs h) (bG (M4 xs) (bG (M7 xs) (bG (Na xs) (bG (Nb xs) (gS (Ng xs) (f:= .next) cN cN))))))
end
noncomputable def BB:Pm:=cA (aE (stN lwB 7)) 1
noncomputable def dw:Pm:=bL BB
noncomputable def dW:Pm:=bR BB
noncomputable def yE:Pm:=cA (aw dw) 0
noncomputable def BC:Pm:=cA yE 0
noncomputable def BD:Pm:=cA (aw dW) 0
theorem F7:BB= .Compare (bU dw (sx "server")) [.NotEq] [bU dW (sx "server")] BB.pos:=nofun
theorem BE:aw dw= .Call (.Name (sx "translate") (cF (aw dw)).pos) [.Call (.Attribute (bL (cF yE)) (sx "join") (cF yE).pos) [.Subscript (.Name (sx "server") (bL BC).pos) (bR BC) BC.pos] [] yE.pos] [] (aw dw).pos:=nofun
theorem BF:aw dW= .Call (.Name (sx "_law_text") (cF (aw dW)).pos) [.Subscript (.Name (sx "server") (bL BD).pos) (bR BD) BD.pos] [] (aw dW).pos:=nofun
theorem wm:gF (au dw)=[]/\gF (au dW)=[]:=⟨nofun,nofun⟩
noncomputable def tC:Fns:=⟨λa=>if a=60 then some (61,DT) else if a=143 then some (51,vq) else none⟩
noncomputable abbrev lwQ(n:Nat):P:=me tC (SS spN) n
noncomputable def Nh(s:Srv):Str:=match s.p with
 | [a,b,d]=>oO a b d
 |_=>Str.empty
noncomputable def rt(v:MV):Str:=(zB v).elim Str.empty Nh
theorem wo(h:eS s):rt (aS s)=Nh s:=by unfold rt;rw[vC s h];rfl
theorem BG(k:Nat)(l:List Str):wL (meq (k+1)) (l.map .str) (l.map .str)=some true:=by
 induction l with
 |nil=>rfl
 |cons a l ih=>
  show(some (a==a)).bind (λx=>(wL (meq (k+1)) (l.map .str) (l.map .str)).map (x&&·))=some true;rw[ih,beq_self_eq_true]
  rfl
theorem Jv(l:List Str):fL .Eq (.list (l.map .str)) (.list (l.map .str))=some true:=bnd rfl ((if_pos rfl).trans (BG _ l))
theorem Jw(l:List Str):fL .NotEq (.list (l.map .str)) (.list (l.map .str))=some false:=ON (Option.map (!·)) (Jv l)
section
variable (xs:List Int)
noncomputable abbrev yF(i:Pm)(v:MV):Rho:=ae (ao (cSc i) (lw6 xs)) (sx "server") v
theorem fI(h:aa l=true):(some (MV.list l)).bind aM=some l:=by show(if aa l then some l else none)=_;rw[h,if_pos (Eq.refl true)]
theorem yG(s:Srv):aa [MV.bool s.c,.str s.e,.list (s.p.map pcM)]=true:=by
 show(true&&(true&&(aa (s.p.map pcM)&&true)))=true;rw[bC]
 rfl
theorem zR(s:Srv):gK (aS s) (.int 2)=some (.list (s.p.map pcM)):=by
 show(if cX 2&&aa [MV.bool s.c,.str s.e,.list (s.p.map pcM)] then some (MV.list (s.p.map pcM)) else none)=_;rw[yG]
 rfl
theorem Ni:(lwQ 150).tst ak (lw6 xs) BB=some false:=by
 have pl:aa ((dI xs).map aS)=true:=bc _;have hl:((dI xs).map aS).length<=400:=by rw[List.length_map];have:=kO xs;lia
 have i1:(lwQ 148).ev ak (lw6 xs) (gI (au dw))=some (.list ((dI xs).map aS)):=nofun
 have i2:(lwQ 148).ev ak (lw6 xs) (gI (au dW))=some (.list ((dI xs).map aS)):=nofun
 have h1:((lwQ 148).ev ak (lw6 xs) (gI (au dw))).bind aM=some ((dI xs).map aS):=by rw[i1,fI pl]
 have h2:((lwQ 148).ev ak (lw6 xs) (gI (au dW))).bind aM=some ((dI xs).map aS):=by rw[i2,fI pl]
 have c1:=fO (f:=λv=> .str (rt v)) (keep:=λ_=>true) h1 (by symm:aK ak (cSc dw)=true) (by symm:(cSc dw).names.lookup (sx "server")=some .local) nofun (ifs:=[]) (elt:=aw dw) (px:=gP (au dw)) (λv hv=>⟨rfl,λ_=>⟨?_,rfl⟩⟩) (by lia)
 ·have c2:=fO (f:=λv=> .str (rt v)) (keep:=λ_=>true) h2 (by symm:aK ak (cSc dW)=true) (by symm:(cSc dW).names.lookup (sx "server")=some .local) nofun (ifs:=[]) (elt:=aw dW) (px:=gP (au dW)) (λv hv=>⟨rfl,λ_=>⟨?_,rfl⟩⟩) (by lia)
  ·rw[filter_all,<-wm.1]at c1;rw[filter_all,<-wm.2]at c2;have e:∀l:List MV,l.map (λv=>MV.str (rt v))=(l.map rt).map .str:=λl=>by rw[List.map_map];rfl
   rw[e]at c1 c2;rw[F7];exact en nofun ((cB rfl).trans c1) ((cB rfl).trans c2) (Jw _)
  ·obtain⟨s,hs,rfl⟩:=OS.mp hv;have ok:=tw xs s hs;rw[wo ok,BF];have b1:(lwQ 147).ev (cSc dW).names (yF xs dW (aS s)) (.Name (sx "_law_text") (cF (aw dW)).pos)=some (.ex (.ref 143)):=nofun
   have b2:(lwQ 146).ev (cSc dW).names (yF xs dW (aS s)) (.Name (sx "server") (bL BD).pos)=some (aS s):=nofun
   have b3:(lwQ 146).ev (cSc dW).names (yF xs dW (aS s)) (bR BD)=some (.int 2):=nofun
   have b4:=gd ag (q:=BD.pos) nofun b2 b3 (zR s);refine bq ag b1 (cH rfl b4) (show tC.f 143=some (51,vq) by symm) (by left) (by show(aa (s.p.map pcM)&&true)=true;rw[bC];rfl) ?_;obtain⟨c,e,is⟩:=s;obtain⟨a,b,d,rfl⟩:=CZ ok.1;exact bnd (jj rfl rfl (sC ok.2)) rfl
 ·obtain⟨s,hs,rfl⟩:=OS.mp hv;have ok:=tw xs s hs;rw[wo ok,BE];obtain⟨c,e,is⟩:=s;obtain⟨a,b,d,rfl⟩:=CZ ok.1;have ha:=ok.2 a (by simp);have hb:=ok.2 b (by simp);have hd:=ok.2 d (by simp);have b1:(lwQ 147).ev (cSc dw).names (yF xs dw (aS ⟨c,e,[a,b,d]⟩)) (.Name (sx "translate") (cF (aw dw)).pos)=some (.ex (.ref 60)):=nofun
  have b2:(lwQ 145).ev (cSc dw).names (yF xs dw (aS ⟨c,e,[a,b,d]⟩)) (.Name (sx "server") (bL BC).pos)=some (aS ⟨c,e,[a,b,d]⟩):=nofun
  have b3:(lwQ 145).ev (cSc dw).names (yF xs dw (aS ⟨c,e,[a,b,d]⟩)) (bR BC)=some (.int 2):=nofun
  have b4:=gd ag (q:=BC.pos) nofun b2 b3 (zR _);have b5:(lwQ 146).ev (cSc dw).names (yF xs dw (aS ⟨c,e,[a,b,d]⟩)) (bL (cF yE))=some (.str (sx "")):=nofun
  have b6:=fR ag (pos:=yE.pos) (apos:=(cF yE).pos) nofun b5 (cH rfl b4) (vz ha hb hd);refine bq ag b1 (cH rfl b6) (show tC.f 60=some (61,DT) by symm) (by left) rfl ?_;refine jj rfl rfl ?_;rw[show(ah (jl [a,b,d])).cps.toList=jl [a,b,d] by simp [ah],qT ha hb hd]
  rfl
end
theorem dH{α β:Type}{o:Nat->Nat->Pj Bool}{f:α->KasT β}:∀t:KasT α,br o (t.bind f)=(br o t).bind λa=>br o (f a)
 | .ret a=>rfl
 | .ask i j k=>by
  show(o i j).bind (λb=>br o ((k b).bind f))=((o i j).bind λb=>br o (k b)).bind _;rw[Option.bind_assoc]
  congr 1
  funext b
  exact dH (k b)
theorem at_of{p:Array Nat}{l:List Nat}(h:p.toList=l)(m:Nat):p[m]?=l[m]?:=by rw[<-h,Array.getElem?_toList]
theorem g8{p:Array Nat}{A B:List Nat}{x n:Nat}(h:p.toList=A++x::B)(hn:A.length=n):p.getD n 0=x:=by
 have:=at_of h n;rw[List.getElem?_append_right (Nat.le_of_eq hn),hn,Nat.sub_self]at this;rw[Array.getD_eq_getD_getElem?,this]
 rfl
theorem nk{P:List Nat}(h:0<P.length):∃A x,P=A++[x]:=by
 rcases List.eq_nil_or_concat P with e|⟨A,x,e⟩
 ·rw[e]at h;exact O8 h (OM _)
 ·exact⟨A,x,by rw[e,List.concat_eq_append]⟩
theorem zS{L R:List Nat}{a:Nat}:(L++a::R)[L.length]?=some a:=by
 rw[List.getElem?_append_right (Nat.le_refl _),Nat.sub_self]
 rfl
theorem nq{L R:List Nat}{a v:Nat}:(L++a::R).set L.length v=L++v::R:=by
 rw[List.set_append_right _ _ (Nat.le_refl _),Nat.sub_self]
 rfl
theorem ry{p:Array Nat}{L M R:List Nat}{a b n m:Nat}(h:p.toList=L++a::(M++b::R))(hn:n=L.length)(hm:m=(L++b::M).length):(p.swapIfInBounds n m).toList=L++b::(M++a::R)/\(p.swapIfInBounds m n).toList=L++b::(M++a::R):=by
 have hm2:m=(L++a::M).length:=by rw[hm,List.length_append,List.length_append];rfl
 have e:L++a::(M++b::R)=(L++a::M)++b::R:=by rw[List.append_assoc];rfl
 have ga:p[n]?=some a:=by rw[at_of h,hn];exact zS
 have gb:p[m]?=some b:=by rw[at_of h,e,hm2];exact zS
 obtain⟨h1,g1⟩:=Array.getElem?_eq_some_iff.mp ga;obtain⟨h2,g2⟩:=Array.getElem?_eq_some_iff.mp gb
 have s1:(p.toList.set n b).set m a=L++b::(M++a::R):=by
  rw[h,hn,nq,hm,show L++b::(M++b::R)=(L++b::M)++b::R by rw[List.append_assoc];rfl,nq,List.append_assoc]
  rfl
 have s2:(p.toList.set m a).set n b=L++b::(M++a::R):=by rw[h,e,hm2,nq,List.append_assoc,hn];exact nq
 unfold Array.swapIfInBounds;rw[dif_pos h1,dif_pos h2,dif_pos h2,dif_pos h1,Array.toList_swap,Array.toList_swap,g1,g2];exact⟨s1,s2⟩
theorem BH{p:Array Nat}{A B C:List Nat}{x k:Nat}(h:p.toList=A++(B++x::C))(hk:k=(A++B).length):∀(d:Nat) (B1 B2:List Nat),B=B1++B2->B2.length=d->(bubble p k d).toList=A++(B1++x::(B2++C)):=by
 intro d;induction d with
 |zero=>intro B1 B2 e hd;cases List.eq_nil_of_length_eq_zero hd;rw[List.append_nil]at e;rw[e]at h;exact h
 |succ d ih=>
  intro B1 B2 e hd;cases B2 with
  |nil=>exact nomatch hd
  |cons b B2=>
   have hd:B2.length=d:=Nat.succ.inj hd;have i:=ih (B1++[b]) B2 (by rw[e,List.append_assoc];rfl) hd;have kd:k=(A++B1).length+1+d:=by rw[hk,e,<-List.append_assoc,List.length_append,<-hd];exact(Nat.add_assoc _ 1 _).symm▸ON _ (Nat.add_comm _ _)
   rw[bubble_succ,show k-d=(A++B1).length+1 by rw[kd];exact Nat.add_sub_cancel ..,show(A++B1).length+1-1=(A++B1).length from rfl];refine((ry (M:=[]) (L:=A++B1) (a:=b) (b:=x) (R:=B2++C) (by rw[i,List.append_assoc,List.append_assoc];rfl) rfl (List.length_append (as:=A++B1) (bs:=[x])).symm).2).trans ?_;rw[List.append_assoc]
   rfl
theorem F8{p:Array Nat}{A B C:List Nat}{x l k:Nat}(h:p.toList=A++(B++x::C))(hl:A.length=l)(hk:l+B.length=k):(bubble p k (k-l)).toList=A++x::(B++C):=by rw[show k-l=B.length by rw[<-hk];exact Nat.add_sub_cancel_left ..];exact BH h (by rw[List.length_append,hl,hk]) _ [] B rfl rfl
theorem ar1{a m d:Nat}:a+(d+1+(m+(d+1)))-1-d=a+d+(m+1):=by
 have e:a+(d+1+(m+(d+1)))=a+d+(m+1)+d+1:=by
  rw[Nat.add_assoc (a+d),Nat.add_assoc a d,Nat.add_assoc d 1,Nat.add_comm 1 (m+(d+1)),<-Nat.add_assoc m d 1,Nat.add_right_comm m d 1]
  rfl
 rw[e,Nat.add_sub_cancel,Nat.add_sub_cancel]
theorem BI{p:Array Nat}{A B C:List Nat}{i j:Nat}(h:p.toList=A++(B++C))(hi:i=A.length)(hj:j=A.length+B.length):∀(d:Nat) (X M Y:List Nat),B=X++(M++Y)->X.length=d->Y.length=d->(mirror p i j d).toList=A++(Y.reverse++(M++(X.reverse++C))):=by
 intro d;induction d with
 |zero=>intro X M Y e hX hY;cases List.eq_nil_of_length_eq_zero hX;cases List.eq_nil_of_length_eq_zero hY;rw[List.append_nil]at e;rw[e]at h;exact h
 |succ d ih=>
  intro X M Y e hX hY;obtain⟨X,a,rfl⟩:=nk (P:=X) (by rw[hX];exact Nat.succ_pos _);cases Y with
  |nil=>exact nomatch hY
  |cons b Y=>
   have hX:X.length=d:=by rw[List.length_append]at hX;exact Nat.succ.inj hX
   have hY:Y.length=d:=Nat.succ.inj hY;have k:=ih X (a::(M++[b])) Y (by rw[e];simp) hX hY
   have lj:j-1-d=((A++Y.reverse)++b::M).length:=by rw[hj,e];rw[List.length_append,List.length_append,List.length_append,List.length_append,List.length_append,List.length_reverse,hX,hY];show A.length+(d+1+(M.length+(Y.length+1)))-1-d=_;rw[hY];exact ar1
   rw[mirror_succ];have:=(ry (M:=M) (L:=A++Y.reverse) (a:=a) (b:=b) (R:=X.reverse++C) (by rw[k];simp) (by rw[hi,List.length_append,List.length_reverse,hY]:i+d=_) lj).1;rw[this];simp
theorem kQ{p:Array Nat}{A B C:List Nat}{i j:Nat}(h:p.toList=A++(B++C))(hi:A.length=i)(hj:i+B.length=j):(kas_rev p i j).toList=A++(B.reverse++C):=by
 unfold kas_rev;rw[show(j-i)/2=B.length/2 by rw[<-hj,Nat.add_sub_cancel_left]];have hn:B.length=B.length/2+(B.length%2+B.length/2):=by rw[Nat.add_comm (B.length%2),<-Nat.add_assoc,<-Nat.two_mul,Nat.div_add_mod]
 have hr:=Nat.mod_lt B.length (Nat.succ_pos 1);generalize B.length/2=q at hn ⊢;generalize B.length%2=r at hn hr;have e1:=(List.take_append_drop q B).symm;have e2:=(List.take_append_drop r (B.drop q)).symm;rw[e2]at e1;have lX:(B.take q).length=q:=by rw[List.length_take,hn];exact Nat.min_eq_left (OI _ _)
 have lY:((B.drop q).drop r).length=q:=by rw[List.length_drop,List.length_drop,hn,Nat.add_sub_cancel_left,Nat.add_sub_cancel_left]
 have lM:((B.drop q).take r).length<=1:=by rw[List.length_take];exact OA (Nat.min_le_left _ _) (Nat.le_of_lt_succ hr)
 generalize B.take q=X at e1 lX;generalize (B.drop q).take r=M at e1 lM;generalize (B.drop q).drop r=Y at e1 lY
 have rM:M.reverse=M:=by
  cases M with
  |nil=>rfl
  |cons m M=>rw[List.eq_nil_of_length_eq_zero (Nat.le_zero.mp (Nat.le_of_succ_le_succ lM))];rfl
 rw[BI h hi.symm (by rw[hi,hj]) _ X M Y e1 lX lY,e1,List.reverse_append,List.reverse_append,rM,List.append_assoc,List.append_assoc]
def Lt2(f:Nat->Int)(x y:Nat):Prop:=f x<f y\/(f x=f y/\x<y)
theorem Lt2.le{f:Nat->Int}{x y:Nat}(h:Lt2 f x y):f x<=f y:=h.elim Int.le_of_lt λh=>Int.le_of_eq h.1
theorem Lt2.of{f:Nat->Int}{x y:Nat}(h:f x<=f y)(hx:x<y):Lt2 f x y:=(Int.lt_or_eq_of_le h).imp id λe=>⟨e,hx⟩
theorem ltN{n fu N:Nat}(h:n+(fu+1)=N):n<N:=h▸Nat.lt_add_of_pos_right (Nat.succ_pos fu)
theorem wq{n fu N:Nat}(h:n+(fu+1)=N):n+1+fu=N:=(Nat.add_right_comm n 1 fu).trans h
structure SI (f:Nat->Int) (N:Nat) (p:Array Nat) (n:Nat) (P:List Nat):Prop where
 perm:P.Perm (List.range n)
 srt:P.Pairwise (Lt2 f)
 all:p.toList=P++List.range' n (N-n)
theorem fY{P:List Nat}{n:Nat}(h:P.Perm (List.range n)){x:Nat}(hx:x∈P):x<n:=List.mem_range.mp (h.mem_iff.mp hx)
theorem fJ{P:List Nat}{n:Nat}(h:P.Perm (List.range n)):P.length=n:=by rw[h.length_eq,List.length_range]
theorem cG{n N:Nat}(h:n<N):List.range' n (N-n)=n::List.range' (n+1) (N-(n+1)):=by
 rw[show N-n=(N-(n+1))+1 from(Nat.sub_add_cancel (Nat.sub_pos_of_lt h)).symm]
 rfl
theorem gJ{P:List Nat}{n:Nat}(h:P.Perm (List.range n)):(P++[n]).Perm (List.range (n+1)):=by rw[List.range_succ];exact h.append_right _
section
variable {f:Nat->Int}{N:Nat}{o:Nat->Nat->Pj Bool}(ho:∀i j,i<N->j<N->o i j=some (decide (f i<f j)))
include ho
theorem F9{p:Array Nat}(fu:Nat):∀(n:Nat) (P:List Nat),n+fu=N->0<n->SI f N p n P->∃m Q,br o (kas_asc p fu n)=some m/\SI f N p m Q/\0<m/\m<=N/\(m<N->∀A x,Q=A++[x]->f m<f x):=by
 induction fu with
 |zero=>exact λn P h h0 I=>⟨n,P,rfl,I,h0,Nat.le_of_eq h,λq=>O8 h (Nat.ne_of_lt q)⟩
 |succ fu ih=>
  intro n P h h0 I;have hl:=fJ I.perm;have nN:=ltN h;obtain⟨A,x,rfl⟩:=nk (P:=P) (hl▸h0);have hx:x<n:=fY I.perm (List.mem_append_right _ (.head _));have hA:A.length+1=n:=(List.length_append (bs:=[x])).symm.trans hl;have e1:p.getD n 0=n:=g8 (by rw[I.all,cG nN]) hl;have e2:p.getD (n-1) 0=x:=g8 (A:=A) (B:=List.range' n (N-n)) (by rw[I.all,List.append_assoc];rfl) (hA▸rfl);show ∃m Q,(o (p.getD n 0) (p.getD (n-1) 0)).bind (λb=>br o (if b=true then KasT.ret n else kas_asc p fu (n+1)))=_/\_;rw[e1,e2,ho n x nN (Nat.lt_trans hx nN),Option.bind_some]
  by_cases hc:f n<f x
  ·rw[decide_eq_true hc];refine⟨n,_,rfl,I,h0,OL nN,λ_ B y hB=>?_⟩;cases(List.append_inj' hB rfl).2;exact hc
  ·rw[decide_eq_false hc];refine ih (n+1) (A++[x]++[n]) (wq h) (Nat.succ_pos n) ⟨gJ I.perm,?_,by rw[I.all,cG nN,List.append_assoc (A++[x])];rfl⟩;refine List.pairwise_append.mpr ⟨I.srt,List.pairwise_singleton _ _,λy hy z hz=>?_⟩;rw[List.mem_singleton.mp hz];refine .of (Int.le_trans ?_ (Int.not_lt.mp hc)) (fY I.perm hy);rcases List.mem_append.mp hy with q|q
   ·exact((List.pairwise_append.mp I.srt).2.2 y q x (.head _)).le
   ·rw[List.mem_singleton.mp q];exact Int.le_refl _
structure DI (f:Nat->Int) (N:Nat) (p:Array Nat) (n:Nat) (A B:List Nat):Prop where
 perm:(A++B).Perm (List.range n)
 fall:A.Pairwise λx y=>Lt2 f y x
 over:∀a∈A,∀b∈B,f b<f a
 same:∀x∈B,∀y∈B,f x=f y
 up:B.Pairwise (· < ·)
 all:p.toList=A++(B++List.range' n (N-n))
end
theorem DI.turn{f:Nat->Int}{N:Nat}{p:Array Nat}{n:Nat}{A B:List Nat}(I:DI f N p n A B):(A++B.reverse).Perm (List.range n)/\(A++B.reverse).Pairwise λx y=>Lt2 f y x:=by refine⟨(List.Perm.append_left A (List.reverse_perm B)).trans I.perm,?_⟩;rw[List.pairwise_append];refine⟨I.fall,?_,λa ha b hb=> .inl (I.over a ha b (List.mem_reverse.mp hb))⟩;rw[List.pairwise_reverse];exact(List.Pairwise.and_mem.mp I.up).imp λ⟨h1,h2,h3⟩=> .inr ⟨I.same _ h1 _ h2,h3⟩
section
variable {f:Nat->Int}{N:Nat}{o:Nat->Nat->Pj Bool}(ho:∀i j,i<N->j<N->o i j=some (decide (f i<f j)))
include ho
omit ho in
theorem DI.over1(I:DI f N p n A B)(hx:x∈B)(hc:f n<f x)(nN:n<N)(hp:p'.toList=A++(B.reverse++List.range' n (N-n))):DI f N p' (n+1) (A++B.reverse) [n] where
 perm:=gJ I.turn.1
 fall:=I.turn.2
 over:=λa ha b hb=>by
  rw[List.mem_singleton.mp hb];rcases List.mem_append.mp ha with q|q
  ·exact Int.lt_trans hc (I.over a q x hx)
  ·rw[I.same a (List.mem_reverse.mp q) x hx];exact hc
 same:=λy hy z hz=>by rw[List.mem_singleton.mp hy,List.mem_singleton.mp hz]
 up:=List.pairwise_singleton _ _
 all:=by rw[hp,cG nN,List.append_assoc];rfl
omit ho in
theorem DI.more(I:DI f N p n A B)(hx:x∈B)(hf:f n=f x)(nN:n<N):DI f N p (n+1) A (B++[n]) where
 perm:=by rw[<-List.append_assoc];exact gJ I.perm
 fall:=I.fall
 over:=λa ha b hb=>by
  rcases List.mem_append.mp hb with q|q
  ·exact I.over a ha b q
  ·rw[List.mem_singleton.mp q,hf];exact I.over a ha x hx
 same:=by
  have g:∀w∈B++[n],f w=f x:=λw hw=>by
   rcases List.mem_append.mp hw with q|q
   ·exact I.same w q x hx
   ·rw[List.mem_singleton.mp q,hf]
  exact λy hy z hz=>(g y hy).trans (g z hz).symm
 up:=List.pairwise_append.mpr ⟨I.up,List.pairwise_singleton _ _,λy hy z hz=>by rw[List.mem_singleton.mp hz];exact fY I.perm (List.mem_append_right _ hy)⟩
 all:=by rw[I.all,cG nN,List.append_assoc];rfl
theorem Jx(fu:Nat):∀(n q:Nat) (p:Array Nat) (A B:List Nat),n+fu=N->B.length=q+1->DI f N p n A B->∃p' n' q' A' B',br o (kas_desc fu p n q)=some (p',n',q')/\DI f N p' n' A' B'/\B'.length=q'+1/\n'<=N:=by
 induction fu with
 |zero=>exact λn q p A B h hB I=>⟨p,n,q,A,B,rfl,I,hB,Nat.le_of_eq h⟩
 |succ fu ih=>
  intro n q p A B h hB I;have nN:=ltN h;have hl:=fJ I.perm;obtain⟨B',x,e⟩:=nk (P:=B) (hB▸Nat.succ_pos q);have hx:x∈B:=e▸List.mem_append_right _ (.head _);have xN:x<N:=Nat.lt_trans (fY I.perm (List.mem_append_right _ hx)) nN;have e1:p.getD n 0=n:=g8 (A:=A++B) (by rw[I.all,cG nN,List.append_assoc]) hl;have e2:p.getD (n-1) 0=x:=g8 (A:=A++B') (B:=List.range' n (N-n)) (by rw[I.all,e,List.append_assoc,List.append_assoc];rfl) (by rw[<-hl,e,<-List.append_assoc,List.length_append (bs:=[x])];rfl);show ∃p' n' q' A' B',(o (p.getD n 0) (p.getD (n-1) 0)).bind (λb=>br o (if b=true then(if q>0 then kas_desc fu (kas_rev p (n-(q+1)) n) (n+1) 0 else kas_desc fu p (n+1) 0) else KasT.ask (p.getD (n-1) 0) (p.getD n 0) λd=>if d=true then KasT.ret (p,n,q) else kas_desc fu p (n+1) (q+1)))=_/\_;rw[e1,e2,ho n x nN xN,Option.bind_some]
  by_cases hc:f n<f x
  ·rw[decide_eq_true hc,if_pos rfl]
   by_cases hq:q>0
   ·rw[if_pos hq];have lA:A.length=n-(q+1):=by rw[<-hl,List.length_append,hB,Nat.add_sub_cancel]
    exact ih (n+1) 0 _ _ _ (wq h) rfl (I.over1 hx hc nN (kQ I.all lA (by rw[<-lA,<-List.length_append,hl])))
   ·rw[if_neg hq]
    have e0:B.reverse=B:=by
     have:B'.length=0:=by rw[e,List.length_append]at hB;exact(Nat.succ.inj hB).trans (Nat.eq_zero_of_not_pos hq)
     rw[e,List.length_eq_zero_iff.mp this];rfl
    exact ih (n+1) 0 _ _ _ (wq h) rfl (I.over1 hx hc nN (by rw[e0];exact I.all))
  ·rw[decide_eq_false hc,if_neg (by left)];show ∃p' n' q' A' B',(o x n).bind (λd=>br o (if d=true then KasT.ret (p,n,q) else kas_desc fu p (n+1) (q+1)))=_/\_;rw[ho x n xN nN,Option.bind_some]
   by_cases hd:f x<f n
   ·rw[decide_eq_true hd,if_pos rfl];exact⟨p,n,q,A,B,rfl,I,hB,OL nN⟩
   ·rw[decide_eq_false hd,if_neg (by left)];exact ih (n+1) (q+1) p A (B++[n]) (wq h) ((List.length_append ..).trans (ON Nat.succ hB)) (I.more hx (Int.le_antisymm (Int.not_lt.mp hd) (Int.not_lt.mp hc)) nN)
theorem wu(h1:A.Perm (List.range n))(h2:A.Pairwise λx y=>Lt2 f y x)(h3:p.toList=A++List.range' n (N-n))(h0:0<n)(hn:n<=N):∃m p' P,br o (kas_tail3 n N p)=some (m,p')/\SI f N p' m P/\0<m/\m<=N:=by
 have e:=kQ (p:=p) (A:=[]) (B:=A) (C:=List.range' n (N-n)) (i:=0) (j:=n) (by rw[h3];rfl) rfl (by rw[fJ h1,Nat.zero_add]);obtain⟨m,Q,r1,r2,r3,r4,_⟩:=F9 ho (p:=kas_rev p 0 n) (N-n) n A.reverse (Nat.add_sub_of_le hn) h0 ⟨(List.reverse_perm A).trans h1,List.pairwise_reverse.mpr h2,e⟩;refine⟨m,kas_rev p 0 n,Q,?_,r2,r3,r4⟩;unfold kas_tail3;rw[dH,r1]
 rfl
omit ho in
theorem DI.one(h1:A.Perm (List.range n))(h2:A.Pairwise λx y=>Lt2 f y x)(h3:p.toList=A++List.range' n (N-n))(hn:n<N)(h4:∀a∈A,f n<f a):DI f N p (n+1) A [n] where
 perm:=gJ h1
 fall:=h2
 over:=λa ha b hb=>by rw[List.mem_singleton.mp hb];exact h4 a ha
 same:=λy hy z hz=>by rw[List.mem_singleton.mp hy,List.mem_singleton.mp hz]
 up:=List.pairwise_singleton _ _
 all:=by rw[h3,cG hn];rfl
theorem mM(h1:A.Perm (List.range n))(h2:A.Pairwise λx y=>Lt2 f y x)(h3:p.toList=A++List.range' n (N-n))(hn:n<N)(h4:∀a∈A,f n<f a):∃m p' P,br o (kas_descPart n N p)=some (m,p')/\SI f N p' m P/\0<m/\m<=N:=by
 obtain⟨p',n',q',A',B',r1,I,hB,hn'⟩:=Jx ho (N-(n+1)) (n+1) 0 p A [n] (Nat.add_sub_of_le hn) rfl (.one h1 h2 h3 hn h4);have hl:=fJ I.perm;have n0:0<n':=by rw[<-hl,List.length_append,hB];exact Nat.succ_pos _
 have lA:A'.length=n'-(q'+1):=by rw[<-hl,List.length_append,hB,Nat.add_sub_cancel]
 unfold kas_descPart;rw[dH,r1];show ∃m p'' P,br o (if q'>0 then kas_tail3 n' N (kas_rev p' (n'-(q'+1)) n') else kas_tail3 n' N p')=_/\_
 by_cases hq:q'>0
 ·rw[if_pos hq];exact wu ho I.turn.1 I.turn.2 (by rw[kQ I.all lA (by rw[<-lA,<-List.length_append,hl]),List.append_assoc]) n0 hn'
 ·rw[if_neg hq]
  have e0:B'.reverse=B':=by
   rw[Nat.eq_zero_of_not_pos hq]at hB;cases B' with
   |nil=>rfl
   |cons b r=>rw[List.eq_nil_of_length_eq_zero (Nat.succ.inj hB)];rfl
  exact wu ho I.turn.1 I.turn.2 (by rw[I.all,e0,List.append_assoc]) n0 hn'
theorem Ga(hN:0<N):∃m p' P,br o (kas_count N (List.range N).toArray)=some (m,p')/\SI f N p' m P/\0<m/\m<=N:=by
 revert ho hN;exists f,N,o
 have hr:List.range N=[0]++List.range' 1 (N-1):=by rw[List.range_eq_range'];exact cG hN
 obtain⟨m,Q,r1,I,h0,hm,hs⟩:=F9 ho (p:=(List.range N).toArray) (N-1) 1 [0] (Nat.add_sub_of_le hN) Nat.one_pos ⟨List.Perm.refl _,List.pairwise_singleton _ _,hr⟩;unfold kas_count;rw[dH,r1,Option.bind_some]
 by_cases e:m=N
 ·rw[if_pos (by rw[e];exact beq_self_eq_true _)];exact⟨m,_,Q,rfl,I,h0,hm⟩
 rw[if_neg (λq=>e (eq_of_beq q))];have mN:=Nat.lt_of_le_of_ne hm e;have hl:=fJ I.perm;obtain⟨A,x,rfl⟩:=nk (P:=Q) (hl▸h0);have hx:=hs mN A x rfl;have hA:A.length+1=m:=(List.length_append (bs:=[x])).symm.trans hl;have xN:x<N:=Nat.lt_trans (fY I.perm (List.mem_append_right _ (.head _))) mN;cases A with
 |nil=>rw[if_neg (by rw[<-hA];decide)];exact mM ho I.perm (List.pairwise_singleton _ _) I.all mN λa ha=>by rw[List.mem_singleton.mp ha];exact hx
 |cons y A=>
  have yN:y<N:=Nat.lt_trans (fY I.perm (.head _)) mN;have e1:(List.range N).toArray.getD 0 0=y:=g8 (A:=[]) (B:=A++[x]++List.range' m (N-m)) I.all rfl;have e2:(List.range N).toArray.getD (m-1) 0=x:=g8 (A:=y::A) (B:=List.range' m (N-m)) (by rw[I.all,List.append_assoc];rfl) (hA▸rfl);rw[if_pos (by rw[<-hA];exact Nat.succ_lt_succ (Nat.succ_pos _))];show ∃m' p' P,(o ((List.range N).toArray.getD 0 0) ((List.range N).toArray.getD (m-1) 0)).bind (λc=>br o (if c=true then KasT.ret (m,(List.range N).toArray) else kas_descPart m N (kas_rev (List.range N).toArray 0 m)))=_/\_;rw[e1,e2,ho y x yN xN,Option.bind_some]
  by_cases hc:f y<f x
  ·rw[decide_eq_true hc,if_pos rfl];exact⟨m,_,_,rfl,I,h0,hm⟩
  ·rw[decide_eq_false hc,if_neg (by left)];refine mM ho (A:=(y::A++[x]).reverse) ((List.reverse_perm _).trans I.perm) (List.pairwise_reverse.mpr I.srt) (kQ (A:=[]) (B:=y::A++[x]) (by rw[I.all];rfl) rfl (by rw[hl,Nat.zero_add])) mN λa ha=>?_;refine Int.lt_of_lt_of_le hx (Int.le_trans (Int.not_lt.mp hc) ?_);rcases OT.mp (List.mem_reverse.mp ha) with q|q
   ·rw[q];exact Int.le_refl _
   ·exact((List.pairwise_cons.mp I.srt).1 a q).le
end
section
variable {f:Nat->Int}{N:Nat}{o:Nat->Nat->Pj Bool}(ho:∀i j,i<N->j<N->o i j=some (decide (f i<f j)))
theorem getD_get{l:List Nat}{i:Nat}(h:i<l.length):l.getD i 0=l[i]:=by simp [List.getD,List.getElem?_eq_getElem h]
theorem wx{P:List Nat}(h:P.Pairwise (Lt2 f)){i j:Nat}(hij:i<=j)(hj:j<P.length):f (P.getD i 0)<=f (P.getD j 0):=by
 rcases Nat.lt_or_eq_of_le hij with e|e
 ·have hi:=Nat.lt_trans e hj;rw[getD_get hi,getD_get hj];exact((List.pairwise_iff_getElem.mp h) i j hi hj e).le
 ·rw[e];exact Int.le_refl _
theorem half(h:l<r):l<=(l+r)/2/\(l+r)/2<r:=⟨(Nat.le_div_iff_mul_le (Nat.succ_pos 1)).mpr (by rw[Nat.mul_two];exact Nat.add_le_add_left (OL h) l),(Nat.div_lt_iff_lt_mul (Nat.succ_pos 1)).mpr (by rw[Nat.mul_two];exact Nat.add_lt_add_right h r)⟩
include ho
theorem Gb{p:Array Nat}{k:Nat}{P:List Nat}(hk:k<N)(I:SI f N p k P)(fu:Nat):∀(l r:Nat),l<=r->r<=k->r<=l+fu->(∀i,i<l->f (P.getD i 0)<=f k)->(∀i,r<=i->i<k->f k<f (P.getD i 0))->∃m,br o (kas_place p k fu l r)=some m/\m<=k/\(∀i,i<m->f (P.getD i 0)<=f k)/\∀i,m<=i->i<k->f k<f (P.getD i 0):=by
 induction fu with
 |zero=>exact λl r h1 h2 h3 a b=>⟨l,rfl,OA h1 h2,a,λi hi=>b i (OA h3 hi)⟩
 |succ fu ih=>
  intro l r h1 h2 h3 a b;have hl:=fJ I.perm;unfold kas_place
  by_cases hlr:l≥r
  ·rw[if_pos hlr];exact⟨l,rfl,OA h1 h2,a,λi hi=>b i (OA hlr hi)⟩
  ·rw[if_neg hlr];obtain⟨m1,m2⟩:=half (Nat.lt_of_not_le hlr);generalize (l+r)/2=m at m1 m2 ⊢;have hm:m<P.length:=hl▸OD m2 h2;have e1:p.getD k 0=k:=g8 (by rw[I.all,cG hk]) hl
   have e2:p.getD m 0=P.getD m 0:=by
    have:=at_of I.all m;rw[List.getElem?_append_left hm]at this;rw[Array.getD_eq_getD_getElem?,this]
    rfl
   have hp:P.getD m 0<k:=fY I.perm (by rw[getD_get hm];exact List.getElem_mem _);show ∃m',(o (p.getD k 0) (p.getD m 0)).bind (λc=>br o (if c=true then kas_place p k fu l m else kas_place p k fu (m+1) r))=_/\_;rw[e1,e2,ho k _ hk (Nat.lt_trans hp hk),Option.bind_some]
   by_cases hc:f k<f (P.getD m 0)
   ·rw[decide_eq_true hc,if_pos rfl];exact ih l m m1 (OA (OL m2) h2) (Nat.le_of_lt_succ (OD m2 h3)) a λi hi hik=>Int.lt_of_lt_of_le hc (wx I.srt hi (hl▸hik))
   ·rw[decide_eq_false hc,if_neg (by left)];exact ih (m+1) r m2 h2 (OA h3 (by rw[<-Nat.add_assoc,Nat.add_right_comm];exact Nat.add_le_add_right (Nat.succ_le_succ m1) fu)) (λi hi=>Int.le_trans (wx I.srt (Nat.le_of_lt_succ hi) hm) (Int.not_lt.mp hc)) b
theorem Gd{k:Nat}{p:Array Nat}{P:List Nat}(hk:k<N)(I:SI f N p k P):∃m,br o (kas_place p k k 0 k)=some m/\SI f N (bubble p k (k-m)) (k+1) (P.take m++k::P.drop m):=by
 have hl:=fJ I.perm;obtain⟨m,r1,r2,r3,r4⟩:=Gb ho hk I k 0 k (Nat.zero_le _) (OP _) (Nat.le_of_eq (Nat.zero_add k).symm) (λi hi=>O8 hi (Pe _)) (λi h1 h2=>O8 h2 (OU.mpr h1));have hP:P=P.take m++P.drop m:=(List.take_append_drop m P).symm;have lt:(P.take m).length=m:=by rw[List.length_take,hl];exact Nat.min_eq_left r2
 have ld:m+(P.drop m).length=k:=by rw[List.length_drop,hl];exact Nat.add_sub_of_le r2
 have e:=F8 (k:=k) (p:=p) (A:=P.take m) (B:=P.drop m) (C:=List.range' (k+1) (N-(k+1))) (x:=k) (by rw[I.all,cG hk,<-List.append_assoc,<-hP]) lt ld;refine⟨m,r1,?_,?_,by rw[e,List.append_assoc];rfl⟩
 ·refine List.perm_middle.trans ?_;rw[<-hP];exact(List.perm_append_singleton k P).symm.trans (gJ I.perm)
 ·have s:=I.srt;rw[hP]at s;replace s:=List.pairwise_append.mp s
  have mem1:∀a∈P.take m,Lt2 f a k:=λa ha=>by obtain⟨i,hi,rfl⟩:=List.getElem_of_mem ha;have hi2:i<P.length:=OD hi (by rw[List.length_take];exact Nat.min_le_right _ _);have:=r3 i (lt▸hi);rw[getD_get hi2]at this;rw[List.getElem_take];exact .of this (fY I.perm (List.getElem_mem _))
  have mem2:∀b∈P.drop m,f k<f b:=λb hb=>by obtain⟨i,hi,rfl⟩:=List.getElem_of_mem hb;have hi2:m+i<k:=ld▸Nat.add_lt_add_left hi m;have:=r4 (m+i) (OI ..) hi2;rw[getD_get (hl▸hi2)]at this;rw[List.getElem_drop];exact this
  refine List.pairwise_append.mpr ⟨s.1,List.pairwise_cons.mpr ⟨λb hb=> .inl (mem2 b hb),s.2.1⟩,λa ha b hb=>?_⟩;rcases OT.mp hb with q|q
  ·rw[q];exact mem1 a ha
  ·exact s.2.2 a ha b q
theorem LP(fu:Nat):∀(k:Nat) (p:Array Nat) (P:List Nat),k+fu=N->SI f N p k P->∃p' P',br o (kas_bin fu p k)=some p'/\SI f N p' N P':=by
 induction fu with
 |zero=>intro k p P h I;cases h;exact⟨p,P,rfl,I⟩
 |succ fu ih=>intro k p P h I;obtain⟨m,r1,J⟩:=Gd ho (ltN h) I;obtain⟨p',P',r2,L⟩:=ih (k+1) _ _ (wq h) J;refine⟨p',P',?_,L⟩;unfold kas_bin;rw[dH,r1];exact r2
omit ho in
theorem SI.fin{p:Array Nat}{P:List Nat}(J:SI f N p N P):p.toList.Perm (List.range N)/\p.toList.Pairwise (Lt2 f):=by
 have:p.toList=P:=by rw[J.all,Nat.sub_self];exact List.append_nil _
 rw[this];exact⟨J.perm,J.srt⟩
theorem Jy(hN:0<N):∃p,br o (kas_sort N)=some p/\p.toList.Perm (List.range N)/\p.toList.Pairwise (Lt2 f):=by
 obtain⟨m,p,P,r1,I,h0,hm⟩:=Ga ho hN;unfold kas_sort;rw[dH,r1,Option.bind_some]
 by_cases h:m<N
 ·rw[if_pos h,show max m 1=m from Nat.max_eq_left h0];obtain⟨p',P',r2,J⟩:=LP ho (N-m) m p P (Nat.add_sub_of_le hm) I;exact⟨p',r2,J.fin⟩
 ·rw[if_neg h];cases Nat.le_antisymm hm (Nat.le_of_not_lt h);exact⟨p,rfl,I.fin⟩
end
theorem buckets{f:Nat->Int}{ks:List Int}(hk:ks.Pairwise (· < ·)):∀{l:List Nat},l.Pairwise (· < ·)->(∀i∈l,f i∈ks)->(ks.flatMap λk=>l.filter λi=>f i==k).Perm l/\(ks.flatMap λk=>l.filter λi=>f i==k).Pairwise (Lt2 f):=by
 intro l hl hm;constructor
 ·rw[List.perm_iff_count];intro a
  have:∀ks:List Int,ks.Pairwise (· < ·)->List.count a (ks.flatMap λk=>l.filter λi=>f i==k)=if f a∈ks then List.count a l else 0:=by
   intro ks hk;induction ks with
   |nil=>rfl
   |cons k ks ih=>
    rw[List.flatMap_cons,List.count_append,ih (List.pairwise_cons.mp hk).2]
    by_cases e:f a=k
    ·have hn:¬f a∈ks:=λq=>by
      exact O8 ((List.pairwise_cons.mp hk).1 _ q) (e▸Int.lt_irrefl _)
     rw[if_neg hn,if_pos (by rw[e];exact .head _),List.count_filter (by rw[e];exact beq_self_eq_true _)]
     rfl
    ·have:List.count a (l.filter λi=>f i==k)=0:=List.count_eq_zero.mpr λq=>e (by simpa using(List.mem_filter.mp q).2);rw[this,Nat.zero_add]
     by_cases q:f a∈ks
     ·rw[if_pos q,if_pos (.tail _ q)]
     ·rw[if_neg q,if_neg (λw=>by rcases List.mem_cons.mp w with w|w;exact e w;exact q w)]
  rw[this ks hk]
  by_cases q:f a∈ks
  ·rw[if_pos q]
  ·rw[if_neg q,List.count_eq_zero.mpr λw=>q (hm a w)]
 ·have gen:∀ks:List Int,ks.Pairwise (· < ·)->(ks.flatMap λk=>l.filter λi=>f i==k).Pairwise (Lt2 f):=by
   intro ks hk;induction ks with
   |nil=>exact .nil
   |cons k ks ih=>
    rw[List.flatMap_cons,List.pairwise_append];have hk':=List.pairwise_cons.mp hk;refine⟨?_,ih hk'.2,λa ha b hb=>?_⟩
    ·refine(List.Pairwise.and_mem.mp (hl.filter _)).imp λ{x y} ⟨h1,h2,h3⟩=> .inr ⟨?_,h3⟩;have e1:f x=k:=by simpa using(List.mem_filter.mp h1).2
     have e2:f y=k:=by simpa using(List.mem_filter.mp h2).2
     rw[e1,e2]
    ·have e1:f a=k:=by simpa using(List.mem_filter.mp ha).2
     obtain⟨k2,h1,h2⟩:=List.mem_flatMap.mp hb;have e2:f b=k2:=by simpa using(List.mem_filter.mp h2).2
     exact .inl (e1▸e2▸hk'.1 k2 h1)
  exact gen _ hk
theorem BJ{f:Nat->Int}{a b:List Nat}(h:a.Perm b)(ha:a.Pairwise (Lt2 f))(hb:b.Pairwise (Lt2 f)):a=b:=
 List.Perm.eq_of_pairwise (λx y _ _ h1 h2=>O8 (h1.elim (λh=>h2.elim (λq=>O8 h (Int.not_lt.mpr (Int.le_of_lt q))) λq=>O8 h (q.1▸Int.lt_irrefl _)) λh=>h2.elim (λq=>O8 q (h.1▸Int.lt_irrefl _)) λq=>O8 h.2 (OU.mpr (OL q.2))) id) ha hb h
theorem Jz(h:S.spec n sc ((me F S n).ev sc ρ) e=none):(me F S (n+1)).ev sc ρ e=zV F S n (me F S n) sc ρ e:=by show evF F S n (me F S n) sc ρ e=_;unfold evF;rw[h]
theorem LQ(h:S.spec n sc ((me F S n).ev sc ρ) e=some v):(me F S (n+1)).ev sc ρ e=some v:=by show evF F S n (me F S n) sc ρ e=_;unfold evF;rw[h]
theorem tD(hs:S.spec n sc ((me F S n).ev sc ρ) (.Compare l [op] [r] q)=none)(hr:bx r=true)(h1:(me F S n).ev sc ρ l=some a)(h2:(me F S n).ev sc ρ r=some b)(h:fL op a b=some v):(me F S (n+1)).ev sc ρ (.Compare l [op] [r] q)=some (.bool v):=
 (Jz hs).trans ((if_pos hr).trans (bnd h1 (bnd h2 (ON (Option.map _) h))))
theorem i5(hs:S.spec n sc ((me F S n).ev sc ρ) (.Call (.Name x q) args [] pos)=none)(h1:(me F S n).ev sc ρ (.Name x q)=some (.ex (.ref a)))(h2:aT (me F S n) sc ρ args=some as)(hf:F.f a=some (k,g))(hk:k<=n)(hp:aa as=true)(hg:g as=some v):(me F S (n+1)).ev sc ρ (.Call (.Name x q) args [] pos)=some v:=by refine(Jz hs).trans (bnd h1 (bnd h2 (bnd (rfl:kW _=some _) ?_)));exact bnd (f:=λkg=>if kg.1<=n/\aa as then kg.2 as else none) hf ((if_pos ⟨hk,hp⟩).trans hg)
noncomputable def fnK:Fns:=⟨λa=>if a=169 then some (41,oF) else none⟩
noncomputable abbrev SK:Subs:=SS λ_ _ ev e=>specAttr ev e
noncomputable def kmE(nm:Str):Pm:=uQ (aA nm).body
noncomputable abbrev kmR(a b:Str):Rho:=[(sx "other",.kobj (.str b)),(sx "self",.kobj (.str a)),(sx "mycmp",.ex (.ref 169))]
structure KmOk (nm:Str) (op:CmpOp):Prop where
 ps:mps nm=[sx "self",sx "other"]
 body:(aA nm).body=[.Return (some (kmE nm)) (ou (aA nm).body)]
 eq:kmE nm= .Compare (.Call (.Name (sx "mycmp") (cF (bL (kmE nm))).pos) [cA (bL (kmE nm)) 0,cA (bL (kmE nm)) 1] [] (bL (kmE nm)).pos) [op] [bR (kmE nm)] (kmE nm).pos
 one:notStar (cA (bL (kmE nm)) 0)=true/\notStar (cA (bL (kmE nm)) 1)=true/\bx (bR (kmE nm))=true
 fn:∀a b,(me fnK SK 47).ev (aA nm).scope.names (kmR a b) (.Name (sx "mycmp") (cF (bL (kmE nm))).pos)=some (.ex (.ref 169))
 a0:∀a b,(me fnK SK 47).ev (aA nm).scope.names (kmR a b) (cA (bL (kmE nm)) 0)=some (.str a)
 a1:∀a b,(me fnK SK 47).ev (aA nm).scope.names (kmR a b) (cA (bL (kmE nm)) 1)=some (.str b)
 z:∀a b,(me fnK SK 48).ev (aA nm).scope.names (kmR a b) (bR (kmE nm))=some (.int 0)
theorem Nj:KmOk (sx "__lt__") .Lt:=⟨nofun,nofun,nofun,⟨nofun,nofun,nofun⟩,λa b=>by symm,λa b=>by symm,λa b=>by symm,λa b=>by symm⟩
theorem Nk:KmOk (sx "__gt__") .Gt:=⟨nofun,nofun,nofun,⟨nofun,nofun,nofun⟩,λa b=>by symm,λa b=>by symm,λa b=>by symm,λa b=>by symm⟩
theorem Nl:KmOk (sx "__eq__") .Eq:=⟨nofun,nofun,nofun,⟨nofun,nofun,nofun⟩,λa b=>by symm,λa b=>by symm,λa b=>by symm,λa b=>by symm⟩
theorem Nm:KmOk (sx "__le__") .LtE:=⟨nofun,nofun,nofun,⟨nofun,nofun,nofun⟩,λa b=>by symm,λa b=>by symm,λa b=>by symm,λa b=>by symm⟩
theorem Nn:KmOk (sx "__ge__") .GtE:=⟨nofun,nofun,nofun,⟨nofun,nofun,nofun⟩,λa b=>by symm,λa b=>by symm,λa b=>by symm,λa b=>by symm⟩
theorem Ge(K:KmOk nm op)(hg:oF [.str a,.str b]=some (.int i))(hv:fL op (.int i) (.int 0)=some v):gD fnK SK 50 nm (.kobj (.str a)) (.kobj (.str b))=some (.bool v):=by
 unfold gD;rw[K.ps,K.body]
 show(match(mx fnK SK false 50).ex (aA nm).scope.names (kmR a b) [.Return (some (kmE nm)) (ou (aA nm).body)]with
  |some (.ret r,_)=>some r
  |_=>none)=_
 have c:=i5 (S:=SK) (n:=47) (pos:=(bL (kmE nm)).pos) rfl (K.fn a b) (gy K.one.1 K.one.2.1 (K.a0 a b) (K.a1 a b)) (show fnK.f 169=some (41,oF) by symm) (by left) rfl hg
 have e:(me fnK SK 49).ev (aA nm).scope.names (kmR a b) (kmE nm)=some (.bool v):=by rw[K.eq];exact tD rfl K.one.2.2 c (K.z a b) hv
 rw[bI (by rw[K.eq];rfl) e rfl]
noncomputable def yH(n:Nat)(sc:Sc)(ev:Pm->Pj MV)(e:Pm):Pj MV:=(fU (gD fnK SK 50) 50 n ev e).or ((nj n ev e).or (g0 fnK SK 50 n ev e))
noncomputable abbrev SL:Subs:=SS yH
noncomputable def fK:Fns:=⟨λa=>if a=93 then some (21,yy) else if a=162 then some (21,jw) else none⟩
noncomputable abbrev lwL(n:Nat):P:=me fK SL n
theorem lU{F:Fns}{S:Subs}{n:Nat}{sc:Sc}{ρ:Rho}{o:Pm}{lo hi:Pj Pm}{q q':Pos}{a:MV}{l h:Pj Int}{v:Pj MV}(hs:S.spec n sc ((me F S n).ev sc ρ) (.Subscript o (.Slice lo hi none q) q')=none)(h1:(me F S n).ev sc ρ o=some a)(h2:ig (me F S n) sc ρ lo=some l)(h3:ig (me F S n) sc ρ hi=some h)(hv:dh a l h=v):(me F S (n+1)).ev sc ρ (.Subscript o (.Slice lo hi none q) q')=v:=
 (Jz hs).trans (bnd h1 (bnd h2 (bnd h3 hv)))
theorem wy(hs:S.spec n sc ((me F S n).ev sc ρ) (.List es q)=none)(h:aT (me F S n) sc ρ es=some l)(hp:aa l=true)(hz:l.length<=1000):(me F S (n+1)).ev sc ρ (.List es q)=some (.list l):=
 have e:jY (me F S n) sc ρ es=some l:=bnd h (if_pos ⟨hp,hz⟩)
 (Jz hs).trans (ON (Option.map MV.list) e)
theorem yI(h0:notStar c=true/\notStar l=true/\8<=n)(h1:ev (.Name x q)=some (.ex (.type "list")))(h2:ev (.Name y q2)=some (.ex (.type "map")))(h3:ev c=some .kcls)(h4:ev l=some (.list ms))(h5:aa ms=true/\ms.length<=1000):nj n ev (.Call (.Name x q) [.Call (.Name y q2) [c,l] [] p2] [] p3)=some (.list (ms.map .kobj)):=
 (if_pos h0).trans (jj h1 rfl (jj h2 rfl (bnd h3 (jj h4 rfl (if_pos ⟨rfl,rfl,rfl,h5⟩)))))
section
variable (xs:List Int)
noncomputable def fZ:List (List Nat):=(bX xs).take 4
noncomputable def wz:MV:= .list ((fZ xs).map λr=> .kobj (.str (ah r)))
noncomputable def rz:MV:= .list ((bX xs).map λr=> .int (lead r))
noncomputable abbrev lw7:Rho:=ae (lw6 xs) (sx "keys") (wz xs)
noncomputable abbrev lw8:Rho:=ae (lw7 xs) (sx "dots") (rz xs)
noncomputable def Gf:Pm:=cA (lwE 8) 0
noncomputable def BL:Pm:=cA Gf 0
noncomputable def wA:Pm:=cA Gf 1
theorem wB:lwE 8= .Call (.Name (sx "list") (cF (lwE 8)).pos) [.Call (.Name (sx "map") (cF Gf).pos) [.Call (.Name (sx "cmp_to_key") (cF BL).pos) [.Name (sx "_law_more") (cA BL 0).pos] [] BL.pos,.Subscript (.Name (sx "left") (bL wA).pos) (.Slice none (some (sHi (bR wA))) none (bR wA).pos) wA.pos] [] Gf.pos] [] (lwE 8).pos:=nofun
theorem i6:(fZ xs).length<=4:=List.length_take_le 4 _
theorem take_left:dh (rsM (bX xs)) none (some ((4:Nat):Int))=some (rsM (fZ xs)):=by have:=g5 (l:=(bX xs).map λr=>MV.str (ah r)) 4 (dp _) (by rw[List.length_map];have:=eh xs;omega);rw[<-List.map_take]at this;exact this
theorem tE:∀l:List (List Nat),aa (l.map λr=>MV.kobj (.str (ah r)))=true
 | []=>rfl
 |a::l=>by show(true&&aa (l.map λr=>MV.kobj (.str (ah r))))=true;rw[tE l];rfl
theorem Np:bo (lwL 99) false ak (lw6 xs) (sx "keys") (aQ (stN lwB 8)).line (lwE 8)=some (lw7 xs):=by
 have a1:(lwL 98).ev ak (lw6 xs) (.Name (sx "list") (cF (lwE 8)).pos)=some (.ex (.type "list")):=nofun
 have a2:(lwL 98).ev ak (lw6 xs) (.Name (sx "map") (cF Gf).pos)=some (.ex (.type "map")):=nofun
 have b1:(lwL 97).ev ak (lw6 xs) (.Name (sx "cmp_to_key") (cF BL).pos)=some (.ex (.ref 93)):=nofun
 have b2:(lwL 97).ev ak (lw6 xs) (.Name (sx "_law_more") (cA BL 0).pos)=some (.ex (.ref 169)):=nofun
 have a3:=i5 (F:=fK) (S:=SL) (pos:=BL.pos) rfl b1 (cH rfl b2) (show fK.f 93=some (21,yy) by symm) (by left) rfl (show yy [.ex (.ref 169)]=some .kcls from rfl);have c1:(lwL 97).ev ak (lw6 xs) (.Name (sx "left") (bL wA).pos)=some (rsM (bX xs)):=nofun
 have c2:(lwL 97).ev ak (lw6 xs) (sHi (bR wA))=some (.int ((4:Nat):Int)):=nofun
 have a4:=lU (F:=fK) (S:=SL) (q:=(bR wA).pos) (q':=wA.pos) rfl c1 bJ (bb c2) (take_left xs)
 have e:(lwL 99).ev ak (lw6 xs) (lwE 8)=some (wz xs):=by
  rw[wB];refine LQ ?_;show(nj 98 ((lwL 98).ev ak (lw6 xs)) _).or _=_;rw[yI ⟨rfl,rfl,by left⟩ a1 a2 a3 a4 ⟨dp _,by rw[List.length_map];have:=i6 xs;lia⟩,List.map_map]
  rfl
 rw[wB]at e ⊢;exact iO nofun (by right) (by right) e (tE _)
theorem nr(h:inD 8 r):jw [.str (ah r)]=some (.int (lead r))/\ah r∈gf:=by
 obtain⟨d,k,h1,h2,rfl⟩:=h
 have m:ah (mY d k)∈gf:=by unfold gf;rw[List.mem_flatMap];exact⟨d,List.mem_range.mpr (by lia),OS.mpr ⟨k,List.mem_range.mpr h2,rfl⟩⟩
 have:=oG m;rw[show(ah (mY d k)).cps.toList=mY d k by simp [ah]]at this;exact⟨this,m⟩
noncomputable def ia:Pm:=lwE 9
theorem Gg:lwE 9=bU ia (sx "row"):=nofun
theorem Gh:aw ia= .Call (.Name (sx "_law_dots") (cF (aw ia)).pos) [.Name (sx "row") (cA (aw ia) 0).pos] [] (aw ia).pos:=nofun
theorem Gi:gF (au ia)=[]:=nofun
noncomputable def Gj(v:MV):MV:= .int (lead (dC v))
theorem Nq:bo (lwL 99) false ak (lw7 xs) (sx "dots") (aQ (stN lwB 9)).line (lwE 9)=some (lw8 xs):=by
 have i1:(lwL 98).ev ak (lw7 xs) (gI (au ia))=some (rsM (bX xs)):=nofun
 have hit:((lwL 98).ev ak (lw7 xs) (gI (au ia))).bind aM=some ((bX xs).map λr=>MV.str (ah r)):=by rw[i1,lT]
 have hc:=fO (f:=Gj) (keep:=λ_=>true) hit (by symm:aK ak (cSc ia)=true) (by symm:(cSc ia).names.lookup (sx "row")=some .local) nofun (ifs:=[]) (elt:=aw ia) (px:=gP (au ia)) (λv hv=>⟨rfl,λ_=>⟨?_,rfl⟩⟩) (by rw[List.length_map];have:=eh xs;lia)
 ·rw[filter_all,List.map_map]at hc
  have e:(MV.list ((bX xs).map (Gj∘λr=>MV.str (ah r))))=rz xs:=by
   unfold rz
   congr 1
  rw[e]at hc;rw[Gg];refine jd nofun (λq=>O8 q.1 (by right)) ((cB rfl).trans (by rw[Gi];exact hc)) ?_;show aa ((bX xs).map λr=>MV.int (lead r))=true
  have:∀l:List (List Nat),aa (l.map λr=>MV.int (lead r))=true:=λl=>by
   induction l with
   |nil=>rfl
   |cons a l ih=>show(true&&aa (l.map λr=>MV.int (lead r)))=true;rw[ih];rfl
  exact this _
 ·obtain⟨r,hr,rfl⟩:=OS.mp hv;rw[Gh];have b1:(lwL 97).ev (cSc ia).names (ae (ao (cSc ia) (lw7 xs)) (sx "row") (.str (ah r))) (.Name (sx "_law_dots") (cF (aw ia)).pos)=some (.ex (.ref 162)):=nofun
  have b2:(lwL 97).ev (cSc ia).names (ae (ao (cSc ia) (lw7 xs)) (sx "row") (.str (ah r))) (.Name (sx "row") (cA (aw ia) 0).pos)=some (.str (ah r)):=nofun
  refine i5 rfl b1 (cH rfl b2) (show fK.f 162=some (21,jw) by symm) (by left) rfl ?_;unfold Gj;rw[cJ];exact(nr (g7 xs r hr)).1
end
section
variable {sc:Sc}{ρ:Rho}{p:P}
theorem yJ{step:Rho->Pj (List MV)}{x:Str}{g:MV->List MV}{vs:List MV}(h:∀v∈vs,step (ae ρ x v)=some (g v)):jr p sc step x [] ρ vs=some (vs.flatMap g):=by
 induction vs with
 |nil=>rfl
 |cons v vs ih=>exact bnd (rfl:f9 p sc _ []=some true) (bnd (h v (.head _)) (ON (Option.map _) (ih λu hu=>h u (.tail _ hu))))
theorem Gk{elt it1 it2:Pm}{scope:Scope}{x y:Str}{px py:Pos}{ifs:List Pm}{I J:List MV}{keep:MV->MV->Bool}{f:MV->MV->MV}(h1:(p.ev sc ρ it1).bind aM=some I)(ok:aK sc scope=true)(hx:scope.names.lookup x=some .local/\scope.names.lookup y=some .local)(hn:bx it1=true/\bx it2=true)
  (h2:∀v∈I,(p.ev scope.names (ae (ao scope ρ) x v) it2).bind aM=some J/\((ae (ao scope ρ) x v).lookup y).isNone=true)
  (he:∀v∈I,∀w∈J,f9 p scope.names (ae (ae (ao scope ρ) x v) y w) ifs=some (keep v w)/\(keep v w=true->p.ev scope.names (ae (ae (ao scope ρ) x v) y w) elt=some (f v w)/\(f v w).plain=true))
  (hz:(I.flatMap λv=>(J.filter (keep v)).map (f v)).length<=1000):
  dj p sc ρ elt scope [⟨.Name x px,it1,[],0⟩,⟨.Name y py,it2,ifs,0⟩]=some (.list (I.flatMap λv=>(J.filter (keep v)).map (f v))):=by
 refine bnd h1 ((if_pos ⟨ok,rfl,rfl,hx.1,hn.1⟩).trans (bnd (yJ (g:=λv=>(J.filter (keep v)).map (f v)) λv hv=>?_) (if_pos hz)));refine bnd (rfl:cNm (.Name y py)=some y) (bnd (h2 v hv).1 ?_);refine(if_pos ⟨rfl,hx.2,hn.2,(h2 v hv).2⟩).trans ?_;exact qL λw hw=>⟨(he v hv w hw).1,λhk=>bnd ((he v hv w hw).2 hk).1 (if_pos ((he v hv w hw).2 hk).2)⟩
end
theorem yK(h0:bx r=true/\n0+1<=n/\(cmpInfo op).2.1∈cmpNames)(h1:ev l=some (.kobj (.str x)))(h2:ev r=some (.kobj (.str y)))(h3:kc (cmpInfo op).2.1 (.kobj (.str x)) (.kobj (.str y))=some (.bool b)):fU kc n0 n ev (.Compare l [op] [r] q)=some (.bool b):=by have e:((kc (cmpInfo op).2.1 (.kobj (.str x)) (.kobj (.str y))).bind boolOf).map MV.bool=some (.bool b):=ON (Option.map _) (bnd h3 rfl);exact(if_pos h0).trans (jj h1 rfl (jj h2 rfl e))
theorem mO(h1:ev l=some v)(h:AX v=none):fU kc n0 n ev (.Compare l [op] [r] q)=none:=by show(if _ then((ev l).bind AX).bind _ else none)=none;rw (occs:= .all) [h1,Option.bind_some,h];exact ite_self none
theorem zT(ha:inD 8 a)(hb:inD 8 b):oF [.str (ah a),.str (ah b)]=some (.int ((lead b:Int)-lead a)):=by
 have e:∀r,(ah r).cps.toList=r:=λr=>by simp [ah]
 refine bnd rfl (bnd rfl (bnd rfl ((if_pos ⟨(nr ha).2,(nr hb).2⟩).trans ?_)));rw[e,e]
theorem nu(hn:(cmpInfo op).2.1=nm)(K:KmOk nm op)(h0:bx r=true/\51<=n/\nm∈cmpNames)(ha:inD 8 a)(hb:inD 8 b)(h1:(lwL n).ev sc ρ l=some (.kobj (.str (ah a))))(h2:(lwL n).ev sc ρ r=some (.kobj (.str (ah b))))(hv:fL op (.int ((lead b:Int)-lead a)) (.int 0)=some v):(lwL (n+1)).ev sc ρ (.Compare l [op] [r] q)=some (.bool v):=by
 subst hn;refine LQ ?_;show(fU (gD fnK SK 50) 50 n ((lwL n).ev sc ρ) (.Compare l [op] [r] q)).or _=_;rw[yK h0 h1 h2 (Ge K (zT ha hb) hv)]
 rfl
theorem nx(h0:bx r=true)(h1:(lwL n).ev sc ρ l=some (.int i))(h2:(lwL n).ev sc ρ r=some (.int j))(hv:fL op (.int i) (.int j)=some v):(lwL (n+1)).ev sc ρ (.Compare l [op] [r] q)=some (.bool v):=by
 refine tD ?_ h0 h1 h2 hv;show(fU (gD fnK SK 50) 50 n ((lwL n).ev sc ρ) (.Compare l [op] [r] q)).or _=_;rw[mO h1 rfl]
 rfl
theorem J0(ha:notStar a=true)(hb:notStar b=true/\notStar c=true/\notStar d=true)(h1:p.ev sc ρ a=some u)(h2:p.ev sc ρ b=some v)(h3:p.ev sc ρ c=some w)(h4:p.ev sc ρ d=some x):aT p sc ρ [a,b,c,d]=some [u,v,w,x]:=(if_pos ha).trans (bnd h1 (ON (Option.map _) (oX hb.1 hb.2.1 hb.2.2 h2 h3 h4)))
theorem BM(h:∀x∈l,g x x=some true):wL g l l=some true:=by
 induction l with
 |nil=>rfl
 |cons a l ih=>exact bnd (h a (.head _)) (ON (Option.map _) (ih λx hx=>h x (.tail _ hx)))
theorem eq_self(h:∀x∈l,meq 4 x x=some true):fL .Eq (.list l) (.list l)=some true:=bnd rfl ((if_pos rfl).trans (BM h))
theorem ne_self(h:∀x∈l,meq 4 x x=some true):fL .NotEq (.list l) (.list l)=some false:=ON (Option.map (!·)) (eq_self h)
noncomputable def g2(c:Pm):List Comprehension:=(au c).drop 1
noncomputable def ny(c:Pm)(x y:Str):Pm:= .ListComp (aw c) [⟨.Name x (gP (au c)),gI (au c),[],0⟩,⟨.Name y (gP (g2 c)),gI (g2 c),gF (g2 c),0⟩] (cSc c) (Hu c)
noncomputable def Nr(c:Pm)(o1 o2 o3 o4:CmpOp):Pm:= .List [.Compare (.Name (sx "a") (bL (cA c 0)).pos) [o1] [.Name (sx "b") (bR (cA c 0)).pos] (cA c 0).pos,.Compare (.Name (sx "a") (bL (cA c 1)).pos) [o2] [.Name (sx "b") (bR (cA c 1)).pos] (cA c 1).pos,.Compare (.Name (sx "a") (bL (cA c 2)).pos) [o3] [.Name (sx "b") (bR (cA c 2)).pos] (cA c 2).pos,.Compare (.Name (sx "a") (bL (cA c 3)).pos) [o4] [.Name (sx "b") (bR (cA c 3)).pos] (cA c 3).pos] c.pos
noncomputable def rA:Pm:=aE (stN lwB 10)
noncomputable def fb:Pm:=bL rA
noncomputable def cu:Pm:=bR rA
theorem BN:rA= .Compare (ny fb (sx "a") (sx "b")) [.NotEq] [ny cu (sx "a") (sx "b")] rA.pos:=nofun
theorem Gl:aw fb=Nr (aw fb) .LtE .Eq .GtE .Gt:=nofun
theorem Gm:aw cu=Nr (aw cu) .GtE .Eq .LtE .Lt:=nofun
theorem wC:gF (g2 fb)=[]/\gF (g2 cu)=[]:=⟨nofun,nofun⟩
theorem rB:gI (au cu)= .Subscript (.Name (sx "dots") (bL (gI (au cu))).pos) (.Slice none (some (sHi (bR (gI (au cu))))) none (bR (gI (au cu))).pos) (gI (au cu)).pos/\gI (g2 cu)= .Subscript (.Name (sx "dots") (bL (gI (g2 cu))).pos) (.Slice none (some (sHi (bR (gI (g2 cu))))) none (bR (gI (g2 cu))).pos) (gI (g2 cu)).pos:=⟨nofun,nofun⟩
noncomputable def kr:MV->List Nat
 | .kobj (.str s)=>s.cps.toList
 |_=>[]
noncomputable def wD(i:Int):MV:= .list [.bool (decide (i<=0)),.bool (i==0),.bool (decide (0<=i)),.bool (decide (0<i))]
noncomputable def kM(r:List Nat):MV:= .kobj (.str (ah r))
noncomputable def iM(r:List Nat):MV:= .int (lead r)
theorem Gn(r:List Nat):kr (kM r)=r:=by show(ah r).cps.toList=r;simp [ah]
section
variable (xs:List Int)
noncomputable abbrev LR(v:MV):Rho:=ae (ao (cSc fb) (lw8 xs)) (sx "a") v
noncomputable abbrev Gp(v:MV):Rho:=ae (ao (cSc cu) (lw8 xs)) (sx "a") v
noncomputable def JA:MV:= .list ((fZ xs).flatMap λa=>(fZ xs).map λb=>wD ((lead b:Int)-lead a))
theorem tF:∀l:List (List Nat),aa (l.map iM)=true
 | []=>rfl
 |a::l=>by show(true&&aa (l.map iM))=true;rw[tF l];rfl
theorem Gq:∀r∈fZ xs,inD 8 r:=λr hr=>g7 xs r (List.mem_of_mem_take hr)
theorem wF{α β:Type}{l m:List α}{f:α->α->β}(hl:l.length<=4)(hm:m.length<=4):(l.flatMap λa=>m.map (f a)).length<=1000:=by
 have:∀l:List α,(l.flatMap λa=>m.map (f a)).length=l.length*m.length:=λl=>by
  induction l with
  |nil=>simp
  |cons a l ih=>rw[List.flatMap_cons,List.length_append,ih,List.length_map,List.length_cons,Nat.succ_mul];lia
 rw[this];have:=Nat.mul_le_mul hl hm;lia
theorem JB:dj (lwL 97) ak (lw8 xs) (aw fb) (cSc fb) [⟨.Name (sx "a") (gP (au fb)),gI (au fb),[],0⟩,⟨.Name (sx "b") (gP (g2 fb)),gI (g2 fb),gF (g2 fb),0⟩]=some (JA xs):=by
 rw[wC.1];have i1:(lwL 97).ev ak (lw8 xs) (gI (au fb))=some (wz xs):=nofun
 have i2:∀v,(lwL 97).ev (cSc fb).names (LR xs v) (gI (g2 fb))=some (wz xs):=λv=>by symm
 have it:(some (wz xs)).bind aM=some ((fZ xs).map kM):=fI (tE _);have hc:=Gk (f:=λv w=>wD ((lead (kr w):Int)-lead (kr v))) (keep:=λ_ _=>true) (J:=(fZ xs).map kM) (by rw[i1,it]) (by symm:aK ak (cSc fb)=true) (⟨nofun,nofun⟩:(cSc fb).names.lookup (sx "a")=some .local/\(cSc fb).names.lookup (sx "b")=some .local) ⟨nofun,nofun⟩ (it2:=gI (g2 fb)) (ifs:=[]) (elt:=aw fb) (px:=gP (au fb)) (py:=gP (g2 fb)) (λv hv=>⟨by rw[i2,it],nofun⟩) (λv hv w hw=>⟨rfl,λ_=>⟨?_,rfl⟩⟩) ?_
 ·simp only [filter_all,List.flatMap_map,List.map_map,Gn]at hc;rw[hc];unfold JA
  congr 2
 ·obtain⟨a,ha,rfl⟩:=OS.mp hv;obtain⟨b,hb,rfl⟩:=OS.mp hw;rw[Gn,Gn,Gl];have n1:∀q:Pos,(lwL 95).ev (cSc fb).names (ae (LR xs (kM a)) (sx "b") (kM b)) (.Name (sx "a") q)=some (kM a):=λq=>by symm
  have n2:∀q:Pos,(lwL 95).ev (cSc fb).names (ae (LR xs (kM a)) (sx "b") (kM b)) (.Name (sx "b") q)=some (kM b):=λq=>by symm
  have da:=Gq xs a ha;have db:=Gq xs b hb;exact wy rfl (J0 rfl ⟨rfl,rfl,rfl⟩ (nu nofun Nm ⟨rfl,by left,by right⟩ da db (n1 _) (n2 _) rfl) (nu nofun Nl ⟨rfl,by left,by right⟩ da db (n1 _) (n2 _) rfl) (nu nofun Nn ⟨rfl,by left,by right⟩ da db (n1 _) (n2 _) rfl) (nu nofun Nk ⟨rfl,by left,by right⟩ da db (n1 _) (n2 _) rfl)) rfl (show 4<=1000 by left)
 ·simp only [filter_all];exact wF (by rw[List.length_map];exact i6 xs) (by rw[List.length_map];exact i6 xs)
theorem rD:dh (rz xs) none (some ((4:Nat):Int))=some (.list ((fZ xs).map iM)):=by have:=g5 (l:=(bX xs).map iM) 4 (tF _) (by rw[List.length_map];have:=eh xs;lia);rw[<-List.map_take]at this;exact this
theorem JC:dj (lwL 97) ak (lw8 xs) (aw cu) (cSc cu) [⟨.Name (sx "a") (gP (au cu)),gI (au cu),[],0⟩,⟨.Name (sx "b") (gP (g2 cu)),gI (g2 cu),gF (g2 cu),0⟩]=some (JA xs):=by
 rw[wC.2];have it:(some (MV.list ((fZ xs).map iM))).bind aM=some ((fZ xs).map iM):=fI (tF _)
 have i1:(lwL 97).ev ak (lw8 xs) (gI (au cu))=some (.list ((fZ xs).map iM)):=by
  rw[rB.1];have a1:(lwL 96).ev ak (lw8 xs) (.Name (sx "dots") (bL (gI (au cu))).pos)=some (rz xs):=nofun
  have a2:(lwL 96).ev ak (lw8 xs) (sHi (bR (gI (au cu))))=some (.int ((4:Nat):Int)):=nofun
  exact lU rfl a1 bJ (bb a2) (rD xs)
 have i2:∀v,(lwL 97).ev (cSc cu).names (Gp xs v) (gI (g2 cu))=some (.list ((fZ xs).map iM)):=λv=>by
  rw[rB.2];have a1:(lwL 96).ev (cSc cu).names (Gp xs v) (.Name (sx "dots") (bL (gI (g2 cu))).pos)=some (rz xs):=nofun
  have a2:(lwL 96).ev (cSc cu).names (Gp xs v) (sHi (bR (gI (g2 cu))))=some (.int ((4:Nat):Int)):=nofun
  exact lU rfl a1 bJ (bb a2) (rD xs)
 have hc:=Gk (f:=λv w=>wD (fH w-fH v)) (keep:=λ_ _=>true) (J:=(fZ xs).map iM) (by rw[i1,it]) (by symm:aK ak (cSc cu)=true) (⟨nofun,nofun⟩:(cSc cu).names.lookup (sx "a")=some .local/\(cSc cu).names.lookup (sx "b")=some .local) ⟨nofun,nofun⟩ (it2:=gI (g2 cu)) (ifs:=[]) (elt:=aw cu) (px:=gP (au cu)) (py:=gP (g2 cu)) (λv hv=>⟨by rw[i2,it],nofun⟩) (λv hv w hw=>⟨rfl,λ_=>⟨?_,rfl⟩⟩) ?_
 ·simp only [filter_all,List.flatMap_map,List.map_map]at hc;rw[hc];unfold JA
  congr 2
 ·obtain⟨a,ha,rfl⟩:=OS.mp hv;obtain⟨b,hb,rfl⟩:=OS.mp hw;rw[Gm];have n1:∀q:Pos,(lwL 95).ev (cSc cu).names (ae (Gp xs (iM a)) (sx "b") (iM b)) (.Name (sx "a") q)=some (iM a):=λq=>by symm
  have n2:∀q:Pos,(lwL 95).ev (cSc cu).names (ae (Gp xs (iM a)) (sx "b") (iM b)) (.Name (sx "b") q)=some (iM b):=λq=>by symm
  have e:wD (fH (iM b)-fH (iM a))= .list [.bool (decide ((lead b:Int)<=lead a)),.bool ((lead a:Int)==lead b),.bool (decide ((lead a:Int)<=lead b)),.bool (decide ((lead a:Int)<lead b))]:=by
   show wD ((lead b:Int)-lead a)=_;unfold wD
   congr 1
   have h1:decide ((lead b:Int)-lead a<=0)=decide ((lead b:Int)<=lead a):=by congr 1;apply propext;lia
   have h2:((lead b:Int)-lead a==0)=((lead a:Int)==lead b):=by rw[Bool.eq_iff_iff,beq_iff_eq,beq_iff_eq];lia
   have h3:decide (0<=(lead b:Int)-lead a)=decide ((lead a:Int)<=lead b):=by congr 1;apply propext;lia
   have h4:decide (0<(lead b:Int)-lead a)=decide ((lead a:Int)<lead b):=by congr 1;apply propext;lia
   rw[h1,h2,h3,h4]
  rw[e];exact wy rfl (J0 rfl ⟨rfl,rfl,rfl⟩ (nx rfl (n1 _) (n2 _) rfl) (nx rfl (n1 _) (n2 _) rfl) (nx rfl (n1 _) (n2 _) rfl) (nx rfl (n1 _) (n2 _) rfl)) rfl (show 4<=1000 by left)
 ·simp only [filter_all];exact wF (by rw[List.length_map];exact i6 xs) (by rw[List.length_map];exact i6 xs)
theorem Gr(i:Int):meq 4 (wD i) (wD i)=some true:=by
 show(if 4=4 then(some ((decide (i<=0)==decide (i<=0))&&(((i==0)==(i==0))&&((decide (0<=i)==decide (0<=i))&&((decide (0<i)==decide (0<i))&&true)))):Pj Bool) else some false)=_;rw[beq_self_eq_true,beq_self_eq_true,beq_self_eq_true,beq_self_eq_true]
 rfl
theorem LS:(lwL 99).tst ak (lw8 xs) rA=some false:=by rw[BN];refine en nofun ((cB rfl).trans (JB xs)) ((cB rfl).trans (JC xs)) (ne_self λx hx=>?_);obtain⟨a,_,h⟩:=List.mem_flatMap.mp hx;obtain⟨b,_,rfl⟩:=OS.mp h;exact Gr _
end
theorem qo(h0:notStar l=true/\56<=n)(h1:ev (.Name x q)=some (.ex (.builtin "sorted")))(h2:ev l=some (.list ms))(h3:ev k=some .kcls)(h5:aa ms=true/\ms.length<64)(h6:gZ fnK SK 50 ms=some ix):g0 fnK SK 50 n ev (.Call (.Name x q) [l] [⟨some (sx "key"),k,kp⟩] p3)=some (.list (ix.map λi=>ms.getD i .none)):=
 have e:(gZ fnK SK 50 ms).map (λix=>MV.list (ix.map λi=>ms.getD i .none))=some (.list (ix.map λi=>ms.getD i .none)):=ON (Option.map _) h6
 (if_pos ⟨h0.1,rfl,h0.2⟩).trans (jj h1 rfl (jj h2 rfl (bnd h3 ((if_pos ⟨rfl,rfl,h5⟩).trans e))))
theorem BO:yH n sc ev (.Call (.Name x q) [.Name y q2] [k] p)=g0 fnK SK 50 n ev (.Call (.Name x q) [.Name y q2] [k] p):=rfl
noncomputable def sM(r:List Nat):MV:= .str (ah r)
noncomputable def yL(ms:List MV)(i:Nat):Int:= -(lead (dC (ms.getD i .none)):Int)
theorem Gs(ha:inD 8 a)(hb:inD 8 b):my fnK SK 50 (sM a) (sM b)=some (decide (-(lead a:Int)< -(lead b:Int))):=by
 unfold my sM;rw[Ge Nj (zT ha hb) (show fL .Lt (.int ((lead b:Int)-lead a)) (.int 0)=some (decide ((lead b:Int)-lead a<0)) from rfl)];have:decide ((lead b:Int)-lead a<0)=decide (-(lead a:Int)< -(lead b:Int)):=by congr 1;apply propext;lia
 rw[this]
theorem kR{L:List (List Nat)}{i:Nat}(h:i<L.length):(L.map sM).getD i .none=sM L[i]:=by simp [List.getD,h]
theorem wG{L:List (List Nat)}(hD:∀r∈L,inD 8 r):∃ix,gZ fnK SK 50 (L.map sM)=some ix/\ix.Perm (List.range L.length)/\ix.Pairwise (Lt2 (yL (L.map sM))):=by
 revert hD;exists L;unfold gZ;rw[List.length_map]
 by_cases h:L.length<2
 ·rw[if_pos h];refine⟨_,rfl,List.Perm.refl _,?_⟩;have:L.length=0\/L.length=1:=by lia
  rcases this with e|e<;>rw[e]
  ·exact .nil
  ·exact List.pairwise_singleton _ _
 ·rw[if_neg h]
  obtain⟨p,h1,h2,h3⟩:=Jy (f:=yL (L.map sM)) (N:=L.length) (o:=λi j=>if i<L.length/\j<L.length then my fnK SK 50 ((L.map sM).getD i .none) ((L.map sM).getD j .none) else none) (λi j hi hj=>by rw[if_pos ⟨hi,hj⟩,kR hi,kR hj,Gs (hD _ (List.getElem_mem _)) (hD _ (List.getElem_mem _))];unfold yL;rw[kR hi,kR hj];unfold sM;rw[cJ,cJ]) (by lia)
  rw[h1];exact⟨_,rfl,h2,h3⟩
noncomputable def rF:List Int:=[8,7,6,5,4,3,2,1,0]
theorem range_getD{l:List MV}:(List.range l.length).map (λi=>l.getD i .none)=l:=by
 apply List.ext_getElem
 ·simp
 ·intro i h1 h2;simp [List.getD,h2]
theorem wH(l:List MV)(P:MV->Bool):((List.range l.length).filter λi=>P (l.getD i .none)).map (λi=>l.getD i .none)=l.filter P:=by have:=List.filter_map (p:=P) (f:=λi=>l.getD i .none) (l:=List.range l.length);rw[range_getD]at this;exact this.symm
theorem nine:∀d:Nat,d<9->  -(d:Int)∈rF.map (- ·):=by left
theorem wI{L:List (List Nat)}(hD:∀r∈L,inD 8 r){ix:List Nat}(h1:ix.Perm (List.range L.length))(h2:ix.Pairwise (Lt2 (yL (L.map sM)))):ix.map (λi=>(L.map sM).getD i .none)=rF.flatMap λm=>(L.map sM).filter λw=>(lead (dC w):Int)==m:=by
 have hk:(rF.map (- ·)).Pairwise (· < ·):=by left
 obtain⟨b1,b2⟩:=buckets (f:=yL (L.map sM)) hk (l:=List.range L.length) List.pairwise_lt_range (λi hi=>by have hi:=List.mem_range.mp hi;unfold yL;rw[kR hi];unfold sM;rw[cJ];obtain⟨d,k,e1,e2,e3⟩:=hD _ (List.getElem_mem hi);rw[e3,Bq e2];exact nine d (Nat.lt_succ_of_le e1))
 rw[BJ (h1.trans b1.symm) h2 b2,List.map_flatMap,List.flatMap_map]
 congr 1
 funext m
 rw[<-wH,List.length_map]
 congr 1
 refine List.filter_congr λi _=>?_;unfold yL;rw[Bool.eq_iff_iff,beq_iff_eq,beq_iff_eq];lia
section
variable (xs:List Int)
noncomputable def lwR:Pm:=aE (stN lwB 11)
noncomputable def yM:Pm:=bL lwR
noncomputable def d0:Pm:=bR lwR
noncomputable def kws:Pm->List Keyword
 | .Call _ _ k _=>k
 |_=>[]
noncomputable def kwE(e:Pm):Pm:=((kws e).map (·.value)).getD 0 noE
noncomputable def kwP(e:Pm):Pos:=((kws e).map (·.pos)).getD 0 default
noncomputable def BP:Pm:=kwE yM
noncomputable def tG:Pm:=(gF (g2 d0)).getD 0 noE
noncomputable abbrev Gu:Pm:= .Call (.Name (sx "sorted") (cF yM).pos) [.Name (sx "left") (cA yM 0).pos] [⟨some (sx "key"),.Call (.Name (sx "cmp_to_key") (cF BP).pos) [.Name (sx "_law_more") (cA BP 0).pos] [] BP.pos,kwP yM⟩] yM.pos
theorem JD:lwR= .Compare Gu [.Eq] [ny d0 (sx "many") (sx "row")] lwR.pos:=nofun
theorem Gv:gF (g2 d0)=[.Compare (.Call (.Name (sx "_law_dots") (cF (bL tG)).pos) [.Name (sx "row") (cA (bL tG) 0).pos] [] (bL tG).pos) [.Eq] [.Name (sx "many") (bR tG).pos] tG.pos]:=nofun
theorem Gw:aw d0= .Name (sx "row") (aw d0).pos:=nofun
noncomputable abbrev JE(v:MV):Rho:=ae (ao (cSc d0) (lw8 xs)) (sx "many") v
noncomputable def tI:MV:= .list (rF.flatMap λm=>((bX xs).map sM).filter λw=>(lead (dC w):Int)==m)
theorem BQ:(lwL 98).ev ak (lw8 xs) Gu=some (tI xs):=by
 obtain⟨ix,h1,h2,h3⟩:=wG (g7 xs);have a1:(lwL 97).ev ak (lw8 xs) (.Name (sx "sorted") (cF yM).pos)=some (.ex (.builtin "sorted")):=nofun
 have a2:(lwL 97).ev ak (lw8 xs) (.Name (sx "left") (cA yM 0).pos)=some (.list ((bX xs).map sM)):=nofun
 have b1:(lwL 96).ev ak (lw8 xs) (.Name (sx "cmp_to_key") (cF BP).pos)=some (.ex (.ref 93)):=nofun
 have b2:(lwL 96).ev ak (lw8 xs) (.Name (sx "_law_more") (cA BP 0).pos)=some (.ex (.ref 169)):=nofun
 have a3:=i5 (F:=fK) (S:=SL) (pos:=BP.pos) rfl b1 (cH rfl b2) (show fK.f 93=some (21,yy) by symm) (by left) rfl (show yy [.ex (.ref 169)]=some .kcls from rfl);refine LQ ?_;show yH 97 ak ((lwL 97).ev ak (lw8 xs)) Gu=_;rw[BO,qo ⟨rfl,by left⟩ a1 a2 a3 ⟨dp _,by rw[List.length_map];have:=eh xs;lia⟩ h1,wI (g7 xs) h2 h3]
 rfl
theorem Gx:dj (lwL 97) ak (lw8 xs) (aw d0) (cSc d0) [⟨.Name (sx "many") (gP (au d0)),gI (au d0),[],0⟩,⟨.Name (sx "row") (gP (g2 d0)),gI (g2 d0),gF (g2 d0),0⟩]=some (tI xs):=by
 have hl:=eh xs;have it1:((lwL 97).ev ak (lw8 xs) (gI (au d0))).bind aM=some (rF.map .int):=nofun
 have i2:∀v,(lwL 97).ev (cSc d0).names (JE xs v) (gI (g2 d0))=some (.list ((bX xs).map sM)):=λv=>by symm
 have it:(some (MV.list ((bX xs).map sM))).bind aM=some ((bX xs).map sM):=fI (dp _);have hc:=Gk (f:=λv w=>w) (keep:=λv w=>(lead (dC w):Int)==fH v) (J:=(bX xs).map sM) it1 (by symm:aK ak (cSc d0)=true) (⟨nofun,nofun⟩:(cSc d0).names.lookup (sx "many")=some .local/\(cSc d0).names.lookup (sx "row")=some .local) ⟨nofun,nofun⟩ (it2:=gI (g2 d0)) (ifs:=gF (g2 d0)) (elt:=aw d0) (px:=gP (au d0)) (py:=gP (g2 d0)) (λv hv=>⟨by rw[i2,it],nofun⟩) (λv hv w hw=>⟨?_,λ_=>⟨?_,?_⟩⟩) ?_
 ·simp only [List.flatMap_map]at hc;rw[hc];unfold tI;refine ON (λg=>some (MV.list (rF.flatMap g))) (funext λm=>?_);exact List.map_id _
 ·obtain⟨m,hm,rfl⟩:=OS.mp hv;obtain⟨r,hr,rfl⟩:=OS.mp hw;rw[Gv];have n1:(lwL 95).ev (cSc d0).names (ae (JE xs (.int m)) (sx "row") (sM r)) (.Name (sx "_law_dots") (cF (bL tG)).pos)=some (.ex (.ref 162)):=nofun
  have n2:(lwL 95).ev (cSc d0).names (ae (JE xs (.int m)) (sx "row") (sM r)) (.Name (sx "row") (cA (bL tG) 0).pos)=some (sM r):=nofun
  have n3:(lwL 96).ev (cSc d0).names (ae (JE xs (.int m)) (sx "row") (sM r)) (.Name (sx "many") (bR tG).pos)=some (.int m):=nofun
  have c:=i5 (F:=fK) (S:=SL) (pos:=(bL tG).pos) rfl n1 (cH rfl n2) (show fK.f 162=some (21,jw) by symm) (by left) rfl (nr (g7 xs r hr)).1;refine ov (en nofun c n3 ?_);unfold sM;rw[cJ]
  rfl
 ·rw[Gw];obtain⟨r,hr,rfl⟩:=OS.mp hw;symm
 ·obtain⟨r,hr,rfl⟩:=OS.mp hw
  rfl
 ·have:∀ms:List MV,(ms.flatMap λv=>(((bX xs).map sM).filter λw=>(lead (dC w):Int)==fH v).map λw=>w).length<=ms.length*13:=λms=>by
   induction ms with
   |nil=>simp
   |cons a l ih=>rw[List.flatMap_cons,List.length_append,List.length_map,List.length_cons,Nat.succ_mul];have:=List.length_filter_le (λw=>(lead (dC w):Int)==fH a) ((bX xs).map sM);rw[List.length_map]at this;lia
  exact OA (this _) (by left)
theorem LU:(lwL 99).ev ak (lw8 xs) lwR=some (.bool true):=by
 have l1:=BQ xs;rw[JD];have l2:(lwL 98).ev ak (lw8 xs) (ny d0 (sx "many") (sx "row"))=some (tI xs):=(cB rfl).trans (Gx xs);refine tD ?_ nofun l1 l2 (eq_self λx hx=>?_)
 ·show(fU (gD fnK SK 50) 50 98 ((lwL 98).ev ak (lw8 xs)) _).or _=_;rw[mO l1 rfl]
  rfl
 ·obtain⟨m,_,h⟩:=List.mem_flatMap.mp hx;obtain⟨r,_,rfl⟩:=OS.mp (List.mem_filter.mp h).1;show some (ah r==ah r)=_;rw[beq_self_eq_true]
theorem JF:lwB.drop 8=[lwA 8 (sx "keys"),lwA 9 (sx "dots"),.If rA (aB (stN lwB 10)) [] (aP (stN lwB 10)),.Return (some lwR) (aP (stN lwB 11))]:=nofun
theorem Gy:∃ρ',(mx fK SL false 100).ex ak (lw6 xs) (lwB.drop 8)=some (.ret (.bool true),ρ'):=by rw[JF];exact⟨_,bG (Np xs) (bG (Nq xs) (gS (LS xs) (f:= .next) cN (bI nofun (LU xs) rfl)))⟩
end
end
section
open PySem.Spec PySem.F
section
variable {V:Vw}{P:Pk}{A:Po}{E:Pr}{s:Pg}{env:Env}{θ:Pn}{D:Pn->Prop}{sc:Sc}{ρ:Rho}
theorem zU{h h1 h':Pp}{L:Pn}{Fr:List Pn}(k:Keep none9 h h1)(x:Jk h1 Fr h')(hFr:∀b∈Fr,b=L\/h.objs.size<=b)(hL:∃o,h.get? L=some o/\∀vs,o.data≠ .fields vs)(sz:h.objs.size<=h'.objs.size):Keep (λa=>a=L) h h':=by
 have out:∀{a o},¬a=L->h.get? a=some o->h1.get? a=some o->h'.get? a=some o:=λ{a o} n e e1=>by obtain⟨sl,q,z⟩:=x a o e1;rw[z λm=>(hFr a m).elim n λw=>absurd (Heap.lt_size e) (Nat.not_lt.mpr w)]at q;exact q
 refine⟨sz,λa o d t e=>out d e (k.keep a o (λq=>q) t e),λa o t c e=>out (λq=>?_) e (k.code a o t c e)⟩;obtain⟨o',e',z⟩:=hL;subst q;rw[e]at e';cases e';obtain⟨vs,c,_⟩:=c;exact z vs c
theorem FrX.jk(F:FrX V θ D sc ρ env s)(pl:∀x u,ρ.lookup x=some u->u.plain=true){s1 s':Pg}{Fr:List Pn}(k:Keep none9 s.heap s1.heap)(x:Jk s1.heap Fr s'.heap)(hFr:∀b∈Fr,b=env.locals\/s.heap.objs.size<=b)(sz:s.heap.objs.size<=s'.heap.objs.size):FrX V θ D sc ρ env s':=by
 have K:=zU k x hFr F.frame sz;have mD:∀a,a=env.locals->D a:=λa e=>e▸F.dl
 have cell:∀{c v},175<=c->s.heap.IsCell c v->s'.heap.IsCell c v:=λ{c v} h5 hc=>by obtain⟨o,ho,hd⟩:=hc;refine⟨o,K.keep c o (λq=>?_) (aY h5) ho,hd⟩;obtain⟨m,⟨o',es,ep,h1,h2,_⟩,_⟩:=F.loc;rw[<-q,ho]at h1;cases h1;rw[h2]at hd;cases hd
 exact {F with
  loc:=by
   obtain⟨m,⟨o,es,ep,h1,h2,h3⟩,Lo⟩:=F.loc;obtain⟨sl,q,_⟩:=x _ _ (k.keep _ o (λq=>q) (aY (F.bnd _ F.dl).1) h1);refine⟨m,⟨_,es,ep,q,h2,h3⟩,{val:=λy u e l=>?_,add:=λy z e l=>?_,aft:=λy u a e g=>?_,one:=λy z u v a e1 e2 g1=>?_}⟩
   ·obtain⟨v,a,b⟩:=Lo.val y u e l;exact⟨v,a,Rp.keep K mD _ _ (pl y u e) b⟩
   ·cases pl y _ e
   ·have:=aX (pl y u e);rw[this]at g;cases g
   ·have:=aX (pl y u e1);rw[this]at g1;cases g1
  cv:=λy u c e l hc=>by obtain⟨p,v,a,b⟩:=F.cv y u c e l hc;exact⟨p,v,cell (F.ct y c l hc) a,Rp.keep K mD _ _ p b⟩
  dc:=λy c l hc=>by obtain⟨d,v,a⟩:=F.dc y c l hc;exact⟨d,v,cell (F.ct y c (.inl l) hc) a⟩
  bnd:=λb q=>⟨(F.bnd b q).1,OD (F.bnd b q).2 sz⟩}
end
end
end
end Mine.Internal
section
namespace Mine.Internal
open PySem PySem.Calls PyProof.Rows PySem.Spec PySem.W PySem.F
open Sem (wp)
theorem pM{Γ}:∀(a:List Pq) (p:Pos) (s:Pg),wp M Γ (execs a env) (λf p' s'=>match f with| .next=>wp M Γ (execs b env) Q E p' s'|f=>Q f p' s') E p s->wp M Γ (execs (a++b) env) Q E p s
 | [],p,s,h=>h
 |x::a,p,s,h=>by
  rw[List.cons_append,execs_cons,Sem.wp_bind'];rw[execs_cons,Sem.wp_bind']at h;refine Sem.wp_mono M Γ _ (λf p' s' h'=>?_) (λ_ _ _ h'=>h') _ _ h;cases f with
  |next=>exact pM (b:=b) a p' s' h'
  |_=>exact h'
theorem BR(h:wpAny M A (execs a env) (λf s'=>match f with| .next=>wpAny M A (execs b env) Q E s'|f=>Q f s') E s):wpAny M A (execs (a++b) env) Q E s:=λΓ p w9T=>by refine pM a p s (Sem.wp_mono M Γ _ (λf p' s' h'=>?_) (λ_ _ _ h'=>h') _ _ (h Γ p w9T));cases f<;>first|exact h' Γ p' w9T|exact h'
section
variable {V:Vw}{P:Pk}
theorem fn1(hK:V.K=KK P)(T:Tower V):FnsOk V iZ:=bj (bj (bj (bj dS T.left (isFn (l_left.isDef hK))) T.red (isFn (reduce.isDef2 hK))) T.srv (isFn (l_server.isDef hK))) T.row (isFn (l_row.isDef hK))
theorem fn2(hK:V.K=KK P)(T:Tower V):FnsOk V tC:=bj (bj dS T.text (isFn (l_text.isDef hK))) T.trl (isFn (translate.isDef hK))
theorem Gz(hK:V.K=KK P)(T:Tower V):FnsOk V fnK:=bj dS T.more (isFn (l_more.isDef hK))
theorem fn3(hK:V.K=KK P)(ht:V.tab=gj)(h9:V.W9=w9)(T:Tower V):FnsOk V fK:=bj (bj dS T.dots (isFn (l_dots.isDef hK))) (sZ hK ht h9) (isFn (cmp_to_key.isDef hK))
theorem J4(hK:V.K=KK P)(O:V.Ok)(h9:V.W9=w9):SubsOk V SK:=oj hK O λn sc ρ p e mv I h=>vJ h9 I h
theorem Nt(hK:V.K=KK P)(O:V.Ok)(BK:V.Booked)(h9:V.W9=w9)(T:Tower V):SubsOk V SL:=oj hK O λn sc ρ p e mv I h=>by
 rcases iD (show(fU (gD fnK SK 50) 50 n (p.ev sc ρ) e).or _=some mv from h) with h|h
 ·exact xU O BK (Gz hK T) (J4 hK O h9) h9 I h
 rcases iD h with h|h
 ·exact xZ O h9 I h
 ·exact qk O BK (Gz hK T) (J4 hK O h9) h9 I h
end
end Mine.Internal
end
namespace Mine.Internal
section
open PySem PySem.Calls PyProof.Rows PySem.W
section
open PySem.Spec PySem.F
noncomputable def LV:Pm:=aE (stN lwB 7)
noncomputable def LW:Pm:=uN (cA LV 0)
noncomputable def Ox:Pq:= .If (.BoolOp .Or [.UnaryOp .Not (.Call (.Name (sx "_law_refused") (cF LW).pos) [.List [] (cA LW 0).pos] [] LW.pos) (cA LV 0).pos,BB] LV.pos) (aB (stN lwB 7)) [] (aP (stN lwB 7))
noncomputable def lEs(e:Pm):List Pm:=kids e
noncomputable def Nu:Pm:=cA (bL (lwE 0)) 0
noncomputable def yO:List Pm:=(lEs (bL (lwE 0))).drop 1
theorem BU:(pB "law").body= .Assign [.Name (sx "numbers") (aQ (stN lwB 0))] (.BinOp (.List (.Constant (.int 5) (cK Nu) Nu.pos::yO) (bL (lwE 0)).pos) .Add (bR (lwE 0)) (lwE 0).pos) (aP (stN lwB 0))::(zQ++(Ox::lwB.drop 8)):=nofun
theorem LX(xs:List Int):d7 (lw6 xs):=by
 have h0:d7 (lw0 xs):=λx u e=>by
  unfold lw0 at e;rw[List.lookup_cons]at e;split at e
  ·cases e;exact bh _
  ·cases e
 have h1:d7 (lw1 xs):=dz h0 (show aa ((nums xs).map .int)=true from bh _);have h2:d7 (lw2 xs):=dz h1 (show aa ((dI xs).map aS)=true from bc _);have h5:d7 (lw5 xs):=dz (dz (dz h2 rfl) rfl) rfl;exact dz h5 (show aa ((bX xs).map λr=>MV.str (ah r))=true from dp _)
section
variable {V:Vw}{P:Pk}{A:Po}{E:Pr}{s:Pg}{θ:Pn}{D:Pn->Prop}{env:Env}
theorem BV(O:V.Ok)(I:SndP V n (me F S n))(hm:aT (me F S n) sc ρ es=some l)(hl:l.length<=900)(hr:(me F S n).ev sc ρ r=some (.list m))(ha:ib .Add (.list (.int i::l)) (.list m)=some (.list z))(R:Room A n)(W:Wd V s)(f:FrX V θ D sc ρ env s)
  (hQ:∀v s',St V none9 s s'->1<=s'.toks->Rp V.W9 θ D s'.heap (.list z) v->Q v s'):wpAny (model V.prog V.w) A (eval (.BinOp (.List (.Constant (.int i) k0 p0::es) pl) .Add r pb) env) Q E s:=by
 refine wpAny_BinOp ?_;refine wpAny_List_spliced ?_;rw[aW rfl];refine spliced_cons (x:=eval (.Constant (.int i) k0 p0) env) (wpAny_Constant_int ?_);have st0:St V none9 s {s with toks:=s.toks+1}:= .toks W _ _;refine j3 I hm A θ D env {s with toks:=s.toks+1} _ _ R st0.wd (Nat.le_add_left _ _) (f.st st0) λvs s1 st1 t1 r1=>⟨by rw[List.length_cons,r1.length,sizeLine_eq];lia,?_⟩;have st2:=St.push O st1.wd none9 {cls:= .type "list",data:= .seq (List.toArray (Value.int i s.toks::vs))};have st02:=(st0.trans st1).trans st2;have F2:=f.st st02;refine I.ev _ _ _ _ hr A θ D env _ _ _ R st2.wd t1 F2 λu s3 st3 t3 r3=>?_;have ra:Rp V.W9 θ D s3.heap (.list (.int i::l)) (.ref s1.heap.objs.size):=Rp.keep0 st3.keep _ _ ⟨_,_,rfl,((f.st st0).st st1).bnd.new,st1.wd.newTab,⟨_,OE _ rfl,rfl,_,rfl⟩,_,_,rfl,⟨_,rfl⟩,r1.keep0 st2.keep⟩;refine cP t3 (qt O .Add ha st3.wd (F2.st st3).bnd ra r3 λx s4 st4 r4 t4=>?_);exact hQ x s4 ((st02.trans st3).trans st4) t4 r4
theorem wJ(O:V.Ok){sc:Sc}{ρ:Rho}{y:Str}{yq pa:Pos}{X:Pm}{v:MV}{Q:Flow->Pg->Prop}(hc:aR sc y=true)(hn:jX X=true)(hp:v.plain=true)(f:FrX V θ D sc ρ env s)(hv:∀Q:Ph->Pg->Prop,(∀u s',St V none9 s s'->1<=s'.toks->Rp V.W9 θ D s'.heap v u->Q u s')->wpAny (model V.prog V.w) A (eval X env) Q E s)
  (hQ:∀s',St V (Own D env.locals) s s'->1<=s'.toks->FrX V θ D sc (ae ρ y v) env s'->Q .next s'):wpAny (model V.prog V.w) A (exec (.Assign [.Name y yq] X pa) env) Q E s:=
 wpAny_Assign_Name (hv _ λu s1 st1 t1 r1=>cx O (f.st st1) st1.wd t1 hc hp r1 λs2 st2 t2 _ F2=>hQ s2 (st1.any.trans st2) t2 F2) (fe hn)
end
section
variable {V:Vw}{P:Pk}{A:Po}{E:Pr}{s:Pg}{θ:Pn}{D:Pn->Prop}{env:Env}{sc:Sc}{ρ:Rho}
theorem yP(O:V.Ok)(BK:V.Booked)(hK:V.K=KK P)(N:SubsOk V (SS spN))(FO:FnsOk V F)(n1:(me fn0 (SS spN) 50).ev sc ρ (.Name x pf)=some (.ex (.ref 138)))(n2:aT (me fn0 (SS spN) 50) sc ρ [.List [] pl]=some [.list []])(ho:(me F (SS spN) 150).tst sc ρ o=some false)(hp:d7 ρ)
  (R:Room A 151) (hfr:A.frames=some [env]) (hf:env.frame=some env.locals) (W:Wd V s) (tk:1<=s.toks) (f:FrX V θ D sc ρ env s)
  (hQ:∀s',Keep (λc=>c=env.locals) s.heap s'.heap->Wd V s'->1<=s'.toks->FrX V θ D sc ρ env s'->Q .next s'):
  wpAny (model V.prog V.w) A (exec (.If (.BoolOp .Or [.UnaryOp .Not (.Call (.Name x pf) [.List [] pl] [] pc) pn,o] pb) b [] pi) env) Q E s:=by
 refine wpAny_If (wpAny_isTrue_BoolOp (wpAny_allTrue_Or_cons (wpAny_isTrue_Not (wpAny_isTrue_value (wpAny_Call_NameR ?_)))));have I0:=l9 O BK (dS (V:=V)) N;refine(I0 50).ev _ _ _ _ n1 A θ D env s _ _ (R.le (by left)) W tk f λv s3 st3 t3 r3=>?_;cases r3;obtain⟨ob,fd,hob,hd⟩:=isFn (l_refused.isDef hK);refine callWith_function (o:=ob) (fd:=fd) (bz (I0 50) n2 A θ D env s3 _ _ (R.le (by left)) st3.wd t3 (f.st st3) λus s4 st4 t4 r4=>⟨⟨st4.wd.K _ ob hob,hd⟩,?_⟩);have F4:=(f.st st3).st st4;have fr4:=F4.frame;refine cP t4 (l6 (te O BK hK (F:=[env.locals]) (outer:=[env]) (R.le (by left)) hfr (λv hv=>?_) (λb hb=>?_) st4.wd t4 F4.bnd r4 λs5 s6 a b k5 ha hb x6 W6 sz6 t6=>?_))
 ·rw[List.mem_singleton.mp hv];obtain⟨oL,hoL,hdL⟩:=fr4;exact⟨by rw[F4.kind];decide,_,oL,hf,.head _,hoL,hdL⟩
 ·rw[List.mem_singleton.mp hb];exact⟨(F4.bnd _ F4.dl).1,fr4⟩
 have hFr:∀c∈[a,b,env.locals],c=env.locals\/s4.heap.objs.size<=c:=λc hc=>by
  rcases OT.mp hc with q|hc
  ·rw[q];exact .inr ha
  rcases OT.mp hc with q|hc
  ·rw[q];exact .inr hb
  ·exact .inl (List.mem_singleton.mp hc)
 have K6:=zU k5 x6 hFr fr4 sz6;have F6:=F4.jk hp k5 x6 hFr sz6;refine wpAny_truthy_bool ?_;show wpAny _ _ (allTrue .Or [o] env) _ _ s6;refine wpAny_allTrue_Or_cons ?_;refine(l9 O BK FO N 150).tst _ _ _ _ ho A θ D env s6 _ _ (R.le (by left)) W6 t6 F6 λs7 st7 t7=>?_;show wpAny _ _ (allTrue .Or [] env) _ _ s7;refine wpAny_allTrue_Or_nil ?_;show wpAny _ _ (execs [] env) _ _ s7;refine wpAny_execs_nil ?_;exact hQ s7 (((st3.keep.any.trans st4.keep.any).trans K6).trans st7.keep.any) st7.wd t7 (F6.st st7)
end
section
variable {V:Vw}{P:Pk}{A:Po}{E:Pr}{s:Pg}{θ:Pn}{D:Pn->Prop}{env:Env}
set_option tactic.hygienic true in
theorem GA(hK:V.K=KK P)(ht:V.tab=gj)(h9:V.W9=w9)(xs:List Int){Q:Pr}(R:Room A 100)(W:Wd V s)(tk:1<=s.toks)(f:FrX V θ D ak (lw6 xs) env s)(hQ:∀s',St V (Own D env.locals) s s'->Q (.bool true) s'):
  wpAny (model V.prog V.w) A (execs (lwB.drop 8) env) (λf s'=>Q (match f with| .ret v=>v|_=> .none) s') E s:=by
 have O:=okC hK ht;have BK:V.Booked:=jf hK;have T:=Fc hK ht;obtain⟨ρ',h3⟩:=Gy xs;refine(uy (st:=false) O BK (fn3 hK ht h9 T) (Nt hK O BK h9 T) 100).ex _ _ _ _ _ h3 A θ D env s _ E R W tk f λf w97 D' s8 o8 fr8=>?_;cases f<;>first|exact fr8.elim|skip
 rename_i u;obtain⟨_,hr⟩:=fr8;have hu:u= .bool true:=hr none9 (λ_ q=>q.elim) (λ_ q=>q.elim);subst hu;exact hQ s8 o8.sta
theorem JG(hK:V.K=KK P)(ht:V.tab=gj)(hx:xs.length<=63)(R:Room A 400)(W:Wd V s)(tk:1<=s.toks)(f:FrX V θ D ak (lw1 xs) env s)(hQ:∀w97 D' s',St V (Own D env.locals) s s'->1<=s'.toks->FrX V w97 D' ak (lw6 xs) env s'->(∀a,D' a->D a\/s.heap.objs.size<=a)->wpAny (model V.prog V.w) A (execs b env) Q E s'):
  wpAny (model V.prog V.w) A (execs (zQ++b) env) Q E s:=by
 have O:=okC hK ht;refine BR ?_;refine(uy (st:=false) O (jf hK) (fn1 hK (Fc hK ht)) (pG hK O) 400).ex _ _ _ _ _ (F5 xs hx) A θ D env s _ E R W tk f λf w97 D' s2 o fr=>?_;cases f<;>first|exact fr.elim|skip
 exact hQ w97 D' s2 o.sta o.tk o.F o.new
theorem BW(O:V.Ok){F:Fns}{S:Subs}{n:Nat}{sc:Sc}{ρ:Rho}(I:SndP V n (me F S n)){y:Str}{yq pa:Pos}{i:Int}{k0:Nat}{p0 pl pb:Pos}{es:List Pm}{r:Pm}{l m z:List MV}{rest:List Pq}{Q:Flow->Pg->Prop}(hc:aR sc y=true)(hm:aT (me F S n) sc ρ es=some l)(hl:l.length<=900)(hr:(me F S n).ev sc ρ r=some (.list m))(ha:ib .Add (.list (.int i::l)) (.list m)=some (.list z))(hp:aa z=true)(R:Room A n)(W:Wd V s)(f:FrX V θ D sc ρ env s)
  (hQ:∀s',St V (Own D env.locals) s s'->1<=s'.toks->FrX V θ D sc (ae ρ y (.list z)) env s'->wpAny (model V.prog V.w) A (execs rest env) Q E s'):
  wpAny (model V.prog V.w) A (execs (.Assign [.Name y yq] (.BinOp (.List (.Constant (.int i) k0 p0::es) pl) .Add r pb) pa::rest) env) Q E s:=
 wpAny_execs_cons (wJ (v:= .list z) O hc rfl hp f (λ_ hq=>BV O I hm hl hr ha R W f hq) hQ)
theorem GB(hK:V.K=KK P)(ht:V.tab=gj)(h9:V.W9=w9){xs:List Int}{vs:List Ph}{Q:Pr}(R:Room A 402)(hfr:A.frames=some [])(W:Wd V s)(ra:RpL V.W9 θ none9 s.heap [eO xs] vs)(hx:xs.length<=63)
  (hQ:∀s',Keep none9 s.heap s'.heap->Wd V s'->Q (.bool true) s'):wpAny (model V.prog V.w) A (call (.ref 174) vs) Q E s:=by
 have O:=okC hK ht;have BK:V.Booked:=jf hK;have T:=Fc hK ht;have N:=pG hK O;refine jb O (l_law.isDef hK) (dm:=[]) (n:=401) rp0 rfl rfl R W (Bnd.none9 s) ra (by show(aa (xs.map .int)&&true)=true;rw[bh];rfl) λenv w99 st0 tk0 hf hL hsz Fr=>?_;rw[show(aD (KK P) 174).scope.names=(pB "law").names from l_law.names0 P]at Fr;change FrX V θ _ ak (lw0 xs) env w99 at Fr;rw[BU];have m:aT (lwP 398) ak (lw0 xs) yO=some ((pK.drop 1).map .int):=nofun
 have R1:Room (A.deeper env) 401:=R.deeper;have up:∀{h h':Pp} {X:Pn->Prop},Keep X h h'->(∀c,X c->s.heap.objs.size<=c)->Keep (λc=>s.heap.objs.size<=c) h h':=λk m=>k.mono m;have hc:aR ak (sx "numbers")=true:=nofun
 have ha:ib .Add (.list (.int 5::(pK.drop 1).map .int)) (.list ((xs.take 3).map .int))=some (.list ((nums xs).map .int)):=LK xs hx;have I:=l9 (V:=V) O BK (fn1 hK T) N 398;have hr:(lwP 398).ev ak (lw0 xs) (bR (lwE 0))=some (.list ((xs.take 3).map .int)):=Fp xs hx;have hl:((pK.drop 1).map MV.int).length<=900:=by left
 refine @BW V (A.deeper env) _ w99 θ _ env O iZ (SS spN) 398 ak (lw0 xs) I _ _ _ _ _ _ _ _ yO (bR (lwE 0)) _ _ _ _ _ hc m hl hr ha (bh _) (R1.le (by left)) st0.wd Fr λs2 st2 t2 F2=>?_;refine JG hK ht hx (R1.le (by left)) st2.wd t2 F2 λw97 D' s3 st3 t3 F3 nw=>?_;refine wpAny_execs_cons (yP O BK hK N (fn2 hK T) nofun nofun (Ni xs) (LX xs) (R1.le (by left)) (Around.frames_deeper hfr) hf st3.wd t3 F3 λs4 k4 W4 t4 F4=>?_);refine GA hK ht h9 xs (R1.le (by left)) W4 t4 F4 λs5 st5=>hQ s5 ?_ st5.wd;have k8:Keep (λc=>s.heap.objs.size<=c) s.heap s5.heap:=((((up st0.keep λ_ q=>q.elim).trans (up st2.keep λc q=>hL▸q.2)).trans (up st3.keep λc q=>hL▸q.2)).trans (up k4 λc q=>by rw[q,hL];exact OP _)).trans (up st5.keep λc q=>hL▸q.2);exact⟨k8.size,λc ob _ t e=>k8.keep c ob (Nat.not_le.mpr (OF e)) t e,k8.code⟩
end
end
section
theorem LY(P:Pk):codeHdIn (KK P) 78 74=true:=nofun
theorem LZ(P:Pk):codeHdIn (KK P) 92 88=true:=nofun
theorem Oy(P:Pk):nsIn (KK P) Pb "__builtins__"=some (some (.ref 4)):=nofun
theorem pN{h:Pp}{P:Pk}{c p:Pn}(X:(KK P).In h)(e:codeHdIn (KK P) c p=true):isCodeTable h p:=by obtain⟨o,vs,f,tf,fl,tg,b,n,t,h1,h2,h3,h4,_⟩:=codeHd_of_K X e;exact⟨c,o,vs,h1,h2,h3,h4⟩
theorem GC{h:Pp}{P:Pk}{p:Program}{l:List Str}{mean:ExcName->Pj Ph}{mg mb:Str->Pj Ph}(X:(KK P).In h)(T:Top p l mean mg mb h):Ek h:=by obtain⟨bm,ob,e,_,e1,e2,e3,e4⟩:=T.bmain;rw[mg_of X T.g (Oy P)]at e;cases e;exact⟨ob,e1,e2,e3,e4⟩
theorem yQ(M:Ek h)(T:∀p∈[88,74],h.get? p=some (tabObj #[])):gj h:=
 ⟨M,⟨#[],T 74 (by left),trivial⟩,#[],T 88 (by left),trivial,.inl rfl⟩
theorem JH{V:Vw}{w99 s':Pg}{P:Pk}(X:(KK P).In w99.heap)(T:∀p∈[88,74],w99.heap.get? p=some (tabObj #[]))(k:Keep none9 w99.heap s'.heap)(t:gj s'.heap):OldK w99.heap s'.heap:=by
 have one:∀p∈([88,74]:List Pn),isCodeTable w99.heap p->(∃ps,s'.heap.get? p=some (tabObj ps))->∀o,w99.heap.get? p=some o->asItWas w99.heap s'.heap p o/\∃o',s'.heap.get? p=some o':=by
  rintro p hp hc ⟨ps,e⟩ o ho
  have:=T p hp;rw[this]at ho;cases ho;exact⟨.inr (.inl ⟨hc,rfl,#[],ps,rfl,by rw[e];simp [tabObj]⟩),_,e⟩
 have t74:=one 74 (by left) (pN X (LY P)) (by obtain⟨_,⟨ps,e,_⟩,_⟩:=t;exact⟨ps,e⟩);have t88:=one 88 (by left) (pN X (LZ P)) (by obtain⟨_,_,ps,e,_⟩:=t;exact⟨ps,e⟩)
 have all:∀b o,w99.heap.get? b=some o->asItWas w99.heap s'.heap b o/\∃o',s'.heap.get? b=some o':=λb o e=>by
  by_cases h1:b=74
  ·subst h1;exact t74 o e
  ·by_cases h2:b=88
   ·subst h2;exact t88 o e
   ·have:=k.keep b o (λq=>q.elim) (λq=>q.elim h1 h2) e;exact⟨.inl this,o,this⟩
 exact⟨λb o e=>(all b o e).1,λb o e=>(all b o e).2⟩
theorem GD{V:Vw}{c:ClaimW}{cl:Str->Pj Pn}{mean:ExcName->Pj Ph}{args:List WData}{w99 s':Pg}{P:Pk}(X:(KK P).In w99.heap)(T:∀p∈[88,74],w99.heap.get? p=some (tabObj #[]))
  (hr:∀cls,c.raises args cls=false) (hp:c.post args (.bool true) args=true) (ht:V.tab=gj) (ho:V.os=w99.os) (k:Keep none9 w99.heap s'.heap) (W:Wd V s'):GoodWG c cl mean args w99 (.ok (.ret (.bool true))) s':=
 ⟨.inl ⟨_,_,[],rfl,hr,.bool true,hp,λ_=>⟨List.nodup_nil,λ_ hm=>(nomatch hm)⟩⟩,JH (V:=V) X T k (ht▸W.tabs),W.os.trans ho,W.bare⟩
theorem GF{p:Program}{w:World}{s:Pg}{P:Pk}{q:Program}{l:List Str}{mean:ExcName->Pj Ph}{mg mb:Str->Pj Ph}(X:(KK P).In s.heap)(T:Top q l mean mg mb s.heap)(KT:∀p∈[88,74],s.heap.get? p=some (tabObj #[]))(hsz:175<=s.heap.objs.size)(hg:s.gens=#[]):Wd ⟨p,w,KK P,w9,gj,s.os⟩ s:=
 ⟨X,⟨mb,T.b,T.builtins⟩,hsz,by rw[hg];exact AllBare.empty,yQ (GC X T) KT,rfl⟩
theorem Nv(P:Pk):((KK P).lookup 174).isSome=true:=nofun
theorem yR{h:Pp}{P:Pk}(X:(KK P).In h):175<=h.objs.size:=by
 cases hl:(KK P).lookup 174 with
 |none=>have:=Nv P;rw[hl]at this;cases this
 |some o=>exact OF (X 174 o hl)
theorem wK:Room callerA 402:=⟨rfl,by left,by left⟩
theorem GG(w:World):ip w:=
 byRow2 "special-get-raises" (P:=ip) (λw=>byRow2 "comprehension-iter-twice" (P:=λw=>ip (w.withFollow "special-get-raises" false)) Mg Mi w) (λw=>byRow2 "comprehension-iter-twice" (P:=λw=>ip (w.withFollow "special-get-raises" true)) Mh Mj w) w
theorem L3(walk:WalkO qV rQ (XL qV []) kHk.says mP.toRowW wV [] λf vs=>PySem.call f vs):PySem.Challenge.rw_in0266_01.Holds:=
 holds_law Md λsaid=>holds_open (q:=qV) (loose:=rQ) (Xt:=lawXt) (XP:=XL qV []) (Yf:=kHk.obs) (Ya:=kHk.val) (YP:=kHk.says) (N:=4404) GG kHk.of kHk.keeps
  (λs e=>xl_of s (OR.mp e).1) XL.keeps Kb Kc Me (λs e=>recFacts_of (OR.mp e).2) rfl said Mf GJ Kd walk
end
end
end Mine.Internal
open PySem PySem.Calls PyProof.Rows PySem.W Mine.Internal
namespace Mine.Internal
theorem JI(x:IntsAre vs ns):RpL W θ D h (ns.map .int) vs:=by
 induction x with
 |nil=>rfl
 |cons _ _ _ ih=>exact⟨_,_,rfl,⟨_,rfl⟩,ih⟩
theorem BX(T:∀p∈[88,74],h.get? p=some (tabObj #[]))(hl:h.IsList a vs.toArray)(hi:IntsAre vs ns):RpL W θ none9 h [eO ns] [.ref a]:=
 ⟨_,_,rfl,⟨a,vs,rfl,λq=>q,(λt=>by
  obtain⟨o,ho,hc,_⟩:=hl;have:h.get? a=some (tabObj #[]):=by rcases t with t|t<;>subst t<;>exact T _ (by left)
  rw[this]at ho;cases ho;cases hc),hl,JI hi⟩,rfl⟩
theorem BY{c:ClaimW}{cl:Str->Pj Pn}{mean mean':ExcName->Pj Ph}{args:List WData}{p q:Program}{w:World}{s:Pg}{P:Pk}{l:List Str}{mg mb:Str->Pj Ph}{a:Pn}{vs:List Ph}{ns:List Int}{E:Pr}(X:(KK P).In s.heap)(T:Top q l mean' mg mb s.heap)(KT:∀p∈[88,74],s.heap.get? p=some (tabObj #[]))(hg:s.gens=#[])
  (hl:s.heap.IsList a vs.toArray) (hi:IntsAre vs ns) (hn:ns.length<=63) (hr:∀cls,c.raises args cls=false) (hp:c.post args (.bool true) args=true):
  wpAny (model p w) callerA (call (.ref 174) [.ref a]) (λv s'=>GoodWG c cl mean args s (.ok (.ret v)) s') E s:=
 @GB ⟨p,w,KK P,w9,gj,s.os⟩ P callerA E s 0 rfl rfl rfl ns [.ref a] (λv s'=>GoodWG c cl mean args s (.ok (.ret v)) s') wK rfl (GF X T KT (yR X) hg) (BX KT hl hi) hn λs' k W=>GD (V:=⟨p,w,KK P,w9,gj,s.os⟩) X KT hr hp rfl rfl k W
theorem L4(P:Pk):nsIn (KK P) Pb "law"=some (some (.ref 174)):=nofun
end Mine.Internal
theorem PySem.Challenge.cw_in0266_01_holds : PySem.Challenge.rw_in0266_01.Holds := by
 refine L3 ?_;intro w w9f w99 mg mb G Y fa o pm cd doc dV kV ho hd hcd hD hmg hg args vals as hpre hlay hrd hwl hlo;have KX:(KK w.params).In w99.heap:=km_in_of Y;have KT:=km_tabs_of Y;refine Ground.open G ?_;intro T B D TE TW;have hfa:fa=174:=Value.ref.inj (OH (hmg.symm.trans (mg_of KX T.g (L4 w.params))));subst hfa;clear hd hcd hD hmg ho
 wrow_args hpre hlay hrd hwl hlo
 rename_i hL _ _ _ hI _ hc _;refine BY KX T KT hg hL hI (by lia) ?_ ?_
 ·exact λ_=>rfl
 ·wrow_post
