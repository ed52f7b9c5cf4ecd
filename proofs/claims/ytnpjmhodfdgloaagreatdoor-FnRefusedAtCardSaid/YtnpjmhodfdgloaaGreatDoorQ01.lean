/- Part of the proof. -/
set_option linter.unusedVariables false
set_option linter.unusedSimpArgs false
namespace Go.Proofs.YtnpjmhodfdgloaaGreatDoor
set_option maxRecDepth 100000
set_option maxHeartbeats 32000000
def Hd(p:Prop):Prop:=p
theorem Hd.o{p:Prop}(h:Hd p):p:=h
theorem Hd.out{p:Prop}(h:Hd p):p:=h
theorem lr{n:Nat}:n≤n:=Nat.le_refl n
theorem bn{α:Type}[BEq α][LawfulBEq α]{a b:α}(h:a≠b):(a==b)=false:=beq_eq_false_iff_ne.2 h
structure Tok where
 kind:Int
 val:ByteArray
 start:Nat
 stop:Nat
structure Nd where
 kind:Int
 name:ByteArray:=ByteArray.empty
 alias:ByteArray:=ByteArray.empty
 text:ByteArray:=ByteArray.empty
 flag:Int:=0
 size:Int:=0
def bs(l:List UInt8):ByteArray:=⟨l.toArray⟩
def made(n:Nd)(kids:List (List Nd)):List Nd:={n with size:=(kids.flatten.length:Int)+1} :: kids.flatten
theorem eE(n:Nd)(kids:List (List Nd)):(made n kids).length=kids.flatten.length+1:=by simp[made]
def Z3Z:Int:=1
def hO:ByteArray:=bs [113,117,101,114,121]
def l7:ByteArray:=bs [109,117,116,97,116,105,111,110]
def ga:ByteArray:=bs [115,117,98,115,99,114,105,112,116,105,111,110]
def dV:ByteArray:=bs [102,114,97,103,109,101,110,116]
def fZ:ByteArray:=bs [101,120,116,101,110,100]
def fp:ByteArray:=bs [115,99,104,101,109,97]
def ka:ByteArray:=bs [115,99,97,108,97,114]
def iC:ByteArray:=bs [116,121,112,101]
def fE:ByteArray:=bs [105,110,116,101,114,102,97,99,101]
def mU:ByteArray:=bs [117,110,105,111,110]
def qO:ByteArray:=bs [101,110,117,109]
def mT:ByteArray:=bs [105,110,112,117,116]
def fD:ByteArray:=bs [100,105,114,101,99,116,105,118,101]
def ly:ByteArray:=bs [111,110]
def cN:ByteArray:=bs [105,109,112,108,101,109,101,110,116,115]
def qQ:ByteArray:=bs [114,101,112,101,97,116,97,98,108,101]
def qR:ByteArray:=bs [116,114,117,101]
def mS:ByteArray:=bs [102,97,108,115,101]
def qP:ByteArray:=bs [110,117,108,108]
structure Ps where
 pos:Nat
 deep:Nat
 wrong:Nat
 bad:Bool
 unsure:Bool
def SM(α:Type):=Ps→α×Ps
def SM.ret{α}(a:α):SM α:=fun p=>(a,p)
def SM.bind{α β}(x:SM α)(f:α→SM β):SM β:=fun p=>f (x p).1 (x p).2
instance:Monad SM where
 pure:=SM.ret
 bind:=SM.bind
theorem aC{α β}(x:SM α)(f:α→SM β)(p:Ps):(x>>=f) p=f (x p).1 (x p).2:=rfl
theorem T7{α}(a:α)(p:Ps):(pure a:SM α) p=(a,p):=rfl
section spec
variable(l:List Tok)
def ag(i:Nat):Int:=(l[i]?.map (·.kind)).getD 1
def aX(i:Nat):ByteArray:=(l[i]?.map (·.val)).getD ByteArray.empty
def fc(ahead:Nat):SM Int:=fun p=>(ag l (p.pos+ahead),p)
def NX:SM Bool:=fun p=>(p.bad,p)
def db(p:Ps):Ps:=if p.bad then p else{p with bad:=true,wrong:=p.pos}
def dn:SM (List Nd):=fun p=>([],db p)
def aL(b:Bool):SM Unit:=fun p=>((),{p with unsure:=p.unsure||b})
def dY:SM Unit:=fun p=>((),{p with pos:=p.pos+1})
def qH:SM Unit:=fun p=>((),{p with pos:=p.pos-1})
def eT(e:Int):SM Unit:=fun p=>if p.bad=false∧ag l p.pos=e then((),db {p with pos:=p.pos-1}) else((),p)
def ay(k:Int):SM Bool:=fun p=>if p.bad=true∨ag l p.pos≠k then(false,p) else(true,{p with pos:=p.pos+1})
def cr(k:Int):SM Unit:=fun p=>if(ay l k p).1 then((),(ay l k p).2) else((),db p)
def cR(ahead:Nat)(s:ByteArray):SM Bool:=fun p=>(decide (ag l (p.pos+ahead)=15∧aX l (p.pos+ahead)=s),p)
def aw:SM ByteArray:=fun p=>if p.bad=true∨ag l p.pos≠15 then(ByteArray.empty,db p) else(aX l p.pos,{p with pos:=p.pos+1})
def gp:SM Unit:=fun p=>((),{p with unsure:=p.unsure||decide (ag l p.pos=18)||decide (ag l p.pos=19)})
def ew:SM Bool:=fun p=>if p.deep+1>60 then(false,db {p with deep:=p.deep+1,unsure:=true}) else(!p.bad,{p with deep:=p.deep+1})
def jx:SM Unit:=fun p=>((),{p with deep:=p.deep-1})
def cj:SM (List Nd):=fun p=>
 (made {kind:=23,text:=aX l p.pos,flag:=if ag l p.pos=19 then 1 else 0} [],{p with pos:=p.pos+1})
def bB:SM (List Nd):=fun p=>if ag l p.pos≠18∧ag l p.pos≠19 then([],p) else cj l p
def dk(e:Int)(item:SM (List Nd)):Nat→List (List Nd)→SM (List (List Nd))
 | 0,acc=>pure acc
 | m+1,acc=>fun p=>
  if p.bad then(acc,p)
  else if(ay l e p).1 then(acc,(ay l e p).2)
  else dk e item m (acc++[(item p).1]) (item p).2
def cV(e:Int)(item:SM (List Nd))(m:Nat)(acc:List (List Nd)):SM (List (List Nd)):=fun p=>
 if p.bad then(acc,p) else dk l e item m (acc++[(item p).1]) (item p).2
def dE(k:Int)(item:SM (List Nd)):Nat→List (List Nd)→SM (List (List Nd))
 | 0,acc=>pure acc
 | m+1,acc=>fun p=>
  if(ay l k p).1 then dE k item m (acc++[(item (ay l k p).2).1]) (item (ay l k p).2).2
  else(acc,p)
def many:Nat:=l.length+2
def cQ:Nat→Bool→SM (List Nd)
 | 0,_=>pure []
 | n+1,fixed=>do
  if(←ew)=true then
   let out ←(fun p=>
    if l.length≤p.pos then dn p else
    if ag l p.pos=3 then(if fixed then dn p else(do dY;let s ←aw l;pure (made {kind:=11,name:=s} [])) p) else
    if ag l p.pos=16 then(made {kind:=12,text:=aX l p.pos} [],{p with pos:=p.pos+1}) else
    if ag l p.pos=17 then(made {kind:=13,text:=aX l p.pos} [],{p with pos:=p.pos+1}) else
    if ag l p.pos=18 then(made {kind:=14,text:=aX l p.pos,flag:=0} [],{p with pos:=p.pos+1}) else
    if ag l p.pos=19 then(made {kind:=14,text:=aX l p.pos,flag:=1} [],{p with pos:=p.pos+1}) else
    if ag l p.pos=15 then
     (if aX l p.pos=qR then(made {kind:=15,flag:=1} [],{p with pos:=p.pos+1}) else
      if aX l p.pos=mS then(made {kind:=15} [],{p with pos:=p.pos+1}) else
      if aX l p.pos=qP then dn {p with pos:=p.pos+1,unsure:=true} else
      (made {kind:=16,name:=aX l p.pos} [],{p with pos:=p.pos+1})) else
    if ag l p.pos=10 then
     (do dY;let kids ←dk l 11 (cQ n fixed) (many l) [];pure (made {kind:=17} kids)) p else
    if ag l p.pos=12 then
     (do
      dY
      let kids ←dk l 14 (do let s ←aw l;cr l 7;let v ←cQ n fixed;pure (made {kind:=19,name:=s} [v])) (many l) []
      pure (made {kind:=18} kids)) p else
    dn p:SM (List Nd))
   jx
   pure out
  else pure []
def eK:Nat→SM (List Nd)
 | 0=>pure []
 | n+1=>do
  if(←ew)=true then
   let k ←fc l 0
   aL (decide (k≠15)&&decide (k≠10))
   let out ←(do
    if(←ay l 10)=true then
     let x ←eK n
     let k ←fc l 0
     aL (decide (k≠11))
     cr l 11
     pure (made {kind:=21} [x])
    else
     let s ←aw l
     pure (made {kind:=20,name:=s} []):SM (List Nd))
   let out ←(do if(←ay l 2)=true then pure (made {kind:=22} [out]) else pure out:SM (List Nd))
   jx
   pure out
  else pure []
def cE(fixed:Bool):SM (List Nd):=do
 if(←ay l 4)=true then
  eT l 5
  let out ←cV l 5 (do let s ←aw l;cr l 7;let v ←cQ l 62 fixed;pure (made {kind:=9,name:=s} [v])) (many l) []
  pure out.flatten
 else pure []
def oi:Nat→Nat→Bool
 | 0,_=>false
 | m+1,i=>if ag l i=1∨ag l i=5 then false else if ag l i=3 then true else oi m (i+1)
def nf:SM Bool:=fun p=>(decide (ag l p.pos=4)&&oi l (many l) p.pos,p)
def ao(fixed:Bool):SM (List Nd):=do
 let out ←dE l 9 (do
  let s ←aw l
  let a ←nf l
  aL (fixed&&a)
  let v ←cE l false
  pure (made {kind:=10,name:=s} [v])) (many l) []
 pure out.flatten
def cG(sub:SM (List Nd)):SM (List Nd):=do
 if(←ay l 6)=true then
  let k ←fc l 0
  let on ←cR l 0 ly
  if k=15∧on=false then
   let s ←aw l
   let d ←ao l false
   pure (made {kind:=7,name:=s} [d])
  else
   gp l
   let on ←cR l 0 ly
   let t ←(if on=true then(do dY;aw l) else pure ByteArray.empty:SM ByteArray)
   let d ←ao l false
   let x ←sub
   pure (made {kind:=8,text:=t} [d,x])
 else
  let n ←aw l
  let (a,n) ←(do if(←ay l 7)=true then(do let m ←aw l;pure (n,m)) else pure (ByteArray.empty,n):SM (ByteArray×ByteArray))
  let args ←cE l false
  let FX ←ao l false
  let x ←(fun p=>if p.bad=false∧ag l p.pos=12 then sub p else([],p):SM (List Nd))
  pure (made {kind:=6,name:=n,alias:=a} [args,FX,x])
def aI:Nat→SM (List Nd)
 | 0=>pure []
 | n+1=>do
  if(←ew)=true then
   cr l 12
   eT l 14
   let kids ←cV l 14 (cG l (aI n)) (many l) []
   jx
   pure (made {kind:=5} kids)
  else pure []
def fA:SM (List Nd):=do
 if(←ay l 4)=true then
  eT l 5
  let out ←cV l 5 (do
   cr l 3
   let s ←aw l
   cr l 7
   let k ←eK l 62
   let v ←(do if(←ay l 8 )=true then cQ l 62 true else pure []:SM (List Nd))
   let q ←fc l 0
   aL (decide (q=9))
   pure (made {kind:=4,name:=s} [k,v])) (many l) []
  pure out.flatten
 else pure []
def fR(b e:Int):SM Bool:=fun p=>
 if p.bad then(false,p)
 else if ag l p.pos≠b∨ag l (p.pos+1)=e then(false,db {p with unsure:=true})
 else(true,{p with pos:=p.pos+1})
def aN(s:ByteArray):Bool:=decide (s=hO)||decide (s=l7)||decide (s=ga)
def cF:Nat→Bool→List (List Nd)→SM (Option (List (List Nd)))
 | 0,_,acc=>pure (some acc)
 | m+1,first,acc=>fun p=>
  if p.bad then(some acc,p)
  else if first=false∧(ay l 14 p).1=true then(some acc,(ay l 14 p).2)
  else
   let p:=if first then p else(ay l 14 p).2
   let t:=(aw l p).1
   let p:=(aw l p).2
   if aN t then
    let p:=(cr l 7 p).2
    let n:=(aw l p).1
    let p:=(aw l p).2
    cF m false (acc++[made {kind:=25,text:=t,name:=n} []]) p
   else(none,db {p with pos:=p.pos-1})
def iQ(text:List Nd):SM (List Nd):=do
 let d ←ao l true
 cr l 12
 eT l 14
 match ←cF l (many l) true [text,d] with
 | some kids=>pure (made {kind:=24} kids)
 | none=>pure []
def fX(b e:Int):SM (List Nd):=do
 if(←fR l b e)=true then
  let out ←cV l e (do
   let text ←bB l
   let s ←aw l
   cr l 7
   let k ←eK l 62
   let v ←(do if(←ay l 8)=true then cQ l 62 true else pure []:SM (List Nd))
   let d ←ao l true
   pure (made {kind:=30,name:=s} [text,k,v,d])) (many l) []
  pure out.flatten
 else pure []
def hZ:SM (List Nd):=do
 if(←fR l 12 14)=true then
  let out ←cV l 14 (do
   let text ←bB l
   let s ←aw l
   let q ←fc l 0
   let args ←(if q=4 then fX l 4 5 else pure []:SM (List Nd))
   cr l 7
   let k ←eK l 62
   let d ←ao l true
   pure (made {kind:=29,name:=s} [text,args,k,d])) (many l) []
  pure out.flatten
 else pure []
def fq(k:Int):SM (List Nd):=do
 let s ←aw l
 pure (made {kind:=k,name:=s} [])
def fY(text:List Nd):SM (List Nd):=do
 let n ←aw l
 gp l
 let imp ←cR l 0 cN
 let kids ←(if imp=true then(do
  dY
  let _ ←ay l 20
  let k ←fq l 28
  dE l 20 (fq l 28) (many l) [text,k]) else pure [text]:SM (List (List Nd)))
 let d ←ao l true
 let f ←hZ l
 pure (made {kind:=27,name:=n} (kids++[d,f]))
def lY(text:List Nd):SM (List Nd):=do
 let n ←aw l
 let d ←ao l true
 let b ←NX
 let q ←fc l 0
 if b=false∧q≠8 then(do aL true;dn) else
 cr l 8
 let q ←fc l 0
 aL (decide (q=13))
 let _ ←ay l 13
 let k ←fq l 33
 let kids ←dE l 13 (fq l 33) (many l) [text,d,k]
 pure (made {kind:=32,name:=n} kids)
def hJ(text:List Nd):SM (List Nd):=do
 let n ←aw l
 let d ←ao l true
 if(←fR l 12 14)=true then
  let kids ←cV l 14 (do
   let about ←bB l
   let s ←aw l
   aL (decide (s=qR)||decide (s=mS)||decide (s=qP))
   let d ←ao l true
   pure (made {kind:=35,name:=s} [about,d])) (many l) [text,d]
  pure (made {kind:=34,name:=n} kids)
 else pure []
def places:List ByteArray:=[
 bs [81,85,69,82,89],bs [77,85,84,65,84,73,79,78],bs [83,85,66,83,67,82,73,80,84,73,79,78],bs [70,73,69,76,68],
 bs [70,82,65,71,77,69,78,84,95,68,69,70,73,78,73,84,73,79,78],bs [70,82,65,71,77,69,78,84,95,83,80,82,69,65,68],
 bs [73,78,76,73,78,69,95,70,82,65,71,77,69,78,84],bs [86,65,82,73,65,66,76,69,95,68,69,70,73,78,73,84,73,79,78],
 bs [83,67,72,69,77,65],bs [83,67,65,76,65,82],bs [79,66,74,69,67,84],bs [70,73,69,76,68,95,68,69,70,73,78,73,84,73,79,78],
 bs [65,82,71,85,77,69,78,84,95,68,69,70,73,78,73,84,73,79,78],bs [73,78,84,69,82,70,65,67,69],bs [85,78,73,79,78],bs [69,78,85,77],
 bs [69,78,85,77,95,86,65,76,85,69],bs [73,78,80,85,84,95,79,66,74,69,67,84],bs [73,78,80,85,84,95,70,73,69,76,68,95,68,69,70,73,78,73,84,73,79,78]]
def dU:SM (List Nd):=do
 let s ←aw l
 aL (!places.any fun x=>decide (x=s))
 pure (made {kind:=38,name:=s} [])
def ir(text:List Nd):SM (List Nd):=do
 cr l 9
 let n ←aw l
 let q ←fc l 0
 let kids ←(if q=4 then(do let i ←fX l 4 5;pure [text,i]) else pure [text]:SM (List (List Nd)))
 let r ←cR l 0 qQ
 aL r
 gp l
 let on ←cR l 0 ly
 if on=false then dn else
 dY
 let q ←fc l 0
 aL (decide (q=13))
 let _ ←ay l 13
 let k ←dU l
 let kids ←dE l 13 (dU l) (many l) (kids++[k])
 pure (made {kind:=37,name:=n} kids)
def eF:SM (List Nd):=do
 let t ←aw l
 let q ←fc l 0
 let n ←(if q=15 then aw l else pure ByteArray.empty:SM ByteArray)
 let v ←fA l
 let d ←ao l false
 let x ←aI l 62
 pure (made {kind:=2,text:=t,name:=n} [v,d,x])
def dx:SM (List Nd):=do
 let on ←cR l 0 ly
 if on=true then dn else
 let n ←aw l
 let q ←fc l 0
 aL (decide (q=4))
 gp l
 let on ←cR l 0 ly
 if on=false then dn else
 dY
 let t ←aw l
 let d ←ao l false
 let x ←aI l 62
 pure (made {kind:=3,name:=n,text:=t} [d,x])
def dX:SM (List Nd):=do
 let q ←fc l 0
 if q=12 then(do let x ←aI l 62;pure (made {kind:=2,text:=hO,flag:=1} [x])) else
 let text ←(if q=18∨q=19 then cj l else pure []:SM (List Nd))
 let q ←fc l 0
 if q≠15 then dn else
 fun p=>
 let w:=aX l p.pos
 if(aN w||decide (w=dV)||decide (w=fZ))&&!text.isEmpty then dn {p with pos:=p.pos-1} else
 (do
  aL (decide (w=fp)&&!text.isEmpty)
  let w ←aw l
  if aN w then(do qH;eF l) else
  if w=dV then dx l else
  if w=fp then iQ l text else
  if w=ka then(do let n ←aw l;let d ←ao l true;pure (made {kind:=26,name:=n} [text,d])) else
  if w=iC then fY l text else
  if w=fE then(do
   let n ←aw l
   let imp ←cR l 0 cN
   aL imp
   let d ←ao l true
   let f ←hZ l
   pure (made {kind:=31,name:=n} [text,d,f])) else
  if w=mU then lY l text else
  if w=qO then hJ l text else
  if w=mT then(do let n ←aw l;let d ←ao l true;let i ←fX l 12 14;pure (made {kind:=36,name:=n} [text,d,i])) else
  if w=fD then ir l text else
  if w=fZ then(do
   let t ←cR l 0 iC
   aL (!t)
   if t=false then dn else
   dY
   let o ←fY l []
   pure (made {kind:=39} [o])) else
  (do qH;dn):SM (List Nd)) p
def eg:Nat→List (List Nd)→SM (List (List Nd))
 | 0,acc=>pure acc
 | m+1,acc=>fun p=>
  if p.bad=false∧p.pos<l.length then eg m (acc++[(dX l p).1]) (dX l p).2 else(acc,p)
def bL:SM (List Nd):=do
 let kids ←eg l (many l) []
 if kids.isEmpty then(do aL true;dn) else pure (made {kind:=1} kids)
def uO:Ps:=⟨0,0,0,false,false⟩
end spec
inductive LR where
 | tok (t:Tok)
 | err (p:Nat)
 | eo
inductive PR(α:Type) where
 | ok (a:α) (t:Tok)
 | err (p:Nat)
 | eo
def PM(α:Type):=Tok→PR α
def PR.bind{α β}(r:PR α)(f:α→PM β):PR β:=match r with
 | .ok a t=>f a t
 | .err p=>.err p
 | .eo=>.eo
instance:Monad PM where
 pure a:=fun t=>.ok a t
 bind x f:=fun t=>(x t).bind f
theorem aj{α β}(x:PM α)(f:α→PM β)(t:Tok):(x>>=f) t=(x t).bind f:=rfl
theorem GW{α}(a:α)(t:Tok):(pure a:PM α) t=.ok a t:=rfl
@[simp] theorem bD {α β} (a:α) (t:Tok) (f:α→PM β):(PR.ok a t).bind f=f a t:=rfl
@[simp] theorem Z0U {α β} (p:Nat) (f:α→PM β):(PR.err p:PR α).bind f=.err p:=rfl
@[simp] theorem Z0V {α β} (f:α→PM β):(PR.eo:PR α).bind f=.eo:=rfl
section impl
variable(L:Nat→LR)
def eU:PM Tok:=fun t=>.ok t t
def J1{α}:PM α:=fun _=>.eo
def Mm{α}:PM α:=fun t=>.err t.start
def qz{α}(p:Nat):PM α:=fun _=>.err p
def LR.go(r:LR):PR Unit:=match r with
 | .tok t=>.ok () t
 | .err p=>.err p
 | .eo=>.eo
def bm:PM Unit:=fun t=>(L t.stop).go
def ft(k:Int):PM Bool:=fun t=>if t.kind=k then(L t.stop).go.bind fun _=>pure true else .ok false t
def bE(k:Int):PM Tok:=fun t=>if t.kind=k then(L t.stop).go.bind fun _=>pure t else .err t.start
def dt(s:ByteArray):PM Tok:=fun t=>if t.kind=15∧t.val=s then(L t.stop).go.bind fun _=>pure t else .err t.start
def dQ:PM ByteArray:=do let t ←bE L 15;pure t.val
def bj(item:PM (List Nd))(close:Int):Nat→List (List Nd)→PM (List (List Nd))
 | 0,_=>J1
 | m+1,acc=>do
  if(←ft L close)=true then pure acc else
  let x ←item
  bj item close m (acc++[x])
def bW(m:Nat)(opn:Int)(item:PM (List Nd))(close:Int)(some:Bool):PM (List (List Nd)):=do
 let t ←bE L opn
 let l ←bj L item close m []
 if some=true∧l.isEmpty=true then qz t.start else pure l
def pf:PM (List Nd):=do
 let _ ←bE L 3
 let s ←dQ L
 pure (made {kind:=11,name:=s} [])
def fx(item:PM (List Nd)):PM (List Nd):=do
 let s ←dQ L
 let _ ←bE L 7
 let v ←item
 pure (made {kind:=19,name:=s} [v])
def bo:Nat→Bool→PM (List Nd)
 | 0,_=>J1
 | n+1,const=>do
  let t ←eU
  if t.kind=10 then(do let l ←bW L n 10 (bo n const) 11 false;pure (made {kind:=17} l)) else
  if t.kind=12 then(do
   let _ ←bE L 12
   let l ←bj L (fx L (bo n const)) 14 n []
   pure (made {kind:=18} l)) else
  if t.kind=16 then(do bm L;pure (made {kind:=12,text:=t.val} [])) else
  if t.kind=17 then(do bm L;pure (made {kind:=13,text:=t.val} [])) else
  if t.kind=18∨t.kind=19 then(do bm L;pure (made {kind:=14,text:=t.val} [])) else
  if t.kind=15 then
   (if t.val=qR then(do bm L;pure (made {kind:=15,flag:=1} [])) else
    if t.val=mS then(do bm L;pure (made {kind:=15} [])) else
    if t.val=qP then Mm else
    (do bm L;pure (made {kind:=16,name:=t.val} []))) else
  if t.kind=3∧const=false then pf L else Mm
def nk(k:Int):PM (List Nd):=do
 let s ←dQ L
 pure (made {kind:=k,name:=s} [])
def L6:List Nd:=[{kind:=0}]
def sC(sub:PM (List Nd)):PM (List Nd):=do
 let t ←eU
 if t.kind=10 then(do
  bm L
  let x ←sub
  bm L
  pure (made {kind:=21} [x])) else
 if t.kind=11 then(do bm L;pure (made {kind:=21} [L6])) else
 if t.kind=15 then nk L 20 else pure L6
def pB:Nat→PM (List Nd)
 | 0=>J1
 | n+1=>do
  let x ←sC L (pB n)
  if(←ft L 2)=true then pure (made {kind:=22} [x]) else pure x
def kQ(n:Nat):PM (List Nd):=do
 let s ←dQ L
 let _ ←bE L 7
 let v ←bo L n false
 pure (made {kind:=9,name:=s} [v])
def iJ(n:Nat):PM (List Nd):=do
 let t ←eU
 if t.kind=4 then(do let l ←bW L n 4 (kQ L n) 5 true;pure l.flatten) else pure []
def ko(n:Nat):PM (List Nd):=do
 let _ ←bE L 9
 let s ←dQ L
 let a ←iJ L n
 pure (made {kind:=10,name:=s} [a])
def rF(n:Nat):Nat→List (List Nd)→PM (List (List Nd))
 | 0,_=>J1
 | m+1,acc=>do
  let t ←eU
  if t.kind=9 then(do let d ←ko L n;rF n m (acc++[d])) else pure acc
def bN(n:Nat):PM (List Nd):=do
 let l ←rF L n n []
 pure l.flatten
def dH:PM ByteArray:=do
 let t ←eU
 if t.val=ly then Mm else dQ L
def zG(n:Nat)(sub:PM (List Nd)):PM (List Nd):=do
 let _ ←bE L 6
 let t ←eU
 if t.kind=15∧t.val≠ly then(do
  let s ←dH L
  let d ←bN L n
  pure (made {kind:=7,name:=s} [d])) else
 let s ←(if t.val=ly then(do bm L;dQ L) else pure ByteArray.empty:PM ByteArray)
 let d ←bN L n
 let x ←sub
 pure (made {kind:=8,text:=s} [d,x])
def Gg(s:ByteArray):PM (ByteArray×ByteArray):=do if(←ft L 7)=true then(do let m ←dQ L;pure (s,m)) else pure (ByteArray.empty,s)
def PU(rh:PM (List Nd)):PM (List Nd):=do
 let t ←eU
 if t.kind=12 then rh else pure []
def uA(n:Nat)(sub:PM (List Nd)):PM (List Nd):=do
 let s ←dQ L
 let an ←Gg L s
 let args ←iJ L n
 let FX ←bN L n
 let x ←PU sub
 pure (made {kind:=6,name:=an.2,alias:=an.1} [args,FX,x])
def iK(n:Nat)(sub:PM (List Nd)):PM (List Nd):=do
 let t ←eU
 if t.kind=6 then zG L n sub else uA L n sub
def cC:Nat→PM (List Nd)
 | 0=>J1
 | n+1=>do
  let l ←bW L n 12 (iK L n (cC n)) 14 true
  pure (made {kind:=5} l)
def py(n:Nat):PM (List Nd):=do
 if(←ft L 8)=true then bo L n true else pure []
def gM(n:Nat):PM (List Nd):=do
 let _ ←bE L 3
 let s ←dQ L
 let _ ←bE L 7
 let k ←pB L n
 let v ←py L n
 pure (made {kind:=4,name:=s} [k,v])
def ku(n:Nat):PM (List Nd):=do
 let t ←eU
 if t.kind=4 then(do let l ←bW L n 4 (gM L n) 5 true;pure l.flatten) else pure []
def kR:PM ByteArray:=do
 let t ←bE L 15
 if aN t.val then pure t.val else qz t.start
def dL(n:Nat):PM (List Nd):=do
 let t ←eU
 if t.kind=12 then(do let x ←cC L n;pure (made {kind:=2,text:=hO} [x])) else
 let o ←kR L
 let t ←eU
 let s ←(if t.kind=15 then dQ L else pure ByteArray.empty:PM ByteArray)
 let v ←ku L n
 let d ←bN L n
 let x ←cC L n
 pure (made {kind:=2,text:=o,name:=s} [v,d,x])
def nL(n:Nat):PM (List Nd):=do
 let s ←dH L
 let _ ←dt L ly
 let t ←dQ L
 let d ←bN L n
 let x ←cC L n
 pure (made {kind:=3,name:=s,text:=t} [d,x])
def gL(n:Nat):PM (List Nd):=do
 let _ ←dt L dV
 nL L n
def ec:PM (List Nd):=do
 let t ←eU
 if t.kind=18∨t.kind=19 then(do bm L;pure (made {kind:=23,text:=t.val} [])) else pure []
def bZ(w:ByteArray)(body:List Nd→PM (List Nd)):PM (List Nd):=do
 let x ←ec L
 let _ ←dt L w
 body x
def cU:PM (List Nd):=do
 let o ←kR L
 let _ ←bE L 7
 let s ←dQ L
 pure (made {kind:=25,text:=o,name:=s} [])
def yz(n:Nat):PM (List Nd):=do
 let d ←bN L n
 let l ←bW L n 12 (cU L) 14 true
 pure (made {kind:=24} (d :: l))
def sA(n:Nat):PM (List Nd):=do
 let _ ←dt L fp
 yz L n
def pA(n:Nat)(x:List Nd):PM (List Nd):=do
 let s ←dQ L
 let d ←bN L n
 pure (made {kind:=26,name:=s} [x,d])
def gv(k:Int):PM Unit:=fun t=>if t.kind=k then(match L t.stop with| .tok u=>.ok () u|.err _=>.ok () t|.eo=>.eo) else .ok () t
def gC(k sign:Int):Nat→List (List Nd)→PM (List (List Nd))
 | 0,_=>J1
 | m+1,acc=>do
  let x ←nk L k
  if(←ft L sign)=true then gC k sign m (acc++[x]) else pure (acc++[x])
def kr(n:Nat):PM (List (List Nd)):=do
 let t ←eU
 if t.val=cN then(do bm L;gv L 20;gC L 28 20 n []) else pure []
def jR(n:Nat):PM (List Nd):=do
 let x ←ec L
 let s ←dQ L
 let _ ←bE L 7
 let k ←pB L n
 let v ←py L n
 let d ←bN L n
 pure (made {kind:=30,name:=s} [x,k,v,d])
def fu(n:Nat):PM (List Nd):=do
 let t ←eU
 if t.kind=4 then(do let l ←bW L n 4 (jR L n) 5 true;pure l.flatten) else pure []
def jQ(n:Nat):PM (List Nd):=do
 let x ←ec L
 let s ←dQ L
 let a ←fu L n
 let _ ←bE L 7
 let k ←pB L n
 let d ←bN L n
 pure (made {kind:=29,name:=s} [x,a,k,d])
def pz(n:Nat)(x:List Nd):PM (List Nd):=do
 let s ←dQ L
 let i ←kr L n
 let d ←bN L n
 let l ←bW L n 12 (jQ L n) 14 false
 pure (made {kind:=27,name:=s} ([x]++i++[d]++l))
def qA(n:Nat):PM (List Nd):=bZ L iC (pz L n)
def kt(n:Nat)(x:List Nd):PM (List Nd):=do
 let s ←dQ L
 let d ←bN L n
 let l ←bW L n 12 (jQ L n) 14 false
 pure (made {kind:=31,name:=s} ([x]++[d]++l))
def sD(n:Nat)(x:List Nd):PM (List Nd):=do
 let s ←dQ L
 let d ←bN L n
 let _ ←bE L 8
 let l ←gC L 33 13 n []
 pure (made {kind:=32,name:=s} ([x]++[d]++l))
def kq(n:Nat):PM (List Nd):=do
 let x ←ec L
 let s ←dQ L
 let d ←bN L n
 pure (made {kind:=35,name:=s} [x,d])
def xt(n:Nat)(x:List Nd):PM (List Nd):=do
 let s ←dQ L
 let d ←bN L n
 let l ←bW L n 12 (kq L n) 14 false
 pure (made {kind:=34,name:=s} ([x]++[d]++l))
def sy(n:Nat)(x:List Nd):PM (List Nd):=do
 let s ←dQ L
 let d ←bN L n
 let l ←bW L n 12 (jR L n) 14 false
 pure (made {kind:=36,name:=s} ([x]++[d]++l))
def oN(n:Nat):PM (List Nd):=do
 let _ ←dt L fZ
 let o ←qA L n
 pure (made {kind:=39} [o])
def gZ(n:Nat)(x:List Nd):PM (List Nd):=do
 let _ ←bE L 9
 let s ←dQ L
 let a ←fu L n
 let _ ←dt L ly
 let l ←gC L 38 13 n []
 pure (made {kind:=37,name:=s} ([x]++[a]++l))
def bG(n:Nat)(w:ByteArray):Option (PM (List Nd)):=
 if w=dV then some (gL L n) else
 if aN w then some (dL L n) else
 if w=fp then some (sA L n) else
 if w=ka then some (bZ L ka (pA L n)) else
 if w=iC then some (qA L n) else
 if w=fE then some (bZ L fE (kt L n)) else
 if w=mU then some (bZ L mU (sD L n)) else
 if w=qO then some (bZ L qO (xt L n)) else
 if w=mT then some (bZ L mT (sy L n)) else
 if w=fZ then some (oN L n) else
 if w=fD then some (bZ L fD (gZ L n)) else none
def fh(n:Nat):PM (List Nd):=fun t=>
 let r:LR:=if t.kind=18∨t.kind=19 then L t.stop else .tok t
 match r with
 | .err p=>.err p
 | .eo=>.eo
 | .tok u=>
  if u.kind≠15 then .err u.start else
  match bG L n u.val with
  | some f=>f t
  | none=>.err u.start
def bC(n:Nat):PM (List Nd):=fun t=>
 if t.kind=12 then dL L n t else
 if t.kind=15∨t.kind=18∨t.kind=19 then fh L n t else .err t.start
def iX(n:Nat):PM (List Nd):=do
 let l ←bj L (bC L n) 1 n []
 pure (made {kind:=1} l)
end impl
def Nd.norm(n:Nd):Nd:=if n.kind=15 then n else{n with flag:=0}
def dF(a b:List Nd):Prop:=a.map Nd.norm=b.map Nd.norm
def dc(a b:List (List Nd)):Prop:=dF a.flatten b.flatten∧a.length=b.length
theorem dF.refl(a:List Nd):dF a a:=rfl
theorem dF.append{a b c d:List Nd}(h:dF a b)(k:dF c d):dF (a++c) (b++d):=by unfold dF at *;simp[h,k]
theorem dF.length{a b:List Nd}(h:dF a b):a.length=b.length:=by have:=congrArg List.length h;simpa using this
theorem dc.refl(a:List (List Nd)):dc a a:=⟨rfl,rfl⟩
theorem dc.append{a b c d:List (List Nd)}(h:dc a b)(k:dc c d):dc (a++c) (b++d):=by refine⟨?_,by simp[h.2,k.2]⟩;simpa using h.1.append k.1
theorem dc.cons{a b:List Nd}{c d:List (List Nd)}(h:dF a b)(k:dc c d):dc (a :: c) (b :: d):=⟨by simpa using h.append k.1,by simp[k.2]⟩
theorem dc.nil:dc [] []:=⟨rfl,rfl⟩
theorem dc.one{a b:List Nd}(h:dF a b):dc [a] [b]:=dc.cons h dc.nil
theorem dc.snoc{a b:List (List Nd)}{c d:List Nd}(h:dc a b)(k:dF c d):dc (a++[c]) (b++[d]):=h.append (dc.one k)
theorem dF.made{m n:Nd}{a b:List (List Nd)}(hn:({m with size:=0}:Nd).norm=({n with size:=0}:Nd).norm)(h:dc a b):dF (made m a) (made n b):=by
 have hl:=h.1.length;have h1:=h.1;unfold dF at *;simp only[Go.Proofs.YtnpjmhodfdgloaaGreatDoor.made,List.map_cons,h1,List.cons.injEq,and_true];unfold Nd.norm at *;rw[hl]
 cases m;cases n
 dsimp only at hn ⊢;split at hn<;>split at hn<;>simp_all
section
variable(l:List Tok)
def aq{α}(S:SM α):Prop:=∀p,((S p).2.unsure=false→p.unsure=false)∧(p.bad=true→(S p).2.bad=true∧(S p).2.wrong=p.wrong)
theorem aq.pure{α}(a:α):aq (pure a:SM α):=fun p=>⟨id,fun h=>⟨h,rfl⟩⟩
theorem aq.bind{α β}{x:SM α}{f:α→SM β}(hx:aq x)(hf:∀a,aq (f a)):aq (x>>=f):=fun p=>by have h1:=hx p;have h2:=hf (x p).1 (x p).2;refine⟨fun h=>h1.1 (h2.1 h),fun h=>?_⟩;have a:=h1.2 h;have b:=h2.2 a.1;exact⟨b.1,b.2.trans a.2⟩
theorem aq.ite{α}{c:Prop}[Decidable c]{x y:SM α}(hx:aq x)(hy:aq y):aq (if c then x else y):=by split<;>assumption
theorem gB(p:Ps):((db p).unsure=p.unsure)∧(p.bad=true→(db p).bad=true∧(db p).wrong=p.wrong):=by unfold db;split<;>simp_all
theorem aq.of{α}{S:SM α}(h:∀p,((S p).2.unsure=false→p.unsure=false)∧(p.bad=true→(S p).2.bad=true∧(S p).2.wrong=p.wrong)):aq S:=h
theorem eJ(a:Nat):aq (fc l a):=fun p=>⟨id,fun h=>⟨h,rfl⟩⟩
theorem o7:aq NX:=fun p=>⟨id,fun h=>⟨h,rfl⟩⟩
theorem gx:aq dn:=fun p=>⟨fun h=>by rw[←(gB p).1];exact h,(gB p).2⟩
theorem cL(b:Bool):aq (aL b):=fun p=>⟨fun h=>by simp[aL] at h;exact h.1,fun h=>⟨h,rfl⟩⟩
theorem gy:aq dY:=fun p=>⟨id,fun h=>⟨h,rfl⟩⟩
theorem mh:aq qH:=fun p=>⟨id,fun h=>⟨h,rfl⟩⟩
theorem kA:aq jx:=fun p=>⟨id,fun h=>⟨h,rfl⟩⟩
theorem kU(e:Int):aq (eT l e):=fun p=>by
 unfold eT;split
 · rename_i h;have:=gB {p with pos:=p.pos-1};exact⟨fun k=>by rw[this.1] at k;exact k,fun k=>this.2 k⟩
 · exact⟨id,fun h=>⟨h,rfl⟩⟩
theorem eP(k:Int):aq (ay l k):=fun p=>by unfold ay;split<;>exact⟨id,fun h=>⟨h,rfl⟩⟩
theorem ey(k:Int):aq (cr l k):=fun p=>by
 unfold cr;split
 · exact eP l k p
 · exact gx p
theorem iZ(a:Nat)(s:ByteArray):aq (cR l a s):=fun p=>⟨id,fun h=>⟨h,rfl⟩⟩
theorem dT:aq (aw l):=fun p=>by
 unfold aw;split
 · exact gx p
 · exact⟨id,fun h=>⟨h,rfl⟩⟩
theorem ie:aq (gp l):=fun p=>⟨fun h=>by simp[gp] at h;exact h.1.1,fun h=>⟨h,rfl⟩⟩
theorem kz:aq ew:=fun p=>by
 unfold ew;split
 · have:=gB {p with deep:=p.deep+1,unsure:=true};exact⟨fun h=>by rw[this.1] at h;simp at h,fun h=>this.2 h⟩
 · exact⟨id,fun h=>⟨h,rfl⟩⟩
theorem eH:aq (cj l):=fun p=>⟨id,fun h=>⟨h,rfl⟩⟩
theorem gh:aq (bB l):=fun p=>by unfold bB;split;exact⟨id,fun h=>⟨h,rfl⟩⟩;exact eH l p
theorem fz{e:Int}{item:SM (List Nd)}(hi:aq item):∀m acc,aq (dk l e item m acc)
 | 0,acc=>aq.pure acc
 | m+1,acc=>fun p=>by
  unfold dk;split
  · exact⟨id,fun h=>⟨h,rfl⟩⟩
  · split
    · exact eP l e p
    · exact(aq.bind hi fun x=>fz hi m (acc++[x])) p
theorem jv{e:Int}{item:SM (List Nd)}(hi:aq item)(m:Nat)(acc:List (List Nd)):aq (cV l e item m acc):=fun p=>by
 unfold cV;split
 · exact⟨id,fun h=>⟨h,rfl⟩⟩
 · exact(aq.bind hi fun x=>fz l hi m (acc++[x])) p
theorem gE{k:Int}{item:SM (List Nd)}(hi:aq item):∀m acc,aq (dE l k item m acc)
 | 0,acc=>aq.pure acc
 | m+1,acc=>fun p=>by
  unfold dE;split
  · exact(aq.bind (eP l k) fun _=>aq.bind hi fun x=>gE hi m (acc++[x])) p
  · exact⟨id,fun h=>⟨h,rfl⟩⟩
variable(eof:Tok)
def aB(i:Nat):Tok:=l[i]?.getD eof
structure Stream(L:Nat→LR):Prop where
 fin:eof.kind=1∧eof.val=ByteArray.empty
 known:∀t∈l,t.kind≠1
 word:∀t∈l,t.val=ly∨t.val=cN→t.kind=15∨t.kind=18∨t.kind=19
 next:∀i,L (aB l eof i).stop=.tok (aB l eof (i+1))
variable{l eof}
theorem Stream.kind{L}(h:Stream l eof L)(i:Nat):(aB l eof i).kind=ag l i:=by unfold aB ag;cases l[i]?<;>simp[h.fin.1]
theorem Stream.val{L}(h:Stream l eof L)(i:Nat):(aB l eof i).val=aX l i:=by unfold aB aX;cases l[i]?<;>simp[h.fin.2]
theorem Stream.end_{L}(h:Stream l eof L)(i:Nat):ag l i=1↔l.length≤i:=by
 unfold ag;by_cases hi:i<l.length
 · rw[List.getElem?_eq_getElem hi];have:=h.known _ (List.getElem_mem hi);simp;omega
 · rw[List.getElem?_eq_none (by omega)];simp;omega
def Sim(l:List Tok)(eof:Tok)(n:Nat){α β}(R:α→β→Prop)(d:Nat)(S:SM α)(I:PM β):Prop:=
 ∀p,p.bad=false→p.pos≤l.length→l.length-p.pos<n→(S p).2.unsure=false →
  ((S p).2.bad=true→I (aB l eof p.pos)=.err (aB l eof (S p).2.wrong).start) ∧
  ((S p).2.bad=false→p.pos+d≤(S p).2.pos∧(S p).2.pos≤l.length∧(S p).2.deep=p.deep∧∃y,I (aB l eof p.pos)=.ok y (aB l eof (S p).2.pos)∧R (S p).1 y)
end
section
variable{l:List Tok}{eof:Tok}{L:Nat→LR}{n:Nat}
def ah(l:List Tok)(eof:Tok){α β}(R:α→β→Prop)(d:Nat)(p:Ps)(S:SM α)(I:PM β):Prop:=
 (S p).2.unsure=false →
  ((S p).2.bad=true→I (aB l eof p.pos)=.err (aB l eof (S p).2.wrong).start) ∧
  ((S p).2.bad=false→p.pos+d≤(S p).2.pos∧(S p).2.pos≤l.length∧(S p).2.deep=p.deep∧∃y,I (aB l eof p.pos)=.ok y (aB l eof (S p).2.pos)∧R (S p).1 y)
def Good(l:List Tok)(n:Nat)(p:Ps):Prop:=p.bad=false∧p.pos≤l.length∧l.length-p.pos<n∧p.deep≤60
theorem ah.ok{α β}{R:α→β→Prop}{d:Nat}{p q:Ps}{S:SM α}{I:PM β}{a:α}{y:β}(hs:S p=(a,q))(h0:q.bad=false)(h1:p.pos+d≤q.pos)(h2:q.pos≤l.length)(h3:q.deep=p.deep)(hi:I (aB l eof p.pos)=.ok y (aB l eof q.pos))(hr:R a y):ah l eof R d p S I:=fun _=>by rw[hs];exact⟨fun hb=>absurd (h0.symm.trans hb) (by decide),fun _=>⟨h1,h2,h3,y,hi,hr⟩⟩
theorem ah.err{α β}{R:α→β→Prop}{d:Nat}{p q:Ps}{S:SM α}{I:PM β}{a:α}(hs:S p=(a,q))(h0:q.bad=true)(hi:I (aB l eof p.pos)=.err (aB l eof q.wrong).start):ah l eof R d p S I:=fun _=>by rw[hs];exact⟨fun _=>hi,fun hb=>absurd (h0.symm.trans hb) (by decide)⟩
theorem ah.nH{α β}{R R':α→β→Prop}{d d':Nat}{p:Ps}{S:SM α}{I:PM β}(h:ah l eof R d p S I)(hr:∀a b,R a b→R' a b)(hd:d'≤d):ah l eof R' d' p S I:=by intro hu;have hh:=h hu;refine⟨hh.1,fun hb=>?_⟩;obtain⟨a,b,c,y,e,f⟩:=hh.2 hb;exact⟨by omega,b,c,y,e,hr _ _ f⟩
theorem ah.pure{α β}{R:α→β→Prop}{p:Ps}{a:α}{b:β}(hg:Good l n p)(h:R a b):ah l eof R 0 p (pure a) (pure b):=fun _=>
 ⟨(fun hb=>by rw[T7] at hb;rw[hg.1] at hb;cases hb),fun _=>⟨lr,hg.2.1,rfl,b,rfl,h⟩⟩
theorem ah.bind{α β γ δ}{R:α→β→Prop}{Q:γ→δ→Prop}{d e:Nat}{p:Ps}{S:SM α}{I:PM β}{f:α→SM γ}{g:β→PM δ}
 (h:ah l eof R d p S I) (hm:∀a,aq (f a)) (hg:Good l n p) (k:∀a b q,R a b→Good l n q→p.pos+d≤q.pos→q.deep=p.deep→ah l eof Q e q (f a) (g b)):ah l eof Q (d+e) p (S>>=f) (I>>=g):=fun hu=>by
 rw[aC] at hu ⊢;have mo:=hm (S p).1 (S p).2;obtain⟨h1,h2⟩:=h (mo.1 hu)
 cases hb:(S p).2.bad with
 | true=>
  have mb:=mo.2 hb;refine⟨fun _=>?_,fun hx=>by rw[mb.1] at hx;cases hx⟩
  rw[aj,h1 hb,mb.2];rfl
 | false=>obtain⟨a,b,c,y,e1,r⟩:=h2 hb;have gq:Good l n (S p).2:=⟨hb,b,by have:=hg.2.2.1;omega,by rw[c];exact hg.2.2.2⟩;obtain⟨k1,k2⟩:=k _ y _ r gq a c hu;rw[aj,e1];refine⟨k1,fun hx=>?_⟩;obtain⟨a',b',c',y',e',r'⟩:=k2 hx;exact⟨by omega,b',c'.trans c,y',e',r'⟩
theorem ah.seq{α β γ δ}{R:α→β→Prop}{Q:γ→δ→Prop}{d n:Nat}{p:Ps}{S:SM α}{I:PM β}{f:α→SM γ}{g:β→PM δ}
 (h:ah l eof R d p S I) (hm:∀a,aq (f a)) (hg:Good l n p) (k:∀a b q,R a b→Good l n q→p.pos+d≤q.pos→q.deep=p.deep→ah l eof Q 0 q (f a) (g b)):ah l eof Q d p (S>>=f) (I>>=g):=
 (h.bind hm hg k).nH (fun _ _ h=>h) lr
theorem ah.uc{α β γ δ}{R:α→β→Prop}{Q:γ→δ→Prop}{d e n:Nat}{p:Ps}{S:SM α}{I:PM β}{f:α→SM γ}{g:β→PM δ}
 (h:ah l eof R d p S I) (hm:∀a,aq (f a)) (hg:Good l n p) (k:∀a b q,R a b→Good l n q→p.pos+d≤q.pos→q.deep=p.deep→ah l eof Q e q (f a) (g b)):ah l eof Q e p (S>>=f) (I>>=g):=
 (h.bind hm hg k).nH (fun _ _ h=>h) (by omega)
theorem ah.any{α β}{R:α→β→Prop}{d:Nat}{p:Ps}{S:SM α}{I:PM β}(h:ah l eof R d p S I):ah l eof R 0 p S I:=h.nH (fun _ _ h=>h) (Nat.zero_le _)
theorem ah.look{α β γ}{Q:γ→β→Prop}{e:Nat}{p:Ps}{S:SM α}{I:PM β}{f:α→SM γ}(a:α)(hs:S p=(a,p))(k:ah l eof Q e p (f a) I):ah l eof Q e p (S>>=f) I:=by unfold ah at *;rw[aC,hs];exact k
theorem ah.BQ{β γ}{Q:γ→β→Prop}{e:Nat}{p:Ps}{b:Bool}{I:PM β}{f:Unit→SM γ}(hm:aq (f ()))(k:b=false→ah l eof Q e p (f ()) I):ah l eof Q e p (aL b>>=f) I:=fun hu=>by
 rw[aC] at hu ⊢;have h1:=(hm (aL b p).2).1 hu;have hb:b=false:=by unfold aL at h1;dsimp only at h1;cases b<;>simp_all
 subst hb;have e1:aL false p=((),p):=by unfold aL;simp
 rw[e1] at hu ⊢;exact k rfl hu
theorem ah.cur{α γ}{Q:α→γ→Prop}{e:Nat}{p:Ps}{S:SM α}{g:Tok→PM γ}(k:ah l eof Q e p S (g (aB l eof p.pos))):ah l eof Q e p S (eU>>=g):=k
theorem Stream.lt(h:Stream l eof L){i:Nat}{k:Int}(hk:ag l i=k)(h1:k≠1):i<l.length:=by
 have:=(h.end_ i);by_cases hi:i<l.length
 · exact hi
 · exact absurd (hk ▸ this.2 (by omega)) h1
theorem Stream.step(h:Stream l eof L)(i:Nat):(L (aB l eof i).stop).go=.ok () (aB l eof (i+1)):=by rw[h.next];rfl
theorem zz{p:Ps}(hg:p.bad=false):db p={p with bad:=true,wrong:=p.pos}:=by unfold db;simp[hg]
theorem ig{p:Ps}{k:Int}(hg:p.bad=false)(hq:ag l p.pos=k):ay l k p=(true,{p with pos:=p.pos+1}):=by unfold ay;simp[hg,hq]
theorem ix{p:Ps}{k:Int}(hq:ag l p.pos≠k):ay l k p=(false,p):=by unfold ay;simp[hq]
theorem uJ{p:Ps}{k:Int}(hg:p.bad=false)(hq:ag l p.pos=k):cr l k p=((),{p with pos:=p.pos+1}):=by unfold cr;rw[ig hg hq];rfl
theorem GA{p:Ps}{k:Int}(hg:p.bad=false)(hq:ag l p.pos≠k):cr l k p=((),{p with bad:=true,wrong:=p.pos}):=by unfold cr;rw[ix hq,zz hg];rfl
theorem rL{p:Ps}(hg:p.bad=false)(hq:ag l p.pos=15):aw l p=(aX l p.pos,{p with pos:=p.pos+1}):=by unfold aw;simp[hg,hq]
theorem GD{p:Ps}(hg:p.bad=false)(hq:ag l p.pos≠15):aw l p=(ByteArray.empty,{p with bad:=true,wrong:=p.pos}):=by unfold aw;rw[zz hg];simp[hq]
theorem jy{p:Ps}(hg:p.bad=false):dn p=([],{p with bad:=true,wrong:=p.pos}):=by unfold dn;rw[zz hg]
theorem iH(h:Stream l eof L){i:Nat}{k:Int}(hq:ag l i=k):bE L k (aB l eof i)=.ok (aB l eof i) (aB l eof (i+1)):=by unfold bE;rw[h.kind,if_pos hq,h.step];rfl
theorem p4(h:Stream l eof L){i:Nat}{k:Int}(hq:ag l i≠k):bE L k (aB l eof i)=.err (aB l eof i).start:=by unfold bE;rw[h.kind,if_neg hq]
theorem pR(h:Stream l eof L){i:Nat}{k:Int}(hq:ag l i=k):ft L k (aB l eof i)=.ok true (aB l eof (i+1)):=by unfold ft;rw[h.kind,if_pos hq,h.step];rfl
theorem qK(h:Stream l eof L){i:Nat}{k:Int}(hq:ag l i≠k):ft L k (aB l eof i)=.ok false (aB l eof i):=by unfold ft;rw[h.kind,if_neg hq]
theorem ng(h:Stream l eof L)(i:Nat):bm L (aB l eof i)=.ok () (aB l eof (i+1)):=h.step i
theorem NA(h:Stream l eof L){i:Nat}(hq:ag l i=15):dQ L (aB l eof i)=.ok (aX l i) (aB l eof (i+1)):=by show(bE L 15 (aB l eof i)).bind _=_;rw[iH h hq,←h.val];rfl
theorem J2(h:Stream l eof L){i:Nat}(hq:ag l i≠15):dQ L (aB l eof i)=.err (aB l eof i).start:=by show(bE L 15 (aB l eof i)).bind _=_;rw[p4 h hq];rfl
theorem jA(h:Stream l eof L){p:Ps}(hg:Good l n p){k:Int}(hk:k≠1):ah l eof (fun _ t=>t=aB l eof p.pos) 1 p (cr l k) (bE L k):=by
 by_cases hq:ag l p.pos=k
 · exact .ok (uJ hg.1 hq) hg.1 lr (h.lt hq hk) rfl (iH h hq) rfl
 · exact .err (GA hg.1 hq) rfl (p4 h hq)
theorem cK(h:Stream l eof L){p:Ps}(hg:Good l n p):ah l eof Eq 1 p (aw l) (dQ L):=by
 by_cases hq:ag l p.pos=15
 · exact .ok (rL hg.1 hq) hg.1 lr (h.lt hq (by decide)) rfl (NA h hq) rfl
 · exact .err (GD hg.1 hq) rfl (J2 h hq)
theorem rb(h:Stream l eof L){α β}{R:α→β→Prop}{d e:Nat}{p:Ps}(hg:Good l n p){k:Int}(hk:k≠1){A B:SM α}{C D:PM β}
 (hA:∀q,Good l n q→q.pos=p.pos+1→q={p with pos:=p.pos+1}→ag l p.pos=k→ah l eof R d q A C) (hB:ag l p.pos≠k→ah l eof R e p B D) :
 ah l eof R (min (d+1) e) p (do if(←ay l k)=true then A else B) (do if(←ft L k)=true then C else D):=by
 by_cases hq:ag l p.pos=k
 · have hl:=h.lt hq hk;have gq:Good l n {p with pos:=p.pos+1}:=⟨hg.1,hl,by have:=hg.2.2.1;show l.length-(p.pos+1)<n;omega,hg.2.2.2⟩;have hh:=hA _ gq rfl rfl hq;intro hu;have e1:(do if(←ay l k)=true then A else B:SM α) p=A {p with pos:=p.pos+1}:=by rw[aC,ig hg.1 hq];rfl
   have e2:(do if(←ft L k)=true then C else D:PM β) (aB l eof p.pos)=C (aB l eof (p.pos+1)):=by rw[aj,pR h hq];rfl
   rw[e1] at hu ⊢;rw[e2];have h2:=hh hu;refine⟨h2.1,fun hb=>?_⟩;obtain⟨a,b,c,y,f,g⟩:=h2.2 hb;exact⟨by have:p.pos+1+d≤_:=a;omega,b,c,y,f,g⟩
 · have hh:=hB hq;intro hu;have e1:(do if(←ay l k)=true then A else B:SM α) p=B p:=by rw[aC,ix hq];rfl
   have e2:(do if(←ft L k)=true then C else D:PM β) (aB l eof p.pos)=D (aB l eof p.pos):=by rw[aj,qK h hq];rfl
   rw[e1] at hu ⊢;rw[e2];have h2:=hh hu;refine⟨h2.1,fun hb=>?_⟩;obtain⟨a,b,c,y,f,g⟩:=h2.2 hb;exact⟨by omega,b,c,y,f,g⟩
end
end Go.Proofs.YtnpjmhodfdgloaaGreatDoor
