import PyProof.Rows.All
import Wide.All
import OpenK.AllK
import Wide.FinOn
import OpenK.ZHead
import PyProof.RaisesMany
import PyProof.ExcClass3
import PyProof.ExcBaseAll.ValueError
import PyProof.NeKinds
import PyProof.EqAt
import Lean
import PySem.Challenge.RW_in0123_01
set_option maxRecDepth 100000
set_option Elab.async false
set_option linter.all false
set_option genSizeOf false
set_option genInjectivity false
local macro_rules | `(tactic| omega) => `(tactic| first | assumption | lia | omega (config := {}))
namespace Mine
open PySem PySem.W PySem.W.X
theorem zt:True:=True.intro
noncomputable abbrev PG:Program:=PySem.Challenge.pw_in0123_01
theorem qc{a b c:Nat}(h:a≤b)(g:b≤c):a≤c:=Nat.le_trans h g
theorem qx{a b c:Nat}(h:a≤b)(g:b=c):a≤c:=Nat.le_trans h (Nat.le_of_eq g)
theorem qy{a b c:Nat}(h:a≤b)(g:c=b):a≤c:=Nat.le_trans h (Nat.le_of_eq g.symm)
theorem qo{a b c:Nat}(h:a=b)(g:b≤c):a≤c:=Nat.le_trans (Nat.le_of_eq h) g
theorem qp{a b c:Nat}(h:b=a)(g:b≤c):a≤c:=Nat.le_trans (Nat.le_of_eq h.symm) g
theorem qk{a b c k:Nat}(h:a≤b)(g:b+k≤c):a+k≤c:=Nat.le_trans (Nat.add_le_add_right h k) g
theorem qa{a b c k:Nat}(h:a≤b+k)(g:b≤c):a≤c+k:=Nat.le_trans h (Nat.add_le_add_right g k)
theorem ql{a b c:Nat}(h:a≤b)(g:b<c):a<c:=Nat.lt_of_le_of_lt h g
theorem qq{a b c:Nat}(h:a≤b)(g:c=b+1):a<c:=Nat.lt_of_le_of_lt h (Nat.le_of_eq g.symm)
theorem qf{a:Nat}(h:a<a):False:=Nat.lt_irrefl a h
theorem qe{a b:Nat}(h:a=b):a≤b:=Nat.le_of_eq h
theorem qg{a b:Nat}(h:a=b):b≤a:=Nat.le_of_eq h.symm
theorem qw{a b k:Nat}(h:a+k≤b):a≤b:=Nat.le_trans (Nat.le_add_right a k) h
theorem qv{a b:Nat}(h:a<b):a≤b:=Nat.le_of_lt h
theorem qr{a b k:Nat}(h:a≤b):a≤b+k:=Nat.le_trans h (Nat.le_add_right b k)
theorem qs{a b:Nat}(k:Nat)(h:a≤b):a+k≤b+k:=Nat.add_le_add_right h k
theorem qu{a b:Nat}(k:Nat)(h:a+k≤b+k):a≤b:=Nat.le_of_add_le_add_right h
theorem qn{a k:Nat}(h:a+(k+1)≤a):False:=Nat.not_succ_le_self a (Nat.le_trans (Nat.succ_le_succ (Nat.le_add_right a k)) h)
theorem qz{a b:Nat}(h:a≤b)(e:Nat.ble a b=false):False:=by rw[Nat.ble_eq_true_of_le h] at e;cases e
theorem qh{a b:Nat}(h:a<b):a≠b:=Nat.ne_of_lt h
theorem qj{a b:Nat}(h:b<a):a≠b:=Nat.ne_of_gt h
theorem qb{a b:Nat}(e:Nat.ble a b=true):a≤b:=Nat.le_of_ble_eq_true e
noncomputable def den(c:Code):Sem Fin:=PySem.W.Fast.tw11892475500146522536 PySem.W.Fast.tw14364793385576792824 c
theorem jmg(c:Code):denote table c=den c:=by
 unfold den
 rw[←PySem.W.Fast.te11892475500146522536,←PySem.W.Fast.te14364793385576792824,table_eq_tree]
noncomputable def k8(c:Code):Bool:=PySem.W.ZFast.zw17772548960776305114 c
theorem wl(c:Code):c.quiet=k8 c:=by
 unfold k8
 rw[←PySem.W.ZFast.ze17772548960776305114]
noncomputable def ew:Nat:=PySem.code "claim.caller"
noncomputable def wq:Code→Nat
 |.builtin id _=>match Nat.beq (PySem.code id) ew with
  |true=>1000
  |false=>5
 |_=>1
theorem ml(c:Code):c.frames≤3:=by
 unfold Code.frames
 repeat' split
 all_goals first|exact(qb rfl)|(split<;>omega)
theorem wg(c:Code):c.weight≤wq c:=by
 have hf:=ml c
 cases c with
 |builtin id args=>
  unfold Code.weight
  by_cases h:id = "claim.caller"
  ·subst h
   have:wq (.builtin "claim.caller" args)=1000:=by
    show(match Nat.beq (PySem.code "claim.caller") ew with|true=>1000|false=>5)=1000
    rw[show Nat.beq (PySem.code "claim.caller") ew=true from Nat.beq_refl _]
   rw[this]
   have:claimMargin=300:=rfl
   repeat' split
   all_goals omega
  ·have hc:(Code.builtin id args).isCaller=false:=by
    unfold Code.isCaller
    split
    ·rename_i e;cases e;exact absurd rfl h
    ·rfl
   have:wq (.builtin id args)=5:=by
    show(match Nat.beq (PySem.code id) ew with|true=>1000|false=>5)=5
    cases q:Nat.beq (PySem.code id) ew with
    |true=>exact absurd (PySem.code_inj _ _ (Nat.eq_of_beq_eq_true q)) h
    |false=>rfl
   rw[this,hc]
   repeat' split
   all_goals first|omega|simp_all
 |call f args=>
  show(Code.call f args).weight≤1
  simp[Code.weight,Code.frames,Code.isFrame,Code.isCreation,Code.isGuard,Code.isCaller]
 |_=>
  show _≤1
  simp only[Code.weight,Code.isCreation,Code.isGuard,Code.isCaller,Code.frames]
  repeat' split
  all_goals first|omega|simp_all
theorem zv(c:Code):c.cUnits≤10:=by
 have hf:=ml c
 cases c<;>simp only[Code.cUnits]<;>omega
structure SV where
 w:World
 kt:KT
 pre:List Nat
 N:Nat
 t₀:Nat
noncomputable def aj:List Nat→Nat→Nat→Nat
 |[],N,j=>N+j
 |a::_,_,0=>a
 |_::l,N,j+1=>aj l N j
structure Cx where
 hnd:Option Value
 d:Nat
 u:Nat
 fr:Option (List Env)
noncomputable def Cx.under(x:Cx)(c:Code):Cx:=⟨x.hnd,x.d+wq c,x.u+10,pushEnvs c.envs x.fr⟩
noncomputable def Cx.mark(x:Cx)(hd:Option Value):Cx:=⟨hd.or x.hnd,x.d,x.u,x.fr⟩
structure Cx.Ok(x:Cx)(A:Around):Prop where
 hnd:A.handled=x.hnd
 d:A.depth≤x.d
 u:A.units≤x.u
 fr:A.frames=x.fr
theorem Cx.Ok.under{x:Cx}{A:Around}(h:x.Ok A)(c:Code):(x.under c).Ok (A.under c):=
 ⟨h.hnd,Nat.add_le_add h.d (wg c),Nat.add_le_add h.u (zv c),by show pushEnvs c.envs A.frames=pushEnvs c.envs x.fr;rw[h.fr]⟩
theorem Cx.Ok.mark{x:Cx}{A:Around}(h:x.Ok A)(hd:Option Value):(x.mark hd).Ok (A.mark hd):=
 ⟨by show hd.or A.handled=hd.or x.hnd;rw[h.hnd],h.d,h.u,h.fr⟩
inductive Kont where
 |base
 |ret (B X:Cx) (k:Result→Sem Fin) (κ:Kont)
structure XSpec where
 code:Code
 d:Nat:=980
 u:Nat:=9800
 hnd:Option Value:=none
 pre:List (Nat×Obj)
 i:Nat
 tk:Nat
 res:Result
 upd:List (Nat×Obj)
 alloc:List Obj
 toks:Nat
inductive CH where
 |p
 |f
 |stop
 |x (X:XSpec)
structure Want where
 out:Except Value Fin
 ex:List (Nat×Obj)
 i:Nat
 tk:Nat
structure CallSpec where
 Out:Type
 code:Code
 d:Nat:=980
 u:Nat:=9800
 hnd:Option Value:=none
 fr:Option (Option (List Env)):=none
 pre:List (Nat×Obj)
 i:Nat
 tk:Nat
 res:Out→Result
 upd:Out→List (Nat×Obj)
 new:Out→List (Nat×Obj)
 size:Out→Nat
 toks:Out→Nat
 rel:Out→Prop
 mod:Addr→Prop:=fun _=>False
 facts:Out→Heap→Prop:=fun _ _=>True
inductive Script where
 |fin (hs:List Nat) (cs:List CH) (W:Want)
 |call (hs:List Nat) (cs:List CH) (C:CallSpec) (next:C.Out→Script)
noncomputable def Script.hs:Script→List Nat
 |.fin hs _ _=>hs
 |.call hs _ _ _=>hs
noncomputable def Script.cs:Script→List CH
 |.fin _ cs _=>cs
 |.call _ cs _ _=>cs
noncomputable def k9(T:BT):List (Nat×Obj)→BT
 |[]=>T
 |(j,o)::l=>k9 (T.set j fun _=>o) l
noncomputable def gl(T:BT)(m:Nat):List Obj→Option BT
 |[]=>some T
 |o::l=>match(T.ins m o).get m with
  |some _=>gl (T.ins m o) (m+1) l
  |none=>none
noncomputable def lg(T:BT)(l:List (Nat×Obj)):List (Option Obj):=l.map fun p=>T.get p.1
noncomputable def dy(l:List (Nat×Obj)):List (Option Obj):=l.map fun p=>some p.2
noncomputable def rb(self:Addr)(fd:FuncData)(args:Args):Sem Fin:=
 R.bindR (match fd.code with
  |.none=>Sem.pure fd.qualname
  |c=>R.bindR (PySem.W.Fast.tw6609576154772507232 c 1) fun v=>match v with
   |.str q _=>Sem.pure q
   |_=>Sem.pure fd.qualname) fun compiled=>
 R.bindR (PySem.W.Fast.tw9782568553167038054 fd args) fun binds=>
 R.bindR (PySem.W.Fast.tw11113344188204177931 fd.scope fd.globals fd.closure binds (compiled ++ ".<locals>.") (some self) fd.code none fd.builtins) fun env=>
 Sem.pure (Fin.again (match fd.body with
  |.stmts b=>.func b env
  |.expr e=>.expr e env))
inductive Stop:Nat→Prop
noncomputable def nk(hd:Option Value):Bool:=match hd with
 |none=>true
 |some v=>match v with
  |.notImplemented=>false
  |_=>true
noncomputable abbrev XE:=Code×Option Value×List (Option Obj)×Nat×Nat
noncomputable abbrev zr:=BT→Nat→Nat→List Nat→List Nat→List XE→List XE→List Nat→List CH→Prop
noncomputable abbrev gc:=SV→Script→Kont→Cx→Cx→Sem Fin→zr
noncomputable def no(n:Nat):zr:=fun _ _ _ _ _ _ _ _ _=>Stop n
noncomputable def ends(V:SV)(T:BT)(i tk:Nat)(cks:List Nat)(js:List Nat)(xa xe:List XE)(W:Want)(r:Except Value Fin):Prop:=
 cks=js.map (aj V.pre V.N)∧xa=xe∧(r,lg T W.ex,i,tk)=(W.out,dy W.ex,W.i,W.tk)
noncomputable def jhu(V:SV)(scr:Script)(r:Except Value Fin):zr:=fun T i tk cks js xa xe hs cs=>match scr with
 |.fin _ _ W=>match hs with
  |[]=>match cs with
   |[]=>ends V T i tk cks js xa xe W r
   |_::_=>Stop 1
  |_::_=>Stop 2
 |.call ..=>Stop 3
noncomputable def jpx(r:Result):Except Value Fin:=match r with
 |.ok f=>.ok (.done f)
 |.error e=>.error e
noncomputable def wk(ih:gc)(V:SV)(scr:Script)(r:Result)(κ:Kont):zr:=match κ with
 |.base=>jhu V scr (jpx r)
 |.ret B X k κ=>ih V scr κ B X (k r)
noncomputable def M9(o:Obj):Option FuncData:=match o.data with
 |.func fd=>match fd.scope.isGenerator with
  |true=>none
  |false=>match fd.scope.isCoroutine with
   |true=>none
   |false=>some fd
 |_=>none
noncomputable def j6(ih:gc)(V:SV)(scr:Script)(c:Code)(κ:Kont)(B:Cx):zr:=fun T i tk cks js xa xe hs cs=>match cs with
 |[]=>Stop 4
 |h::cs=>match h with
  |.p=>ih V scr κ B (B.under c) (den c) T i tk cks js xa xe hs cs
  |.f=>match c with
   |.call g args=>match g with
    |.ref a=>match V.kt.get a with
     |some o=>match M9 o with
      |some fd=>match Nat.blt B.d 990 with
       |true=>ih V scr κ B (B.under c) (rb a fd args) T i tk cks js xa xe hs cs
       |false=>Stop 5
      |none=>Stop 6
     |none=>Stop 7
    |_=>Stop 8
   |_=>Stop 9
  |.stop=>Stop 10
  |.x X=>match Nat.ble B.d X.d with
   |false=>Stop 29
   |true=>match Nat.ble B.u X.u with
    |false=>Stop 30
    |true=>match gl (k9 T X.upd) (V.pre.length+i) X.alloc with
     |some T'=>wk ih V scr X.res κ T' (i+X.alloc.length) (tk+X.toks) cks js ((c,B.hnd,lg T X.pre,i,tk)::xa) ((X.code,X.hnd,dy X.pre,X.i,X.tk)::xe) hs cs
     |none=>Stop 11
noncomputable def d5(V:SV)(C:CallSpec)(o:C.Out):SV:={ V with pre:=V.pre++((List.range C.i).map fun x=>V.N+x)++(C.new o).map (·.1),N:=C.size o,t₀:=C.toks o }
noncomputable def mz(ih:gc)(V:SV)(scr:Script)(c:Code)(κ:Kont)(B:Cx):zr:=fun T i tk cks js xa xe hs cs=>match cs with
 |_::_=>j6 ih V scr c κ B T i tk cks js xa xe hs cs
 |[]=>match scr with
  |.fin ..=>Stop 12
  |.call _ _ C next=>match hs with
   |_::_=>Stop 13
   |[]=>match Nat.ble B.d C.d with
    |false=>Stop 31
    |true=>match Nat.ble B.u C.u with
     |false=>Stop 32
     |true=>cks=js.map (aj V.pre V.N)∧xa=xe∧(c,B.hnd,C.fr.map fun _=>B.fr,lg T C.pre,i,tk)=(C.code,C.hnd,C.fr,dy C.pre,C.i,C.tk) ∧
      ∀o:C.Out,C.rel o→match gl (k9 T (C.upd o)) (V.pre.length+i) ((C.new o).map (·.2)) with
       |some T'=>wk ih (d5 V C o) (next o) (C.res o) κ T' 0 0 [] [] [] [] (next o).hs (next o).cs
       |none=>Stop 14
noncomputable def j0(V:SV)(T:BT)(a:Nat)(hs:List Nat)(js:List Nat)(cks:List Nat)(g:Obj→List Nat→List Nat→List Nat→Prop):Prop:=match hs with
 |[]=>Stop 15
 |h::hs=>match h with
  |0=>match V.kt.get a with
   |some o=>g o cks js hs
   |none=>Stop 16
  |j+1=>match T.get j with
   |some o=>g o (a::cks) (j::js) hs
   |none=>Stop 17
noncomputable def df(ih:gc):gc:=fun V scr κ B X t=>match t with
 |.pure fin=>match fin with
  |.done f=>wk ih V scr (.ok f) κ
  |.again c=>match k8 c with
   |false=>no 18
   |true=>fun T i tk cks js xa xe hs cs=>match cs with
    |.stop::cs=>match κ with
     |.base=>jhu V scr (.ok (.again c)) T i tk cks js xa xe hs cs
     |_=>Stop 19
    |_=>mz ih V scr c κ B T i tk cks js xa xe hs cs
 |.raise e=>wk ih V scr (.error e) κ
 |.rule _ k=>ih V scr κ B X (k ())
 |.at _ k=>ih V scr κ B X (k ())
 |.point _ k=>ih V scr κ B X (k ())
 |.ask k=>ih V scr κ B X (k ⟨PG,V.w.params⟩)
 |.load a _ k=>fun T i tk cks js xa xe hs cs=>j0 V T a hs js cks fun o cks js hs=>ih V scr κ B X (k o) T i tk cks js xa xe hs cs
 |.loadIfAlive a k=>fun T i tk cks js xa xe hs cs=>j0 V T a hs js cks fun o cks js hs=>ih V scr κ B X (k (some o)) T i tk cks js xa xe hs cs
 |.alloc o k=>fun T i tk cks js xa xe hs cs=>match o.isFreed with
  |true=>Stop 20
  |false=>match(T.ins (V.pre.length+i) o).get (V.pre.length+i) with
   |some _=>ih V scr κ B X (k (V.N+i)) (T.ins (V.pre.length+i) o) (i+1) tk cks js xa xe hs cs
   |none=>Stop 21
 |.update a _ f k=>fun T i tk cks js xa xe hs cs=>match hs with
  |[]=>Stop 22
  |h::hs=>match h with
   |0=>Stop 23
   |j+1=>match T.get j with
    |some o=>match(f o).isFreed with
     |true=>Stop 24
     |false=>ih V scr κ B X (k ()) (T.set j f) i tk (a::cks) (j::js) xa xe hs cs
    |none=>Stop 25
 |.fresh k=>fun T i tk=>ih V scr κ B X (k (V.t₀+tk)) T i (tk+1)
 |.handled own k=>match own with
  |false=>ih V scr κ B X (k X.hnd)
  |true=>no 26
 |.call c hd _ _ k=>match nk hd with
  |true=>mz ih V scr c (.ret B X k κ) (X.mark hd)
  |false=>no 27
 |.thread _|.stack _|.register ..|.choose ..|.os ..|.newGen ..|.genState ..|.resume ..|.yield ..|.fork ..|.await ..|.unsupported _|.finish _=>no 28
noncomputable def sim:Nat→gc
 |0=>fun _ _ _ _ _ _=>no 0
 |n+1=>df (sim n)
noncomputable def gq(ih:gc):Prop:=∀V scr κ B X t T i tk cks js xa xe hs cs,ih V scr κ B X t T i tk cks js xa xe hs cs→cks=js.map (aj V.pre V.N)∧xa=xe
theorem T9{V scr r T i tk cks js xa xe hs cs}(H:jhu V scr r T i tk cks js xa xe hs cs):cks=js.map (aj V.pre V.N)∧xa=xe:=by
 cases scr with
 |fin a b W=>
  cases hs with
  |nil=>cases cs with
   |nil=>exact⟨H.1,H.2.1⟩
   |cons=>cases H
  |cons=>cases H
 |call=>cases H
theorem nc{ih:gc}(I:gq ih){V scr r κ T i tk cks js xa xe hs cs}(H:wk ih V scr r κ T i tk cks js xa xe hs cs):cks=js.map (aj V.pre V.N)∧xa=xe:=by
 cases κ with
 |base=>exact T9 H
 |ret=>exact I _ _ _ _ _ _ _ _ _ _ _ _ _ _ _ H
theorem jjf{ih:gc}(I:gq ih){V scr c κ B T i tk cks js xa xe hs cs}(H:j6 ih V scr c κ B T i tk cks js xa xe hs cs):cks=js.map (aj V.pre V.N)∧xa=xe:=by
 unfold j6 at H
 repeat' split at H
 all_goals first
  |(cases H;done)
  |exact I _ _ _ _ _ _ _ _ _ _ _ _ _ _ _ H
  |(have z:=nc I H;exact⟨z.1,(List.cons.inj z.2).2⟩)
theorem wc{ih:gc}(I:gq ih){V scr c κ B T i tk cks js xa xe hs cs}(H:mz ih V scr c κ B T i tk cks js xa xe hs cs):cks=js.map (aj V.pre V.N)∧xa=xe:=by
 unfold mz at H
 repeat' split at H
 all_goals first
  |(cases H;done)
  |exact jjf I H
  |exact⟨H.1,H.2.1⟩
theorem kf{V T a hs js cks g}(H:j0 V T a hs js cks g):∃o cks' js' hs',g o cks' js' hs'∧((hs=0::hs'∧cks'=cks∧js'=js∧V.kt.get a=some o)∨(∃j,hs=(j+1)::hs'∧cks'=a::cks∧js'=j::js∧T.get j=some o)):=by
 unfold j0 at H
 repeat' split at H
 all_goals first
  |(cases H;done)
  |(rename_i e;exact⟨_,_,_,_,H,.inl ⟨rfl,rfl,rfl,e⟩⟩)
  |(rename_i e;exact⟨_,_,_,_,H,.inr ⟨_,rfl,rfl,rfl,e⟩⟩)
theorem jp{V:SV}{a:Nat}{j:Nat}{cks:List Nat}{js:List Nat}(h:a::cks=(j::js).map (aj V.pre V.N)):a=aj V.pre V.N j∧cks=js.map (aj V.pre V.N):=by
 rw[List.map_cons] at h
 exact List.cons.inj h
theorem jk1{ih:gc}(I:gq ih):gq (df ih):=by
 intro V scr κ B X t T i tk cks js xa xe hs cs H
 have J:=fun{V scr κ B X t T i tk cks js xa xe hs cs} (H:ih V scr κ B X t T i tk cks js xa xe hs cs)=>I _ _ _ _ _ _ _ _ _ _ _ _ _ _ _ H
 cases t with
 |pure fin=>
  cases fin with
  |done f=>exact nc I H
  |again c=>
   delta df at H;dsimp only at H
   cases q:k8 c with
   |false=>rw[q] at H;cases H
   |true=>
    rw[q] at H
    dsimp only at H
    split at H
    ·split at H
     ·exact T9 H
     ·cases H
    ·exact wc I H
 |raise e=>exact nc I H
 |rule _ k=>exact J H
 |«at» _ k=>exact J H
 |point _ k=>exact J H
 |ask k=>exact J H
 |load a q k=>
  have H':j0 V T a hs js cks (fun o cks js hs=>ih V scr κ B X (k o) T i tk cks js xa xe hs cs):=H
  obtain⟨o,cks',js',hs',g,e⟩:=kf H'
  have z:=J g
  rcases e with⟨_,rfl,rfl,_⟩|⟨j,_,rfl,rfl,_⟩
  ·exact z
  ·exact⟨(jp z.1).2,z.2⟩
 |loadIfAlive a k=>
  have H':j0 V T a hs js cks (fun o cks js hs=>ih V scr κ B X (k (some o)) T i tk cks js xa xe hs cs):=H
  obtain⟨o,cks',js',hs',g,e⟩:=kf H'
  have z:=J g
  rcases e with⟨_,rfl,rfl,_⟩|⟨j,_,rfl,rfl,_⟩
  ·exact z
  ·exact⟨(jp z.1).2,z.2⟩
 |alloc o k=>
  delta df at H;dsimp only at H
  repeat' split at H
  all_goals first|(cases H;done)|exact J H
 |update a q f k=>
  delta df at H;dsimp only at H
  repeat' split at H
  all_goals first|(cases H;done)|(have z:=J H;exact⟨(jp z.1).2,z.2⟩)
 |fresh k=>exact J H
 |handled own k=>
  cases own with
  |true=>cases H
  |false=>exact J H
 |call c hd g l k=>
  delta df at H;dsimp only at H
  cases q:nk hd with
  |true=>rw[q] at H;exact wc I H
  |false=>rw[q] at H;cases H
 |_=>cases H
theorem zy:∀n,gq (sim n)
 |0=>fun _ _ _ _ _ _ _ _ _ _ _ _ _ _ _ H=>by cases H
 |n+1=>jk1 (zy n)
structure SV.Ok(V:SV)(h₀:Heap):Prop where
 size:h₀.objs.size=V.N
 kt:∀a o,V.kt.get a=some o→h₀.get? a=some o
 lim:∀h:Heap,(∀a o,V.kt.get a=some o→h.get? a=some o)→h.NoLimit
 nodup:V.pre.Nodup
 off:∀a∈V.pre,V.kt.get a=none
 lt:∀a∈V.pre,a<V.N
 ktlt:∀a o,V.kt.get a=some o→a<V.N
structure Rep(V:SV)(h₀ h:Heap)(T:BT)(i:Nat):Prop where
 size:h.objs.size=V.N+i
 own:∀j o,T.get j=some o→j<V.pre.length+i∧h.get? (aj V.pre V.N j)=some o
 keep:∀b o,h₀.get? b=some o→b∉V.pre→h.get? b=some o
theorem bz:∀(l:List Nat) (N j:Nat),l.length≤j→aj l N j=N+(j-l.length)
 |[],N,j,_=>rfl
 |_::l,N,0,h=>by simp at h
 |_::l,N,j+1,h=>by
  show aj l N j=_
  rw[bz l N j (by simpa using h)]
  simp
theorem bh:∀(l:List Nat) (N j:Nat) (h:j<l.length),aj l N j=l[j]
 |_::l,N,0,_=>rfl
 |_::l,N,j+1,h=>by
  show aj l N j=_
  rw[bh l N j (by simpa using h)]
  rfl
theorem jlu{V:SV}{h:Heap}(O:V.Ok h){a:Addr}{o:Obj}(e:V.kt.get a=some o):h.get? a=some o:=O.kt _ _ e
theorem rf{V:SV}{h₀:Heap}(O:V.Ok h₀){j k:Nat}(e:aj V.pre V.N j=aj V.pre V.N k):j=k:=by
 have key:∀j,(j<V.pre.length∧aj V.pre V.N j<V.N)∨(V.pre.length≤j∧aj V.pre V.N j=V.N+(j-V.pre.length)):=fun j=>by
  by_cases h:j<V.pre.length
  ·exact .inl ⟨h,by rw[bh _ _ _ h];exact O.lt _ (List.getElem_mem h)⟩
  ·exact .inr ⟨Nat.le_of_not_lt h,bz _ _ _ (Nat.le_of_not_lt h)⟩
 rcases key j with⟨h1,h2⟩|⟨h1,h2⟩<;>rcases key k with⟨h3,h4⟩|⟨h3,h4⟩
 ·rw[bh _ _ _ h1,bh _ _ _ h3] at e
  exact(List.getElem_inj O.nodup).mp e
 ·omega
 ·omega
 ·omega
theorem jnl{V:SV}{h₀:Heap}(O:V.Ok h₀)(j:Nat):V.kt.get (aj V.pre V.N j)=none:=by
 by_cases h:j<V.pre.length
 ·rw[bh _ _ _ h];exact O.off _ (List.getElem_mem h)
 ·rw[bz _ _ _ (Nat.le_of_not_lt h)]
  cases q:V.kt.get (V.N+(j-V.pre.length)) with
  |none=>rfl
  |some o=>have:=O.ktlt _ _ q;omega
theorem vd{V:SV}{h₀:Heap}(O:V.Ok h₀)(j:Nat){b:Addr}{o:Obj}(e:h₀.get? b=some o)(hb:b∉V.pre):b≠aj V.pre V.N j:=by
 intro z
 by_cases h:j<V.pre.length
 ·rw[bh _ _ _ h] at z;exact hb (z ▸ List.getElem_mem h)
 ·rw[bz _ _ _ (Nat.le_of_not_lt h)] at z
  have q:@LT.lt Nat _ b V.N:=O.size ▸ Heap.lt_size e
  have z':@Eq Nat b (V.N+(j-V.pre.length)):=z
  omega
section
variable{V:SV}{h₀ h:Heap}{T:BT}{i:Nat}
theorem Rep.base(O:V.Ok h₀)(D:Rep V h₀ h T i){a:Addr}{o:Obj}(e:V.kt.get a=some o):h.get? a=some o:=
 D.keep a o (jlu O e) fun hm=>by rw[O.off a hm] at e;cases e
theorem Rep.alloc(D:Rep V h₀ h T i){o:Obj}(hf:o.isFreed=false)(hg:((T.ins (V.pre.length+i) o).get (V.pre.length+i)).isSome=true):Rep V h₀ (h.push o) (T.ins (V.pre.length+i) o) (i+1):=by
 refine⟨by rw[Heap.size_push,D.size,Nat.add_assoc],fun j o' e=>?_,fun b o' e q=>Heap.get?_push_of_some _ (D.keep b o' e q)⟩
 rw[BT.get_ins o T _ hg] at e
 by_cases hj:j=V.pre.length+i
 ·subst hj
  rw[if_pos rfl] at e
  cases e
  refine⟨by omega,?_⟩
  rw[bz _ _ _ (Nat.le_add_right ..),Nat.add_sub_cancel_left,←D.size]
  exact Heap.get?_push_size _ hf
 ·rw[if_neg hj] at e
  have z:=D.own j o' e
  exact⟨by omega,Heap.get?_push_of_some _ z.2⟩
theorem Rep.update(O:V.Ok h₀)(D:Rep V h₀ h T i){j:Nat}{o:Obj}{f:Obj→Obj}(e:T.get j=some o)(hf:(f o).isFreed=false):Rep V h₀ (h.update (aj V.pre V.N j) f) (T.set j f) i:=by
 have z:=D.own _ _ e
 have hs:Heap.SameBut (aj V.pre V.N j) h (h.update (aj V.pre V.N j) f):=Heap.SameBut.update ..
 refine⟨by rw[hs.1,D.size],fun k o' e'=>?_,fun b o' e' q=>?_⟩
 ·rw[BT.get_set] at e'
  by_cases hk:k=j
  ·subst hk
   rw[if_pos rfl,e] at e'
   cases e'
   exact⟨z.1,by first|exact Heap.get?_update_self f z.2 hf|exact Heap.get?_update_self _ z.2 hf⟩
  ·rw[if_neg hk] at e'
   have y:=D.own k o' e'
   exact⟨y.1,(hs.2 _ fun q=>hk (rf O q)).trans y.2⟩
 ·exact(hs.2 b (vd O j e' q)).trans (D.keep b o' e' q)
noncomputable def ma(V:SV)(h₀ h:Heap):Prop:=∀b o,h₀.get? b=some o→b∉V.pre→h.get? b=some o
noncomputable def XOk(V:SV)(h₀:Heap)(X:XSpec):Prop:=∀(A:Around) (s:Shared),A.handled=X.hnd→A.depth≤X.d→A.units≤X.u→s.heap.objs.size=V.N+X.i→s.toks=V.t₀+X.tk →
 (∀a o,V.kt.get a=some o→s.heap.get? a=some o)→ma V h₀ s.heap→(∀p∈X.pre,s.heap.get? (aj V.pre V.N p.1)=some p.2) →
 codeAny (model PG V.w) A X.code (fun r s'=>r=X.res∧∃h',s'={ s with heap:=h',toks:=s.toks+X.toks }∧h'.objs.size=s.heap.objs.size+X.alloc.length ∧
  (∀p∈X.upd,h'.get? (aj V.pre V.N p.1)=some p.2)∧(∀k o,X.alloc[k]?=some o→h'.get? (V.N+X.i+k)=some o) ∧
  (∀b o,s.heap.get? b=some o→(∀p∈X.upd,b≠aj V.pre V.N p.1)→h'.get? b=some o)) s
noncomputable def b9(V:SV)(h₀:Heap)(C:CallSpec):Prop:=∀(A:Around) (s:Shared),A.handled=C.hnd→(∀f,C.fr=some f→A.frames=f)→A.depth≤C.d→A.units≤C.u→s.heap.objs.size=V.N+C.i→s.toks=V.t₀+C.tk →
 (∀a o,V.kt.get a=some o→s.heap.get? a=some o)→ma V h₀ s.heap→(∀p∈C.pre,s.heap.get? (aj V.pre V.N p.1)=some p.2) →
 codeAny (model PG V.w) A C.code (fun r s'=>∃o,C.rel o∧r=C.res o∧∃h',s'={ s with heap:=h',toks:=C.toks o }∧C.facts o h'∧h'.objs.size=C.size o∧s.heap.objs.size≤C.size o ∧
  (∀p∈C.upd o,h'.get? (aj V.pre V.N p.1)=some p.2)∧(∀p∈C.new o,h'.get? p.1=some p.2∧(V.N+C.i≤p.1∨(p.1<V.N∧p.1∉V.pre∧V.kt.get p.1=none)))∧((C.new o).map (·.1)).Nodup ∧
  (∀b o',s.heap.get? b=some o'→(∀p∈C.upd o,b≠aj V.pre V.N p.1)→¬C.mod b→h'.get? b=some o')) s
noncomputable def vg(V:SV)(C:CallSpec):Prop:=∀b,C.mod b→b∉V.pre∧b<V.N∧V.kt.get b=none
structure Rest0 where
 gens:Array GenState
 d:Drawn
 os:OsState
noncomputable def Rest0.at(z:Rest0)(h:Heap)(t:Nat):Shared:=⟨h,z.gens,z.d,t,z.os⟩
noncomputable def zs(w:World)(B₀:Around)(R₀:Result→Shared→Prop)(out:Except Value Fin)(s:Shared):Prop:=match out with
 |.ok (.done f)=>R₀ (.ok f) s
 |.ok (.again c)=>codeAny (model PG w) B₀ c R₀ s
 |.error e=>R₀ (.error e) s
noncomputable def l7(w:World)(B₀:Around)(R₀:Result→Shared→Prop)(z:Rest0):Script→SV→Heap→Prop
 |.fin _ cs W,V,h₀=>(∀X,CH.x X∈cs→XOk V h₀ X)∧∀h',h'.objs.size=V.N+W.i→(∀p∈W.ex,h'.get? (aj V.pre V.N p.1)=some p.2) →
   ma V h₀ h'→zs w B₀ R₀ W.out (z.at h' (V.t₀+W.tk))
 |.call _ cs C next,V,h₀=>(∀X,CH.x X∈cs→XOk V h₀ X)∧b9 V h₀ C∧vg V C∧∀o h',C.rel o→C.facts o h'→h'.objs.size=C.size o→V.N+C.i≤C.size o→(∀p∈C.upd o,h'.get? (aj V.pre V.N p.1)=some p.2) →
   (∀p∈C.pre,(∀u∈C.upd o,p.1≠u.1)→h'.get? (aj V.pre V.N p.1)=some p.2)→(∀p∈C.new o,h'.get? p.1=some p.2)→(∀b o',h₀.get? b=some o'→b∉V.pre→¬C.mod b→h'.get? b=some o')→l7 w B₀ R₀ z (next o) (d5 V C o) h'
noncomputable def pt(R:Result→Shared→Prop):Value→Shared→Prop:=fun e s'=>R (.error e) s'
noncomputable def li(w:World)(B:Around)(R:Result→Shared→Prop):Fin→Shared→Prop:=fun fin s'=>match fin with
 |.done f=>R (.ok f) s'
 |.again c'=>c'.quiet=true∧s'.heap.NoLimit∧codeAny (model PG w) B c' R s'
inductive Post(w:World)(B₀:Around)(R₀:Result→Shared→Prop):Kont→Around→(Result→Shared→Prop)→Prop
 |base:Post w B₀ R₀ .base B₀ R₀
 |ret {B X:Cx} {k:Result→Sem Fin} {κ:Kont} {A C A':Around} {R:Result→Shared→Prop} (hB:B.Ok A) (hX:X.Ok C) (p:Post w B₀ R₀ κ A R) :
   Post w B₀ R₀ (.ret B X k κ) A' (fun r s'=>wpAny (model PG w) C (k r) (li w A R) (pt R) s')
end
noncomputable def jlc(fd:FuncData):Sem Str:=match fd.code with
 |.none=>Sem.pure fd.qualname
 |c=>R.bindR (PySem.W.Fast.tw6609576154772507232 c 1) fun v=>match v with
  |.str q _=>Sem.pure q
  |_=>Sem.pure fd.qualname
noncomputable def uq(fd:FuncData)(env:Env):Code:=match fd.body with
 |.stmts b=>.func b env
 |.expr e=>.expr e env
noncomputable def sh(self:Addr)(fd:FuncData)(args:Args)(last:Env→Sem Fin):Sem Fin:=do
 let compiled ←jlc fd
 let binds ←bindArgs fd args
 let env ←newFunctionEnv fd.scope fd.globals fd.closure binds (compiled ++ ".<locals>.") (some self) fd.code none fd.builtins
 last env
theorem yt(self:Addr)(fd:FuncData)(args:Args):rb self fd args=sh self fd args fun env=>Sem.pure (.again (uq fd env)):=by
 unfold rb sh
 rw[←PySem.W.Fast.te9782568553167038054,←PySem.W.Fast.te11113344188204177931]
 show _=Sem.bind _ fun compiled=>Sem.bind _ fun binds=>Sem.bind _ fun env=>_
 simp only[R.bindR_eq]
 rfl
theorem j9(self:Addr)(fd:FuncData)(args:Args)(hg:fd.scope.isGenerator=false)(hc:fd.scope.isCoroutine=false) :
  callFunction self fd args=sh self fd args fun env=>enterFrame>>=fun _=>Sem.pure (.again (uq fd env)):=by
 have e:jlc fd=(match fd.code with
  |.none=>pure fd.qualname
  |c=>do match ←field c 1 with
   |.str q _=>pure q
   |_=>pure fd.qualname):=by
  unfold jlc
  rw[←PySem.W.Fast.te6609576154772507232]
  cases fd.code<;>first|rfl|(show R.bindR _ _=Sem.bind _ _;rw[R.bindR_eq];congr 1;done)
 unfold sh
 rw[e]
 unfold callFunction
 rw[hg,hc]
 cases fd.code with
 |none=>rfl
 |_=>
  show Sem.bind _ _=Sem.bind (Sem.bind _ _) _
  rw[Sem.bind_assoc]
  congr 1
  funext v
  cases v<;>rfl
theorem m7{α:Type}{M:Model}{Γ:Ctx}{t:Sem α}{f g:α→Sem Fin}{Q:Fin→Pos→Shared→Prop}{E:Value→Pos→Shared→Prop}{p:Pos}{s:Shared}
  (h:PySem.Sem.wp M Γ (Sem.bind t f) Q E p s) (hs:∀a p s,PySem.Sem.wp M Γ (f a) Q E p s→PySem.Sem.wp M Γ (g a) Q E p s):PySem.Sem.wp M Γ (Sem.bind t g) Q E p s:=by
 have z:PySem.Sem.wp M Γ (t>>=f) Q E p s:=h
 show PySem.Sem.wp M Γ (t>>=g) Q E p s
 rw[Sem.wp_bind'] at z ⊢
 exact Sem.wp_mono M Γ t (fun a p' s' h'=>hs a p' s' h') (fun _ _ _ h'=>h') p s z
theorem yr{w:World}{A A':Around}{R:Result→Shared→Prop}{a:Addr}{fd:FuncData}{args:Args}{s:Shared}(hg:fd.scope.isGenerator=false)(hc:fd.scope.isCoroutine=false)(hd:A'.depth<recursionLimit)
  (h:wpAny (model PG w) A' (rb a fd args) (li w A R) (pt R) s):wpAny (model PG w) A' (callFunction a fd args) (li w A R) (pt R) s:=by
 rw[j9 _ _ _ hg hc]
 rw[yt] at h
 unfold sh at h ⊢
 exact fun Γ p hΓ=>m7 (h Γ p hΓ) fun n p s h=>m7 h fun binds p s h=>m7 h fun env p s h=>by
  have h':li w A R (.again (uq fd env)) s:=h
  refine wpAny_bind (M:=model PG w) (Q:=li w A R) (E:=pt R) (wpAny_enterFrame h'.2.1 hd ?_) Γ p hΓ
  exact wpAny_pure h'
theorem M8{o:Obj}{fd:FuncData}(h:M9 o=some fd):o.data=.func fd∧fd.scope.isGenerator=false∧fd.scope.isCoroutine=false:=by
 unfold M9 at h
 split at h
 ·split at h
  ·cases h
  ·split at h
   ·cases h
   ·cases h;exact⟨by assumption,by assumption,by assumption⟩
 ·cases h
theorem ir:∀(l:List (Nat×Obj)) (T:BT) (j:Nat) (o:Obj),(k9 T l).get j=some o→(T.get j).isSome=true∧((j,o)∈l∨(T.get j=some o∧∀p∈l,p.1≠j))
 |[],T,j,o,h=>⟨by rw[show T.get j=some o from h];rfl,.inr ⟨h,fun p hp=>by cases hp⟩⟩
 |(j₀,o₀)::l,T,j,o,h=>by
  have z:=ir l (T.set j₀ fun _=>o₀) j o h
  rw[BT.get_set] at z
  by_cases hj:j=j₀
  ·subst hj
   rw[if_pos rfl] at z
   refine⟨by simpa using z.1,?_⟩
   rcases z.2 with q|⟨q,_⟩
   ·exact .inl (.tail _ q)
   ·cases e:T.get j with
    |none=>rw[e] at q;cases q
    |some o'=>rw[e] at q;cases q;exact .inl (.head _)
  ·rw[if_neg hj] at z
   refine⟨z.1,?_⟩
   rcases z.2 with q|⟨q,q'⟩
   ·exact .inl (.tail _ q)
   ·exact .inr ⟨q,fun p hp=>by
     cases hp with
     |head=>exact fun e=>hj e.symm
     |tail _ hp=>exact q' p hp⟩
theorem eu:∀(l:List Obj) (T T':BT) (m j:Nat) (o:Obj),gl T m l=some T'→T'.get j=some o→(m≤j∧l[j-m]?=some o)∨T.get j=some o
 |[],T,T',m,j,o,e,h=>by cases e;exact .inr h
 |o₀::l,T,T',m,j,o,e,h=>by
  unfold gl at e
  cases q:(T.ins m o₀).get m with
  |none=>rw[q] at e;cases e
  |some x=>
   rw[q] at e
   rcases eu l _ T' (m+1) j o e h with⟨h1,h2⟩|h1
   ·refine .inl ⟨(qv h1),?_⟩
    rw[show j-m=(j-(m+1))+1 by omega]
    exact h2
   ·rw[BT.get_ins o₀ T m (by rw[q];rfl)] at h1
    by_cases hj:j=m
    ·subst hj
     rw[if_pos rfl] at h1
     cases h1
     exact .inl ⟨Nat.le_refl _,by rw[Nat.sub_self];rfl⟩
    ·rw[if_neg hj] at h1;exact .inr h1
theorem lf{T:BT}:∀{l:List (Nat×Obj)},lg T l=dy l→∀p∈l,T.get p.1=some p.2
 |[],_,p,hp=>by cases hp
 |q::l,e,p,hp=>by
  have z:=List.cons.inj e
  cases hp with
  |head=>exact z.1
  |tail _ hp=>exact lf z.2 p hp
section
variable{V:SV}{h₀ h:Heap}{T:BT}{i:Nat}
theorem Rep.pre(D:Rep V h₀ h T i){l:List (Nat×Obj)}(e:lg T l=dy l):∀p∈l,h.get? (aj V.pre V.N p.1)=some p.2:=
 fun p hp=>(D.own _ _ (lf e p hp)).2
theorem Rep.x(O:V.Ok h₀)(D:Rep V h₀ h T i){h':Heap}{T':BT}{upd:List (Nat×Obj)}{al:List Obj}(eT:gl (k9 T upd) (V.pre.length+i) al=some T')
  (hs:h'.objs.size=h.objs.size+al.length) (hu:∀p∈upd,h'.get? (aj V.pre V.N p.1)=some p.2) (ha:∀k o,al[k]?=some o→h'.get? (V.N+i+k)=some o)
  (hk:∀b o,h.get? b=some o→(∀p∈upd,b≠aj V.pre V.N p.1)→h'.get? b=some o):Rep V h₀ h' T' (i+al.length):=by
 refine⟨by rw[hs,D.size,Nat.add_assoc],fun j o e=>?_,fun b o e hb=>hk b o (D.keep b o e hb) fun p _=>vd O _ e hb⟩
 rcases eu al _ _ _ _ _ eT e with⟨h1,h2⟩|h1
 ·have hl:j-(V.pre.length+i)<al.length:=(List.getElem?_eq_some_iff.mp h2).1
  refine⟨by omega,?_⟩
  rw[bz _ _ _ (by omega),show V.N+(j-V.pre.length)=V.N+i+(j-(V.pre.length+i)) by omega]
  exact ha _ _ h2
 ·obtain⟨h2,h3⟩:=ir upd T j o h1
  obtain⟨o',ho'⟩:=Option.isSome_iff_exists.mp h2
  have z:=D.own j o' ho'
  refine⟨by omega,?_⟩
  rcases h3 with h3|⟨h3,h4⟩
  ·exact hu _ h3
  ·rw[h3] at ho';cases ho'
   exact hk _ _ z.2 fun p hp e=>h4 p hp (rf O e).symm
end
section
variable{w:World}{B₀:Around}{R₀:Result→Shared→Prop}{z:Rest0}
noncomputable def io(w:World)(B₀:Around)(R₀:Result→Shared→Prop)(z:Rest0)(ih:gc):Prop:=
 ∀V scr κ B X t T i tk cks js xa xe hs cs,ih V scr κ B X t T i tk cks js xa xe hs cs→V.w=w→∀{h₀ h:Heap} {A C:Around} {R:Result→Shared→Prop},V.Ok h₀→Rep V h₀ h T i→l7 w B₀ R₀ z scr V h₀ →
  (∀X,CH.x X∈cs→XOk V h₀ X)→Post w B₀ R₀ κ A R→B.Ok A→X.Ok C→wpAny (model PG w) C t (li w A R) (pt R) (z.at h (V.t₀+tk))
variable{ih:gc}{V:SV}{scr:Script}{κ:Kont}{B X:Cx}{T:BT}{i tk:Nat}{cks js:List Nat}{xa xe:List XE}{hs:List Nat}{cs:List CH}{h₀ h:Heap}{A C:Around}{R:Result→Shared→Prop}
theorem jpd(O:V.Ok h₀)(D:Rep V h₀ h T i):h.NoLimit:=O.lim h fun _ _ e=>D.base O e
theorem lp{r:Except Value Fin}(H:jhu V scr r T i tk cks js xa xe hs cs)(O:V.Ok h₀)(D:Rep V h₀ h T i)(S:l7 w B₀ R₀ z scr V h₀):zs w B₀ R₀ r (z.at h (V.t₀+tk)):=by
 cases scr with
 |call=>cases H
 |fin hs' cs' W=>
  cases hs with
  |cons=>cases H
  |nil=>
   cases cs with
   |cons=>cases H
   |nil=>
    have e:=H.2.2
    simp only[Prod.mk.injEq] at e
    obtain⟨e1,e2,e3,e4⟩:=e
    rw[e1,e4]
    exact S.2 h (by rw[D.size,e3]) (D.pre e2) D.keep
theorem gh(I:io w B₀ R₀ z ih){r:Result}(H:wk ih V scr r κ T i tk cks js xa xe hs cs)(hw:V.w=w)(O:V.Ok h₀)(D:Rep V h₀ h T i)(S:l7 w B₀ R₀ z scr V h₀)(hx:∀X,CH.x X∈cs→XOk V h₀ X)
  (P:Post w B₀ R₀ κ A R):R r (z.at h (V.t₀+tk)):=by
 cases P with
 |base=>
  have e:=lp H O D S
  cases r<;>exact e
 |ret hB hX p=>exact I _ _ _ _ _ _ _ _ _ _ _ _ _ _ _ H hw O D S hx p hB hX
theorem j5(I:io w B₀ R₀ z ih)(I1:gq ih){c:Code}(H:j6 ih V scr c κ B T i tk cks js xa xe hs cs)(hw:V.w=w)(O:V.Ok h₀)(D:Rep V h₀ h T i)(S:l7 w B₀ R₀ z scr V h₀)(hx:∀X,CH.x X∈cs→XOk V h₀ X)
  (P:Post w B₀ R₀ κ A R) (hB:B.Ok A):codeAny (model PG w) A c R (z.at h (V.t₀+tk)):=by
 have fq:∀fin s',li w A R fin s'→(match fin with|.done f=>R (.ok f) s'|.again c'=>c'.quiet=true∧codeAny (model PG w) A c' R s'):=fun fin s' q=>by
  cases fin with
  |done f=>exact q
  |again c'=>exact⟨q.1,q.2.2⟩
 cases cs with
 |nil=>cases H
 |cons k cs=>
  have hx':∀X,CH.x X∈cs→XOk V h₀ X:=fun X hX=>hx X (.tail _ hX)
  cases k with
  |stop=>cases H
  |p=>
   have H':ih V scr κ B (B.under c) (den c) T i tk cks js xa xe hs cs:=H
   refine x_code ?_
   rw[jmg]
   exact wpAny_mono (I _ _ _ _ _ _ _ _ _ _ _ _ _ _ _ H' hw O D S hx' P hB (hB.under c)) fq fun _ _ q=>q
  |f=>
   unfold j6 at H
   dsimp only at H
   split at H<;>try (cases H;done)
   rename_i g args
   split at H<;>try (cases H;done)
   rename_i a
   split at H<;>try (cases H;done)
   rename_i o eo
   split at H<;>try (cases H;done)
   rename_i fd ed
   split at H<;>try (cases H;done)
   rename_i hd
   obtain⟨e1,e2,e3⟩:=M8 ed
   have hd':B.d<990:=Nat.blt_eq.mp hd
   have hu:=hB.under (.call (.ref a) args)
   refine x_code ?_
   have e:denote table (.call (.ref a) args)=callAny (.ref a) args:=rfl
   rw[e]
   simp only[callAny]
   refine wpAny_bind (wpAny_load (D.base O eo) ?_)
   simp only[e1]
   refine wpAny_mono (yr e2 e3 ?_ (I _ _ _ _ _ _ _ _ _ _ _ _ _ _ _ H hw O D S hx' P hB hu)) fq fun _ _ q=>q
   have q1:(A.under (.call (.ref a) args)).depth≤B.d+1:=hu.d
   have:recursionLimit=1000:=rfl
   exact(qw (k:=9) (qk (k:=10) (qc q1 hd') (qg this)))
  |x X=>
   unfold j6 at H
   dsimp only at H
   split at H<;>try (cases H;done)
   rename_i hd
   split at H<;>try (cases H;done)
   rename_i hu
   split at H<;>try (cases H;done)
   rename_i T' eT
   have chk:=(List.cons.inj (nc I1 H).2).1
   simp only[Prod.mk.injEq] at chk
   obtain⟨c1,c2,c3,c4,c5⟩:=chk
   subst c1
   have hdd:B.d≤X.d:=Nat.le_of_ble_eq_true hd
   have huu:B.u≤X.u:=Nat.le_of_ble_eq_true hu
   have q:=hx X (.head _) A (z.at h (V.t₀+tk)) (by rw[hB.hnd,c2]) (Nat.le_trans hB.d hdd) (Nat.le_trans hB.u huu) (by show h.objs.size=_;rw[D.size,c4]) (by show V.t₀+tk=_;rw[c5]) (fun a o e=>D.base O e) D.keep (D.pre c3)
   rw[hw] at q
   refine codeAny_mono q fun r s' h1=>?_
   obtain⟨rfl,h',rfl,g1,g2,g3,g4⟩:=h1
   have g1':h'.objs.size=h.objs.size+X.alloc.length:=g1
   have D':=D.x O eT g1' g2 (by rw[c4];exact g3) g4
   have:=gh I H hw O D' S hx' P
   rw[←Nat.add_assoc] at this
   exact this
theorem ja9{C:CallSpec}{o:C.Out}(hi:i=C.i){j:Nat}(hj:j<V.pre.length+i):aj (d5 V C o).pre (d5 V C o).N j=aj V.pre V.N j:=by
 have hl:j<(V.pre++(List.range C.i).map fun x=>V.N+x).length:=by rw[List.length_append,List.length_map,List.length_range];omega
 have hl':j<((V.pre++(List.range C.i).map fun x=>V.N+x)++(C.new o).map (·.1)).length:=by rw[List.length_append];omega
 show aj ((V.pre++(List.range C.i).map fun x=>V.N+x)++(C.new o).map (·.1)) _ j=_
 rw[bh _ _ _ hl',List.getElem_append_left hl]
 by_cases h:j<V.pre.length
 ·rw[List.getElem_append_left h,bh _ _ _ h]
 ·rw[List.getElem_append_right (Nat.le_of_not_lt h),bz _ _ _ (Nat.le_of_not_lt h)]
  simp
theorem j7(I:io w B₀ R₀ z ih)(I1:gq ih){c:Code}(H:mz ih V scr c κ B T i tk cks js xa xe hs cs)(hw:V.w=w)(O:V.Ok h₀)(D:Rep V h₀ h T i)(S:l7 w B₀ R₀ z scr V h₀)(hx:∀X,CH.x X∈cs→XOk V h₀ X)
  (P:Post w B₀ R₀ κ A R) (hB:B.Ok A):codeAny (model PG w) A c R (z.at h (V.t₀+tk)):=by
 cases cs with
 |cons a l=>
  have H':j6 ih V scr c κ B T i tk cks js xa xe hs (a::l):=H
  exact j5 I I1 H' hw O D S hx P hB
 |nil=>
  cases scr with
  |fin=>cases H
  |call hs' cs' CS next=>
   cases hs with
   |cons=>cases H
   |nil=>
    unfold mz at H
    dsimp only at H
    split at H<;>try (cases H;done)
    rename_i hd
    split at H<;>try (cases H;done)
    rename_i hu
    obtain⟨-,-,e,H⟩:=H
    simp only[Prod.mk.injEq] at e
    obtain⟨c1,c2,c2',c3,c4,c5⟩:=e
    subst c1
    have hdd:B.d≤CS.d:=Nat.le_of_ble_eq_true hd
    have huu:B.u≤CS.u:=Nat.le_of_ble_eq_true hu
    obtain⟨-,K,M,S⟩:=S
    have q:=K A (z.at h (V.t₀+tk)) (by rw[hB.hnd,c2]) (fun f hf=>by rw[hf] at c2';rw[hB.fr];exact Option.some.inj c2') (Nat.le_trans hB.d hdd) (Nat.le_trans hB.u huu) (by show h.objs.size=_;rw[D.size,c4]) (by show V.t₀+tk=_;rw[c5]) (fun a o e=>D.base O e) D.keep (D.pre c3)
    rw[hw] at q
    refine codeAny_mono q fun r s' h1=>?_
    obtain⟨o,hr,rfl,h',rfl,gf,g1,g2,g3,g4,g5,g6⟩:=h1
    have H':=H o hr
    split at H'<;>try (cases H';done)
    rename_i T' eT
    have hsz:h.objs.size=V.N+i:=D.size
    have g2':h.objs.size≤CS.size o:=g2
    have hmem:∀a∈(d5 V CS o).pre,a∈V.pre∨(∃x,x<CS.i∧a=V.N+x)∨∃p∈CS.new o,a=p.1:=fun a ha=>by
     have ha':a∈V.pre++((List.range CS.i).map fun x=>V.N+x)++(CS.new o).map (·.1):=ha
     simp only[List.mem_append,List.mem_map,List.mem_range] at ha'
     rcases ha' with(h|⟨x,h1,h2⟩)|⟨p,h1,h2⟩
     ·exact .inl h
     ·exact .inr (.inl ⟨x,h1,h2.symm⟩)
     ·exact .inr (.inr ⟨p,h1,h2.symm⟩)
    have hnew:∀p∈CS.new o,(V.N+CS.i≤p.1∨(p.1<V.N∧p.1∉V.pre∧V.kt.get p.1=none))∧p.1<CS.size o:=fun p hp=>⟨(g4 p hp).2,by
     have:=Heap.lt_size (g4 p hp).1
     rw[g1] at this;exact this⟩
    have hmod:∀j,¬CS.mod (aj V.pre V.N j):=fun j hj=>by
     have m:=M _ hj
     by_cases h:j<V.pre.length
     ·rw[bh _ _ _ h] at m;exact m.1 (List.getElem_mem h)
     ·rw[bz _ _ _ (Nat.le_of_not_lt h)] at m;exact Nat.not_lt.mpr (Nat.le_add_right V.N _) m.2.1
    have hktmod:∀a o',V.kt.get a=some o'→¬CS.mod a:=fun a o' e hj=>by have:=(M a hj).2.2;rw[e] at this;cases this
    have O':(d5 V CS o).Ok h':=by
     refine⟨g1,fun a o' e=>g6 a o' (D.base O e) (fun p _ q=>?_) (hktmod a o' e),O.lim,?_,fun a ha=>?_,fun a ha=>?_,fun a o' e=>?_⟩
     ·have:=jnl O (p.1);rw[←q] at this
      rw[show V.kt.get a=some o' from e] at this;cases this
     ·show(V.pre++((List.range CS.i).map fun x=>V.N+x)++(CS.new o).map (·.1)).Nodup
      refine List.nodup_append.mpr ⟨List.nodup_append.mpr ⟨O.nodup,?_,fun a ha b hb e=>?_⟩,g5,fun a ha b hb e=>?_⟩
      ·refine List.Pairwise.map (R:=(·≠·)) _ (fun a b h e=>h (Nat.add_left_cancel e)) List.nodup_range
      ·obtain⟨x,_,rfl⟩:=List.mem_map.mp hb
       have:=O.lt a ha
       omega
      ·obtain⟨p,hp,rfl⟩:=List.mem_map.mp hb
       have hn:=(hnew p hp).1
       rcases List.mem_append.mp ha with ha|ha
       ·have:=O.lt a ha
        rcases hn with hn|hn
        ·omega
        ·exact hn.2.1 (e ▸ ha)
       ·obtain⟨x,hx,rfl⟩:=List.mem_map.mp ha
        have:=List.mem_range.mp hx
        omega
     ·rcases hmem a ha with h|⟨x,h1,rfl⟩|⟨p,h1,rfl⟩
      ·exact O.off a h
      ·show V.kt.get _=none
       cases q:V.kt.get (V.N+x) with
       |none=>rfl
       |some o=>have:=O.ktlt _ _ q;omega
      ·show V.kt.get _=none
       cases q:V.kt.get p.1 with
       |none=>rfl
       |some o'=>
        have:=O.ktlt _ _ q
        rcases(hnew p h1).1 with hn|hn
        ·omega
        ·rw[hn.2.2] at q;cases q
     ·show a<CS.size o
      rcases hmem a ha with h|⟨x,h1,rfl⟩|⟨p,h1,rfl⟩
      ·have:=O.lt a h;omega
      ·omega
      ·exact(hnew p h1).2
     ·have:=O.ktlt a o' e
      show a<CS.size o
      omega
    have D':Rep (d5 V CS o) h' h' T' 0:=by
     refine⟨g1,fun j o' e=>?_,fun b o' e _=>e⟩
     have hlen:(d5 V CS o).pre.length=V.pre.length+i+(CS.new o).length:=by
      show(V.pre++((List.range CS.i).map fun x=>V.N+x)++(CS.new o).map (·.1)).length=_
      simp[c4,Nat.add_assoc]
     rcases eu _ _ _ _ _ _ eT e with⟨h1,h2⟩|h1
     ·obtain⟨hl,he⟩:=List.getElem?_eq_some_iff.mp h2
      rw[List.length_map] at hl
      refine⟨by omega,?_⟩
      have hl':j<((V.pre++(List.range CS.i).map fun x=>V.N+x)++(CS.new o).map (·.1)).length:=by
       have:(d5 V CS o).pre.length=((V.pre++(List.range CS.i).map fun x=>V.N+x)++(CS.new o).map (·.1)).length:=rfl
       omega
      show h'.get? (aj ((V.pre++(List.range CS.i).map fun x=>V.N+x)++(CS.new o).map (·.1)) _ j)=_
      rw[bh _ _ _ hl',List.getElem_append_right (by simp;omega),List.getElem_map]
      have hp:=g4 _ (List.getElem_mem hl)
      rw[List.getElem_map] at he
      have ej:j-(V.pre++(List.range CS.i).map fun x=>V.N+x).length=j-(V.pre.length+i):=by simp[c4]
      simp only[ej]
      rw[hp.1,he]
     ·obtain⟨h2,h3⟩:=ir _ T j o' h1
      obtain⟨o'',ho'⟩:=Option.isSome_iff_exists.mp h2
      have zz:=D.own j o'' ho'
      refine⟨by omega,?_⟩
      rw[ja9 c4 zz.1]
      rcases h3 with h3|⟨h3,h4⟩
      ·exact g3 _ h3
      ·rw[h3] at ho';cases ho'
       exact g6 _ _ zz.2 (fun p hp e=>h4 p hp (rf O e).symm) (hmod j)
    have S':=S o h' hr gf g1 (by rw[←c4,←hsz];exact g2') g3 (fun p hp hu=>g6 _ _ (D.pre c3 p hp) (fun u hu' e=>hu u hu' (rf O e)) (hmod _)) (fun p hp=>(g4 p hp).1) fun b o' e hb hm=>g6 b o' (D.keep b o' e hb) (fun p _=>vd O _ e hb) hm
    have hx':∀X,CH.x X∈(next o).cs→XOk (d5 V CS o) h' X:=by
     revert S'
     cases next o with
     |fin=>exact fun S'=>S'.1
     |call=>exact fun S'=>S'.1
    exact gh I H' hw O' D' S' hx' P
theorem uf(I:io w B₀ R₀ z ih)(I1:gq ih):io w B₀ R₀ z (df ih):=by
 intro V scr κ B X t T i tk cks js xa xe hs cs H hw h₀ h A C R O D S hx P hB hX
 cases t with
 |pure fin=>
  cases fin with
  |done f=>exact x_pure (gh (r:=.ok f) I H hw O D S hx P)
  |again c=>
   refine x_pure ?_
   delta df at H;dsimp only at H
   cases q:k8 c with
   |false=>rw[q] at H;cases H
   |true=>
    rw[q] at H
    dsimp only at H
    refine⟨by rw[wl];exact q,jpd O D,?_⟩
    split at H
    ·split at H
     ·cases P
      exact lp H O D S
     ·cases H
    ·exact j7 I I1 H hw O D S hx P hB
 |raise e=>exact x_raise (gh (r:=.error e) I H hw O D S hx P)
 |rule _ k=>exact x_rule (I _ _ _ _ _ _ _ _ _ _ _ _ _ _ _ H hw O D S hx P hB hX)
 |«at» _ k=>exact x_at (I _ _ _ _ _ _ _ _ _ _ _ _ _ _ _ H hw O D S hx P hB hX)
 |point _ k=>exact x_point (I _ _ _ _ _ _ _ _ _ _ _ _ _ _ _ H hw O D S hx P hB hX)
 |ask k=>
  have H':ih V scr κ B X (k ⟨PG,V.w.params⟩) T i tk cks js xa xe hs cs:=H
  rw[hw] at H'
  exact x_ask (I _ _ _ _ _ _ _ _ _ _ _ _ _ _ _ H' hw O D S hx P hB hX)
 |load a q k=>
  have H':j0 V T a hs js cks (fun o cks js hs=>ih V scr κ B X (k o) T i tk cks js xa xe hs cs):=H
  obtain⟨o,cks',js',hs',g,e⟩:=kf H'
  refine x_load ?_ (I _ _ _ _ _ _ _ _ _ _ _ _ _ _ _ g hw O D S hx P hB hX)
  rcases e with⟨_,rfl,rfl,e⟩|⟨j,_,rfl,rfl,e⟩
  ·exact D.base O e
  ·rw[(jp (I1 _ _ _ _ _ _ _ _ _ _ _ _ _ _ _ g).1).1]
   exact(D.own _ _ e).2
 |loadIfAlive a k=>
  have H':j0 V T a hs js cks (fun o cks js hs=>ih V scr κ B X (k (some o)) T i tk cks js xa xe hs cs):=H
  obtain⟨o,cks',js',hs',g,e⟩:=kf H'
  have e':h.get? a=some o:=by
   rcases e with⟨_,rfl,rfl,e⟩|⟨j,_,rfl,rfl,e⟩
   ·exact D.base O e
   ·rw[(jp (I1 _ _ _ _ _ _ _ _ _ _ _ _ _ _ _ g).1).1]
    exact(D.own _ _ e).2
  have W:=I _ _ _ _ _ _ _ _ _ _ _ _ _ _ _ g hw O D S hx P hB hX
  intro Γ p hΓ
  show PySem.Sem.wp _ Γ (k ((z.at h (V.t₀+tk)).heap.get? a)) _ _ p _
  rw[show(z.at h (V.t₀+tk)).heap.get? a=some o from e']
  exact W Γ p hΓ
 |alloc o k=>
  delta df at H;dsimp only at H
  cases q:o.isFreed with
  |true=>rw[q] at H;cases H
  |false=>
   rw[q] at H
   dsimp only at H
   cases q2:(T.ins (V.pre.length+i) o).get (V.pre.length+i) with
   |none=>rw[q2] at H;cases H
   |some x=>
    rw[q2] at H
    have D':=D.alloc q (by rw[q2];rfl)
    refine wpAny_bind (m:=alloc o) (f:=k) (wpAny_alloc ?_)
    have hz:(z.at h (V.t₀+tk)).heap.objs.size=V.N+i:=D.size
    rw[hz]
    exact I _ _ _ _ _ _ _ _ _ _ _ _ _ _ _ H hw O D' S hx P hB hX
 |update a q f k=>
  delta df at H;dsimp only at H
  cases hs with
  |nil=>cases H
  |cons n hs=>
   cases n with
   |zero=>cases H
   |succ j=>
    dsimp only at H
    cases e:T.get j with
    |none=>rw[e] at H;cases H
    |some o=>
     rw[e] at H
     dsimp only at H
     cases q:(f o).isFreed with
     |true=>rw[q] at H;cases H
     |false=>
      rw[q] at H
      have ea:=(jp (I1 _ _ _ _ _ _ _ _ _ _ _ _ _ _ _ H).1).1
      have D':=D.update O e q
      refine wpAny_bind (m:=updatePart a _ f) (f:=k) (wpAny_updatePart (o:=o) (by rw[ea];exact(D.own _ _ e).2) ?_)
      rw[←ea] at D'
      exact I _ _ _ _ _ _ _ _ _ _ _ _ _ _ _ H hw O D' S hx P hB hX
 |fresh k=>
  refine x_fresh ?_
  exact I _ _ _ _ _ _ _ _ _ _ _ _ _ _ _ H hw O D S hx P hB hX
 |handled own k=>
  cases own with
  |true=>cases H
  |false=>
   refine x_handled ?_
   rw[hX.hnd]
   exact I _ _ _ _ _ _ _ _ _ _ _ _ _ _ _ H hw O D S hx P hB hX
 |call c hd g l k=>
  delta df at H;dsimp only at H
  cases q:nk hd with
  |false=>rw[q] at H;cases H
  |true=>
   rw[q] at H
   refine x_call ?_ fun e=>?_
   ·exact j7 I I1 H hw O D S hx (.ret hB hX P) (hX.mark hd)
   ·subst e;cases q
 |_=>cases H
theorem ij(w:World)(B₀:Around)(R₀:Result→Shared→Prop)(z:Rest0):∀n,io w B₀ R₀ z (sim n)
 |0=>fun _ _ _ _ _ _ _ _ _ _ _ _ _ _ _ H=>by cases H
 |n+1=>uf (ij w B₀ R₀ z n) (zy n)
end
noncomputable abbrev sn(s:String):Str:=Str.ofString s
noncomputable def ak:List Stmt→Nat→Stmt
 |[],_=>default
 |s::_,0=>s
 |_::l,n+1=>ak l n
noncomputable def d6:Stmt→List Stmt
 |.FunctionDef _ _ b ..=>b
 |.ClassDef _ _ _ b ..=>b
 |_=>[]
noncomputable def jqd:Stmt→Arguments
 |.FunctionDef _ a ..=>a
 |_=>⟨[],[],none,[],[],none,[]⟩
noncomputable def ky:Stmt→Scope
 |.FunctionDef _ _ _ _ _ _ s ..=>s
 |_=>default
noncomputable def st1(i:Nat):Stmt:=ak PG.main.body i
noncomputable def st2(i j:Nat):Stmt:=ak (d6 (st1 i)) j
noncomputable def cn(name qual:Str)(st:Stmt)(g:Addr)(cl:List (Str×Addr))(d k doc pm:Value)(an:Option Addr)(cd ct:Value)(bi:Addr):FuncData:=
 ⟨name,qual,jqd st,.stmts (d6 st),ky st,g,cl,d,k,doc,pm,an,cd,ct,bi⟩
noncomputable def ob0(P:Params):Obj:=⟨(.type "dict"),none,(.dict #[⟨PyData.keyHash P (sn "__name__"),(.str (sn "__name__") 1),(.str (sn "builtins") 160)⟩,⟨PyData.keyHash P (sn "__doc__"),(.str (sn "__doc__") 2),(.builtin "builtins.__doc__:str#opaque")⟩,⟨PyData.keyHash P (sn "__package__"),(.str (sn "__package__") 3),(.builtin "builtins.__package__:str#opaque")⟩,⟨PyData.keyHash P (sn "__loader__"),(.str (sn "__loader__") 4),(.builtin "builtins.__loader__:shared#opaque")⟩,⟨PyData.keyHash P (sn "__spec__"),(.str (sn "__spec__") 5),(.builtin "builtins.__spec__#opaque")⟩,⟨PyData.keyHash P (sn "__build_class__"),(.str (sn "__build_class__") 6),(.builtin "__build_class__")⟩,⟨PyData.keyHash P (sn "__import__"),(.str (sn "__import__") 7),(.builtin "__import__")⟩,⟨PyData.keyHash P (sn "abs"),(.str (sn "abs") 8),(.builtin "abs")⟩,⟨PyData.keyHash P (sn "all"),(.str (sn "all") 9),(.builtin "all")⟩,⟨PyData.keyHash P (sn "any"),(.str (sn "any") 10),(.builtin "any")⟩,⟨PyData.keyHash P (sn "ascii"),(.str (sn "ascii") 11),(.builtin "ascii")⟩,⟨PyData.keyHash P (sn "bin"),(.str (sn "bin") 12),(.builtin "bin")⟩,⟨PyData.keyHash P (sn "breakpoint"),(.str (sn "breakpoint") 13),(.builtin "breakpoint")⟩,⟨PyData.keyHash P (sn "callable"),(.str (sn "callable") 14),(.builtin "callable")⟩,⟨PyData.keyHash P (sn "chr"),(.str (sn "chr") 15),(.builtin "chr")⟩,⟨PyData.keyHash P (sn "compile"),(.str (sn "compile") 16),(.builtin "compile")⟩,⟨PyData.keyHash P (sn "delattr"),(.str (sn "delattr") 17),(.builtin "delattr")⟩,⟨PyData.keyHash P (sn "dir"),(.str (sn "dir") 18),(.builtin "dir")⟩,⟨PyData.keyHash P (sn "divmod"),(.str (sn "divmod") 19),(.builtin "divmod")⟩,⟨PyData.keyHash P (sn "eval"),(.str (sn "eval") 20),(.builtin "eval")⟩,⟨PyData.keyHash P (sn "exec"),(.str (sn "exec") 21),(.builtin "exec")⟩,⟨PyData.keyHash P (sn "format"),(.str (sn "format") 22),(.builtin "format")⟩,⟨PyData.keyHash P (sn "getattr"),(.str (sn "getattr") 23),(.builtin "getattr")⟩,⟨PyData.keyHash P (sn "globals"),(.str (sn "globals") 24),(.builtin "globals")⟩,⟨PyData.keyHash P (sn "hasattr"),(.str (sn "hasattr") 25),(.builtin "hasattr")⟩,⟨PyData.keyHash P (sn "hash"),(.str (sn "hash") 26),(.builtin "hash")⟩,⟨PyData.keyHash P (sn "hex"),(.str (sn "hex") 27),(.builtin "hex")⟩,⟨PyData.keyHash P (sn "id"),(.str (sn "id") 28),(.builtin "id")⟩,⟨PyData.keyHash P (sn "input"),(.str (sn "input") 29),(.builtin "input")⟩,⟨PyData.keyHash P (sn "isinstance"),(.str (sn "isinstance") 30),(.builtin "isinstance")⟩,⟨PyData.keyHash P (sn "issubclass"),(.str (sn "issubclass") 31),(.builtin "issubclass")⟩,⟨PyData.keyHash P (sn "iter"),(.str (sn "iter") 32),(.builtin "iter")⟩,⟨PyData.keyHash P (sn "aiter"),(.str (sn "aiter") 33),(.builtin "aiter")⟩,⟨PyData.keyHash P (sn "len"),(.str (sn "len") 34),(.builtin "len")⟩,⟨PyData.keyHash P (sn "locals"),(.str (sn "locals") 35),(.builtin "locals")⟩,⟨PyData.keyHash P (sn "max"),(.str (sn "max") 36),(.builtin "max")⟩,⟨PyData.keyHash P (sn "min"),(.str (sn "min") 37),(.builtin "min")⟩,⟨PyData.keyHash P (sn "next"),(.str (sn "next") 38),(.builtin "next")⟩,⟨PyData.keyHash P (sn "anext"),(.str (sn "anext") 39),(.builtin "anext")⟩,⟨PyData.keyHash P (sn "oct"),(.str (sn "oct") 40),(.builtin "oct")⟩,⟨PyData.keyHash P (sn "ord"),(.str (sn "ord") 41),(.builtin "ord")⟩,⟨PyData.keyHash P (sn "pow"),(.str (sn "pow") 42),(.builtin "pow")⟩,⟨PyData.keyHash P (sn "print"),(.str (sn "print") 43),(.builtin "print")⟩,⟨PyData.keyHash P (sn "repr"),(.str (sn "repr") 44),(.builtin "repr")⟩,⟨PyData.keyHash P (sn "round"),(.str (sn "round") 45),(.builtin "round")⟩,⟨PyData.keyHash P (sn "setattr"),(.str (sn "setattr") 46),(.builtin "setattr")⟩,⟨PyData.keyHash P (sn "sorted"),(.str (sn "sorted") 47),(.builtin "sorted")⟩,⟨PyData.keyHash P (sn "sum"),(.str (sn "sum") 48),(.builtin "sum")⟩,⟨PyData.keyHash P (sn "vars"),(.str (sn "vars") 49),(.builtin "vars")⟩,⟨PyData.keyHash P (sn "None"),(.str (sn "None") 50),.none⟩,⟨PyData.keyHash P (sn "Ellipsis"),(.str (sn "Ellipsis") 51),.ellipsis⟩,⟨PyData.keyHash P (sn "NotImplemented"),(.str (sn "NotImplemented") 52),.notImplemented⟩,⟨PyData.keyHash P (sn "False"),(.str (sn "False") 53),(.bool false)⟩,⟨PyData.keyHash P (sn "True"),(.str (sn "True") 54),(.bool true)⟩,⟨PyData.keyHash P (sn "bool"),(.str (sn "bool") 55),(.type "bool")⟩,⟨PyData.keyHash P (sn "memoryview"),(.str (sn "memoryview") 56),(.type "memoryview")⟩,⟨PyData.keyHash P (sn "bytearray"),(.str (sn "bytearray") 57),(.type "bytearray")⟩,⟨PyData.keyHash P (sn "bytes"),(.str (sn "bytes") 58),(.type "bytes")⟩,⟨PyData.keyHash P (sn "classmethod"),(.str (sn "classmethod") 59),(.type "classmethod")⟩,⟨PyData.keyHash P (sn "complex"),(.str (sn "complex") 60),(.type "complex")⟩,⟨PyData.keyHash P (sn "dict"),(.str (sn "dict") 61),(.type "dict")⟩,⟨PyData.keyHash P (sn "enumerate"),(.str (sn "enumerate") 62),(.type "enumerate")⟩,⟨PyData.keyHash P (sn "filter"),(.str (sn "filter") 63),(.type "filter")⟩,⟨PyData.keyHash P (sn "float"),(.str (sn "float") 64),(.type "float")⟩,⟨PyData.keyHash P (sn "frozenset"),(.str (sn "frozenset") 65),(.type "frozenset")⟩,⟨PyData.keyHash P (sn "property"),(.str (sn "property") 66),(.type "property")⟩,⟨PyData.keyHash P (sn "int"),(.str (sn "int") 67),(.type "int")⟩,⟨PyData.keyHash P (sn "list"),(.str (sn "list") 68),(.type "list")⟩,⟨PyData.keyHash P (sn "map"),(.str (sn "map") 69),(.type "map")⟩,⟨PyData.keyHash P (sn "object"),(.str (sn "object") 70),(.type "object")⟩,⟨PyData.keyHash P (sn "range"),(.str (sn "range") 71),(.type "range")⟩,⟨PyData.keyHash P (sn "reversed"),(.str (sn "reversed") 72),(.type "reversed")⟩,⟨PyData.keyHash P (sn "set"),(.str (sn "set") 73),(.type "set")⟩,⟨PyData.keyHash P (sn "slice"),(.str (sn "slice") 74),(.type "slice")⟩,⟨PyData.keyHash P (sn "staticmethod"),(.str (sn "staticmethod") 75),(.type "staticmethod")⟩,⟨PyData.keyHash P (sn "str"),(.str (sn "str") 76),(.type "str")⟩,⟨PyData.keyHash P (sn "super"),(.str (sn "super") 77),(.type "super")⟩,⟨PyData.keyHash P (sn "tuple"),(.str (sn "tuple") 78),(.type "tuple")⟩,⟨PyData.keyHash P (sn "type"),(.str (sn "type") 79),(.type "type")⟩,⟨PyData.keyHash P (sn "zip"),(.str (sn "zip") 80),(.type "zip")⟩,⟨PyData.keyHash P (sn "__debug__"),(.str (sn "__debug__") 81),(.bool true)⟩,⟨PyData.keyHash P (sn "BaseException"),(.str (sn "BaseException") 82),(.type "BaseException")⟩,⟨PyData.keyHash P (sn "BaseExceptionGroup"),(.str (sn "BaseExceptionGroup") 83),(.type "BaseExceptionGroup")⟩,⟨PyData.keyHash P (sn "Exception"),(.str (sn "Exception") 84),(.type "Exception")⟩,⟨PyData.keyHash P (sn "GeneratorExit"),(.str (sn "GeneratorExit") 85),(.type "GeneratorExit")⟩,⟨PyData.keyHash P (sn "KeyboardInterrupt"),(.str (sn "KeyboardInterrupt") 86),(.type "KeyboardInterrupt")⟩,⟨PyData.keyHash P (sn "SystemExit"),(.str (sn "SystemExit") 87),(.type "SystemExit")⟩,⟨PyData.keyHash P (sn "ArithmeticError"),(.str (sn "ArithmeticError") 88),(.type "ArithmeticError")⟩,⟨PyData.keyHash P (sn "AssertionError"),(.str (sn "AssertionError") 89),(.type "AssertionError")⟩,⟨PyData.keyHash P (sn "AttributeError"),(.str (sn "AttributeError") 90),(.type "AttributeError")⟩,⟨PyData.keyHash P (sn "BufferError"),(.str (sn "BufferError") 91),(.type "BufferError")⟩,⟨PyData.keyHash P (sn "EOFError"),(.str (sn "EOFError") 92),(.type "EOFError")⟩,⟨PyData.keyHash P (sn "ImportError"),(.str (sn "ImportError") 93),(.type "ImportError")⟩,⟨PyData.keyHash P (sn "LookupError"),(.str (sn "LookupError") 94),(.type "LookupError")⟩,⟨PyData.keyHash P (sn "MemoryError"),(.str (sn "MemoryError") 95),(.type "MemoryError")⟩,⟨PyData.keyHash P (sn "NameError"),(.str (sn "NameError") 96),(.type "NameError")⟩,⟨PyData.keyHash P (sn "OSError"),(.str (sn "OSError") 97),(.type "OSError")⟩,⟨PyData.keyHash P (sn "ReferenceError"),(.str (sn "ReferenceError") 98),(.type "ReferenceError")⟩,⟨PyData.keyHash P (sn "RuntimeError"),(.str (sn "RuntimeError") 99),(.type "RuntimeError")⟩,⟨PyData.keyHash P (sn "StopAsyncIteration"),(.str (sn "StopAsyncIteration") 100),(.type "StopAsyncIteration")⟩,⟨PyData.keyHash P (sn "StopIteration"),(.str (sn "StopIteration") 101),(.type "StopIteration")⟩,⟨PyData.keyHash P (sn "SyntaxError"),(.str (sn "SyntaxError") 102),(.type "SyntaxError")⟩,⟨PyData.keyHash P (sn "SystemError"),(.str (sn "SystemError") 103),(.type "SystemError")⟩,⟨PyData.keyHash P (sn "TypeError"),(.str (sn "TypeError") 104),(.type "TypeError")⟩,⟨PyData.keyHash P (sn "ValueError"),(.str (sn "ValueError") 105),(.type "ValueError")⟩,⟨PyData.keyHash P (sn "Warning"),(.str (sn "Warning") 106),(.type "Warning")⟩,⟨PyData.keyHash P (sn "FloatingPointError"),(.str (sn "FloatingPointError") 107),(.type "FloatingPointError")⟩,⟨PyData.keyHash P (sn "OverflowError"),(.str (sn "OverflowError") 108),(.type "OverflowError")⟩,⟨PyData.keyHash P (sn "ZeroDivisionError"),(.str (sn "ZeroDivisionError") 109),(.type "ZeroDivisionError")⟩,⟨PyData.keyHash P (sn "BytesWarning"),(.str (sn "BytesWarning") 110),(.type "BytesWarning")⟩,⟨PyData.keyHash P (sn "DeprecationWarning"),(.str (sn "DeprecationWarning") 111),(.type "DeprecationWarning")⟩,⟨PyData.keyHash P (sn "EncodingWarning"),(.str (sn "EncodingWarning") 112),(.type "EncodingWarning")⟩,⟨PyData.keyHash P (sn "FutureWarning"),(.str (sn "FutureWarning") 113),(.type "FutureWarning")⟩,⟨PyData.keyHash P (sn "ImportWarning"),(.str (sn "ImportWarning") 114),(.type "ImportWarning")⟩,⟨PyData.keyHash P (sn "PendingDeprecationWarning"),(.str (sn "PendingDeprecationWarning") 115),(.type "PendingDeprecationWarning")⟩,⟨PyData.keyHash P (sn "ResourceWarning"),(.str (sn "ResourceWarning") 116),(.type "ResourceWarning")⟩,⟨PyData.keyHash P (sn "RuntimeWarning"),(.str (sn "RuntimeWarning") 117),(.type "RuntimeWarning")⟩,⟨PyData.keyHash P (sn "SyntaxWarning"),(.str (sn "SyntaxWarning") 118),(.type "SyntaxWarning")⟩,⟨PyData.keyHash P (sn "UnicodeWarning"),(.str (sn "UnicodeWarning") 119),(.type "UnicodeWarning")⟩,⟨PyData.keyHash P (sn "UserWarning"),(.str (sn "UserWarning") 120),(.type "UserWarning")⟩,⟨PyData.keyHash P (sn "BlockingIOError"),(.str (sn "BlockingIOError") 121),(.type "BlockingIOError")⟩,⟨PyData.keyHash P (sn "ChildProcessError"),(.str (sn "ChildProcessError") 122),(.type "ChildProcessError")⟩,⟨PyData.keyHash P (sn "ConnectionError"),(.str (sn "ConnectionError") 123),(.type "ConnectionError")⟩,⟨PyData.keyHash P (sn "FileExistsError"),(.str (sn "FileExistsError") 124),(.type "FileExistsError")⟩,⟨PyData.keyHash P (sn "FileNotFoundError"),(.str (sn "FileNotFoundError") 125),(.type "FileNotFoundError")⟩,⟨PyData.keyHash P (sn "InterruptedError"),(.str (sn "InterruptedError") 126),(.type "InterruptedError")⟩,⟨PyData.keyHash P (sn "IsADirectoryError"),(.str (sn "IsADirectoryError") 127),(.type "IsADirectoryError")⟩,⟨PyData.keyHash P (sn "NotADirectoryError"),(.str (sn "NotADirectoryError") 128),(.type "NotADirectoryError")⟩,⟨PyData.keyHash P (sn "PermissionError"),(.str (sn "PermissionError") 129),(.type "PermissionError")⟩,⟨PyData.keyHash P (sn "ProcessLookupError"),(.str (sn "ProcessLookupError") 130),(.type "ProcessLookupError")⟩,⟨PyData.keyHash P (sn "TimeoutError"),(.str (sn "TimeoutError") 131),(.type "TimeoutError")⟩,⟨PyData.keyHash P (sn "IndentationError"),(.str (sn "IndentationError") 132),(.type "IndentationError")⟩,⟨PyData.keyHash P (sn "_IncompleteInputError"),(.str (sn "_IncompleteInputError") 133),(.type "_IncompleteInputError")⟩,⟨PyData.keyHash P (sn "IndexError"),(.str (sn "IndexError") 134),(.type "IndexError")⟩,⟨PyData.keyHash P (sn "KeyError"),(.str (sn "KeyError") 135),(.type "KeyError")⟩,⟨PyData.keyHash P (sn "ModuleNotFoundError"),(.str (sn "ModuleNotFoundError") 136),(.type "ModuleNotFoundError")⟩,⟨PyData.keyHash P (sn "NotImplementedError"),(.str (sn "NotImplementedError") 137),(.type "NotImplementedError")⟩,⟨PyData.keyHash P (sn "PythonFinalizationError"),(.str (sn "PythonFinalizationError") 138),(.type "PythonFinalizationError")⟩,⟨PyData.keyHash P (sn "RecursionError"),(.str (sn "RecursionError") 139),(.type "RecursionError")⟩,⟨PyData.keyHash P (sn "UnboundLocalError"),(.str (sn "UnboundLocalError") 140),(.type "UnboundLocalError")⟩,⟨PyData.keyHash P (sn "UnicodeError"),(.str (sn "UnicodeError") 141),(.type "UnicodeError")⟩,⟨PyData.keyHash P (sn "BrokenPipeError"),(.str (sn "BrokenPipeError") 142),(.type "BrokenPipeError")⟩,⟨PyData.keyHash P (sn "ConnectionAbortedError"),(.str (sn "ConnectionAbortedError") 143),(.type "ConnectionAbortedError")⟩,⟨PyData.keyHash P (sn "ConnectionRefusedError"),(.str (sn "ConnectionRefusedError") 144),(.type "ConnectionRefusedError")⟩,⟨PyData.keyHash P (sn "ConnectionResetError"),(.str (sn "ConnectionResetError") 145),(.type "ConnectionResetError")⟩,⟨PyData.keyHash P (sn "TabError"),(.str (sn "TabError") 146),(.type "TabError")⟩,⟨PyData.keyHash P (sn "UnicodeDecodeError"),(.str (sn "UnicodeDecodeError") 147),(.type "UnicodeDecodeError")⟩,⟨PyData.keyHash P (sn "UnicodeEncodeError"),(.str (sn "UnicodeEncodeError") 148),(.type "UnicodeEncodeError")⟩,⟨PyData.keyHash P (sn "UnicodeTranslateError"),(.str (sn "UnicodeTranslateError") 149),(.type "UnicodeTranslateError")⟩,⟨PyData.keyHash P (sn "ExceptionGroup"),(.str (sn "ExceptionGroup") 150),(.type "ExceptionGroup")⟩,⟨PyData.keyHash P (sn "EnvironmentError"),(.str (sn "EnvironmentError") 151),(.type "OSError")⟩,⟨PyData.keyHash P (sn "IOError"),(.str (sn "IOError") 152),(.type "OSError")⟩,⟨PyData.keyHash P (sn "open"),(.str (sn "open") 153),(.builtin "open")⟩,⟨PyData.keyHash P (sn "quit"),(.str (sn "quit") 154),(.builtin "builtins.quit#opaque")⟩,⟨PyData.keyHash P (sn "exit"),(.str (sn "exit") 155),(.builtin "builtins.exit#opaque")⟩,⟨PyData.keyHash P (sn "copyright"),(.str (sn "copyright") 156),(.builtin "builtins.copyright#opaque")⟩,⟨PyData.keyHash P (sn "credits"),(.str (sn "credits") 157),(.builtin "builtins.credits#opaque")⟩,⟨PyData.keyHash P (sn "license"),(.str (sn "license") 158),(.builtin "builtins.license#opaque")⟩,⟨PyData.keyHash P (sn "help"),(.str (sn "help") 159),(.builtin "builtins.help#opaque")⟩] 159),#[]⟩
noncomputable def ob2(P:Params):Obj:=⟨.none,none,(.dict #[] 0),#[]⟩
noncomputable def ob3(P:Params):Obj:=⟨(.type "dict"),none,(.dict #[⟨PyData.keyHash P (sn "__name__"),(.str (sn "__name__") 165),(.str (sn "law_in0123_01") 485)⟩,⟨PyData.keyHash P (sn "__doc__"),(.str (sn "__doc__") 166),.none⟩,⟨PyData.keyHash P (sn "__package__"),(.str (sn "__package__") 167),.none⟩,⟨PyData.keyHash P (sn "__loader__"),(.str (sn "__loader__") 168),(.builtin "__main__.__loader__#opaque")⟩,⟨PyData.keyHash P (sn "__spec__"),(.str (sn "__spec__") 169),.none⟩,⟨PyData.keyHash P (sn "__annotations__"),(.str (sn "__annotations__") 170),(.ref 6)⟩,⟨PyData.keyHash P (sn "__builtins__"),(.str (sn "__builtins__") 171),(.ref 4)⟩,⟨PyData.keyHash P (sn "__file__"),(.str (sn "__file__") 173),(.str (sn "/claim/cut.py") 172)⟩,⟨PyData.keyHash P (sn "__cached__"),(.str (sn "__cached__") 174),.none⟩,⟨PyData.keyHash P (sn "_wall"),(.str (sn "_wall") 193),(.ref 21)⟩,⟨PyData.keyHash P (sn "_mode"),(.str (sn "_mode") 204),(.ref 28)⟩,⟨PyData.keyHash P (sn "S_IFMT"),(.str (sn "S_IFMT") 211),(.ref 213)⟩,⟨PyData.keyHash P (sn "S_IFMT_stat"),(.str (sn "S_IFMT_stat") 212),(.ref 35)⟩,⟨PyData.keyHash P (sn "_sig"),(.str (sn "_sig") 221),(.ref 42)⟩,⟨PyData.keyHash P (sn "filterfalse"),(.str (sn "filterfalse") 273),(.ref 75)⟩,⟨PyData.keyHash P (sn "_filter"),(.str (sn "_filter") 283),(.ref 86)⟩,⟨PyData.keyHash P (sn "_NODE_OUT"),(.str (sn "_NODE_OUT") 288),(.int (-1) 287)⟩,⟨PyData.keyHash P (sn "_NODE_DONE"),(.str (sn "_NODE_DONE") 291),(.int (-2) 290)⟩,⟨PyData.keyHash P (sn "_NodeInfo"),(.str (sn "_NodeInfo") 328),(.ref 105)⟩,⟨PyData.keyHash P (sn "CycleError"),(.str (sn "CycleError") 346),(.ref 120)⟩,⟨PyData.keyHash P (sn "TopologicalSorter"),(.str (sn "TopologicalSorter") 465),(.ref 202)⟩,⟨PyData.keyHash P (sn "S_IFMT_stat2"),(.str (sn "S_IFMT_stat2") 475),(.ref 213)⟩,⟨PyData.keyHash P (sn "S_IFLNK"),(.str (sn "S_IFLNK") 477),(.int 40960 476)⟩,⟨PyData.keyHash P (sn "S_ISLNK"),(.str (sn "S_ISLNK") 484),(.ref 220)⟩,⟨PyData.keyHash P (sn "_law_mode"),(.str (sn "_law_mode") 493),(.ref 227)⟩,⟨PyData.keyHash P (sn "_law_signed"),(.str (sn "_law_signed") 501),(.ref 234)⟩,⟨PyData.keyHash P (sn "_law_run"),(.str (sn "_law_run") 517),(.ref 241)⟩,⟨PyData.keyHash P (sn "_law_due"),(.str (sn "_law_due") 523),(.ref 246)⟩,⟨PyData.keyHash P (sn "_law_kept"),(.str (sn "_law_kept") 529),(.ref 251)⟩,⟨PyData.keyHash P (sn "law"),(.str (sn "law") 535),(.ref 256)⟩] 30),#[]⟩
noncomputable def ob4(P:Params):Obj:=⟨(.type "module"),(some 0),.plain,#[]⟩
noncomputable def jq2(P:Params):Obj:=⟨(.type "code"),none,(.fields #[(.str (sn "_mode") 196),(.str (sn "_mode") 197),(.str (sn "/claim/cut.py") 198),(.int 5 0),(.int 2 0),(.int 0 0),(.int 0 0),(.int 3 0),(.ref 22),(.bool true),(.int 181 0),(.ref 23),.none,(.ref 24),(.ref 25),(.ref 26),(.int 202 0),(.int 5 0),(.str (sn "/claim/cut.py") 203)]),#[]⟩
noncomputable def jq1(P:Params):Obj:=⟨(.type "function"),none,(.func (cn (sn "_mode") (sn "_mode") (st1 2) 3 [] .none .none .none (.str (sn "stat") 194) none (.ref 27) .none 0)),#[]⟩
noncomputable def jq0(P:Params):Obj:=⟨(.type "code"),none,(.fields #[(.str (sn "S_IFMT") 205),(.str (sn "S_IFMT") 206),(.str (sn "/claim/cut.py") 207),(.int 18 0),(.int 1 0),(.int 1 0),(.int 0 0),(.int 3 0),(.ref 29),(.bool true),(.int 181 0),(.ref 30),.none,(.ref 31),(.ref 32),(.ref 33),(.int 209 0),(.int 18 0),(.str (sn "/claim/cut.py") 210)]),#[]⟩
noncomputable def jqz(P:Params):Obj:=⟨(.type "function"),none,(.func (cn (sn "S_IFMT") (sn "S_IFMT") (st1 3) 3 [] .none .none .none (.str (sn "stat") 194) none (.ref 34) .none 0)),#[]⟩
noncomputable def jqy(P:Params):Obj:=⟨(.type "code"),none,(.fields #[(.str (sn "_sig") 215),(.str (sn "_sig") 216),(.str (sn "/claim/cut.py") 217),(.int 22 0),(.int 1 0),(.int 0 0),(.int 0 0),(.int 3 0),(.ref 36),(.bool true),(.int 181 0),(.ref 37),.none,(.ref 38),(.ref 39),(.ref 40),(.int 219 0),(.int 22 0),(.str (sn "/claim/cut.py") 220)]),#[]⟩
noncomputable def jqx(P:Params):Obj:=⟨(.type "function"),none,(.func (cn (sn "_sig") (sn "_sig") (st1 6) 3 [] .none .none .none (.str (sn "cpy313.filecmp") 213) none (.ref 41) .none 0)),#[]⟩
noncomputable def jqw(P:Params):Obj:=⟨(.type "code"),none,(.fields #[(.str (sn "__init__") 239),(.str (sn "filterfalse.__init__") 240),(.str (sn "/claim/cut.py") 241),(.int 28 0),(.int 3 0),(.int 3 0),(.int 0 0),(.int 3 0),(.ref 51),(.bool true),(.int 181 0),(.ref 52),.none,(.ref 53),(.ref 54),(.ref 55),(.int 245 0),(.int 28 0),(.str (sn "/claim/cut.py") 246)]),#[]⟩
noncomputable def jqv(P:Params):Obj:=⟨(.type "function"),none,(.func (cn (sn "__init__") (sn "filterfalse.__init__") (st2 8 1) 3 [] .none .none .none (.str (sn "itertools") 222) none (.ref 56) .none 0)),#[]⟩
noncomputable def jqu(P:Params):Obj:=⟨(.type "code"),none,(.fields #[(.str (sn "__iter__") 248),(.str (sn "filterfalse.__iter__") 249),(.str (sn "/claim/cut.py") 250),(.int 32 0),(.int 1 0),(.int 0 0),(.int 0 0),(.int 3 0),(.ref 58),(.bool true),(.int 181 0),(.ref 59),.none,(.ref 60),(.ref 61),(.ref 62),(.int 252 0),(.int 32 0),(.str (sn "/claim/cut.py") 253)]),#[]⟩
noncomputable def jqt(P:Params):Obj:=⟨(.type "function"),none,(.func (cn (sn "__iter__") (sn "filterfalse.__iter__") (st2 8 2) 3 [] .none .none .none (.str (sn "itertools") 222) none (.ref 63) .none 0)),#[]⟩
noncomputable def jqs(P:Params):Obj:=⟨(.type "code"),none,(.fields #[(.str (sn "__next__") 255),(.str (sn "filterfalse.__next__") 256),(.str (sn "/claim/cut.py") 257),(.int 35 0),(.int 1 0),(.int 0 0),(.int 0 0),(.int 3 0),(.ref 65),(.bool true),(.int 181 0),(.ref 66),.none,(.ref 67),(.ref 68),(.ref 69),(.int 261 0),(.int 35 0),(.str (sn "/claim/cut.py") 262)]),#[]⟩
noncomputable def jqr(P:Params):Obj:=⟨(.type "function"),none,(.func (cn (sn "__next__") (sn "filterfalse.__next__") (st2 8 3) 3 [] .none .none .none (.str (sn "itertools") 222) none (.ref 70) .none 0)),#[]⟩
noncomputable def jqq(P:Params):Obj:=⟨(.type "dict"),none,(.dict #[⟨PyData.keyHash P (sn "__module__"),(.str (sn "__module__") 231),(.str (sn "itertools") 222)⟩,⟨PyData.keyHash P (sn "__firstlineno__"),(.str (sn "__firstlineno__") 235),(.int 25 234)⟩,⟨PyData.keyHash P (sn "__slots__"),(.str (sn "__slots__") 238),(.ref 50)⟩,⟨PyData.keyHash P (sn "__init__"),(.str (sn "__init__") 247),(.ref 57)⟩,⟨PyData.keyHash P (sn "__iter__"),(.str (sn "__iter__") 254),(.ref 64)⟩,⟨PyData.keyHash P (sn "__next__"),(.str (sn "__next__") 263),(.ref 71)⟩,⟨PyData.keyHash P (sn "__static_attributes__"),(.str (sn "__static_attributes__") 266),(.ref 72)⟩,⟨PyData.keyHash P (sn "_func"),(.str (sn "_func") 268),(.ref 76)⟩,⟨PyData.keyHash P (sn "_it"),(.str (sn "_it") 270),(.ref 77)⟩,⟨PyData.keyHash P (sn "__doc__"),(.str (sn "__doc__") 271),.none⟩] 4),#[]⟩
noncomputable def jqp(P:Params):Obj:=⟨(.type "type"),none,(.cls ⟨(sn "filterfalse"),[(.type "object")],[(.ref 75),(.type "object")],74,(sn "filterfalse"),false,[(sn "_func"),(sn "_it")],[],false,none,false⟩),#[none,none,(some (.str (sn "filterfalse") 224)),(some (.str (sn "filterfalse") 232)),(some (.builtin "object.__new__")),(some (.bool false))]⟩
noncomputable def jqo(P:Params):Obj:=⟨(.type "member_descriptor"),none,(.fields #[(.str (sn "_func") 267),(.ref 75),(.builtin "proto.slot"),(.builtin "proto.slot#set"),(.int 1 0)]),#[]⟩
noncomputable def jqn(P:Params):Obj:=⟨(.type "member_descriptor"),none,(.fields #[(.str (sn "_it") 269),(.ref 75),(.builtin "proto.slot"),(.builtin "proto.slot#set"),(.int 0 0)]),#[]⟩
noncomputable def jqm(P:Params):Obj:=⟨(.type "code"),none,(.fields #[(.str (sn "_filter") 276),(.str (sn "_filter") 277),(.str (sn "/claim/cut.py") 278),(.int 45 0),(.int 2 0),(.int 0 0),(.int 0 0),(.int 3 0),(.ref 80),(.bool true),(.int 181 0),(.ref 81),.none,(.ref 82),(.ref 83),(.ref 84),(.int 281 0),(.int 45 0),(.str (sn "/claim/cut.py") 282)]),#[]⟩
noncomputable def jql(P:Params):Obj:=⟨(.type "function"),none,(.func (cn (sn "_filter") (sn "_filter") (st1 10) 3 [] .none .none .none (.str (sn "cpy313.filecmp") 274) none (.ref 85) .none 0)),#[]⟩
noncomputable def jpc(P:Params):Obj:=⟨(.type "code"),none,(.fields #[(.str (sn "__init__") 308),(.str (sn "_NodeInfo.__init__") 309),(.str (sn "/claim/cut.py") 310),(.int 53 0),(.int 2 0),(.int 0 0),(.int 0 0),(.int 3 0),(.ref 95),(.bool true),(.int 181 0),(.ref 96),.none,(.ref 97),(.ref 98),(.ref 99),(.int 313 0),(.int 53 0),(.str (sn "/claim/cut.py") 314)]),#[]⟩
noncomputable def jpb(P:Params):Obj:=⟨(.type "function"),none,(.func (cn (sn "__init__") (sn "_NodeInfo.__init__") (st2 14 1) 3 [] .none .none .none (.str (sn "cpy313.graphlib") 284) none (.ref 100) .none 0)),#[]⟩
noncomputable def jpa(P:Params):Obj:=⟨(.type "dict"),none,(.dict #[⟨PyData.keyHash P (sn "__module__"),(.str (sn "__module__") 299),(.str (sn "cpy313.graphlib") 284)⟩,⟨PyData.keyHash P (sn "__firstlineno__"),(.str (sn "__firstlineno__") 303),(.int 50 302)⟩,⟨PyData.keyHash P (sn "__slots__"),(.str (sn "__slots__") 307),(.ref 94)⟩,⟨PyData.keyHash P (sn "__init__"),(.str (sn "__init__") 315),(.ref 101)⟩,⟨PyData.keyHash P (sn "__static_attributes__"),(.str (sn "__static_attributes__") 319),(.ref 102)⟩,⟨PyData.keyHash P (sn "node"),(.str (sn "node") 321),(.ref 106)⟩,⟨PyData.keyHash P (sn "npredecessors"),(.str (sn "npredecessors") 323),(.ref 107)⟩,⟨PyData.keyHash P (sn "successors"),(.str (sn "successors") 325),(.ref 108)⟩,⟨PyData.keyHash P (sn "__doc__"),(.str (sn "__doc__") 326),.none⟩] 5),#[]⟩
noncomputable def jo9(P:Params):Obj:=⟨(.type "type"),none,(.cls ⟨(sn "_NodeInfo"),[(.type "object")],[(.ref 105),(.type "object")],104,(sn "_NodeInfo"),false,[(sn "node"),(sn "npredecessors"),(sn "successors")],[],false,none,false⟩),#[none,none,(some (.str (sn "_NodeInfo") 292)),(some (.str (sn "_NodeInfo") 300)),(some (.builtin "object.__new__")),(some (.bool false))]⟩
noncomputable def jo8(P:Params):Obj:=⟨(.type "member_descriptor"),none,(.fields #[(.str (sn "node") 320),(.ref 105),(.builtin "proto.slot"),(.builtin "proto.slot#set"),(.int 2 0)]),#[]⟩
noncomputable def jo7(P:Params):Obj:=⟨(.type "member_descriptor"),none,(.fields #[(.str (sn "npredecessors") 322),(.ref 105),(.builtin "proto.slot"),(.builtin "proto.slot#set"),(.int 1 0)]),#[]⟩
noncomputable def jo6(P:Params):Obj:=⟨(.type "member_descriptor"),none,(.fields #[(.str (sn "successors") 324),(.ref 105),(.builtin "proto.slot"),(.builtin "proto.slot#set"),(.int 0 0)]),#[]⟩
noncomputable def jo4(P:Params):Obj:=⟨(.type "tuple"),none,(.seq #[.none] 0),#[]⟩
noncomputable def jo3(P:Params):Obj:=⟨(.type "code"),none,(.fields #[(.str (sn "__init__") 359),(.str (sn "TopologicalSorter.__init__") 360),(.str (sn "/claim/cut.py") 361),(.int 61 0),(.int 2 0),(.int 0 0),(.int 0 0),(.int 3 0),(.ref 132),(.bool true),(.int 181 0),(.ref 133),.none,(.ref 134),(.ref 135),(.ref 136),(.int 366 0),(.int 61 0),(.str (sn "/claim/cut.py") 367)]),#[]⟩
noncomputable def jo2(P:Params):Obj:=⟨(.type "function"),none,(.func (cn (sn "__init__") (sn "TopologicalSorter.__init__") (st2 16 0) 3 [] (.ref 131) .none .none (.str (sn "cpy313.graphlib") 284) none (.ref 137) .none 0)),#[]⟩
noncomputable def jo1(P:Params):Obj:=⟨(.type "code"),none,(.fields #[(.str (sn "_get_nodeinfo") 369),(.str (sn "TopologicalSorter._get_nodeinfo") 370),(.str (sn "/claim/cut.py") 371),(.int 70 0),(.int 2 0),(.int 0 0),(.int 0 0),(.int 3 0),(.ref 139),(.bool true),(.int 181 0),(.ref 140),.none,(.ref 141),(.ref 142),(.ref 143),(.int 375 0),(.int 70 0),(.str (sn "/claim/cut.py") 376)]),#[]⟩
noncomputable def jo0(P:Params):Obj:=⟨(.type "function"),none,(.func (cn (sn "_get_nodeinfo") (sn "TopologicalSorter._get_nodeinfo") (st2 16 1) 3 [] .none .none .none (.str (sn "cpy313.graphlib") 284) none (.ref 144) .none 0)),#[]⟩
noncomputable def joz(P:Params):Obj:=⟨(.type "code"),none,(.fields #[(.str (sn "add") 378),(.str (sn "TopologicalSorter.add") 379),(.str (sn "/claim/cut.py") 380),(.int 75 0),(.int 2 0),(.int 0 0),(.int 0 0),(.int 7 0),(.ref 146),(.bool true),(.int 181 0),(.ref 147),.none,(.ref 148),(.ref 149),(.ref 150),(.int 387 0),(.int 75 0),(.str (sn "/claim/cut.py") 388)]),#[]⟩
noncomputable def joy(P:Params):Obj:=⟨(.type "function"),none,(.func (cn (sn "add") (sn "TopologicalSorter.add") (st2 16 2) 3 [] .none .none .none (.str (sn "cpy313.graphlib") 284) none (.ref 151) .none 0)),#[]⟩
noncomputable def jox(P:Params):Obj:=⟨(.type "code"),none,(.fields #[(.str (sn "prepare") 390),(.str (sn "TopologicalSorter.prepare") 391),(.str (sn "/claim/cut.py") 392),(.int 84 0),(.int 1 0),(.int 0 0),(.int 0 0),(.int 3 0),(.ref 153),(.bool true),(.int 181 0),(.ref 154),.none,.none,.none,(.ref 155),(.int 393 0),(.int 84 0),(.str (sn "/claim/cut.py") 394)]),#[]⟩
noncomputable def jow(P:Params):Obj:=⟨(.type "function"),none,(.func (cn (sn "prepare") (sn "TopologicalSorter.prepare") (st2 16 3) 3 [] .none .none .none (.str (sn "cpy313.graphlib") 284) none (.ref 156) .none 0)),#[]⟩
noncomputable def jov(P:Params):Obj:=⟨(.type "code"),none,(.fields #[(.str (sn "get_ready") 396),(.str (sn "TopologicalSorter.get_ready") 397),(.str (sn "/claim/cut.py") 398),(.int 92 0),(.int 1 0),(.int 0 0),(.int 0 0),(.int 3 0),(.ref 158),(.bool true),(.int 181 0),(.ref 159),.none,(.ref 160),(.ref 161),(.ref 162),(.int 403 0),(.int 92 0),(.str (sn "/claim/cut.py") 404)]),#[]⟩
noncomputable def jou(P:Params):Obj:=⟨(.type "function"),none,(.func (cn (sn "get_ready") (sn "TopologicalSorter.get_ready") (st2 16 4) 3 [] .none .none .none (.str (sn "cpy313.graphlib") 284) none (.ref 163) .none 0)),#[]⟩
noncomputable def jot(P:Params):Obj:=⟨(.type "code"),none,(.fields #[(.str (sn "is_active") 406),(.str (sn "TopologicalSorter.is_active") 407),(.str (sn "/claim/cut.py") 408),(.int 103 0),(.int 1 0),(.int 0 0),(.int 0 0),(.int 3 0),(.ref 165),(.bool true),(.int 181 0),(.ref 166),.none,(.ref 167),(.ref 168),(.ref 169),(.int 410 0),(.int 103 0),(.str (sn "/claim/cut.py") 411)]),#[]⟩
noncomputable def jos(P:Params):Obj:=⟨(.type "function"),none,(.func (cn (sn "is_active") (sn "TopologicalSorter.is_active") (st2 16 5) 3 [] .none .none .none (.str (sn "cpy313.graphlib") 284) none (.ref 170) .none 0)),#[]⟩
noncomputable def jor(P:Params):Obj:=⟨(.type "code"),none,(.fields #[(.str (sn "done") 420),(.str (sn "TopologicalSorter.done") 421),(.str (sn "/claim/cut.py") 422),(.int 111 0),(.int 1 0),(.int 0 0),(.int 0 0),(.int 7 0),(.ref 179),(.bool true),(.int 181 0),(.ref 180),.none,(.ref 181),(.ref 182),(.ref 183),(.int 431 0),(.int 111 0),(.str (sn "/claim/cut.py") 432)]),#[]⟩
noncomputable def joq(P:Params):Obj:=⟨(.type "function"),none,(.func (cn (sn "done") (sn "TopologicalSorter.done") (st2 16 7) 3 [] .none .none .none (.str (sn "cpy313.graphlib") 284) none (.ref 184) .none 0)),#[]⟩
noncomputable def jop(P:Params):Obj:=⟨(.type "code"),none,(.fields #[(.str (sn "_find_cycle") 434),(.str (sn "TopologicalSorter._find_cycle") 435),(.str (sn "/claim/cut.py") 436),(.int 134 0),(.int 1 0),(.int 0 0),(.int 0 0),(.int 3 0),(.ref 186),(.bool true),(.int 181 0),(.ref 187),.none,(.ref 188),(.ref 189),(.ref 190),(.int 444 0),(.int 134 0),(.str (sn "/claim/cut.py") 445)]),#[]⟩
noncomputable def joo(P:Params):Obj:=⟨(.type "function"),none,(.func (cn (sn "_find_cycle") (sn "TopologicalSorter._find_cycle") (st2 16 8) 3 [] .none .none .none (.str (sn "cpy313.graphlib") 284) none (.ref 191) .none 0)),#[]⟩
noncomputable def jon(P:Params):Obj:=⟨(.type "dict"),none,(.dict #[⟨PyData.keyHash P (sn "__module__"),(.str (sn "__module__") 354),(.str (sn "cpy313.graphlib") 284)⟩,⟨PyData.keyHash P (sn "__firstlineno__"),(.str (sn "__firstlineno__") 358),(.int 59 357)⟩,⟨PyData.keyHash P (sn "__init__"),(.str (sn "__init__") 368),(.ref 138)⟩,⟨PyData.keyHash P (sn "_get_nodeinfo"),(.str (sn "_get_nodeinfo") 377),(.ref 145)⟩,⟨PyData.keyHash P (sn "add"),(.str (sn "add") 389),(.ref 152)⟩,⟨PyData.keyHash P (sn "prepare"),(.str (sn "prepare") 395),(.ref 157)⟩,⟨PyData.keyHash P (sn "get_ready"),(.str (sn "get_ready") 405),(.ref 164)⟩,⟨PyData.keyHash P (sn "is_active"),(.str (sn "is_active") 412),(.ref 171)⟩,⟨PyData.keyHash P (sn "__bool__"),(.str (sn "__bool__") 419),(.ref 178)⟩,⟨PyData.keyHash P (sn "done"),(.str (sn "done") 433),(.ref 185)⟩,⟨PyData.keyHash P (sn "_find_cycle"),(.str (sn "_find_cycle") 446),(.ref 192)⟩,⟨PyData.keyHash P (sn "static_order"),(.str (sn "static_order") 453),(.ref 199)⟩,⟨PyData.keyHash P (sn "__static_attributes__"),(.str (sn "__static_attributes__") 458),(.ref 200)⟩,⟨PyData.keyHash P (sn "__dict__"),(.str (sn "__dict__") 460),(.ref 203)⟩,⟨PyData.keyHash P (sn "__weakref__"),(.str (sn "__weakref__") 462),(.ref 204)⟩,⟨PyData.keyHash P (sn "__doc__"),(.str (sn "__doc__") 463),.none⟩] 4),#[]⟩
noncomputable def jom(P:Params):Obj:=⟨(.type "type"),none,(.cls ⟨(sn "TopologicalSorter"),[(.type "object")],[(.ref 202),(.type "object")],201,(sn "TopologicalSorter"),true,[],[],false,none,false⟩),#[none,none,(some (.str (sn "TopologicalSorter") 347)),(some (.str (sn "TopologicalSorter") 355)),(some (.builtin "object.__new__")),(some (.bool true))]⟩
noncomputable def jol(P:Params):Obj:=⟨(.type "code"),none,(.fields #[(.str (sn "S_IFMT") 468),(.str (sn "S_IFMT") 469),(.str (sn "/claim/cut.py") 470),(.int 166 0),(.int 1 0),(.int 0 0),(.int 0 0),(.int 3 0),(.ref 207),(.bool true),(.int 181 0),(.ref 208),.none,(.ref 209),(.ref 210),(.ref 211),(.int 472 0),(.int 166 0),(.str (sn "/claim/cut.py") 473)]),#[]⟩
noncomputable def jok(P:Params):Obj:=⟨(.type "function"),none,(.func (cn (sn "S_IFMT") (sn "S_IFMT") (st1 18) 3 [] .none .none .none (.str (sn "cpy313.stat") 466) none (.ref 212) .none 0)),#[]⟩
noncomputable def joj(P:Params):Obj:=⟨(.type "code"),none,(.fields #[(.str (sn "S_ISLNK") 478),(.str (sn "S_ISLNK") 479),(.str (sn "/claim/cut.py") 480),(.int 170 0),(.int 1 0),(.int 0 0),(.int 0 0),(.int 3 0),(.ref 214),(.bool true),(.int 181 0),(.ref 215),.none,(.ref 216),(.ref 217),(.ref 218),(.int 482 0),(.int 170 0),(.str (sn "/claim/cut.py") 483)]),#[]⟩
noncomputable def joi(P:Params):Obj:=⟨(.type "function"),none,(.func (cn (sn "S_ISLNK") (sn "S_ISLNK") (st1 21) 3 [] .none .none .none (.str (sn "cpy313.stat") 466) none (.ref 219) .none 0)),#[]⟩
noncomputable def joh(P:Params):Obj:=⟨(.type "code"),none,(.fields #[(.str (sn "_law_mode") 487),(.str (sn "_law_mode") 488),(.str (sn "/claim/cut.py") 489),(.int 173 0),(.int 1 0),(.int 0 0),(.int 0 0),(.int 3 0),(.ref 221),(.bool true),(.int 181 0),(.ref 222),.none,(.ref 223),(.ref 224),(.ref 225),(.int 491 0),(.int 173 0),(.str (sn "/claim/cut.py") 492)]),#[]⟩
noncomputable def jog(P:Params):Obj:=⟨(.type "function"),none,(.func (cn (sn "_law_mode") (sn "_law_mode") (st1 23) 3 [] .none .none .none (.str (sn "law_in0123_01") 485) none (.ref 226) .none 0)),#[]⟩
noncomputable def A8(P:Params):Obj:=⟨.none,none,(.fields #[]),#[]⟩
noncomputable def mj(P:Params):Obj:=⟨(.type "code"),none,(.fields #[(.str (sn "_law_signed") 494),(.str (sn "_law_signed") 495),(.str (sn "/claim/cut.py") 496),(.int 175 0),(.int 1 0),(.int 0 0),(.int 0 0),(.int 3 0),(.ref 228),(.bool true),(.int 181 0),(.ref 229),.none,(.ref 230),(.ref 231),(.ref 232),(.int 499 0),(.int 175 0),(.str (sn "/claim/cut.py") 500)]),#[]⟩
noncomputable def jof(P:Params):Obj:=⟨(.type "function"),none,(.func (cn (sn "_law_signed") (sn "_law_signed") (st1 24) 3 [] .none .none .none (.str (sn "law_in0123_01") 485) none (.ref 233) .none 0)),#[]⟩
noncomputable def joe(P:Params):Obj:=⟨(.type "code"),none,(.fields #[(.str (sn "_law_run") 502),(.str (sn "_law_run") 503),(.str (sn "/claim/cut.py") 504),(.int 181 0),(.int 2 0),(.int 0 0),(.int 0 0),(.int 3 0),(.ref 235),(.bool true),(.int 181 0),(.ref 236),.none,(.ref 237),(.ref 238),(.ref 239),(.int 515 0),(.int 181 0),(.str (sn "/claim/cut.py") 516)]),#[]⟩
noncomputable def jod(P:Params):Obj:=⟨(.type "function"),none,(.func (cn (sn "_law_run") (sn "_law_run") (st1 25) 3 [] .none .none .none (.str (sn "law_in0123_01") 485) none (.ref 240) .none 0)),#[]⟩
noncomputable def joc(P:Params):Obj:=⟨(.type "code"),none,(.fields #[(.str (sn "_law_due") 518),(.str (sn "_law_due") 519),(.str (sn "/claim/cut.py") 520),(.int 199 0),(.int 2 0),(.int 0 0),(.int 0 0),(.int 3 0),(.ref 242),(.bool true),(.int 181 0),(.ref 243),.none,.none,.none,(.ref 244),(.int 521 0),(.int 199 0),(.str (sn "/claim/cut.py") 522)]),#[]⟩
noncomputable def job(P:Params):Obj:=⟨(.type "function"),none,(.func (cn (sn "_law_due") (sn "_law_due") (st1 26) 3 [] .none .none .none (.str (sn "law_in0123_01") 485) none (.ref 245) .none 0)),#[]⟩
noncomputable def joa(P:Params):Obj:=⟨(.type "code"),none,(.fields #[(.str (sn "_law_kept") 524),(.str (sn "_law_kept") 525),(.str (sn "/claim/cut.py") 526),(.int 214 0),(.int 2 0),(.int 0 0),(.int 0 0),(.int 3 0),(.ref 247),(.bool true),(.int 181 0),(.ref 248),.none,.none,.none,(.ref 249),(.int 527 0),(.int 214 0),(.str (sn "/claim/cut.py") 528)]),#[]⟩
noncomputable def jn9(P:Params):Obj:=⟨(.type "function"),none,(.func (cn (sn "_law_kept") (sn "_law_kept") (st1 27) 3 [] .none .none .none (.str (sn "law_in0123_01") 485) none (.ref 250) .none 0)),#[]⟩
noncomputable def jn8(P:Params):Obj:=⟨(.type "code"),none,(.fields #[(.str (sn "law") 530),(.str (sn "law") 531),(.str (sn "/claim/cut.py") 532),(.int 218 0),(.int 1 0),(.int 0 0),(.int 0 0),(.int 3 0),(.ref 252),(.bool true),(.int 181 0),(.ref 253),.none,.none,.none,(.ref 254),(.int 533 0),(.int 218 0),(.str (sn "/claim/cut.py") 534)]),#[]⟩
noncomputable def jn7(P:Params):Obj:=⟨(.type "function"),none,(.func (cn (sn "law") (sn "law") (st1 28) 3 [] .none .none .none (.str (sn "law_in0123_01") 485) none (.ref 255) .none 0)),#[]⟩
noncomputable def jo5(P:Params):Obj:=⟨(.type "dict"),none,(.dict #[⟨PyData.keyHash P (sn "__module__"),(.str (sn "__module__") 336),(.str (sn "cpy313.graphlib") 284)⟩,⟨PyData.keyHash P (sn "__firstlineno__"),(.str (sn "__firstlineno__") 340),(.int 57 339)⟩,⟨PyData.keyHash P (sn "__static_attributes__"),(.str (sn "__static_attributes__") 341),(.ref 118)⟩,⟨PyData.keyHash P (sn "__weakref__"),(.str (sn "__weakref__") 343),(.ref 121)⟩,⟨PyData.keyHash P (sn "__doc__"),(.str (sn "__doc__") 344),.none⟩] 3),#[]⟩
noncomputable def jj2(P:Params):Obj:=⟨(.type "type"),none,(.cls ⟨(sn "CycleError"),[(.type "ValueError")],[(.ref 120),(.type "ValueError"),(.type "Exception"),(.type "BaseException"),(.type "object")],119,(sn "CycleError"),true,[],[],false,none,false⟩),#[(some (.ref 111)),none,(some (.str (sn "CycleError") 329)),(some (.str (sn "CycleError") 337)),(some (.builtin "ValueError.__new__")),(some (.bool true))]⟩
noncomputable def ktB(P:Params):KT:=(.node (some (ob0 P)) (.node none (.node (some (ob3 P)) (.node none (.node none (.node none (.node (some (jqu P)) (.node none (.node (some (jn8 P)) .nil .nil) .nil) (.node (some (jop P)) .nil .nil)) .nil) .nil) (.node none (.node none (.node (some (jqr P)) .nil .nil) .nil) (.node none (.node none (.node (some (joz P)) .nil .nil) .nil) (.node (some (jo5 P)) .nil .nil)))) (.node none (.node none (.node (some (jqz P)) (.node none (.node (some (jo4 P)) .nil .nil) .nil) (.node none (.node (some (jov P)) .nil .nil) (.node (some (jog P)) .nil .nil))) .nil) (.node (some (jq2 P)) (.node none (.node (some (jqp P)) .nil .nil) (.node (some (jo7 P)) (.node (some (jos P)) .nil .nil) .nil)) (.node none (.node none .nil (.node (some (joj P)) .nil .nil)) (.node none .nil (.node (some (jn9 P)) .nil .nil)))))) (.node none (.node none (.node none .nil (.node none (.node none (.node (some (jo0 P)) .nil .nil) .nil) (.node none .nil (.node (some (jod P)) .nil .nil)))) (.node none (.node (some (jqy P)) (.node none (.node (some (jo3 P)) .nil .nil) (.node (some (jon P)) .nil .nil)) (.node (some (jo9 P)) .nil (.node (some (mj P)) .nil .nil))) (.node (some (jqv P)) .nil (.node none (.node (some (joq P)) .nil .nil) .nil)))) (.node none (.node none (.node none .nil (.node (some (jpb P)) .nil .nil)) (.node none (.node (some (jqm P)) .nil (.node (some (jok P)) .nil .nil)) (.node none .nil (.node (some (joc P)) .nil .nil)))) (.node none (.node none (.node (some (jqn P)) .nil .nil) .nil) (.node none (.node none (.node (some (jow P)) .nil .nil) .nil) .nil))))) (.node (some (ob2 P)) (.node (some (ob4 P)) (.node none (.node none (.node none (.node (some (jqt P)) (.node none (.node (some (jn7 P)) .nil .nil) .nil) (.node (some (joo P)) .nil .nil)) .nil) (.node none (.node none (.node (some (jo1 P)) .nil .nil) .nil) (.node none .nil (.node (some (joe P)) .nil .nil)))) (.node none (.node none .nil (.node (some (jpa P)) .nil .nil)) (.node (some (jqw P)) (.node none (.node (some (joy P)) .nil .nil) .nil) (.node (some (jj2 P)) (.node (some (jor P)) .nil .nil) .nil)))) (.node none (.node none (.node none .nil (.node (some (jpc P)) (.node (some (jou P)) .nil .nil) .nil)) (.node none (.node none .nil (.node (some (jol P)) .nil .nil)) .nil)) (.node (some (jq1 P)) (.node none (.node (some (jqo P)) .nil .nil) (.node (some (jo6 P)) .nil .nil)) (.node none (.node none (.node (some (jox P)) .nil .nil) (.node (some (joi P)) .nil .nil)) .nil)))) (.node none (.node none (.node none (.node (some (jq0 P)) .nil (.node none .nil (.node (some (joh P)) .nil .nil))) .nil) (.node none (.node (some (jqx P)) (.node (some (jqq P)) (.node (some (jo2 P)) .nil .nil) (.node (some (jom P)) .nil .nil)) (.node (some (jo8 P)) (.node (some (jot P)) .nil .nil) (.node (some (jof P)) .nil .nil))) (.node none .nil (.node none .nil (.node (some (joa P)) .nil .nil))))) (.node none (.node none (.node none (.node (some (jqs P)) .nil .nil) .nil) (.node none (.node (some (jql P)) .nil .nil) (.node none .nil (.node (some (job P)) .nil .nil)))) .nil))))
noncomputable def bAs:List Addr:=[0,3,63,255,191,71,151,119,35,131,163,227,27,75,107,171,219,251,145,241,41,137,201,105,233,57,185,101,85,213,245,77,157,2,4,64,256,192,144,240,104,56,152,120,184,100,164,212,28,76,108,156,220,34,226,42,74,138,202,106,170,234,250,70,86,246,229]
noncomputable def KT.toL:Nat→Nat→KT→Frag
 |_,_,.nil=>[]
 |s,b,.node v l r=>(match v with|none=>[]|some o=>[(b,o)])++(KT.toL (2*s) (s+b) l++KT.toL (2*s) (2*s+b) r)
theorem KT.toL_holds{h:Heap}:∀{t:KT} {s b:Nat},(∀p∈KT.toL s b t,h.get? p.1=some p.2)→KT.Holds h s b t
 |.nil,_,_,_=>trivial
 |.node v l r,s,b,H=>by
  refine⟨fun o e=>?_,KT.toL_holds fun p hp=>H p ?_,KT.toL_holds fun p hp=>H p ?_⟩
  ·subst e
   exact H (b,o) (List.mem_append_left _ (.head _))
  ·exact List.mem_append_right _ (List.mem_append_left _ hp)
  ·exact List.mem_append_right _ (List.mem_append_right _ hp)
noncomputable def bK(P:Params):Frag:=KT.toL 1 0 (ktB P)++[(229,A8 P)]
theorem ja1(P:Params):bAs=(bK P).map (·.1):=by kernel_rfl
structure Based(P:Params)(h:Heap):Prop where
 kt:∀a o,(ktB P).get a=some o→h.get? a=some o
theorem Based.of{P:Params}{h:Heap}(H:∀p∈bK P,h.get? p.1=some p.2):Based P h:=⟨fun a o e=>by
 have z:=KT.Holds.get (KT.toL_holds fun p hp=>H p (List.mem_append_left _ hp)) (j:=a) (o:=o) e
 rwa [Nat.one_mul,Nat.add_zero] at z⟩
noncomputable def KT.lt(n:Nat):Nat→Nat→KT→Bool
 |_,_,.nil=>true
 |s,b,.node v l r=>(match v with|none=>true|some _=>Nat.blt b n)&&(KT.lt n (2*s) (s+b) l&&KT.lt n (2*s) (2*s+b) r)
theorem KT.lt_get{n:Nat}:∀{t:KT} {s b:Nat},KT.lt n s b t=true→∀{j:Nat} {o:Obj},t.get j=some o→s*j+b<n
 |.nil,_,_,_,_,_,e=>by cases e
 |.node v l r,s,b,H,j,o,e=>by
  rw[KT.get_node] at e
  unfold KT.lt at H
  rw[Bool.and_eq_true,Bool.and_eq_true] at H
  by_cases h0:j=0
  ·subst h0
   rw[if_pos rfl] at e
   subst e
   rw[Nat.mul_zero,Nat.zero_add]
   exact Nat.blt_eq.mp H.1
  ·rw[if_neg h0] at e
   by_cases p:j % 2=1
   ·rw[if_pos p] at e
    have z:=KT.lt_get H.2.1 e
    rw[←KT.arith1 p] at z;exact z
   ·rw[if_neg p] at e
    have z:=KT.lt_get H.2.2 e
    rw[←KT.arith2 h0 p] at z;exact z
theorem jfw(P:Params):KT.lt 257 1 0 (ktB P)=true:=by kernel_rfl
theorem bm{P:Params}{a:Nat}{o:Obj}(e:(ktB P).get a=some o):a<257:=by
 have:=KT.lt_get (jfw P) e
 rwa [Nat.one_mul,Nat.add_zero] at this
theorem jg(P:Params):(ktB P).get 229=none:=by kernel_rfl
theorem bv{P:Params}{a:Nat}(h:257≤a∨a=229):(ktB P).get a=none:=by
 cases e:(ktB P).get a with
 |none=>rfl
 |some o=>
  have:=bm e
  rcases h with h|h
  ·omega
  ·subst h;rw[jg] at e;cases e
theorem jpn(P:Params):(ktB P).get 2=some (ob2 P):=by kernel_rfl
theorem Based.keeps{P:Params}{h h':Heap}(b:Based P h)(k:∀a o,h.get? a=some o→a≠229→h'.get? a=some o):Based P h':=
 ⟨fun a o e=>k _ _ (b.kt a o e) fun q=>by rw[q,jg] at e;cases e⟩
theorem m5{P:Params}{h:Heap}(k:∀a o,(ktB P).get a=some o→h.get? a=some o):h.NoLimit:=by
 have e:=k _ _ (jpn P)
 exact⟨fun _=>none,⟨_,#[],0,e,rfl,fun _ he=>by simp at he,fun _=>rfl⟩,rfl⟩
noncomputable def wu:List Nat→List Nat→List Nat
 |[],acc=>acc
 |0::l,acc=>wu l acc
 |(j+1)::l,acc=>wu l (j::acc)
noncomputable def rh:List CH→List XE→List XE
 |[],acc=>acc
 |.x X::l,acc=>rh l ((X.code,X.hnd,dy X.pre,X.i,X.tk)::acc)
 |.p::l,acc=>rh l acc
 |.f::l,acc=>rh l acc
 |.stop::l,acc=>rh l acc
noncomputable def rhs:Script→SV→Prop
 |.fin hs cs W,V=>(wu hs []).map (aj V.pre V.N)=(wu hs []).map (aj V.pre V.N)∧rh cs []=rh cs []∧(W.out,dy W.ex,W.i,W.tk)=(W.out,dy W.ex,W.i,W.tk)
 |.call hs cs C next,V=>(wu hs []).map (aj V.pre V.N)=(wu hs []).map (aj V.pre V.N)∧rh cs []=rh cs []∧(C.code,C.hnd,C.fr,dy C.pre,C.i,C.tk)=(C.code,C.hnd,C.fr,dy C.pre,C.i,C.tk) ∧
   ∀o:C.Out,C.rel o→rhs (next o) (d5 V C o)
theorem nb:∀(scr:Script) (V:SV),rhs scr V
 |.fin ..,_=>⟨rfl,rfl,rfl⟩
 |.call _ _ _ next,_=>⟨rfl,rfl,rfl,fun o _=>nb (next o) _⟩
noncomputable def wz(l:List Obj):BT:=(gl .nil 0 l).getD .nil
noncomputable def mkV(w:World)(pre:List (Nat×Obj))(N t₀:Nat):SV:=⟨w,ktB w.params,pre.map (·.1),N,t₀⟩
noncomputable def dh(n:Nat)(V:SV)(pre:List (Nat×Obj))(scr:Script)(B X:Cx)(t:Sem Fin):Prop:=sim n V scr .base B X t (wz (pre.map (·.2))) 0 0 [] [] [] [] scr.hs scr.cs
structure Pre(w:World)(pre:List (Nat×Obj))(N t₀:Nat)(s:Shared):Prop where
 based:Based w.params s.heap
 size:s.heap.objs.size=N
 toks:s.toks=t₀
 ge:257≤N
 has:∀p∈pre,s.heap.get? p.1=some p.2
 off:∀p∈pre,257≤p.1∨p.1=229
 nodup:(pre.map (·.1)).Nodup
noncomputable def ae(s:Shared):Rest0:=⟨s.gens,s.drawn,s.os⟩
theorem Pre.ok{w pre N t₀ s}(P:Pre w pre N t₀ s):(mkV w pre N t₀).Ok s.heap:=by
 refine⟨P.size,P.based.kt,fun h k=>m5 k,P.nodup,fun a ha=>?_,fun a ha=>?_,fun a o e=>Nat.lt_of_lt_of_le (bm e) P.ge⟩
 ·obtain⟨p,hp,rfl⟩:=List.mem_map.mp ha
  exact bv (P.off p hp)
 ·obtain⟨p,hp,rfl⟩:=List.mem_map.mp ha
  have:=Heap.lt_size (P.has p hp)
  rw[P.size] at this
  exact this
theorem Pre.rep{w pre N t₀ s}(P:Pre w pre N t₀ s):Rep (mkV w pre N t₀) s.heap s.heap (wz (pre.map (·.2))) 0:=by
 refine⟨P.size,fun j o e=>?_,fun b o e _=>e⟩
 unfold wz at e
 cases q:gl .nil 0 (pre.map (·.2)) with
 |none=>rw[q] at e;exact absurd e (by simp[BT.get])
 |some T=>
  rw[q] at e
  rcases eu _ _ _ _ _ _ q e with⟨_,h2⟩|h1
  ·rw[Nat.sub_zero] at h2
   obtain⟨hl,he⟩:=List.getElem?_eq_some_iff.mp h2
   have hl':j<pre.length:=by rwa [List.length_map] at hl
   have hl2:j<(mkV w pre N t₀).pre.length:=by show j<(pre.map (·.1)).length;rwa [List.length_map]
   refine⟨hl2,?_⟩
   rw[bh _ _ _ hl2]
   have e1:(mkV w pre N t₀).pre[j]=pre[j].1:=List.getElem_map ..
   rw[e1]
   have e2:o=pre[j].2:=by rw[←he,List.getElem_map]
   rw[e2]
   exact P.has _ (List.getElem_mem hl')
  ·exact absurd h1 (by simp[BT.get])
noncomputable def dx(V:SV)(h₀:Heap):List CH→Prop
 |[]=>True
 |.x X::l=>XOk V h₀ X∧dx V h₀ l
 |.p::l=>dx V h₀ l
 |.f::l=>dx V h₀ l
 |.stop::l=>dx V h₀ l
theorem ub{V:SV}{h₀:Heap}{l:List CH}(H:dx V h₀ l)(X:XSpec)(h:CH.x X∈l):XOk V h₀ X:=by
 induction l with
 |nil=>cases h
 |cons k l ih=>
  rcases List.mem_cons.mp h with e|e
  ·subst e;exact H.1
  ·cases k with
   |x X'=>exact ih H.2 e
   |p=>exact ih H e
   |f=>exact ih H e
   |stop=>exact ih H e
noncomputable def Goal(w:World)(B₀:Around)(R₀:Result→Shared→Prop)(z:Rest0)(hi:Heap)(modA:Addr→Prop):Script→SV→Heap→Prop
 |.fin _ cs W,V,h₀=>dx V h₀ cs∧∀h',h'.objs.size=V.N+W.i→(∀p∈W.ex,h'.get? (aj V.pre V.N p.1)=some p.2) →
   ma V h₀ h'→(∀b o',hi.get? b=some o'→b∉V.pre→¬modA b→h'.get? b=some o')→zs w B₀ R₀ W.out (z.at h' (V.t₀+W.tk))
 |.call _ cs C next,V,h₀=>dx V h₀ cs∧b9 V h₀ C∧vg V C∧(∀b,C.mod b→modA b)∧∀o h',C.rel o→C.facts o h'→h'.objs.size=C.size o→V.N+C.i≤C.size o→(∀p∈C.upd o,h'.get? (aj V.pre V.N p.1)=some p.2) →
   (∀p∈C.pre,(∀u∈C.upd o,p.1≠u.1)→h'.get? (aj V.pre V.N p.1)=some p.2)→(∀p∈C.new o,h'.get? p.1=some p.2)→(∀b o',h₀.get? b=some o'→b∉V.pre→¬C.mod b→h'.get? b=some o') →
   (∀b o',hi.get? b=some o'→b∉V.pre→¬modA b→h'.get? b=some o')→Goal w B₀ R₀ z hi modA (next o) (d5 V C o) h'
theorem Goal.scr{w:World}{B₀:Around}{R₀:Result→Shared→Prop}{z:Rest0}{hi:Heap}{modA:Addr→Prop}:∀{scr:Script} {V:SV} {h₀:Heap},Goal w B₀ R₀ z hi modA scr V h₀ →
  (∀b o',hi.get? b=some o'→b∉V.pre→¬modA b→h₀.get? b=some o')→l7 w B₀ R₀ z scr V h₀
 |.fin ..,_,_,G,K=>⟨ub G.1,fun h' h1 h2 h3=>G.2 h' h1 h2 h3 fun b o e hb hm=>h3 b o (K b o e hb hm) hb⟩
 |.call _ _ C next,V,h₀,G,K=>⟨ub G.1,G.2.1,G.2.2.1,fun o h' h1 h2 h3 h4 h5 h6 h7 h8=>by
   have K':∀b o',hi.get? b=some o'→b∉V.pre→¬modA b→h'.get? b=some o':=fun b o' e hb hm=>h8 b o' (K b o' e hb hm) hb fun q=>hm (G.2.2.2.1 b q)
   exact(G.2.2.2.2 o h' h1 h2 h3 h4 h5 h6 h7 h8 K').scr fun b o' e hb hm=>K' b o' e (fun q=>hb (by
    show b∈V.pre++_++_
    exact List.mem_append_left _ (List.mem_append_left _ q))) hm⟩
theorem jcp{n:Nat}{w:World}{pre:List (Nat×Obj)}{N t₀:Nat}{scr:Script}{B X:Cx}{t:Sem Fin}{A C:Around}{R:Result→Shared→Prop}{s:Shared}
  (H:dh n (mkV w pre N t₀) pre scr B X t=rhs scr (mkV w pre N t₀)) (P:Pre w pre N t₀ s) (hB:B.Ok A) (hX:X.Ok C) {modA:Addr→Prop} (G:Goal w A R (ae s) s.heap modA scr (mkV w pre N t₀) s.heap) :
  wpAny (model PG w) C t (li w A R) (pt R) s:=by
 have S:=G.scr fun b o' e _ _=>e
 have hx:∀X,CH.x X∈scr.cs→XOk (mkV w pre N t₀) s.heap X:=by
  cases scr with
  |fin=>exact S.1
  |call=>exact S.1
 have:=ij w A R (ae s) n _ _ _ _ _ _ _ _ _ _ _ _ _ _ _ (H.mpr (nb ..)) rfl P.ok P.rep S hx .base hB hX
 have e:(ae s).at s.heap ((mkV w pre N t₀).t₀+0)=s:=by
  show Shared.mk s.heap s.gens s.drawn (t₀+0) s.os=s
  rw[Nat.add_zero,←P.toks]
 rwa [e] at this
noncomputable def jcq(n:Nat)(V:SV)(pre:List (Nat×Obj))(scr:Script)(B:Cx)(c:Code):Prop:=j6 (sim n) V scr c .base B (wz (pre.map (·.2))) 0 0 [] [] [] [] scr.hs scr.cs
noncomputable abbrev jrg(n:Nat)(w:World)(N t₀:Nat)(pre:List (Nat×Obj))(scr:Script)(B X:Cx)(t:Sem Fin):Prop:=dh n (mkV w pre N t₀) pre scr B X t=rhs scr (mkV w pre N t₀)
noncomputable abbrev au(n:Nat)(w:World)(N t₀:Nat)(pre:List (Nat×Obj))(scr:Script)(B:Cx)(t:Sem Fin):Prop:=dh n (mkV w pre N t₀) pre scr B B t=rhs scr (mkV w pre N t₀)
noncomputable abbrev c9(n:Nat)(w:World)(N t₀:Nat)(pre:List (Nat×Obj))(scr:Script)(B:Cx)(c:Code):Prop:=jcq n (mkV w pre N t₀) pre scr B c=rhs scr (mkV w pre N t₀)
theorem xq1{M:Model}{A:Around}{env:Env}{x y:Stmt}{Q:Flow→Shared→Prop}{E:Value→Shared→Prop}{s:Shared}(h:x=y)(k:wpAny M A (exec y env) Q E s):wpAny M A (exec x env) Q E s:=by rw[h];exact k
theorem xq2{M:Model}{A:Around}{env:Env}{x y:List Stmt}{Q:Flow→Shared→Prop}{E:Value→Shared→Prop}{s:Shared}(h:x=y)(k:wpAny M A (execs y env) Q E s):wpAny M A (execs x env) Q E s:=by rw[h];exact k
theorem xq3{M:Model}{A:Around}{env:Env}{x y:PySem.Expr}{Q:Value→Shared→Prop}{E:Value→Shared→Prop}{s:Shared}(h:x=y)(k:wpAny M A (eval y env) Q E s):wpAny M A (eval x env) Q E s:=by rw[h];exact k
theorem itp{c a b:Prop}[Decidable c](h:c)(k:a):ite c a b:=by rw[if_pos h];exact k
theorem itn{c a b:Prop}[Decidable c](h:¬c)(k:b):ite c a b:=by rw[if_neg h];exact k
theorem F8{P:Fin 8→Prop}(h0:P 0)(h1:P 1)(h2:P 2)(h3:P 3)(h4:P 4)(h5:P 5)(h6:P 6)(h7:P 7):∀i,P i
 |0=>h0
 |1=>h1
 |2=>h2
 |3=>h3
 |4=>h4
 |5=>h5
 |6=>h6
 |7=>h7
noncomputable def dH(f n:Nat):List Nat:=Nat.rec (motive:=fun _=>Nat→List Nat) (fun _=>[]) (fun _ ih n=>List.cons (Nat.mod n 64) (ih (Nat.div n 64))) f n
theorem bu{n:Nat}{w:World}{pre:List (Nat×Obj)}{N t₀:Nat}{scr:Script}{B:Cx}{c:Code}{A:Around}{R:Result→Shared→Prop}{s:Shared}
  (H:jcq n (mkV w pre N t₀) pre scr B c=rhs scr (mkV w pre N t₀)) (P:Pre w pre N t₀ s) (hB:B.Ok A) {modA:Addr→Prop} (G:Goal w A R (ae s) s.heap modA scr (mkV w pre N t₀) s.heap) :
  codeAny (model PG w) A c R s:=by
 have S:=G.scr fun b o' e _ _=>e
 have hx:∀X,CH.x X∈scr.cs→XOk (mkV w pre N t₀) s.heap X:=by
  cases scr with
  |fin=>exact S.1
  |call=>exact S.1
 have:=j5 (ij w A R (ae s) n) (zy n) (H.mpr (nb ..)) rfl P.ok P.rep S hx .base hB
 have e:(ae s).at s.heap ((mkV w pre N t₀).t₀+0)=s:=by
  show Shared.mk s.heap s.gens s.drawn (t₀+0) s.os=s
  rw[Nat.add_zero,←P.toks]
 rwa [e] at this
theorem ja{α:Type}{inj:α→Flow}{n:Nat}{w:World}{pre:List (Nat×Obj)}{N t₀:Nat}{scr:Script}{B X:Cx}{t:Sem α}{A C:Around}{Q:α→Shared→Prop}{E:Value→Shared→Prop}{R:Result→Shared→Prop}{s:Shared}
  (H:dh n (mkV w pre N t₀) pre scr B X (PySem.W.R.bindR t fun a=>.pure (.done (inj a)))=rhs scr (mkV w pre N t₀)) (P:Pre w pre N t₀ s) (hB:B.Ok A) (hX:X.Ok C) {modA:Addr→Prop} (G:Goal w A R (ae s) s.heap modA scr (mkV w pre N t₀) s.heap)
  (hQ:∀a s',R (.ok (inj a)) s'→Q a s') (hE:∀e s',R (.error e) s'→E e s'):wpAny (model PG w) C t Q E s:=by
 have:=jcp H P hB hX G
 rw[←PySem.W.R.bindR_eq] at this
 intro Γ p hΓ
 have q:=this Γ p hΓ
 have q':PySem.Sem.wp (model PG w) Γ (t>>=fun a=>Sem.pure (.done (inj a))) (fun a _ s'=>li w A R a s') (fun e _ s'=>pt R e s') p s:=q
 rw[Sem.wp_bind'] at q'
 exact Sem.wp_mono _ _ _ (fun a p' s' h=>hQ a s' h) (fun e p' s' h=>hE e s' h) p s q'
theorem sg{h h':Heap}{x y:Nat}{o ob:Obj}(hx:h.get? x=some o)(hx':h'.get? x=some o)(e:h.get? y=some ob)(q:y=x):h'.get? y=some ob:=by
 subst q
 rw[hx] at e
 cases e
 exact hx'
theorem du{y a:Nat}(h:y≠a):y∉[a]:=fun q=>h (List.mem_singleton.mp q)
theorem xO1{y a:Nat}(h:y∉[a]):y≠a:=fun e=>h (List.mem_singleton.mpr e)
theorem mO2{y a b:Nat}(h:y∈[a,b]):y=a∨y=b:=(List.mem_cons.mp h).imp_right List.mem_singleton.mp
theorem iO2{y a b:Nat}(h:y=a∨y=b):y∈[a,b]:=List.mem_cons.mpr (h.imp_right List.mem_singleton.mpr)
theorem nO2{y a b:Nat}(h:y≠a∧y≠b):y∉[a,b]:=fun q=>(List.mem_cons.mp q).elim h.1 (du h.2)
theorem xO2{y a b:Nat}(h:y∉[a,b]):y≠a∧y≠b:=⟨fun e=>h (List.mem_cons.mpr (.inl e)),xO1 fun q=>h (.tail _ q)⟩
theorem mO3{y a b c:Nat}(h:y∈[a,b,c]):y=a∨y=b∨y=c:=(List.mem_cons.mp h).imp_right mO2
theorem iO3{y a b c:Nat}(h:y=a∨y=b∨y=c):y∈[a,b,c]:=List.mem_cons.mpr (h.imp_right iO2)
theorem nO3{y a b c:Nat}(h:y≠a∧y≠b∧y≠c):y∉[a,b,c]:=fun q=>(List.mem_cons.mp q).elim h.1 (nO2 h.2)
theorem xO3{y a b c:Nat}(h:y∉[a,b,c]):y≠a∧y≠b∧y≠c:=⟨fun e=>h (List.mem_cons.mpr (.inl e)),xO2 fun q=>h (.tail _ q)⟩
theorem mO4{y a b c d:Nat}(h:y∈[a,b,c,d]):y=a∨y=b∨y=c∨y=d:=(List.mem_cons.mp h).imp_right mO3
theorem iO4{y a b c d:Nat}(h:y=a∨y=b∨y=c∨y=d):y∈[a,b,c,d]:=List.mem_cons.mpr (h.imp_right iO3)
theorem nO4{y a b c d:Nat}(h:y≠a∧y≠b∧y≠c∧y≠d):y∉[a,b,c,d]:=fun q=>(List.mem_cons.mp q).elim h.1 (nO3 h.2)
theorem xO4{y a b c d:Nat}(h:y∉[a,b,c,d]):y≠a∧y≠b∧y≠c∧y≠d:=⟨fun e=>h (List.mem_cons.mpr (.inl e)),xO3 fun q=>h (.tail _ q)⟩
theorem mO5{y a b c d e:Nat}(h:y∈[a,b,c,d,e]):y=a∨y=b∨y=c∨y=d∨y=e:=(List.mem_cons.mp h).imp_right mO4
theorem iO5{y a b c d e:Nat}(h:y=a∨y=b∨y=c∨y=d∨y=e):y∈[a,b,c,d,e]:=List.mem_cons.mpr (h.imp_right iO4)
theorem nO5{y a b c d e:Nat}(h:y≠a∧y≠b∧y≠c∧y≠d∧y≠e):y∉[a,b,c,d,e]:=fun q=>(List.mem_cons.mp q).elim h.1 (nO4 h.2)
theorem xO5{y a b c d e:Nat}(h:y∉[a,b,c,d,e]):y≠a∧y≠b∧y≠c∧y≠d∧y≠e:=⟨fun e=>h (List.mem_cons.mpr (.inl e)),xO4 fun q=>h (.tail _ q)⟩
theorem mO6{y a b c d e f:Nat}(h:y∈[a,b,c,d,e,f]):y=a∨y=b∨y=c∨y=d∨y=e∨y=f:=(List.mem_cons.mp h).imp_right mO5
theorem iO6{y a b c d e f:Nat}(h:y=a∨y=b∨y=c∨y=d∨y=e∨y=f):y∈[a,b,c,d,e,f]:=List.mem_cons.mpr (h.imp_right iO5)
theorem mO7{y a b c d e f g:Nat}(h:y∈[a,b,c,d,e,f,g]):y=a∨y=b∨y=c∨y=d∨y=e∨y=f∨y=g:=(List.mem_cons.mp h).imp_right mO6
theorem mO8{y a b c d e f g i:Nat}(h:y∈[a,b,c,d,e,f,g,i]):y=a∨y=b∨y=c∨y=d∨y=e∨y=f∨y=g∨y=i:=(List.mem_cons.mp h).imp_right mO7
theorem mO9{y a b c d e f g i j:Nat}(h:y∈[a,b,c,d,e,f,g,i,j]):y=a∨y=b∨y=c∨y=d∨y=e∨y=f∨y=g∨y=i∨y=j:=(List.mem_cons.mp h).imp_right mO8
theorem jq4{y a b c d e f g i j k:Nat}(h:y∈[a,b,c,d,e,f,g,i,j,k]):y=a∨y=b∨y=c∨y=d∨y=e∨y=f∨y=g∨y=i∨y=j∨y=k:=(List.mem_cons.mp h).imp_right mO9
theorem nd2{a b:Nat}(h:[a,b].Nodup):a≠b:=xO1 (List.nodup_cons.mp h).1
theorem dn2{a b:Nat}(h:a≠b):[a,b].Nodup:=List.nodup_cons.mpr ⟨du h,List.pairwise_singleton ..⟩
theorem nd3{a b c:Nat}(h:[a,b,c].Nodup):(a≠b∧a≠c)∧b≠c:=⟨xO2 (List.nodup_cons.mp h).1,nd2 (List.nodup_cons.mp h).2⟩
theorem dn3{a b c:Nat}(h:(a≠b∧a≠c)∧b≠c):[a,b,c].Nodup:=List.nodup_cons.mpr ⟨nO2 h.1,dn2 h.2⟩
theorem nd4{a b c d:Nat}(h:[a,b,c,d].Nodup):(a≠b∧a≠c∧a≠d)∧(b≠c∧b≠d)∧c≠d:=⟨xO3 (List.nodup_cons.mp h).1,nd3 (List.nodup_cons.mp h).2⟩
theorem dn4{a b c d:Nat}(h:(a≠b∧a≠c∧a≠d)∧(b≠c∧b≠d)∧c≠d):[a,b,c,d].Nodup:=List.nodup_cons.mpr ⟨nO3 h.1,dn3 h.2⟩
theorem nd5{a b c d e:Nat}(h:[a,b,c,d,e].Nodup):(a≠b∧a≠c∧a≠d∧a≠e)∧(b≠c∧b≠d∧b≠e)∧(c≠d∧c≠e)∧d≠e:=⟨xO4 (List.nodup_cons.mp h).1,nd4 (List.nodup_cons.mp h).2⟩
theorem dn5{a b c d e:Nat}(h:(a≠b∧a≠c∧a≠d∧a≠e)∧(b≠c∧b≠d∧b≠e)∧(c≠d∧c≠e)∧d≠e):[a,b,c,d,e].Nodup:=List.nodup_cons.mpr ⟨nO4 h.1,dn4 h.2⟩
theorem nd6{a b c d e f:Nat}(h:[a,b,c,d,e,f].Nodup):(a≠b∧a≠c∧a≠d∧a≠e∧a≠f)∧(b≠c∧b≠d∧b≠e∧b≠f)∧(c≠d∧c≠e∧c≠f)∧(d≠e∧d≠f)∧e≠f:=⟨xO5 (List.nodup_cons.mp h).1,nd5 (List.nodup_cons.mp h).2⟩
theorem dn6{a b c d e f:Nat}(h:(a≠b∧a≠c∧a≠d∧a≠e∧a≠f)∧(b≠c∧b≠d∧b≠e∧b≠f)∧(c≠d∧c≠e∧c≠f)∧(d≠e∧d≠f)∧e≠f):[a,b,c,d,e,f].Nodup:=List.nodup_cons.mpr ⟨nO5 h.1,dn5 h.2⟩
theorem mA2{P:Nat→Prop}{y a b:Nat}(h:y∈[a,b])(pa:P a)(pb:P b):P y:=(List.mem_cons.mp h).elim (fun q=>Eq.mpr (congrArg P q) pa) fun q=>Eq.mpr (congrArg P (List.mem_singleton.mp q)) pb
theorem mA3{P:Nat→Prop}{y a b c:Nat}(h:y∈[a,b,c])(pa:P a)(pb:P b)(pc:P c):P y:=(List.mem_cons.mp h).elim (fun q=>Eq.mpr (congrArg P q) pa) fun q=>mA2 q pb pc
theorem mA4{P:Nat→Prop}{y a b c d:Nat}(h:y∈[a,b,c,d])(pa:P a)(pb:P b)(pc:P c)(pd:P d):P y:=(List.mem_cons.mp h).elim (fun q=>Eq.mpr (congrArg P q) pa) fun q=>mA3 q pb pc pd
theorem mA5{P:Nat→Prop}{y a b c d e:Nat}(h:y∈[a,b,c,d,e])(pa:P a)(pb:P b)(pc:P c)(pd:P d)(pe:P e):P y:=(List.mem_cons.mp h).elim (fun q=>Eq.mpr (congrArg P q) pa) fun q=>mA4 q pb pc pd pe
theorem wif{α:Type}{M:Model}{A:Around}{c:Prop}[Decidable c]{t e:Sem α}{Q:α→Shared→Prop}{E:Value→Shared→Prop}{s:Shared}(hc:c)(h:wpAny M A t Q E s):wpAny M A (if c then t else e) Q E s:=(if_pos hc).symm ▸ h
theorem wie{α:Type}{M:Model}{A:Around}{c:Prop}[Decidable c]{t e:Sem α}{Q:α→Shared→Prop}{E:Value→Shared→Prop}{s:Shared}(hc:¬c)(h:wpAny M A e Q E s):wpAny M A (if c then t else e) Q E s:=(if_neg hc).symm ▸ h
theorem n0m{α:Type}{y:α}:y∉([]:List α):=List.not_mem_nil
noncomputable def kd(o:Obj):Nat:=match o.data with
 |.dict ..=>1
 |.seq ..=>3
 |.set ..=>4
 |.plain=>5
 |.fields vs=>match vs[0]? with
  |some (Value.builtin _)=>20
  |_=>10+vs.size
 |_=>6
noncomputable def HasL(h:Heap):List (Nat×Obj)→Prop
 |[]=>True
 |p::l=>h.get? p.1=some p.2∧HasL h l
theorem ch{w:World}{l:List (Nat×Obj)}{N i t:Nat}{s:Shared}(P:Pre w l (N+i) t s):N≤s.heap.objs.size:=Nat.le_trans (Nat.le_add_right N i) (Nat.le_of_eq P.size.symm)
noncomputable def OffL:List (Nat×Obj)→Prop
 |[]=>True
 |p::l=>(257≤p.1∨p.1=229)∧OffL l
theorem b6{a0:Nat}{o0:Obj}(h0:257≤a0):OffL [(a0,o0)]:=⟨.inl h0,zt⟩
theorem gx{a0:Nat}{o0:Obj}{a1:Nat}{o1:Obj}(h0:257≤a0)(h1:257≤a1):OffL [(a0,o0),(a1,o1)]:=⟨.inl h0,.inl h1,zt⟩
theorem f0{a0:Nat}{o0:Obj}{a1:Nat}{o1:Obj}{a2:Nat}{o2:Obj}(h0:257≤a0)(h1:257≤a1)(h2:257≤a2):OffL [(a0,o0),(a1,o1),(a2,o2)]:=⟨.inl h0,.inl h1,.inl h2,zt⟩
theorem r0{a0:Nat}{o0:Obj}{a1:Nat}{o1:Obj}{a2:Nat}{o2:Obj}{a3:Nat}{o3:Obj}(h0:257≤a0)(h1:257≤a1)(h2:257≤a2)(h3:257≤a3):OffL [(a0,o0),(a1,o1),(a2,o2),(a3,o3)]:=⟨.inl h0,.inl h1,.inl h2,.inl h3,zt⟩
theorem jdq{a0:Nat}{o0:Obj}{a1:Nat}{o1:Obj}{a2:Nat}{o2:Obj}{a3:Nat}{o3:Obj}{a4:Nat}{o4:Obj}(h0:257≤a0)(h1:257≤a1)(h2:257≤a2)(h3:257≤a3)(h4:257≤a4):OffL [(a0,o0),(a1,o1),(a2,o2),(a3,o3),(a4,o4)]:=⟨.inl h0,.inl h1,.inl h2,.inl h3,.inl h4,zt⟩
theorem jn6{a0:Nat}{o0:Obj}{a1:Nat}{o1:Obj}{a2:Nat}{o2:Obj}{a3:Nat}{o3:Obj}{a4:Nat}{o4:Obj}{a5:Nat}{o5:Obj}(h0:257≤a0)(h1:257≤a1)(h2:257≤a2)(h3:257≤a3)(h4:257≤a4)(h5:257≤a5):OffL [(a0,o0),(a1,o1),(a2,o2),(a3,o3),(a4,o4),(a5,o5)]:=⟨.inl h0,.inl h1,.inl h2,.inl h3,.inl h4,.inl h5,zt⟩
theorem jn5{a0:Nat}{o0:Obj}{a1:Nat}{o1:Obj}{a2:Nat}{o2:Obj}{a3:Nat}{o3:Obj}{a4:Nat}{o4:Obj}{a5:Nat}{o5:Obj}{a6:Nat}{o6:Obj}(h0:257≤a0)(h1:257≤a1)(h2:257≤a2)(h3:257≤a3)(h4:257≤a4)(h5:257≤a5)(h6:257≤a6):OffL [(a0,o0),(a1,o1),(a2,o2),(a3,o3),(a4,o4),(a5,o5),(a6,o6)]:=⟨.inl h0,.inl h1,.inl h2,.inl h3,.inl h4,.inl h5,.inl h6,zt⟩
theorem jqk{a0:Nat}{o0:Obj}{a1:Nat}{o1:Obj}{a2:Nat}{o2:Obj}{a3:Nat}{o3:Obj}{a4:Nat}{o4:Obj}{a5:Nat}{o5:Obj}{a6:Nat}{o6:Obj}{a7:Nat}{o7:Obj}(h0:257≤a0)(h1:257≤a1)(h2:257≤a2)(h3:257≤a3)(h4:257≤a4)(h5:257≤a5)(h6:257≤a6)(h7:257≤a7):OffL [(a0,o0),(a1,o1),(a2,o2),(a3,o3),(a4,o4),(a5,o5),(a6,o6),(a7,o7)]:=⟨.inl h0,.inl h1,.inl h2,.inl h3,.inl h4,.inl h5,.inl h6,.inl h7,zt⟩
noncomputable def NeP(p:Nat×Obj):List (Nat×Obj)→Prop
 |[]=>True
 |q::l=>(match Nat.beq (kd p.2) (kd q.2) with
  |true=>p.1≠q.1
  |false=>True)∧NeP p l
noncomputable def NeL:List (Nat×Obj)→Prop
 |[]=>True
 |p::l=>NeP p l∧NeL l
theorem HasL.mem{h:Heap}:∀{l:List (Nat×Obj)},HasL h l→∀p∈l,h.get? p.1=some p.2
 |[],_,p,hp=>nomatch hp
 |q::l,H,p,hp=>by
  cases hp with
  |head=>exact H.1
  |tail _ hp=>exact H.2.mem p hp
theorem OffL.mem:∀{l:List (Nat×Obj)},OffL l→∀p∈l,257≤p.1∨p.1=229
 |[],_,p,hp=>nomatch hp
 |q::l,H,p,hp=>by
  cases hp with
  |head=>exact H.1
  |tail _ hp=>exact H.2.mem p hp
theorem ao{h:Heap}{a b:Nat}{o o':Obj}(h1:h.get? a=some o)(h2:h.get? b=some o')(hk:Nat.beq (kd o) (kd o')=false):a≠b:=fun e=>by
 subst e
 rw[h1] at h2
 cases h2
 rw[show Nat.beq (kd o) (kd o)=true from Nat.beq_refl _] at hk
 cases hk
theorem NeP.ok{h:Heap}{p:Nat×Obj}(hp:h.get? p.1=some p.2):∀{l:List (Nat×Obj)},HasL h l→NeP p l→∀q∈l,p.1≠q.1
 |[],_,_,q,hq=>nomatch hq
 |q'::l,H,N,q,hq=>by
  cases hq with
  |tail _ hq=>exact NeP.ok hp H.2 N.2 q hq
  |head=>
   have n:=N.1
   cases e:Nat.beq (kd p.2) (kd q'.2) with
   |true=>rw[e] at n;exact n
   |false=>exact ao hp H.1 e
theorem NeL.nodup{h:Heap}:∀{l:List (Nat×Obj)},HasL h l→NeL l→(l.map (·.1)).Nodup
 |[],_,_=>List.Pairwise.nil
 |p::l,H,N=>List.Pairwise.cons (fun x hx=>by
   obtain⟨q,hq,rfl⟩:=List.mem_map.mp hx
   exact NeP.ok H.1 H.2 N.1 q hq) (NeL.nodup H.2 N.2)
theorem ag{w:World}{pre:List (Nat×Obj)}{s:Shared}(B:Based w.params s.heap)(hN:257≤s.heap.objs.size)(H:HasL s.heap pre)(O:OffL pre)(E:NeL pre):Pre w pre s.heap.objs.size s.toks s:=
 ⟨B,rfl,rfl,hN,H.mem,O.mem,E.nodup H⟩
noncomputable def nmS(k:Fin 8):Str:=⟨#[97+k.val]⟩
noncomputable def nmV(nt:Fin 8→Nat)(k:Fin 8):Value:=.str (nmS k) (nt k)
theorem gj{a b:Fin 8}(h:nmS a=nmS b):a=b:=by
 have e:97+a.val=97+b.val:=by
  have:=congrArg (fun s:Str=>s.cps.toList) h
  simpa [nmS] using this
 exact Fin.ext (by omega)
theorem cr(nt:Fin 8→Nat)(a b:Fin 8):Value.isStrOf (nmS a) (nmV nt b)=(b==a):=by
 show(nmS b==nmS a)=(b==a)
 by_cases h:a=b
 ·subst h;simp
 ·have h1:(nmS b==nmS a)=false:=beq_eq_false_iff_ne.mpr fun e=>h (gj e).symm
  have h2:(b==a)=false:=beq_eq_false_iff_ne.mpr fun e=>h e.symm
  rw[h1,h2]
noncomputable abbrev KV:=List (Fin 8×Value)
noncomputable def ent(P:Params)(nt:Fin 8→Nat)(p:Fin 8×Value):DictEntry:=⟨PyData.keyHash P (nmS p.1),nmV nt p.1,p.2⟩
noncomputable def dO(P:Params)(nt:Fin 8→Nat)(kvs:KV)(ep:Nat):Obj:=⟨.type "dict",none,.dict ⟨kvs.map (ent P nt)⟩ ep,#[]⟩
section
variable{w:World}{nt:Fin 8→Nat}{D:Addr}{kvs:KV}{ep:Nat}{k:Fin 8}{A:Around}{R:Result→Shared→Prop}{s:Shared}
theorem im:KeysOf (strKind PG w) (⟨kvs.map (ent w.params nt)⟩:Array DictEntry):=by
 intro e he
 have he':e∈kvs.map (ent w.params nt):=by simpa using he
 obtain⟨p,_,rfl⟩:=List.mem_map.mp he'
 exact⟨nmS p.1,by show Value.isStrOf (nmS p.1) (nmV nt p.1)=true;rw[cr];simp,rfl⟩
noncomputable def tu(kvs:KV)(x:Str):Option Value:=(kvs.find? fun p=>nmS p.1==x).map (·.2)
theorem tc(x:Str):findBy (strKind PG w).is (⟨kvs.map (ent w.params nt)⟩:Array DictEntry) x=tu kvs x:=by
 unfold findBy tu
 simp only[List.find?_toArray,List.find?_map,Option.map_map]
 have:((fun e:DictEntry=>(strKind PG w).is x e.key) ∘ ent w.params nt)=fun p:Fin 8×Value=>nmS p.1==x:=by
  funext p
  rfl
 rw[this]
 rfl
theorem lu(kvs:KV)(k:Fin 8):tu kvs (nmS k)=kvs.lookup k:=by
 unfold tu
 induction kvs with
 |nil=>rfl
 |cons p l ih=>
  rw[List.find?_cons,List.lookup_cons]
  by_cases h:k=p.1
  ·rw[h];simp
  ·have h1:(nmS p.1==nmS k)=false:=beq_eq_false_iff_ne.mpr fun e=>h (gj e).symm
   have h2:(k==p.1)=false:=beq_eq_false_iff_ne.mpr h
   rw[h1,h2];exact ih
theorem dk(h:s.heap.get? D=some (dO w.params nt kvs ep)):s.heap.MapOf (strKind PG w) D (tu kvs):=
 ⟨_,_,ep,h,⟨rfl,rfl,rfl⟩,rfl,im,tc⟩
theorem gu:(strKind PG w).is (nmS k) (nmV nt k)=true:=by show Value.isStrOf (nmS k) (nmV nt k)=true;rw[cr];simp
theorem bf{T:String}{name:Str}{id:String}{B:Builtin}{self:Value}{rest:List Value}{S:Spec}(slot:Slot T name id)(hT:s.TypeIs self T)
  (entry:entryFor table id=some B) (args:argsOk id ⟨self::rest,[]⟩) (g:MeetsIn PG w (B ⟨self::rest,[]⟩) S) (h:S A R s) :
  codeAny (model PG w) A (.call (.builtin id) ⟨self::rest,[]⟩) R s:=
 codeAny_call_builtin slot.plain entry (slot.check _ _ _ _ _ _ _ _ hT args (g A R s h))
theorem jj8(hd:D≠1)(ho:s.heap.get? D=some (dO w.params nt kvs ep))(h:R (.ok (.ret ((kvs.lookup k).getD .none))) { s with toks:=s.toks+1 }) :
  codeAny (model PG w) A (.call (.builtin "dict.get") ⟨[.ref D,nmV nt k],[]⟩) R s:=
 bf F.slot_dict_get (dk ho).typeIs F.entry_dict_get (F.args_dict_get_2 _ _) (meets_dict_get (strKind PG w) D gu (beq_eq_false_iff_ne.mpr hd)) ⟨_,dk ho,by rw[lu];exact h⟩
theorem va(hd:D≠1)(ho:s.heap.get? D=some (dO w.params nt kvs ep))(h:R (.ok (.ret (.bool (kvs.lookup k).isSome))) { s with toks:=s.toks+1 }) :
  codeAny (model PG w) A (.call (.builtin "dict.__contains__") ⟨[.ref D,nmV nt k],[]⟩) R s:=
 bf F.slot_dict_contains (dk ho).typeIs F.entry_dict_contains (F.args_dict_contains_2 _ _) (meets_dict_contains (strKind PG w) D gu (beq_eq_false_iff_ne.mpr hd)) ⟨_,dk ho,by rw[lu];exact h⟩
theorem ym{v:Value}(ho:s.heap.get? D=some (dO w.params nt kvs ep))(hv:kvs.lookup k=some v)(h:R (.ok (.ret v)) { s with toks:=s.toks+1 }) :
  codeAny (model PG w) A (.call (.builtin "dict.__getitem__") ⟨[.ref D,nmV nt k],[]⟩) R s:=
 bf F.slot_dict_getitem (dk ho).typeIs F.entry_dict_getitem (F.args_dict_getitem_2 _ _) (meets_dict_getitem (strKind PG w) D gu) ⟨_,v,dk ho,by rw[lu];exact hv,h⟩
noncomputable def G9(kvs:KV)(k:Fin 8)(v:Value):KV:=kvs.map fun p=>if p.1=k then(k,v) else p
theorem w4(h:kvs.lookup k=none):((⟨kvs.map (ent w.params nt)⟩:Array DictEntry).findIdx? fun e=>(strKind PG w).is (nmS k) e.key)=none:=by
 rw[List.findIdx?_toArray,List.findIdx?_eq_none_iff]
 intro e he
 obtain⟨p,hp,rfl⟩:=List.mem_map.mp he
 show Value.isStrOf (nmS k) (nmV nt p.1)=false
 rw[cr]
 refine beq_eq_false_iff_ne.mpr fun e=>?_
 subst e
 have:∀{l:KV},p∈l→l.lookup p.1≠none:=fun{l} hm=>by
  induction l with
  |nil=>cases hm
  |cons q l ih=>
   rw[List.lookup_cons]
   by_cases e:p.1=q.1
   ·rw[beq_iff_eq.mpr e];simp
   ·rw[beq_eq_false_iff_ne.mpr e]
    cases hm with
    |head=>exact absurd rfl e
    |tail _ hm=>exact ih hm
 exact this hp h
theorem my{v:Value}(hl:kvs.length<sizeLine)(ho:s.heap.get? D=some (dO w.params nt kvs ep))(hn:kvs.lookup k=none)
  (h:∀h',h'.get? D=some (dO w.params nt (kvs++[(k,v)]) (ep+1))→Heap.SameBut D s.heap h'→R (.ok (.ret .none)) { s with heap:=h',toks:=s.toks+1 }) :
  codeAny (model PG w) A (.call (.builtin "dict.__setitem__") ⟨[.ref D,nmV nt k,v],[]⟩) R s:=by
 refine bf (S:=fun _ R s'=>s'=s∧∀h',h'.get? D=some (dO w.params nt (kvs++[(k,v)]) (ep+1))→Heap.SameBut D s.heap h'→R (.ok (.ret .none)) { s with heap:=h',toks:=s.toks+1 })
  F.slot_dict_setitem (dk ho).typeIs F.entry_dict_setitem (F.args_dict_setitem_3 _ _ _) (.of_wp fun A R s' ⟨e,h⟩=>?_) ⟨rfl,h⟩
 subst e
 show wpAny _ _ (Builtin.Dict.notOrdered "__setitem__" ⟨[.ref D,nmV nt k,v],[]⟩>>=_) _ _ s'
 refine wpAny_bind (wpAny_notOrdered_dict (dk ho).typeIs ?_)
 show wpAny _ _ (dictSet D (nmV nt k) v>>=_) _ _ s'
 refine wpAny_bind ?_
 unfold dictSet
 try with_reducible refine wpAny_holding ?_
 refine wpAny_bind ((strKind PG w).pyHash gu ?_)
 unfold dictSetHashed
 try with_reducible refine wpAny_holding ?_
 refine wpAny_bind (wpAny_dictFind_of (s:={ s' with toks:=s'.toks+1 }) gu ho rfl im ?_)
 rw[w4 hn]
 refine wpAny_bind (wpAny_rule (wpAny_updateDictKeys (s:={ s' with toks:=s'.toks+1 }) ho rfl (wpAny_pure ⟨.none,rfl,h _ ?_ (Heap.SameBut.update ..)⟩) (hz:=by simp only[List.size_toArray,List.length_map];exact(qv hl))))
 rw[Heap.get?_update_self _ ho rfl]
 simp[dO,Obj.mapDictKeys,ent,nmV]
 rfl
noncomputable def ld(kvs:KV)(k:Fin 8):KV:=kvs.filter fun p=>p.1 != k
theorem w5(p:Fin 8×Value)(l:KV):((p::l).map (ent w.params nt)).findIdx? (fun e=>(strKind PG w).is (nmS k) e.key)=if p.1=k then some 0 else((l.map (ent w.params nt)).findIdx? fun e=>(strKind PG w).is (nmS k) e.key).map (·+1):=by
 rw[List.map_cons,List.findIdx?_cons]
 have:(strKind PG w).is (nmS k) (ent w.params nt p).key=(p.1==k):=cr nt k p.1
 rw[this]
 by_cases h:p.1=k
 ·simp[h]
 ·rw[beq_eq_false_iff_ne.mpr h,if_neg h];simp
theorem G8{l:KV}{v:Value}(h:k∉l.map (·.1)):G9 l k v=l:=by
 unfold G9
 refine(List.map_congr_left fun p hp=>?_).trans (List.map_id _)
 have:p.1≠k:=fun e=>h (e ▸ List.mem_map_of_mem hp)
 rw[if_neg this];rfl
theorem sq{l:KV}(h:k∉l.map (·.1)):ld l k=l:=by
 unfold ld
 refine List.filter_eq_self.mpr fun p hp=>?_
 exact bne_iff_ne.mpr fun e=>h (e ▸ List.mem_map_of_mem hp)
theorem mm:∀{kvs:KV} {v₀:Value},(kvs.map (·.1)).Nodup→kvs.lookup k=some v₀→∃i,((kvs.map (ent w.params nt)).findIdx? fun e=>(strKind PG w).is (nmS k) e.key)=some i ∧
  (∀v,(kvs.map (ent w.params nt)).modify i (fun e=>{ e with val:=v })=(G9 kvs k v).map (ent w.params nt))∧(kvs.map (ent w.params nt)).eraseIdx i=(ld kvs k).map (ent w.params nt)∧(kvs.map (ent w.params nt))[i]?=some (ent w.params nt (k,v₀))
 |[],_,_,h=>by cases h
 |p::l,v₀,hn,h=>by
  rw[w5]
  rw[List.map_cons,List.nodup_cons] at hn
  rw[List.lookup_cons] at h
  by_cases e:p.1=k
  ·subst e
   first|refine itp rfl ?_|rw[if_pos rfl]
   refine⟨0,rfl,fun v=>?_,?_,?_⟩
   ·show({ ent w.params nt p with val:=v }:DictEntry)::l.map (ent w.params nt)=((if p.1=p.1 then(p.1,v) else p)::G9 l p.1 v).map (ent w.params nt)
    rw[G8 hn.1,if_pos rfl];rfl
   ·show l.map (ent w.params nt)=_
    unfold ld
    rw[List.filter_cons_of_neg (by simp)]
    have:=sq (k:=p.1) (l:=l) hn.1
    unfold ld at this
    rw[this]
   ·rw[beq_iff_eq.mpr rfl] at h
    simp only[Option.some.injEq] at h
    rw[←h];rfl
  ·first|refine itn e ?_|rw[if_neg e]
   rw[beq_eq_false_iff_ne.mpr fun x=>e x.symm] at h
   obtain⟨i,h1,h2,h3,h4⟩:=mm hn.2 h
   refine⟨i+1,by rw[h1];rfl,fun v=>?_,?_,h4⟩
   ·show ent w.params nt p::(l.map (ent w.params nt)).modify i _=_
    rw[h2 v]
    show _=((if p.1=k then(k,v) else p)::G9 l k v).map (ent w.params nt)
    rw[if_neg e];rfl
   ·show ent w.params nt p::(l.map (ent w.params nt)).eraseIdx i=_
    rw[h3]
    unfold ld
    rw[List.filter_cons_of_pos (by simpa using e)];rfl
theorem jp7{v₀:Value}(hl:kvs.length≤sizeLine)(hnd:(kvs.map (·.1)).Nodup)(ho:s.heap.get? D=some (dO w.params nt kvs ep))(hn:kvs.lookup k=some v₀)
  (h:∀h',h'.get? D=some (dO w.params nt (ld kvs k) (ep+1))→Heap.SameBut D s.heap h'→R (.ok (.ret .none)) { s with heap:=h',toks:=s.toks+1 }) :
  codeAny (model PG w) A (.call (.builtin "dict.__delitem__") ⟨[.ref D,nmV nt k],[]⟩) R s:=by
 refine bf (S:=fun _ R s'=>s'=s∧∀h',h'.get? D=some (dO w.params nt (ld kvs k) (ep+1))→Heap.SameBut D s.heap h'→R (.ok (.ret .none)) { s with heap:=h',toks:=s.toks+1 })
  F.slot_dict_delitem (dk ho).typeIs F.entry_dict_delitem (F.args_dict_delitem_2 _ _) (.of_wp fun A R s' ⟨e,h⟩=>?_) ⟨rfl,h⟩
 subst e
 unfold Builtin.«dict.__delitem__»
 refine wpAny_bind ?_
 unfold Builtin.Dict.dictSlotArgs
 refine wpAny_bind (wpAny_notOrdered_dict (dk ho).typeIs ?_)
 show wpAny _ _ (pure (Value.ref D,nmV nt k)) _ _ s'
 refine wpAny_pure ?_
 show wpAny _ _ (Builtin.Dict.takeOut D (nmV nt k)>>=_) _ _ s'
 refine wpAny_bind ?_
 unfold Builtin.Dict.takeOut
 try with_reducible refine wpAny_holding ?_
 refine wpAny_bind ((strKind PG w).pyHash gu ?_)
 refine wpAny_bind (wpAny_dictFind_of (s:={ s' with toks:=s'.toks+1 }) gu ho rfl im ?_)
 obtain⟨i,h1,-,h3,h4⟩:=mm (w:=w) (nt:=nt) hnd hn
 rw[List.findIdx?_toArray,h1]
 refine wpAny_bind (wpAny_dictEntries (s:={ s' with toks:=s'.toks+1 }) ho rfl ?_)
 rw[List.getElem?_toArray,h4]
 refine wpAny_bind (wpAny_updateDictKeys (hz:=by simpa using hl) (s:={ s' with toks:=s'.toks+1 }) ho rfl (wpAny_pure ?_))
 refine wpAny_bind (wpAny_letGo (wpAny_pure ⟨.none,rfl,h _ ?_ (Heap.SameBut.update ..)⟩))
 rw[Heap.get?_update_self _ ho rfl]
 simp only[dO,Obj.mapDictKeys,List.eraseIdxIfInBounds_toArray,h3]
end
noncomputable abbrev rv(v:Value):Result:=.ok (.ret v)
noncomputable def wf(w:World)(a b c:Bool):World:=((w.withFollow "set-order" a).withFollow "comprehension-iter-twice" b).withFollow "special-get-raises" c
noncomputable def lO(xs:List Value)(ep:Nat):Obj:=⟨.type "list",none,.seq ⟨xs⟩ ep,#[]⟩
noncomputable def bp{α:Type}(n:Int)(a b c:α):α:=if n.fmod 3=0 then a else if n.fmod 3=1 then b else c
theorem jd3(n:Int):n.fmod 3=0∨n.fmod 3=1∨n.fmod 3=2:=by
 have h1:=Int.fmod_nonneg_of_pos n (b:=3) (by omega)
 have h2:=Int.fmod_lt_of_pos n (b:=3) (by omega)
 omega
section
variable{w:World}{A:Around}{R:Result→Shared→Prop}{s:Shared}{l:Addr}{xs:List Value}{ep:Nat}
theorem jq6{a b:Int}{t u:Nat}(h:R (rv (.bool (decide (a<b)))) s):codeAny (model PG w) A (.call (.builtin "int.__lt__") ⟨[.int a t,.int b u],[]⟩) R s:=
 bf F.slot_int_lt rfl F.entry_int_lt (F.args_int_lt_2 _ _) ((gives_int_lt a b t u).meets.inModel PG w) h
theorem jq7{a b:Int}{t u:Nat}(h:R (rv (.bool (decide (a>b)))) s):codeAny (model PG w) A (.call (.builtin "int.__gt__") ⟨[.int a t,.int b u],[]⟩) R s:=
 bf F.slot_int_gt rfl F.entry_int_gt (F.args_int_gt_2 _ _) ((gives_int_gt a b t u).meets.inModel PG w) h
theorem jpv{a b:Int}{t u:Nat}(h:R (rv (.bool (a==b))) s):codeAny (model PG w) A (.call (.builtin "int.__eq__") ⟨[.int a t,.int b u],[]⟩) R s:=
 bf F.slot_int_eq rfl F.entry_int_eq (F.args_int_eq_2 _ _) ((gives_int_eq a b t u).meets.inModel PG w) h
theorem je(ho:s.heap.get? l=some (lO xs ep)):s.TypeIs (.ref l) "list" := ⟨_,ho,rfl⟩
theorem si{k:Int}{t:Nat}{x:Value}(ho:s.heap.get? l=some (lO xs ep))(h0:0≤k)(hl:xs.length<1000)(hx:xs[k.toNat]?=some x)(h:R (rv x) s) :
  codeAny (model PG w) A (.call (.builtin "list.__getitem__") ⟨[.ref l,.int k t],[]⟩) R s:=by
 refine bf (S:=fun _ R s'=>s'=s∧R (rv x) s) F.slot_list_getitem (je ho) F.entry_list_getitem (F.args_list_getitem_2 _ _) (.of_wp fun A R s' ⟨e,h⟩=>?_) ⟨rfl,h⟩
 subst e
 have hk:k.toNat<xs.length:=(List.getElem?_eq_some_iff.mp hx).1
 show wpAny _ _ (Builtin.List.listSubscript? (.int k t)>>=_) _ _ s'
 refine wpAny_bind (wpAny_listSubscript_int (fitsIndex_of h0 (by omega)) ?_)
 obtain⟨j,rfl⟩:=Int.eq_ofNat_of_zero_le h0
 have hx':(⟨xs⟩:Array Value)[j]?=some x:=by rw[List.getElem?_toArray];exact hx
 show wpAny _ _ ((seqItemAt l j>>=fun r=>pure (r.map (j,·)))>>=_) _ _ s'
 refine wpAny_bind (wpAny_bind (wpAny_seqItemAt ho rfl (wpAny_pure ?_)))
 rw[hx']
 first
  |exact wpAny_bind (wpAny_pure (wpAny_pure ⟨x,rfl,h⟩))
  |exact wpAny_pure ⟨x,rfl,h⟩
theorem jlt{t:Nat}{x:Value}(ho:s.heap.get? l=some (lO (xs++[x]) ep))(h:R (rv x) s) :
  codeAny (model PG w) A (.call (.builtin "list.__getitem__") ⟨[.ref l,.int (-1) t],[]⟩) R s:=by
 refine bf (S:=fun _ R s'=>s'=s∧R (rv x) s) F.slot_list_getitem (je ho) F.entry_list_getitem (F.args_list_getitem_2 _ _) (.of_wp fun A R s' ⟨e,h⟩=>?_) ⟨rfl,h⟩
 subst e
 show wpAny _ _ (Builtin.List.listSubscript? (.int (-1) t)>>=_) _ _ s'
 refine wpAny_bind (wpAny_listSubscript_int (by decide) ?_)
 have hidx:=seqIndex_neg (k:=-1) (n:=(⟨xs++[x]⟩:Array Value).size) (by omega) (by simp;omega)
 show wpAny _ _ ((Builtin.List.listItems (.ref l)>>=fun ys=>pure ((seqIndex? (-1) ys.size).bind fun i=>ys[i]?.map (i,·)))>>=_) _ _ s'
 refine wpAny_bind (wpAny_bind ?_)
 show wpAny _ _ (seqItems? (.ref l)>>=_) _ _ s'
 refine wpAny_bind (wpAny_seqItems ho rfl (wpAny_pure (wpAny_pure ?_)))
 rw[hidx]
 have hx:(⟨xs++[x]⟩:Array Value)[((-1:Int)+((⟨xs++[x]⟩:Array Value).size:Int)).toNat]?=some x:=by
  have:((-1:Int)+((⟨xs++[x]⟩:Array Value).size:Int)).toNat=xs.length:=by simp;omega
  rw[this,List.getElem?_toArray];simp
 simp only[Option.bind_some,hx,Option.map_some]
 first
  |exact wpAny_bind (wpAny_pure (wpAny_pure ⟨x,rfl,h⟩))
  |exact wpAny_pure ⟨x,rfl,h⟩
theorem sj{x:Value}(ho:s.heap.get? l=some (lO xs ep))(hl:xs.length<1000)
  (h:∀h',h'.get? l=some (lO (xs++[x]) (ep+1))→Heap.SameBut l s.heap h'→R (rv .none) { s with heap:=h' }) :
  codeAny (model PG w) A (.call (.builtin "list.append") ⟨[.ref l,x],[]⟩) R s:=by
 refine bf (S:=fun _ R s'=>s'=s∧∀h',h'.get? l=some (lO (xs++[x]) (ep+1))→Heap.SameBut l s.heap h'→R (rv .none) { s with heap:=h' })
  F.slot_list_append (je ho) F.entry_list_append (F.args_list_append_2 _ _) (.of_wp fun A R s' ⟨e,h⟩=>?_) ⟨rfl,h⟩
 subst e
 show wpAny _ _ (updateSeq l (·.push x)>>=fun _=>ret .none) _ _ s'
 refine wpAny_bind (wpAny_updateSeq ho rfl (wpAny_pure ⟨.none,rfl,h _ ?_ (Heap.SameBut.update ..)⟩) (by show xs.length≤_;unfold sizeLine;omega) (by simp;unfold sizeLine;omega))
 rw[Heap.get?_update_self _ ho rfl]
 simp[lO,Obj.mapSeq]
theorem jpl{x:Value}(ho:s.heap.get? l=some (lO (xs++[x]) ep))(hl:xs.length<1000)
  (h:∀h',h'.get? l=some (lO xs (ep+1))→Heap.SameBut l s.heap h'→R (rv x) { s with heap:=h' }) :
  codeAny (model PG w) A (.call (.builtin "list.pop") ⟨[.ref l],[]⟩) R s:=by
 refine bf (S:=fun _ R s'=>s'=s∧∀h',h'.get? l=some (lO xs (ep+1))→Heap.SameBut l s.heap h'→R (rv x) { s with heap:=h' })
  F.slot_list_pop (je ho) F.entry_list_pop (F.args_list_pop_1 _) (.of_wp fun A R s' ⟨e,h⟩=>?_) ⟨rfl,h⟩
 subst e
 have hidx:=seqIndex_neg (k:=-1) (n:=(⟨xs++[x]⟩:Array Value).size) (by omega) (by simp;omega)
 show wpAny _ _ (Builtin.List.listItems (.ref l)>>=_) _ _ s'
 refine wpAny_bind ?_
 show wpAny _ _ (seqItems? (.ref l)>>=_) _ _ s'
 refine wpAny_bind (wpAny_seqItems ho rfl (wpAny_pure ?_))
 rw[hidx]
 have hx:(⟨xs++[x]⟩:Array Value)[((-1:Int)+((⟨xs++[x]⟩:Array Value).size:Int)).toNat]?=some x:=by
  have:((-1:Int)+((⟨xs++[x]⟩:Array Value).size:Int)).toNat=xs.length:=by simp;omega
  rw[this,List.getElem?_toArray];simp
 have he:(⟨xs++[x]⟩:Array Value).isEmpty=false:=by simp
 rw[he]
 simp only[Option.bind_some,hx,Option.map_some]
 show wpAny _ _ (updateSeq l (·.eraseIdxIfInBounds _)>>=fun _=>ret x) _ _ s'
 refine wpAny_bind (wpAny_updateSeq ho rfl (wpAny_pure ⟨x,rfl,h _ ?_ (Heap.SameBut.update ..)⟩) (by show(xs++[x]).length≤_;rw[List.length_append];unfold sizeLine;simp;exact(qr (k:=16776215) (qv hl))) ?_)
 ·rw[Heap.get?_update_self _ ho rfl]
  have e1:((-1:Int)+((⟨xs++[x]⟩:Array Value).size:Int)).toNat=xs.length:=by simp;omega
  rw[e1]
  have e2:(⟨xs++[x]⟩:Array Value).eraseIdxIfInBounds xs.length=⟨xs⟩:=by
   simp[List.eraseIdxIfInBounds_toArray,List.eraseIdx_append_of_length_le]
  simp only[lO,Obj.mapSeq,e2]
  simp
 ·have:∀(a:Array Value) (i:Nat),(a.eraseIdxIfInBounds i).size≤a.size:=fun a i=>by
   obtain⟨l⟩:=a
   simp only[List.eraseIdxIfInBounds_toArray,List.size_toArray]
   exact List.length_eraseIdx_le ..
  refine Nat.le_trans (this _ _) ?_
  show(xs++[x]).length≤_
  rw[List.length_append];unfold sizeLine;simp;exact(qr (k:=16776216) (qv hl))
end
theorem bn{V:SV}{h₀:Heap}{code:Code}{d u:Nat}{hnd:Option Value}{pre:List (Nat×Obj)}{i tk toks:Nat}{res:Result}
  (H:∀(A:Around) (s:Shared) (R:Result→Shared→Prop),A.depth≤d→A.units≤u→ma V h₀ s.heap→(∀p∈pre,s.heap.get? (aj V.pre V.N p.1)=some p.2)→R res { s with toks:=s.toks+toks }→codeAny (model PG V.w) A code R s) :
  XOk V h₀ ⟨code,d,u,hnd,pre,i,tk,res,[],[],toks⟩:=fun A s hh hd hu hs ht hkt hk hpre=>
 H A s _ hd hu hk hpre ⟨rfl,s.heap,rfl,rfl,(fun p hp=>nomatch hp),(fun k o e=>nomatch e),fun b o e _=>e⟩
theorem gd{V:SV}{h₀:Heap}{code:Code}{d u:Nat}{hnd:Option Value}{pre:List (Nat×Obj)}{i tk toks:Nat}{res:Result}{j:Nat}{o':Obj}
  (H:∀(A:Around) (s:Shared) (R:Result→Shared→Prop),A.depth≤d→A.units≤u→ma V h₀ s.heap→(∀p∈pre,s.heap.get? (aj V.pre V.N p.1)=some p.2) →
   (∀h',h'.get? (aj V.pre V.N j)=some o'→Heap.SameBut (aj V.pre V.N j) s.heap h'→R res { s with heap:=h',toks:=s.toks+toks })→codeAny (model PG V.w) A code R s) :
  XOk V h₀ ⟨code,d,u,hnd,pre,i,tk,res,[(j,o')],[],toks⟩:=fun A s hh hd hu hs ht hkt hk hpre=>
 H A s _ hd hu hk hpre fun h' h1 h2=>⟨rfl,h',rfl,by rw[h2.1];rfl,(fun p hp=>by
  rcases List.mem_singleton.mp hp with rfl
  exact h1),(fun k o e=>nomatch e),fun b o e hb=>(h2.2 b (hb _ (.head _))).trans e⟩
structure Grow(h h':Heap)(n:Nat):Prop where
 size:h'.objs.size=h.objs.size+n
 keep:∀b o,h.get? b=some o→h'.get? b=some o
noncomputable def w0:Nat→List (Nat×Obj)→List (Nat×Obj)
 |_,[]=>[]
 |n,p::l=>(n,p.2)::w0 (n+1) l
theorem ss:∀{l:List (Nat×Obj)} {n j:Nat} {p:Nat×Obj},l[j]?=some p→(n+j,p.2)∈w0 n l
 |[],_,_,_,h=>nomatch h
 |q::l,n,0,p,h=>by cases h;exact .head _
 |q::l,n,j+1,p,h=>by
  have:=ss (l:=l) (n:=n+1) (j:=j) h
  rw[show n+(j+1)=n+1+j by omega]
  exact .tail _ this
section
variable{w:World}{pre:List (Nat×Obj)}{N t₀:Nat}{s:Shared}{h':Heap}
theorem sp(P:Pre w pre N t₀ s){ks:List (Nat×Obj)}(h2:∀p∈ks,h'.get? (aj (pre.map (·.1)) N p.1)=some p.2)(h3:ma (mkV w pre N t₀) s.heap h')(chg:List Addr)
  (hc:∀p∈w0 0 pre,p∈ks∨aj (pre.map (·.1)) N p.1∈chg):∀b o,s.heap.get? b=some o→b∉chg→h'.get? b=some o:=fun b o e hb=>by
 by_cases hm:b∈pre.map (·.1)
 ·obtain⟨p,hp,rfl⟩:=List.mem_map.mp hm
  obtain⟨j,hj,hpj⟩:=List.mem_iff_getElem.mp hp
  have h1:pre[j]?=some p:=by rw[List.getElem?_eq_getElem hj,hpj]
  have h4:=ss (n:=0) h1
  rw[Nat.zero_add] at h4
  have h5:aj (pre.map (·.1)) N j=p.1:=by
   rw[bh _ _ _ (by rwa [List.length_map]),List.getElem_map,hpj]
  have h6:=P.has p hp
  rw[e] at h6
  cases h6
  rcases hc _ h4 with h|h
  ·have:=h2 _ h
   rw[h5] at this;exact this
  ·rw[h5] at h;exact absurd h hb
 ·exact h3 b o e hm
theorem N4{i:Nat}(P:Pre w pre N t₀ s)(h1:h'.objs.size=N+i)(h2:∀p∈w0 0 pre,h'.get? (aj (pre.map (·.1)) N p.1)=some p.2)(h3:ma (mkV w pre N t₀) s.heap h'):Grow s.heap h' i:=
 ⟨by rw[h1,P.size],fun b o e=>sp P h2 h3 [] (fun p hp=>.inl hp) b o e (fun h=>nomatch h)⟩
theorem ja2(P:Pre w pre N t₀ s)(n:Nat):(ae s).at h' (t₀+n)={ s with heap:=h',toks:=s.toks+n }:=by rw[P.toks];rfl
end
noncomputable def sO(Sd:Addr):Obj:=⟨.ref 202,some Sd,.plain,#[]⟩
noncomputable def sD(P:Params)(q:Nat→Nat)(D:Addr)(r:Value)(po nf:Int)(t1 t2:Nat):Obj:=⟨.type "dict",none,.dict #[⟨PyData.keyHash P (sn "_node2info"),.str (sn "_node2info") (q 0),.ref D⟩,⟨PyData.keyHash P (sn "_ready_nodes"),.str (sn "_ready_nodes") (q 1),r⟩,⟨PyData.keyHash P (sn "_npassedout"),.str (sn "_npassedout") (q 2),.int po t1⟩,⟨PyData.keyHash P (sn "_nfinished"),.str (sn "_nfinished") (q 3),.int nf t2⟩] 4,#[]⟩
noncomputable def br(v:Value)(ad:Addr)(np:Int)(tn:Nat)(l:Addr):Obj:=⟨.ref 105,some ad,.plain,#[some v,some (.int np tn),some (.ref l)]⟩
structure Room(A:Around)(d u:Nat):Prop where
 h:A.handled=none
 d:A.depth≤d
 u:A.units≤u
theorem Room.cx{A:Around}{d u:Nat}(r:Room A d u):Cx.Ok ⟨none,d,u,A.frames⟩ A:=⟨r.h,r.d,r.u,rfl⟩
section
variable{w:World}{a b c:Bool}{nt:Fin 8→Nat}{q:Nat→Nat}{S Sd D:Addr}{kvs:KV}{ep:Nat}{r:Value}{po nf:Int}{t1 t2:Nat}{k:Fin 8}{N t₀:Nat}
noncomputable def uw:List Nat:=dH 26 5799609585527103559291367496607930219003658496
noncomputable def ux(X0:XSpec):List CH:=[.f,.p,.p,.x X0]
noncomputable def dj(w:World)(a b c:Bool)(nt:Fin 8→Nat)(q:Nat→Nat)(S Sd D:Addr)(kvs:KV)(ep:Nat)(r:Value)(po nf:Int)(t1 t2:Nat):List (Nat×Obj):=
 [(S,sO Sd),(Sd,sD (wf w a b c).params q D r po nf t1 t2),(D,dO (wf w a b c).params nt kvs ep)]
noncomputable def N7(P:Params)(nt:Fin 8→Nat)(D:Addr)(kvs:KV)(ep:Nat)(k:Fin 8)(v:Value):XSpec:=
 ⟨.call (.builtin "dict.get") ⟨[.ref D,nmV nt k],[]⟩,980,9800,none,[(2,dO P nt kvs ep)],1,3,rv v,[],[],1⟩
noncomputable def ut(gpre:List (Nat×Obj))(P:Params)(nt:Fin 8→Nat)(D:Addr)(kvs:KV)(ep:Nat)(k:Fin 8)(v:Addr):Script:=
 .fin uw (ux (N7 P nt D kvs ep k (.ref v))) ⟨.ok (.done (.ret (.ref v))),w0 0 gpre,1,5⟩
theorem uu(f:Option (List Env))(v:Addr):c9 400 (wf w a b c) N t₀ (dj w a b c nt q S Sd D kvs ep r po nf t1 t2) (ut (dj w a b c nt q S Sd D kvs ep r po nf t1 t2) (wf w a b c).params nt D kvs ep k v) ⟨none,900,9000,f⟩ (.call (.ref 145) ⟨[.ref S,nmV nt k],[]⟩):=by kernel_rfl
theorem sv{V:SV}{h₀:Heap}{v:Value}(hw:V.w=wf w a b c)(hp:aj V.pre V.N 2=D)(hD:D≠1)(hv:(kvs.lookup k).getD .none=v):XOk V h₀ (N7 (wf w a b c).params nt D kvs ep k v):=
 bn fun A s R _ _ _ hpre hR=>by
  rw[hw]
  have h1:=hpre (2,_) (.head _)
  rw[hp] at h1
  exact jj8 hD h1 (by rw[hv];exact hR)
theorem j4{A:Around}{R:Result→Shared→Prop}{s:Shared}{v:Addr}(P:Pre (wf w a b c) (dj w a b c nt q S Sd D kvs ep r po nf t1 t2) N t₀ s)(hA:Room A 900 9000)(hD:D≠1)(hv:kvs.lookup k=some (.ref v))
  (h:∀h',Grow s.heap h' 1→R (rv (.ref v)) { s with heap:=h',toks:=s.toks+5 }):codeAny (model PG (wf w a b c)) A (.call (.ref 145) ⟨[.ref S,nmV nt k],[]⟩) R s:=by
 refine bu (modA:=fun _=>False) (uu A.frames v) P hA.cx ⟨⟨sv rfl rfl hD (by rw[hv];rfl),zt⟩,fun h' h1 h2 h3 _=>?_⟩
 have:=h h' (N4 P h1 h2 h3)
 rw[←ja2 P] at this
 exact this
noncomputable def u5:List Nat:=dH 168 174162502795392692693404016073584316619407917491392391814568994145824820930606194414859564200603824348766438320760460904619474837663708622888875996237805944902117222688457299821132559900675719976259335374166643318209443107775597646004660941112481566753754619467893335799186042949958974003430848428261632
noncomputable def u6(X0 X1:XSpec):List CH:=[.f,.p,.p,.x X0,.p,.p,.p,.p,.p,.f,.p,.p,.p,.p,.p,.p,.p,.p,.p,.p,.p,.p,.p,.p,.p,.p,.p,.x X1]
noncomputable def jj5(P:Params)(nt:Fin 8→Nat)(D:Addr)(kvs:KV)(ep:Nat)(k:Fin 8)(v:Addr):XSpec:=
 ⟨.call (.builtin "dict.__setitem__") ⟨[.ref D,nmV nt k,.ref v],[]⟩,980,9800,none,[(2,dO P nt kvs ep)],5,12,rv .none,[(2,dO P nt (kvs++[(k,.ref v)]) (ep+1))],[],1⟩
noncomputable def uy(P:Params)(nt:Fin 8→Nat)(q:Nat→Nat)(S Sd D:Addr)(kvs:KV)(ep:Nat)(r:Value)(po nf:Int)(t1 t2:Nat)(k:Fin 8)(N t₀:Nat):Script:=
 .fin u5 (u6 (N7 P nt D kvs ep k .none) (jj5 P nt D kvs ep k (N+2)))
  ⟨.ok (.done (.ret (.ref (N+2)))),[(0,sO Sd),(1,sD P q D r po nf t1 t2),(2,dO P nt (kvs++[(k,.ref (N+2))]) (ep+1)),(5,br (nmV nt k) (N+1) 0 (t₀+8) (N+4)),(7,lO [] 0)],5,14⟩
theorem uz(f:Option (List Env)):c9 400 (wf w a b c) N t₀ (dj w a b c nt q S Sd D kvs ep r po nf t1 t2) (uy (wf w a b c).params nt q S Sd D kvs ep r po nf t1 t2 k N t₀) ⟨none,900,9000,f⟩ (.call (.ref 145) ⟨[.ref S,nmV nt k],[]⟩):=by kernel_rfl
theorem N5{V:SV}{h₀:Heap}{v:Addr}(hw:V.w=wf w a b c)(hp:aj V.pre V.N 2=D)(hv:kvs.lookup k=none)(hl:kvs.length<1000):XOk V h₀ (jj5 (wf w a b c).params nt D kvs ep k v):=
 gd fun A s R _ _ _ hpre hR=>by
  rw[hw]
  have h1:=hpre (2,_) (.head _)
  rw[hp] at h1 hR
  exact my (by unfold sizeLine;omega) h1 hv fun h' h2 h3=>hR h' h2 h3
theorem sw{A:Around}{R:Result→Shared→Prop}{s:Shared}(P:Pre (wf w a b c) (dj w a b c nt q S Sd D kvs ep r po nf t1 t2) N t₀ s)(hA:Room A 900 9000)(hD:D≠1)(hv:kvs.lookup k=none)(hl:kvs.length<1000)
  (h:∀h',h'.objs.size=N+5→(∀b o,s.heap.get? b=some o→b≠D→h'.get? b=some o)→h'.get? D=some (dO (wf w a b c).params nt (kvs++[(k,.ref (N+2))]) (ep+1)) →
   h'.get? (N+2)=some (br (nmV nt k) (N+1) 0 (t₀+8) (N+4))→h'.get? (N+4)=some (lO [] 0)→R (rv (.ref (N+2))) { s with heap:=h',toks:=s.toks+14 }) :
  codeAny (model PG (wf w a b c)) A (.call (.ref 145) ⟨[.ref S,nmV nt k],[]⟩) R s:=by
 refine bu (modA:=fun _=>False) (uz A.frames) P hA.cx ⟨⟨sv rfl rfl hD (by rw[hv];rfl),N5 rfl rfl hv hl,zt⟩,fun h' h1 h2 h3 _=>?_⟩
 have:=h h' h1 (fun b o e hb=>sp P h2 h3 [D] (by
   intro p hp
   simp only[w0,dj,List.mem_cons,List.not_mem_nil,or_false] at hp
   rcases hp with rfl|rfl|rfl
   ·exact .inl (.head _)
   ·exact .inl (.tail _ (.head _))
   ·exact .inr (.head _)) b o e (by simpa using hb)) (h2 _ (.tail _ (.tail _ (.head _)))) (h2 _ (.tail _ (.tail _ (.tail _ (.head _))))) (h2 _ (.tail _ (.tail _ (.tail _ (.tail _ (.head _))))))
 rw[←ja2 P] at this
 exact this
end
structure Nd where
 a:Nat
 ad:Nat
 l:Nat
 tn:Nat
 le:Nat
noncomputable def aq(o:List (Fin 8))(nd:Fin 8→Nd):KV:=o.map fun k=>(k,.ref (nd k).a)
theorem cg{o:List (Fin 8)}{nd:Fin 8→Nd}{k:Fin 8}:(aq o nd).lookup k=if k∈o then some (.ref (nd k).a) else none:=by
 induction o with
 |nil=>rfl
 |cons j o ih=>
  show List.lookup k ((j,Value.ref (nd j).a)::aq o nd)=_
  rw[List.lookup_cons,ih]
  by_cases h:k=j
  ·subst h;simp
  ·rw[beq_eq_false_iff_ne.mpr h];simp[h]
noncomputable def upd{α:Type}(f:Fin 8→α)(k:Fin 8)(v:α):Fin 8→α:=fun j=>if j=k then v else f j
theorem a9{α:Type}{f:Fin 8→α}{k:Fin 8}{v:α}:upd f k v k=v:=if_pos rfl
theorem ba{α:Type}{f:Fin 8→α}{k j:Fin 8}{v:α}(h:j≠k):upd f k v j=f j:=if_neg h
noncomputable def ins(o:List (Fin 8))(k:Fin 8):List (Fin 8):=if k∈o then o else o++[k]
structure Reg(P:Params)(nt:Fin 8→Nat)(lo:Nat)(D:Nat)(o:List (Fin 8))(np:Fin 8→Int)(su:Fin 8→List (Fin 8))(nd:Fin 8→Nd)(ep:Nat)(h:Heap):Prop where
 d:h.get? D=some (dO P nt (aq o nd) ep)
 nodup:o.Nodup
 i:∀k∈o,h.get? (nd k).a=some (br (nmV nt k) (nd k).ad (np k) (nd k).tn (nd k).l)
 l:∀k∈o,h.get? (nd k).l=some (lO ((su k).map (nmV nt)) (nd k).le)
 inj:∀j∈o,∀k∈o,(nd j).l=(nd k).l→j=k
 off:∀k∈o,lo≤(nd k).a∧lo≤(nd k).l
 offD:257≤D
 ltD:D<lo
 size:lo≤h.objs.size
 np0:∀k,k∉o→np k=0
 su0:∀k,k∉o→su k=[]
 epl:ep=o.length
noncomputable def InReg(D:Nat)(o:List (Fin 8))(nd:Fin 8→Nd)(b:Addr):Prop:=b=D∨∃k∈o,b=(nd k).a∨b=(nd k).l
theorem ins_mem{o:List (Fin 8)}{k j:Fin 8}:j∈ins o k↔j∈o∨j=k:=by
 unfold ins
 split
 ·rename_i h
  exact⟨.inl,fun q=>q.elim id fun e=>e ▸ h⟩
 ·simp
theorem il{o:List (Fin 8)}{k:Fin 8}(h:o.Nodup):(ins o k).Nodup:=by
 unfold ins
 split
 ·exact h
 ·rename_i hk
  refine List.nodup_append.mpr ⟨h,by simp,fun a ha b hb e=>?_⟩
  rw[List.mem_singleton.mp hb] at e
  exact hk (e ▸ ha)
theorem nne{a b:Nat}(h:a<b∨b<a):@Ne Addr a b:=fun e=>by have e':@Eq Nat a b:=e;exact(h.elim (fun h=>(qf (qy h e))) fun h=>(qf (qx h e)))
theorem uj{a b:Nat}(h:a≠b):[a,b].Nodup:=List.Pairwise.cons (fun x hx=>by rw[List.mem_singleton.mp hx];exact h) (List.pairwise_singleton ..)
theorem A5:∀(n:Nat) (l:List Nat),l.Nodup→(∀x∈l,x<n)→l.length≤n
 |0,[],_,_=>Nat.le_refl _
 |0,x::_,_,h=>absurd (h x (.head _)) (Nat.not_lt_zero _)
 |n+1,l,hn,h=>by
  have h1:=A5 n (l.erase n) (hn.erase n) fun x hx=>by
   have h2:=h x (List.mem_of_mem_erase hx)
   have h3:x≠n:=fun e=>by
    subst e
    exact(List.Nodup.not_mem_erase hn) hx
   omega
  have h4:l.length≤(l.erase n).length+1:=by
   rw[List.length_erase];split<;>omega
  exact(qa (k:=1) h4 h1)
theorem fv{o:List (Fin 8)}(h:o.Nodup):o.length≤8:=by
 have:=A5 8 (o.map (·.val)) (List.Pairwise.map _ (fun a b h e=>h (Fin.ext e)) h) (fun x hx=>by
  obtain⟨y,_,rfl⟩:=List.mem_map.mp hx
  exact y.isLt)
 rwa [List.length_map] at this
structure GI where
 nd:Nd
 ep:Nat
 size:Nat
 toks:Nat
structure GIRel(o:List (Fin 8))(nd:Fin 8→Nd)(ep:Nat)(k:Fin 8)(M T:Nat)(g:GI):Prop where
 old:k∈o→g=⟨nd k,ep,M+1,T+5⟩
 new:k∉o→g=⟨⟨M+2,M+1,M+4,T+8,0⟩,ep+1,M+5,T+14⟩
noncomputable def giC(P:Params)(nt:Fin 8→Nat)(q:Nat→Nat)(S Sd D:Nat)(o:List (Fin 8))(np:Fin 8→Int)(su:Fin 8→List (Fin 8))(nd:Fin 8→Nd)(ep:Nat)(r:Value)(po nf:Int)(t1 t2:Nat)(k:Fin 8)(i tk M T:Nat):CallSpec where
 Out:=GI
 code:=.call (.ref 145) ⟨[.ref S,nmV nt k],[]⟩
 d:=900
 u:=9000
 pre:=[(0,sO Sd),(1,sD P q D r po nf t1 t2),(2,dO P nt (aq o nd) ep)]
 i:=i
 tk:=tk
 res g:=rv (.ref g.nd.a)
 upd g:=[(2,dO P nt (aq (ins o k) (upd nd k g.nd)) g.ep)]
 new g:=[(g.nd.a,br (nmV nt k) g.nd.ad (np k) g.nd.tn g.nd.l),(g.nd.l,lO ((su k).map (nmV nt)) g.nd.le)]
 size g:=g.size
 toks g:=g.toks
 rel g:=GIRel o nd ep k M T g
theorem wt{o:List (Fin 8)}{nd:Fin 8→Nd}{k:Fin 8}{n:Nd}(h:k∉o):aq o (upd nd k n)=aq o nd:=by
 unfold aq
 refine List.map_congr_left fun j hj=>?_
 have:j≠k:=fun e=>h (e ▸ hj)
 rw[ba this]
theorem zu{nd:Fin 8→Nd}{k:Fin 8}:upd nd k (nd k)=nd:=by
 funext j
 unfold upd
 split
 ·rename_i h;rw[h]
 ·rfl
section
variable{w:World}{a b c:Bool}{nt:Fin 8→Nat}{q:Nat→Nat}{S Sd D:Nat}{o:List (Fin 8)}{np:Fin 8→Int}{su:Fin 8→List (Fin 8)}{nd:Fin 8→Nd}{ep:Nat}{r:Value}{po nf:Int}{t1 t2:Nat}{k:Fin 8}{N t₀:Nat}{V:SV}{h₀:Heap}{i tk lo:Nat}
theorem kn(hw:V.w=wf w a b c)(hkt:V.kt=ktB (wf w a b c).params)(hN:257≤V.N)(e0:aj V.pre V.N 0=S)(e1:aj V.pre V.N 1=Sd)(e2:aj V.pre V.N 2=D)(hnd:[S,Sd,D].Nodup)(hoff:257≤S∧257≤Sd)
  (hn:o.Nodup) (hoD:257≤D) (hi:k∈o→h₀.get? (nd k).a=some (br (nmV nt k) (nd k).ad (np k) (nd k).tn (nd k).l)∧h₀.get? (nd k).l=some (lO ((su k).map (nmV nt)) (nd k).le)∧257≤(nd k).a∧257≤(nd k).l∧(nd k).a<V.N∧(nd k).l<V.N∧(nd k).a∉V.pre∧(nd k).l∉V.pre)
  (hz:k∉o→np k=0∧su k=[]) :
  b9 V h₀ (giC (wf w a b c).params nt q S Sd D o np su nd ep r po nf t1 t2 k i tk (V.N+i) (V.t₀+tk)):=by
 intro A s hh hf hd hu hs ht hb hkeep hpre
 have hs':s.heap.objs.size=V.N+i:=hs
 have ht':s.toks=V.t₀+tk:=ht
 have hS:=hpre (0,_) (.head _)
 have hSd:=hpre (1,_) (.tail _ (.head _))
 have hD:=hpre (2,_) (.tail _ (.tail _ (.head _)))
 rw[e0] at hS
 rw[e1] at hSd
 rw[e2] at hD
 rw[hkt] at hb
 have P:Pre (wf w a b c) (dj w a b c nt q S Sd D (aq o nd) ep r po nf t1 t2) (V.N+i) (V.t₀+tk) s:=
  ⟨⟨hb⟩,hs,ht,Nat.le_trans hN (Nat.le_add_right ..),HasL.mem ⟨hS,hSd,hD,zt⟩,(f0 hoff.1 hoff.2 hoD).mem,hnd⟩
 have hD1:D≠1:=fun e=>by rw[e] at hoD;exact absurd hoD (by decide)
 have hroom:Room A 900 9000:=⟨hh,hd,hu⟩
 have hlen:(aq o nd).length<1000:=by
  have:=fv hn
  unfold aq;rw[List.length_map];exact(qr (k:=991) (qs 1 this))
 rw[hw]
 by_cases hm:k∈o
 ·refine j4 P hroom hD1 (v:=(nd k).a) (by rw[cg,if_pos hm]) fun h' G=>?_
  refine⟨⟨nd k,ep,V.N+i+1,V.t₀+tk+5⟩,⟨fun _=>rfl,fun h=>absurd hm h⟩,rfl,h',congrArg (fun t=>({ s with heap:=h',toks:=t+5 }:Shared)) ht',zt,G.size.trans (congrArg (·+1) hs'),by rw[hs'];exact Nat.le_add_right _ _,?_,?_,?_,fun b o' e _ _=>G.keep b o' e⟩
  ·intro p hp
   rcases List.mem_singleton.mp hp with rfl
   show h'.get? (aj V.pre V.N 2)=some (dO _ _ (aq (ins o k) (upd nd k (nd k))) ep)
   rw[e2,zu]
   unfold ins
   first|refine itp hm ?_|rw[if_pos hm]
   exact G.keep _ _ hD
  ·obtain⟨hi,hl,o1,o2,l1,l2,n1,n2⟩:=hi hm
   intro p hp
   simp only[giC,List.mem_cons,List.not_mem_nil,or_false] at hp
   rcases hp with rfl|rfl
   ·exact⟨G.keep _ _ (hkeep _ _ hi n1),.inr ⟨l1,n1,by rw[hkt];exact bv (.inl o1)⟩⟩
   ·exact⟨G.keep _ _ (hkeep _ _ hl n2),.inr ⟨l2,n2,by rw[hkt];exact bv (.inl o2)⟩⟩
  ·show [(nd k).a,(nd k).l].Nodup
   have hne:(nd k).a≠(nd k).l:=fun e=>by
    obtain⟨h1,h2,-⟩:=hi hm
    rw[e,h2] at h1
    cases h1
   exact uj hne
 ·refine sw P hroom hD1 (by rw[cg,if_neg hm]) hlen fun h' g1 g2 g3 g4 g5=>?_
  have hd':dO (wf w a b c).params nt (aq o nd++[(k,.ref (V.N+i+2))]) (ep+1)=dO (wf w a b c).params nt (aq (ins o k) (upd nd k ⟨V.N+i+2,V.N+i+1,V.N+i+4,V.t₀+tk+8,0⟩)) (ep+1):=by
   have:aq (ins o k) (upd nd k ⟨V.N+i+2,V.N+i+1,V.N+i+4,V.t₀+tk+8,0⟩)=aq o nd++[(k,.ref (V.N+i+2))]:=by
    unfold ins
    first|refine itn hm ?_|rw[if_neg hm]
    show List.map _ (o++[k])=_
    rw[List.map_append]
    have e:=wt (nd:=nd) (n:=⟨V.N+i+2,V.N+i+1,V.N+i+4,V.t₀+tk+8,0⟩) hm
    unfold aq at e
    rw[e]
    simp[a9,aq]
   rw[this]
  refine⟨⟨⟨V.N+i+2,V.N+i+1,V.N+i+4,V.t₀+tk+8,0⟩,ep+1,V.N+i+5,V.t₀+tk+14⟩,⟨fun h=>absurd h hm,fun _=>rfl⟩,rfl,h',congrArg (fun t=>({ s with heap:=h',toks:=t+14 }:Shared)) ht',zt,g1,by rw[hs'];exact Nat.le_add_right _ _,?_,?_,?_,fun b o' e hb' _=>g2 b o' e fun q=>hb' (2,_) (.head _) (by rw[e2];exact q)⟩
  ·intro p hp
   rcases List.mem_singleton.mp hp with rfl
   show h'.get? (aj V.pre V.N 2)=_
   rw[e2,←hd']
   exact g3
  ·intro p hp
   simp only[giC,List.mem_cons,List.not_mem_nil,or_false] at hp
   rw[(hz hm).1,(hz hm).2] at hp
   rcases hp with rfl|rfl
   ·exact⟨g4,.inl (Nat.le_add_right _ _)⟩
   ·exact⟨g5,.inl (Nat.le_add_right _ _)⟩
  ·exact uj (a:=V.N+i+2) (b:=V.N+i+4) (by omega)
theorem Reg.ne{P:Params}{h:Heap}{lo:Nat}(H:Reg P nt lo D o np su nd ep h){j:Fin 8}(hj:j∈o){b:Addr}{ob:Obj}(hb:h.get? b=some ob)(h1:ob≠br (nmV nt j) (nd j).ad (np j) (nd j).tn (nd j).l):b≠(nd j).a:=fun e=>by
 rw[e,H.i j hj] at hb
 exact h1 (Option.some.inj hb).symm
theorem Reg.al{P:Params}{h:Heap}{lo:Nat}(H:Reg P nt lo D o np su nd ep h){j k:Fin 8}(hj:j∈o)(hk:k∈o):(nd j).a≠(nd k).l:=fun e=>by
 have h1:=H.i j hj
 rw[e,H.l k hk] at h1
 cases h1
theorem jds{i j:Fin 8}(h:nmV nt i=nmV nt j):i=j:=by
 unfold nmV at h
 injection h with h1 h2
 exact gj h1
theorem Reg.aa{P:Params}{h:Heap}{lo:Nat}(H:Reg P nt lo D o np su nd ep h){j k:Fin 8}(hj:j∈o)(hk:k∈o)(e:(nd j).a=(nd k).a):j=k:=by
 have h1:=H.i j hj
 rw[e,H.i k hk] at h1
 have h2:=congrArg (fun o:Obj=>o.slots[0]?) (Option.some.inj h1)
 have h3:some (some (nmV nt k))=some (some (nmV nt j)):=h2
 exact(jds (Option.some.inj (Option.some.inj h3))).symm
theorem Reg.build{P:Params}{h h':Heap}{lo ep':Nat}{o':List (Fin 8)}{np':Fin 8→Int}{su':Fin 8→List (Fin 8)}{nd':Fin 8→Nd}(H:Reg P nt lo D o np su nd ep h)(hn:o'.Nodup)(hs:h.objs.size≤h'.objs.size)
  (hD:h'.get? D=some (dO P nt (aq o' nd') ep'))
  (hi:∀j∈o',h'.get? (nd' j).a=some (br (nmV nt j) (nd' j).ad (np' j) (nd' j).tn (nd' j).l)∧h'.get? (nd' j).l=some (lO ((su' j).map (nmV nt)) (nd' j).le))
  (ha:∀j∈o',(j∈o∧(nd' j).a=(nd j).a∧(nd' j).l=(nd j).l)∨(h.objs.size≤(nd' j).a∧h.objs.size≤(nd' j).l))
  (hinj:∀i∈o',∀j∈o',h.objs.size≤(nd' i).l→(nd' i).l=(nd' j).l→i=j) (h0:∀j,j∉o'→np' j=0) (h1:∀j,j∉o'→su' j=[]) (hep:ep'=o'.length) :
  Reg P nt lo D o' np' su' nd' ep' h':=by
 have hlt:∀j∈o,(nd j).l<h.objs.size:=fun j hj=>Heap.lt_size (H.l j hj)
 refine⟨hD,hn,fun j hj=>(hi j hj).1,fun j hj=>(hi j hj).2,fun i hi' j hj e=>?_,fun j hj=>?_,H.offD,H.ltD,Nat.le_trans H.size hs,h0,h1,hep⟩
 ·rcases ha i hi' with⟨i1,-,i3⟩|⟨-,i3⟩
  ·rcases ha j hj with⟨j1,-,j3⟩|⟨-,j3⟩
   ·rw[i3,j3] at e;exact H.inj i i1 j j1 e
   ·exact(hinj j hj i hi' j3 e.symm).symm
  ·exact hinj i hi' j hj i3 e
 ·have:=H.size
  rcases ha j hj with⟨j1,j2,j3⟩|⟨j2,j3⟩
  ·rw[j2,j3];exact H.off j j1
  ·exact⟨(qc this j2),(qc this j3)⟩
theorem InReg.build{h:Heap}{o':List (Fin 8)}{nd':Fin 8→Nd}
  (ha:∀j∈o',(j∈o∧(nd' j).a=(nd j).a∧(nd' j).l=(nd j).l)∨(h.objs.size≤(nd' j).a∧h.objs.size≤(nd' j).l)) {b:Nat} (hb:InReg D o' nd' b):InReg D o nd b∨h.objs.size≤b:=by
 rcases hb with hb|⟨j,hj,hb⟩
 ·exact .inl (.inl hb)
 ·rcases ha j hj with⟨j1,j2,j3⟩|⟨j2,j3⟩
  ·rw[j2,j3] at hb;exact .inl (.inr ⟨j,j1,hb⟩)
  ·right;rcases hb with rfl|rfl<;>assumption
theorem GIRel.epl{M T:Nat}{g:GI}(G:GIRel o nd ep k M T g)(h:ep=o.length):g.ep=(ins o k).length:=by
 by_cases hm:k∈o
 ·rw[G.old hm];unfold ins;rw[if_pos hm];exact h
 ·rw[G.new hm];unfold ins;rw[if_neg hm,List.length_append];show ep+1=_;rw[h];rfl
end
structure RegOut(P:Params)(nt:Fin 8→Nat)(lo D:Nat)(o:List (Fin 8))(nd:Fin 8→Nd)(o':List (Fin 8))(np':Fin 8→Int)(su':Fin 8→List (Fin 8))(nd':Fin 8→Nd)(ep':Nat)(h h':Heap):Prop where
 reg:Reg P nt lo D o' np' su' nd' ep' h'
 keep:∀b ob,h.get? b=some ob→¬InReg D o nd b→h'.get? b=some ob
 isnew:∀b,InReg D o' nd' b→InReg D o nd b∨h.objs.size≤b
 size:h.objs.size≤h'.objs.size
section
variable{w:World}{a b c:Bool}{nt:Fin 8→Nat}{q:Nat→Nat}{S Sd D lo:Nat}{o:List (Fin 8)}{np:Fin 8→Int}{su:Fin 8→List (Fin 8)}{nd:Fin 8→Nd}{ep:Nat}{po nf:Int}{t1 t2:Nat}{k k2:Fin 8}{N t₀:Nat}
noncomputable def zn:List Nat:=dH 38 529878178466160434662562025474820405493296855533296440013023891776
noncomputable def zp:List CH:=[.f,.p,.p]
noncomputable def zm:List Nat:=dH 73 112314958696597693887410107211804000378688322310733711235710879587875763170296359442319969211529442671703941287440675731087629504837
noncomputable def zo:List CH:=[.p,.p,.p,.p,.p,.p,.p,.p,.p,.p,.p,.p,.p,.p,.p,.p,.p,.p,.p,.p,.p]
noncomputable def ja7(P:Params)(nt:Fin 8→Nat)(q:Nat→Nat)(S Sd D:Nat)(o:List (Fin 8))(np:Fin 8→Int)(su:Fin 8→List (Fin 8))(nd:Fin 8→Nd)(ep:Nat)(po nf:Int)(t1 t2:Nat)(k:Fin 8)(N t₀:Nat):Script:=
 .call zn zp (giC P nt q S Sd D o np su nd ep .none po nf t1 t2 k 2 4 (N+2) (t₀+4)) fun g=>
  .fin zm zo ⟨.ok (.done (.ret .none)),[(0,sO Sd),(1,sD P q D .none po nf t1 t2),(2,dO P nt (aq (ins o k) (upd nd k g.nd)) g.ep),(5,br (nmV nt k) g.nd.ad (np k+0) (g.toks+4) g.nd.l),(6,lO ((su k).map (nmV nt)) g.nd.le)],3,6⟩
theorem ja8(f:Option (List Env)):c9 600 (wf w a b c) N t₀ (dj w a b c nt q S Sd D (aq o nd) ep .none po nf t1 t2) (ja7 (wf w a b c).params nt q S Sd D o np su nd ep po nf t1 t2 k N t₀) ⟨none,800,8000,f⟩ (.call (.ref 152) ⟨[.ref S,nmV nt k],[]⟩):=by
 cases c<;>kernel_rfl
structure Own(P:Params)(q:Nat→Nat)(S Sd D lo:Nat)(r:Value)(po nf:Int)(t1 t2:Nat)(h:Heap):Prop where
 s:h.get? S=some (sO Sd)
 d:h.get? Sd=some (sD P q D r po nf t1 t2)
 off:257≤S∧257≤Sd
 lt:S<lo∧Sd<lo
 ne:[S,Sd,D].Nodup
theorem Own.pre{A:Around}{s:Shared}{r:Value}(O:Own (wf w a b c).params q S Sd D lo r po nf t1 t2 s.heap)(B:Based (wf w a b c).params s.heap)(H:Reg (wf w a b c).params nt lo D o np su nd ep s.heap) :
  Pre (wf w a b c) (dj w a b c nt q S Sd D (aq o nd) ep r po nf t1 t2) s.heap.objs.size s.toks s:=by
 have h1:=H.offD
 have h2:=H.ltD
 have h3:=H.size
 refine⟨B,rfl,rfl,(qv (qc (ql h1 h2) h3)),?_,?_,O.ne⟩
 ·intro p hp
  simp only[dj,List.mem_cons,List.not_mem_nil,or_false] at hp
  rcases hp with rfl|rfl|rfl
  ·exact O.s
  ·exact O.d
  ·exact H.d
 ·intro p hp
  simp only[dj,List.mem_cons,List.not_mem_nil,or_false] at hp
  rcases hp with rfl|rfl|rfl
  ·exact .inl O.off.1
  ·exact .inl O.off.2
  ·exact .inl H.offD
theorem Reg.gi{P:Params}{h:Heap}{V:SV}(H:Reg P nt lo D o np su nd ep h)(hN:V.N=h.objs.size)(hp:∀x∈V.pre,x<lo):k∈o →
  h.get? (nd k).a=some (br (nmV nt k) (nd k).ad (np k) (nd k).tn (nd k).l)∧h.get? (nd k).l=some (lO ((su k).map (nmV nt)) (nd k).le)∧257≤(nd k).a∧257≤(nd k).l∧(nd k).a<V.N∧(nd k).l<V.N∧(nd k).a∉V.pre∧(nd k).l∉V.pre:=fun hm=>by
 have h1:=H.off k hm
 have h2:=H.offD
 have h3:=H.ltD
 refine⟨H.i k hm,H.l k hm,(qv (qc (ql h2 h3) h1.1)),(qv (qc (ql h2 h3) h1.2)),by rw[hN];exact Heap.lt_size (H.i k hm),by rw[hN];exact Heap.lt_size (H.l k hm),fun q=>?_,fun q=>?_⟩
 ·have:=hp _ q;exact(qf (ql h1.1 this))
 ·have:=hp _ q;exact(qf (ql h1.2 this))
theorem jlg{x:Nat}{S Sd D:Nat}(hm:x∈[S,Sd,D]):x=S∨x=Sd∨x=D:=by simpa using hm
theorem wd{A:Around}{R:Result→Shared→Prop}{s:Shared}(B:Based (wf w a b c).params s.heap)(hA:Room A 800 8000)(O:Own (wf w a b c).params q S Sd D lo .none po nf t1 t2 s.heap)
  (H:Reg (wf w a b c).params nt lo D o np su nd ep s.heap)
  (h:∀h' nd' ep' tk',RegOut (wf w a b c).params nt lo D o nd (ins o k) np su nd' ep' s.heap h'→R (rv .none) { s with heap:=h',toks:=tk' }) :
  codeAny (model PG (wf w a b c)) A (.call (.ref 152) ⟨[.ref S,nmV nt k],[]⟩) R s:=by
 have h257:=H.offD
 have hDl:=H.ltD
 have hlo:=H.size
 have P:=O.pre (A:=A) B H
 have hS:=O.lt
 have hp3:∀x∈[S,Sd,D],x<lo:=fun x hx=>by rcases jlg hx with rfl|rfl|rfl<;>omega
 refine bu (modA:=fun _=>False) (ja8 A.frames) P hA.cx ⟨zt,kn rfl rfl (by show 257≤s.heap.objs.size;exact(qv (qc (ql h257 hDl) hlo))) rfl rfl rfl O.ne O.off H.nodup h257 (H.gi rfl hp3) (fun hk=>⟨H.np0 k hk,H.su0 k hk⟩),fun b hb=>hb.elim,fun _ hb=>hb,fun g h1 hrel _ hsz hle _ _ _ _ _=>⟨zt,fun h2 hsz2 hex _ hacc=>?_⟩⟩
 have hrel':GIRel o nd ep k (s.heap.objs.size+2) (s.toks+4) g:=hrel
 have hle':s.heap.objs.size+2≤g.size:=hle
 have xS:=hex (0,_) (.head _)
 have xSd:=hex (1,_) (.tail _ (.head _))
 have xD:=hex (2,_) (.tail _ (.tail _ (.head _)))
 have xi:=hex (5,_) (.tail _ (.tail _ (.tail _ (.head _))))
 have xl:=hex (6,_) (.tail _ (.tail _ (.tail _ (.tail _ (.head _)))))
 have hsz2':h2.objs.size=g.size+3:=hsz2
 have hg:(k∈o∧g.nd=nd k)∨(s.heap.objs.size≤g.nd.a∧s.heap.objs.size≤g.nd.l):=by
  by_cases hm:k∈o
  ·exact .inl ⟨hm,by rw[hrel'.old hm]⟩
  ·right;rw[hrel'.new hm];constructor<;>(show _≤_+2+_;omega)
 have hk2:∀b ob,s.heap.get? b=some ob→b≠S→b≠Sd→b≠D→b≠g.nd.a→b≠g.nd.l→h2.get? b=some ob:=fun b ob e n1 n2 n3 n6 n7=>hacc b ob e (by
  have hb:@LT.lt Nat _ b s.heap.objs.size:=Heap.lt_size e
  intro hm
  have hm':b∈[S,Sd,D,s.heap.objs.size+0,s.heap.objs.size+1,g.nd.a,g.nd.l]:=hm
  replace hm':=mO7 hm'
  rcases hm' with e|e|e|e|e|e|e<;>first|contradiction|(have e':@Eq Nat b _:=e;omega)) fun h=>h
 let nd':Fin 8→Nd:=upd nd k { g.nd with tn:=g.toks+4 }
 have ek:nd' k={ g.nd with tn:=g.toks+4 }:=a9
 have hadr:∀j∈ins o k,(j∈o∧(nd' j).a=(nd j).a∧(nd' j).l=(nd j).l)∨(s.heap.objs.size≤(nd' j).a∧s.heap.objs.size≤(nd' j).l):=fun j hj=>by
  by_cases e:j=k
  ·rw[e,ek]
   rcases hg with⟨hm,hg⟩|hg
   ·left;rw[hg];exact⟨hm,rfl,rfl⟩
   ·exact .inr hg
  ·left
   have:nd' j=nd j:=ba e
   rw[this];exact⟨(ins_mem.mp hj).resolve_right e,rfl,rfl⟩
 have hout:RegOut (wf w a b c).params nt lo D o nd (ins o k) np su nd' g.ep s.heap h2:=by
  refine⟨Reg.build H (il H.nodup) (qw (k:=5) (qk (k:=3) hle' (qg hsz2'))) ?_ (fun j hj=>?_) hadr (fun i hi j hj hl e=>?_) (fun j hj=>H.np0 j fun q=>hj (ins_mem.mpr (.inl q))) (fun j hj=>H.su0 j fun q=>hj (ins_mem.mpr (.inl q))) (hrel'.epl H.epl),fun b ob e hb=>?_,fun b hb=>InReg.build hadr hb,(qw (k:=5) (qk (k:=3) hle' (qg hsz2')))⟩
  ·have:aq (ins o k) nd'=aq (ins o k) (upd nd k g.nd):=List.map_congr_left fun j _=>by
    by_cases e:j=k
    ·rw[e,ek,a9]
    ·rw[show nd' j=nd j from ba e,ba e]
   rw[this];exact xD
  ·by_cases e:j=k
   ·rw[e,ek]
    refine⟨?_,xl⟩
    have:=xi
    rw[Int.add_zero] at this
    exact this
   ·have e1:nd' j=nd j:=ba e
    have hj':=(ins_mem.mp hj).resolve_right e
    rw[e1]
    have ho:=H.off j hj'
    have n1:(nd j).a≠g.nd.a∧(nd j).a≠g.nd.l∧(nd j).l≠g.nd.a∧(nd j).l≠g.nd.l:=by
     rcases hg with⟨hm,hg⟩|hg
     ·rw[hg];exact⟨fun q=>e (H.aa hj' hm q),H.al hj' hm,fun q=>H.al hm hj' q.symm,fun q=>e (H.inj j hj' k hm q)⟩
     ·have l1:(nd j).a<s.heap.objs.size:=Heap.lt_size (H.i j hj')
      have l2:(nd j).l<s.heap.objs.size:=Heap.lt_size (H.l j hj')
      exact⟨(qh (qc l1 hg.1)),(qh (qc l1 hg.2)),(qh (qc l2 hg.1)),(qh (qc l2 hg.2))⟩
    exact⟨hk2 _ _ (H.i j hj') (nne (.inr (qc hS.1 ho.1))) (nne (.inr (qc hS.2 ho.1))) (nne (.inr (qc hDl ho.1))) n1.1 n1.2.1,hk2 _ _ (H.l j hj') (nne (.inr (qc hS.1 ho.2))) (nne (.inr (qc hS.2 ho.2))) (nne (.inr (qc hDl ho.2))) n1.2.2.1 n1.2.2.2⟩
  ·
   have only:∀j∈ins o k,s.heap.objs.size≤(nd' j).l→j=k:=fun j hj hl=>Decidable.byContradiction fun e=>by
    have e1:nd' j=nd j:=ba e
    rw[e1] at hl
    have:(nd j).l<s.heap.objs.size:=Heap.lt_size (H.l j ((ins_mem.mp hj).resolve_right e))
    exact(qf (ql hl this))
   rw[only i hi hl,only j hj (by rw[←e];exact hl)]
  ·by_cases eS:b=S
   ·exact sg O.s xS e eS
   by_cases eSd:b=Sd
   ·exact sg O.d xSd e eSd
   by_cases eD:b=D
   ·exact absurd (.inl eD) hb
   have hbN:@LT.lt Nat _ b s.heap.objs.size:=Heap.lt_size e
   refine hk2 b ob e eS eSd eD ?_ ?_
   ·rcases hg with⟨hm,hg⟩|hg
    ·rw[hg];exact fun e=>hb (.inr ⟨k,hm,.inl e⟩)
    ·exact nne (.inl (qc hbN hg.1))
   ·rcases hg with⟨hm,hg⟩|hg
    ·rw[hg];exact fun e=>hb (.inr ⟨k,hm,.inr e⟩)
    ·exact nne (.inl (qc hbN hg.2))
 exact h h2 nd' g.ep (g.toks+6) hout
end
noncomputable def giS(P:Params)(nt:Fin 8→Nat)(q:Nat→Nat)(S Sd D:Nat)(o:List (Fin 8))(nd:Fin 8→Nd)(ep:Nat)(r:Value)(po nf:Int)(t1 t2:Nat)(k:Fin 8)(v i tk M T:Nat):CallSpec where
 Out:=Unit
 code:=.call (.ref 145) ⟨[.ref S,nmV nt k],[]⟩
 d:=900
 u:=9000
 pre:=[(0,sO Sd),(1,sD P q D r po nf t1 t2),(2,dO P nt (aq o nd) ep)]
 i:=i
 tk:=tk
 res g:=rv (.ref v)
 upd g:=[]
 new g:=[]
 size g:=M+1
 toks g:=T+5
 rel g:=True
section
variable{w:World}{a b c:Bool}{nt:Fin 8→Nat}{q:Nat→Nat}{S Sd D lo:Nat}{o:List (Fin 8)}{np:Fin 8→Int}{su:Fin 8→List (Fin 8)}{nd:Fin 8→Nd}{ep:Nat}{po nf:Int}{t1 t2:Nat}{k k2:Fin 8}{N t₀:Nat}
theorem jge{V:SV}{h₀:Heap}{i tk v:Nat}{r:Value}(hw:V.w=wf w a b c)(hkt:V.kt=ktB (wf w a b c).params)(hN:257≤V.N)(e0:aj V.pre V.N 0=S)(e1:aj V.pre V.N 1=Sd)(e2:aj V.pre V.N 2=D)(hnd:[S,Sd,D].Nodup)(hoff:257≤S∧257≤Sd)
  (hoD:257≤D) (hm:k∈o) (hv:(nd k).a=v):b9 V h₀ (giS (wf w a b c).params nt q S Sd D o nd ep r po nf t1 t2 k v i tk (V.N+i) (V.t₀+tk)):=by
 intro A s hh hf hd hu hs ht hb hkeep hpre
 have hs':s.heap.objs.size=V.N+i:=hs
 have ht':s.toks=V.t₀+tk:=ht
 have hS:=hpre (0,_) (.head _)
 have hSd:=hpre (1,_) (.tail _ (.head _))
 have hD:=hpre (2,_) (.tail _ (.tail _ (.head _)))
 rw[e0] at hS
 rw[e1] at hSd
 rw[e2] at hD
 rw[hkt] at hb
 have P:Pre (wf w a b c) (dj w a b c nt q S Sd D (aq o nd) ep r po nf t1 t2) (V.N+i) (V.t₀+tk) s:=
  ⟨⟨hb⟩,hs,ht,Nat.le_trans hN (Nat.le_add_right ..),HasL.mem ⟨hS,hSd,hD,zt⟩,(f0 hoff.1 hoff.2 hoD).mem,hnd⟩
 have hD1:D≠1:=fun e=>by rw[e] at hoD;exact absurd hoD (by decide)
 rw[hw]
 refine j4 P ⟨hh,hd,hu⟩ hD1 (v:=v) (by rw[cg,if_pos hm,hv]) fun h' G=>?_
 exact⟨(),zt,rfl,h',congrArg (fun t=>({ s with heap:=h',toks:=t+5 }:Shared)) ht',zt,G.size.trans (congrArg (·+1) hs'),by rw[hs'];exact Nat.le_add_right _ _,(fun p hp=>nomatch hp),(fun p hp=>nomatch hp),List.Pairwise.nil,fun b o' e _ _=>G.keep b o' e⟩
noncomputable def y9:List Nat:=dH 38 529878178466160434662562025474820405493296855533296440013023891776
noncomputable def zc:List CH:=[.f,.p,.p]
noncomputable def yz:List Nat:=dH 92 18109006717137680506556686536442647953619979285298120308858027927128719975805755336511935050377614250148963947116106090065154330096215594069666830561459323425804613
noncomputable def zb:List CH:=[.p,.p,.p,.p,.p,.p,.p,.p,.p,.p,.p,.p,.p,.p,.p,.p,.p,.p,.p,.p]
noncomputable def yy:List Nat:=dH 41 21426499349429276563385829893446155043099148961880768784017529772215390533
noncomputable def za(X0:XSpec):List CH:=[.p,.p,.p,.p,.x X0,.p,.p,.p,.p]
noncomputable def zh:List Nat:=dH 38 529878178466160434662562025474820405493296855533296440013023891776
noncomputable def zk:List CH:=[.f,.p,.p]
noncomputable def zg:List Nat:=dH 92 18109006717137680506556686536442647953619979285298120308858027927128719975805755336511935050377614250148963947116106090065154330096215594069666830561459323425804613
noncomputable def zj:List CH:=[.p,.p,.p,.p,.p,.p,.p,.p,.p,.p,.p,.p,.p,.p,.p,.p,.p,.p,.p,.p]
noncomputable def zf:List Nat:=dH 41 17892805219872507605309628719075040908874577277274774778491863960852648261
noncomputable def zi(X0:XSpec):List CH:=[.p,.p,.p,.p,.x X0,.p,.p,.p,.p]
noncomputable def jjx(l:Nat)(xs:List Value)(le:Nat)(x:Value)(j i tk:Nat):XSpec:=
 ⟨.call (.builtin "list.append") ⟨[.ref l,x],[]⟩,980,9800,none,[(j,lO xs le)],i,tk,rv .none,[(j,lO (xs++[x]) (le+1))],[],0⟩
theorem rc{V:SV}{h₀:Heap}{l le j i tk:Nat}{xs:List Value}{x:Value}(hp:aj V.pre V.N j=l)(hl:xs.length<1000):XOk V h₀ (jjx l xs le x j i tk):=
 gd fun A s R _ _ _ hpre hR=>by
  have h1:=hpre (j,_) (.head _)
  rw[hp] at h1 hR
  exact sj h1 hl fun h' h2 h3=>hR h' h2 h3
noncomputable def ja5(P:Params)(nt:Fin 8→Nat)(q:Nat→Nat)(S Sd D:Nat)(o:List (Fin 8))(np:Fin 8→Int)(su:Fin 8→List (Fin 8))(nd:Fin 8→Nd)(ep:Nat)(po nf:Int)(t1 t2:Nat)(k k2:Fin 8)(N t₀:Nat):Script:=
 .call y9 zc (giC P nt q S Sd D o np su nd ep .none po nf t1 t2 k 2 4 (N+2) (t₀+4)) fun g=>
  .call yz zb (giC P nt q S Sd D (ins o k) np su (upd nd k g.nd) g.ep .none po nf t1 t2 k2 1 7 (g.size+1) (g.toks+7)) fun g2=>
   .fin yy (za (jjx g2.nd.l ((su k2).map (nmV nt)) g2.nd.le (nmV nt k) 9 0 2)) ⟨.ok (.done (.ret .none)),[(0,sO Sd),(1,sD P q D .none po nf t1 t2),(2,dO P nt (aq (ins (ins o k) k2) (upd (upd nd k g.nd) k2 g2.nd)) g2.ep),
    (5,br (nmV nt k) g.nd.ad (np k+1) (g.toks+4) g.nd.l),(6,lO ((su k).map (nmV nt)) g.nd.le),(8,br (nmV nt k2) g2.nd.ad (np k2) g2.nd.tn g2.nd.l),(9,lO ((su k2).map (nmV nt)++[nmV nt k]) (g2.nd.le+1))],2,2⟩
theorem ja6(f:Option (List Env)):c9 800 (wf w a b c) N t₀ (dj w a b c nt q S Sd D (aq o nd) ep .none po nf t1 t2) (ja5 (wf w a b c).params nt q S Sd D o np su nd ep po nf t1 t2 k k2 N t₀) ⟨none,800,8000,f⟩ (.call (.ref 152) ⟨[.ref S,nmV nt k,nmV nt k2],[]⟩):=by
 cases c<;>kernel_rfl
noncomputable def zd(P:Params)(nt:Fin 8→Nat)(q:Nat→Nat)(S Sd D:Nat)(o:List (Fin 8))(np:Fin 8→Int)(su:Fin 8→List (Fin 8))(nd:Fin 8→Nd)(ep:Nat)(po nf:Int)(t1 t2:Nat)(k:Fin 8)(N t₀:Nat):Script:=
 .call zh zk (giC P nt q S Sd D o np su nd ep .none po nf t1 t2 k 2 4 (N+2) (t₀+4)) fun g=>
  .call zg zj (giS P nt q S Sd D (ins o k) (upd nd k g.nd) g.ep .none po nf t1 t2 k g.nd.a 1 7 (g.size+1) (g.toks+7)) fun _=>
   .fin zf (zi (jjx g.nd.l ((su k).map (nmV nt)) g.nd.le (nmV nt k) 6 0 2)) ⟨.ok (.done (.ret .none)),[(0,sO Sd),(1,sD P q D .none po nf t1 t2),(2,dO P nt (aq (ins o k) (upd nd k g.nd)) g.ep),
    (5,br (nmV nt k) g.nd.ad (np k+1) (g.toks+4) g.nd.l),(6,lO ((su k).map (nmV nt)++[nmV nt k]) (g.nd.le+1))],2,2⟩
theorem ze(f:Option (List Env)):c9 800 (wf w a b c) N t₀ (dj w a b c nt q S Sd D (aq o nd) ep .none po nf t1 t2) (zd (wf w a b c).params nt q S Sd D o np su nd ep po nf t1 t2 k N t₀) ⟨none,800,8000,f⟩ (.call (.ref 152) ⟨[.ref S,nmV nt k,nmV nt k],[]⟩):=by
 cases c<;>kernel_rfl
theorem RegOut.two{P:Params}{h h':Heap}{o':List (Fin 8)}{np':Fin 8→Int}{su':Fin 8→List (Fin 8)}{nd':Fin 8→Nd}{ep':Nat}{r:Value}(O:Own P q S Sd D lo r po nf t1 t2 h)(H:Reg P nt lo D o np su nd ep h)
  (ho':o'=ins (ins o k) k2) (hep:ep'=o'.length) (hs:h.objs.size≤h'.objs.size) (hS:h'.get? S=some (sO Sd)) (hSd:h'.get? Sd=some (sD P q D r po nf t1 t2)) (hD:h'.get? D=some (dO P nt (aq o' nd') ep'))
  (hc:∀j,(j=k∨j=k2)→h'.get? (nd' j).a=some (br (nmV nt j) (nd' j).ad (np' j) (nd' j).tn (nd' j).l)∧h'.get? (nd' j).l=some (lO ((su' j).map (nmV nt)) (nd' j).le))
  (hsame:∀j,j≠k→j≠k2→nd' j=nd j∧np' j=np j∧su' j=su j)
  (hadr:∀j,(j=k∨j=k2)→(j∈o∧(nd' j).a=(nd j).a∧(nd' j).l=(nd j).l)∨(h.objs.size≤(nd' j).a∧h.objs.size≤(nd' j).l))
  (hinj:h.objs.size≤(nd' k).l→(nd' k).l=(nd' k2).l→k=k2)
  (hkeep:∀b ob,h.get? b=some ob→b≠S→b≠Sd→b≠D→b≠(nd' k).a→b≠(nd' k).l→b≠(nd' k2).a→b≠(nd' k2).l→h'.get? b=some ob):RegOut P nt lo D o nd o' np' su' nd' ep' h h':=by
 subst ho'
 have h257:=H.offD
 have hDl:=H.ltD
 have hS':=O.lt
 have mo:∀j,j∈ins (ins o k) k2→j≠k→j≠k2→j∈o:=fun j hj e1 e2=>(ins_mem.mp ((ins_mem.mp hj).resolve_right e2)).resolve_right e1
 have hadr':∀j∈ins (ins o k) k2,(j∈o∧(nd' j).a=(nd j).a∧(nd' j).l=(nd j).l)∨(h.objs.size≤(nd' j).a∧h.objs.size≤(nd' j).l):=fun j hj=>by
  by_cases e1:j=k
  ·exact hadr j (.inl e1)
  ·by_cases e2:j=k2
   ·exact hadr j (.inr e2)
   ·left;rw[(hsame j e1 e2).1];exact⟨mo j hj e1 e2,rfl,rfl⟩
 have only:∀j∈ins (ins o k) k2,h.objs.size≤(nd' j).l→j=k∨j=k2:=fun j hj hl=>by
  by_cases e1:j=k
  ·exact .inl e1
  ·by_cases e2:j=k2
   ·exact .inr e2
   ·exfalso
    rw[(hsame j e1 e2).1] at hl
    have:(nd j).l<h.objs.size:=Heap.lt_size (H.l j (mo j hj e1 e2))
    exact(qf (ql hl this))
 have apart:∀j∈o,j≠k→j≠k2→∀i,(i=k∨i=k2)→(nd j).a≠(nd' i).a∧(nd j).a≠(nd' i).l∧(nd j).l≠(nd' i).a∧(nd j).l≠(nd' i).l:=fun j hj e1 e2 i hi=>by
  have ei:j≠i:=fun e=>by rcases hi with q|q<;>(subst q;contradiction)
  rcases hadr i hi with⟨hm,ha,hl⟩|⟨ha,hl⟩
  ·rw[ha,hl];exact⟨fun q=>ei (H.aa hj hm q),H.al hj hm,fun q=>H.al hm hj q.symm,fun q=>ei (H.inj j hj i hm q)⟩
  ·have l1:(nd j).a<h.objs.size:=Heap.lt_size (H.i j hj)
   have l2:(nd j).l<h.objs.size:=Heap.lt_size (H.l j hj)
   exact⟨(qh (qc l1 ha)),(qh (qc l1 hl)),(qh (qc l2 ha)),(qh (qc l2 hl))⟩
 refine⟨Reg.build H (il (il H.nodup)) hs hD (fun j hj=>?_) hadr' (fun i hi j hj hl e=>?_) (fun j hj=>?_) (fun j hj=>?_) hep,fun b ob e hb=>?_,fun b hb=>InReg.build hadr' hb,hs⟩
 ·by_cases e1:j=k
  ·exact hc j (.inl e1)
  ·by_cases e2:j=k2
   ·exact hc j (.inr e2)
   ·have hj':=mo j hj e1 e2
    obtain⟨q1,q2,q3⟩:=hsame j e1 e2
    rw[q1,q2,q3]
    have ho:=H.off j hj'
    have a1:=apart j hj' e1 e2 k (.inl rfl)
    have a2:=apart j hj' e1 e2 k2 (.inr rfl)
    exact⟨hkeep _ _ (H.i j hj') (nne (.inr (qc hS'.1 ho.1))) (nne (.inr (qc hS'.2 ho.1))) (nne (.inr (qc hDl ho.1))) a1.1 a1.2.1 a2.1 a2.2.1,hkeep _ _ (H.l j hj') (nne (.inr (qc hS'.1 ho.2))) (nne (.inr (qc hS'.2 ho.2))) (nne (.inr (qc hDl ho.2))) a1.2.2.1 a1.2.2.2 a2.2.2.1 a2.2.2.2⟩
 ·rcases only i hi hl with rfl|rfl
  ·rcases only j hj (by rw[←e];exact hl) with rfl|rfl
   ·rfl
   ·exact hinj hl e
  ·rcases only j hj (by rw[←e];exact hl) with rfl|rfl
   ·exact(hinj (by rw[←e];exact hl) e.symm).symm
   ·rfl
 ·have e1:j≠k:=fun e=>hj (ins_mem.mpr (.inl (ins_mem.mpr (.inr e))))
  have e2:j≠k2:=fun e=>hj (ins_mem.mpr (.inr e))
  rw[(hsame j e1 e2).2.1];exact H.np0 j fun q=>hj (ins_mem.mpr (.inl (ins_mem.mpr (.inl q))))
 ·have e1:j≠k:=fun e=>hj (ins_mem.mpr (.inl (ins_mem.mpr (.inr e))))
  have e2:j≠k2:=fun e=>hj (ins_mem.mpr (.inr e))
  rw[(hsame j e1 e2).2.2];exact H.su0 j fun q=>hj (ins_mem.mpr (.inl (ins_mem.mpr (.inl q))))
 ·by_cases eS:b=S
  ·exact sg O.s hS e eS
  by_cases eSd:b=Sd
  ·exact sg O.d hSd e eSd
  by_cases eD:b=D
  ·exact absurd (.inl eD) hb
  have hbN:@LT.lt Nat _ b h.objs.size:=Heap.lt_size e
  have off:∀i,(i=k∨i=k2)→b≠(nd' i).a∧b≠(nd' i).l:=fun i hi=>by
   rcases hadr i hi with⟨hm,ha,hl⟩|⟨ha,hl⟩
   ·rw[ha,hl];exact⟨fun e=>hb (.inr ⟨i,hm,.inl e⟩),fun e=>hb (.inr ⟨i,hm,.inr e⟩)⟩
   ·exact⟨nne (.inl (qc hbN ha)),nne (.inl (qc hbN hl))⟩
  exact hkeep b ob e eS eSd eD (off k (.inl rfl)).1 (off k (.inl rfl)).2 (off k2 (.inr rfl)).1 (off k2 (.inr rfl)).2
theorem GIRel.adr{M T:Nat}{g:GI}(G:GIRel o nd ep k M T g):(k∈o∧g.nd=nd k)∨(k∉o∧g.nd.a=M+2∧g.nd.l=M+4∧g.size=M+5):=by
 by_cases hm:k∈o
 ·exact .inl ⟨hm,by rw[G.old hm]⟩
 ·right;rw[G.new hm];exact⟨hm,rfl,rfl,rfl⟩
theorem ja4{A:Around}{R:Result→Shared→Prop}{s:Shared}(B:Based (wf w a b c).params s.heap)(hA:Room A 800 8000)(O:Own (wf w a b c).params q S Sd D lo .none po nf t1 t2 s.heap)
  (H:Reg (wf w a b c).params nt lo D o np su nd ep s.heap) (hsu:(su k).length<1000)
  (h:∀h' nd' ep' tk',RegOut (wf w a b c).params nt lo D o nd (ins (ins o k) k) (upd np k (np k+1)) (upd su k (su k++[k])) nd' ep' s.heap h'→R (rv .none) { s with heap:=h',toks:=tk' }) :
  codeAny (model PG (wf w a b c)) A (.call (.ref 152) ⟨[.ref S,nmV nt k,nmV nt k],[]⟩) R s:=by
 have h257:=H.offD
 have hDl:=H.ltD
 have hlo:=H.size
 have P:=O.pre (A:=A) B H
 have hS:=O.lt
 have hp3:∀x∈[S,Sd,D],x<lo:=fun x hx=>by rcases jlg hx with rfl|rfl|rfl<;>omega
 refine bu (modA:=fun _=>False) (ze A.frames) P hA.cx ⟨zt,kn rfl rfl (by show 257≤s.heap.objs.size;exact(qv (qc (ql h257 hDl) hlo))) rfl rfl rfl O.ne O.off H.nodup h257 (H.gi rfl hp3) (fun hk=>⟨H.np0 k hk,H.su0 k hk⟩),fun b hb=>hb.elim,fun _ hb=>hb,fun g h1 hrel _ hsz hle _ _ _ _ _=>
  ⟨zt,jge rfl rfl (by have hle':s.heap.objs.size+2≤g.size:=hle;show 257≤g.size;exact(qw (k:=3) (qk (k:=2) (qc (ql h257 hDl) hlo) hle'))) rfl rfl rfl O.ne O.off h257 (ins_mem.mpr (.inr rfl)) (by rw[a9]),fun b hb=>hb.elim,fun _ hb=>hb,fun _ h2 _ _ hsz2 _ _ _ _ _ _=>
  ⟨⟨rc rfl (by rw[List.length_map];exact hsu),zt⟩,fun h3 hsz3 hex _ hacc=>?_⟩⟩⟩
 have hrel':GIRel o nd ep k (s.heap.objs.size+2) (s.toks+4) g:=hrel
 have hle':s.heap.objs.size+2≤g.size:=hle
 have xS:=hex (0,_) (.head _)
 have xSd:=hex (1,_) (.tail _ (.head _))
 have xD:=hex (2,_) (.tail _ (.tail _ (.head _)))
 have xi:=hex (5,_) (.tail _ (.tail _ (.tail _ (.head _))))
 have xl:=hex (6,_) (.tail _ (.tail _ (.tail _ (.tail _ (.head _)))))
 have hsz3':h3.objs.size=g.size+1+1+2:=hsz3
 let nd':Fin 8→Nd:=upd nd k { g.nd with tn:=g.toks+4,le:=g.nd.le+1 }
 have ek:nd' k={ g.nd with tn:=g.toks+4,le:=g.nd.le+1 }:=a9
 refine h h3 nd' g.ep _ (RegOut.two O H rfl (by rw[show ins (ins o k) k=ins o k from if_pos (ins_mem.mpr (.inr rfl))];exact hrel'.epl H.epl) (qw (k:=6) (qk (k:=4) hle' (qg hsz3'))) xS xSd ?_ (fun j hj=>?_) (fun j e1 e2=>⟨ba e1,ba e1,ba e1⟩) (fun j hj=>?_) (fun _ _=>rfl) (fun b ob e n1 n2 n3 n4 n5 _ _=>?_))
 ·have e0:ins (ins o k) k=ins o k:=if_pos (ins_mem.mpr (.inr rfl))
  have:aq (ins (ins o k) k) nd'=aq (ins o k) (upd nd k g.nd):=by
   rw[e0]
   exact List.map_congr_left fun j _=>by
    by_cases e:j=k
    ·rw[e,ek,a9]
    ·rw[show nd' j=nd j from ba e,ba e]
  rw[this];exact xD
 ·have:j=k:=by simpa using hj
  rw[this,ek,a9,a9,List.map_append]
  exact⟨xi,xl⟩
 ·have:j=k:=by simpa using hj
  rw[this,ek]
  rcases hrel'.adr with⟨hm,hg⟩|⟨_,h1,h2,_⟩
  ·left;rw[hg];exact⟨hm,rfl,rfl⟩
  ·right;constructor<;>(simp only;omega)
 ·rw[ek] at n4 n5
  refine hacc b ob e (fun hm=>?_) fun h=>h
  have hb:@LT.lt Nat _ b s.heap.objs.size:=Heap.lt_size e
  have hm':b∈[S,Sd,D,s.heap.objs.size+0,s.heap.objs.size+1,g.nd.a,g.nd.l,g.size+0]:=hm
  replace hm':=mO8 hm'
  rcases hm' with e|e|e|e|e|e|e|e<;>first|contradiction|(have e':@Eq Nat b _:=e;omega)
theorem jjy{A:Around}{R:Result→Shared→Prop}{s:Shared}(B:Based (wf w a b c).params s.heap)(hA:Room A 800 8000)(O:Own (wf w a b c).params q S Sd D lo .none po nf t1 t2 s.heap)
  (H:Reg (wf w a b c).params nt lo D o np su nd ep s.heap) (hne:k2≠k) (hsu:(su k2).length<1000)
  (h:∀h' nd' ep' tk',RegOut (wf w a b c).params nt lo D o nd (ins (ins o k) k2) (upd np k (np k+1)) (upd su k2 (su k2++[k])) nd' ep' s.heap h'→R (rv .none) { s with heap:=h',toks:=tk' }) :
  codeAny (model PG (wf w a b c)) A (.call (.ref 152) ⟨[.ref S,nmV nt k,nmV nt k2],[]⟩) R s:=by
 have h257:=H.offD
 have hDl:=H.ltD
 have hlo:=H.size
 have P:=O.pre (A:=A) B H
 have hS:=O.lt
 have hp3:∀x∈[S,Sd,D],x<lo:=fun x hx=>by rcases jlg hx with rfl|rfl|rfl<;>omega
 refine bu (modA:=fun _=>False) (ja6 (k2:=k2) A.frames) P hA.cx ⟨zt,kn rfl rfl (by show 257≤s.heap.objs.size;exact(qv (qc (ql h257 hDl) hlo))) rfl rfl rfl O.ne O.off H.nodup h257 (H.gi rfl hp3) (fun hk=>⟨H.np0 k hk,H.su0 k hk⟩),fun b hb=>hb.elim,fun _ hb=>hb,fun g h1 hrel _ hsz hle _ _ _ _ hacc1=>
  ⟨zt,?_,fun b hb=>hb.elim,fun _ hb=>hb,fun g2 h2 hrel2 _ hsz2 hle2 _ _ _ _ _=>
  ⟨⟨rc rfl (by rw[List.length_map];exact hsu),zt⟩,fun h3 hsz3 hex _ hacc=>?_⟩⟩⟩
 ·have hrel':GIRel o nd ep k (s.heap.objs.size+2) (s.toks+4) g:=hrel
  have hle':s.heap.objs.size+2≤g.size:=hle
  have mo:k2∈ins o k→k2∈o:=fun hm=>(ins_mem.mp hm).resolve_right hne
  have e2:upd nd k g.nd k2=nd k2:=ba hne
  refine kn rfl rfl (by show 257≤g.size;exact(qw (k:=3) (qk (k:=2) (qc (ql h257 hDl) hlo) hle'))) rfl rfl rfl O.ne O.off (il H.nodup) h257 (fun hm=>?_) (fun hk=>⟨H.np0 k2 fun q=>hk (ins_mem.mpr (.inl q)),H.su0 k2 fun q=>hk (ins_mem.mpr (.inl q))⟩)
  have hm':=mo hm
  have hoff:=H.off k2 hm'
  have hi:=H.i k2 hm'
  have hl:=H.l k2 hm'
  have l1:(nd k2).a<s.heap.objs.size:=Heap.lt_size hi
  have l2:(nd k2).l<s.heap.objs.size:=Heap.lt_size hl
  rw[e2]
  have n3:(nd k2).a∉[S,Sd,D]∧(nd k2).l∉[S,Sd,D]:=⟨fun q=>by have:=hp3 _ q;exact(qf (ql hoff.1 this)),fun q=>by have:=hp3 _ q;exact(qf (ql hoff.2 this))⟩
  have n1:(nd k2).a≠g.nd.a∧(nd k2).a≠g.nd.l∧(nd k2).l≠g.nd.a∧(nd k2).l≠g.nd.l:=by
   rcases hrel'.adr with⟨hm,hg⟩|⟨_,h1,h2,_⟩
   ·rw[hg];exact⟨fun q=>hne (H.aa hm' hm q),H.al hm' hm,fun q=>H.al hm hm' q.symm,fun q=>hne (H.inj k2 hm' k hm q)⟩
   ·exact⟨(qh (qw (k:=4) (qk (k:=4) l1 (qg h1)))),(qh (qw (k:=6) (qk (k:=6) l1 (qg h2)))),(qh (qw (k:=4) (qk (k:=4) l2 (qg h1)))),(qh (qw (k:=6) (qk (k:=6) l2 (qg h2))))⟩
  refine⟨hacc1 _ _ hi n3.1 fun h=>h,hacc1 _ _ hl n3.2 fun h=>h,(qv (qc (ql h257 hDl) hoff.1)),(qv (qc (ql h257 hDl) hoff.2)),by show _<g.size;exact(qw (k:=2) (qk (k:=2) l1 hle')),by show _<g.size;exact(qw (k:=2) (qk (k:=2) l2 hle')),fun q=>?_,fun q=>?_⟩
  ·have q':(nd k2).a∈[S,Sd,D,s.heap.objs.size+0,s.heap.objs.size+1,g.nd.a,g.nd.l]:=q
   replace q':=mO7 q'
   exact(q'.elim (fun q'=>(qf (qc (ql (qe q') hS.1) hoff.1))) fun q'=>(q'.elim (fun q'=>(qf (qc (ql (qe q') hS.2) hoff.1))) fun q'=>(q'.elim (fun q'=>(qf (qc (ql (qe q') hDl) hoff.1))) fun q'=>(q'.elim (fun q'=>(qf (qy l1 q'))) fun q'=>(q'.elim (fun q'=>(qn (k:=1) (qq l1 q'))) fun q'=>(q'.elim (fun q'=>(n1.1 q')) fun q'=>(n1.2.1 q')))))))
  ·have q':(nd k2).l∈[S,Sd,D,s.heap.objs.size+0,s.heap.objs.size+1,g.nd.a,g.nd.l]:=q
   replace q':=mO7 q'
   exact(q'.elim (fun q'=>(qf (qc (ql (qe q') hS.1) hoff.2))) fun q'=>(q'.elim (fun q'=>(qf (qc (ql (qe q') hS.2) hoff.2))) fun q'=>(q'.elim (fun q'=>(qf (qc (ql (qe q') hDl) hoff.2))) fun q'=>(q'.elim (fun q'=>(qf (qy l2 q'))) fun q'=>(q'.elim (fun q'=>(qn (k:=1) (qq l2 q'))) fun q'=>(q'.elim (fun q'=>(n1.2.2.1 q')) fun q'=>(n1.2.2.2 q')))))))
 ·have hrel':GIRel o nd ep k (s.heap.objs.size+2) (s.toks+4) g:=hrel
  have hrel2':GIRel (ins o k) (upd nd k g.nd) g.ep k2 (g.size+1) (g.toks+7) g2:=hrel2
  have hle':s.heap.objs.size+2≤g.size:=hle
  have hle2':g.size+1≤g2.size:=hle2
  have xS:=hex (0,_) (.head _)
  have xSd:=hex (1,_) (.tail _ (.head _))
  have xD:=hex (2,_) (.tail _ (.tail _ (.head _)))
  have xi:=hex (5,_) (.tail _ (.tail _ (.tail _ (.head _))))
  have xl:=hex (6,_) (.tail _ (.tail _ (.tail _ (.tail _ (.head _)))))
  have xi2:=hex (8,_) (.tail _ (.tail _ (.tail _ (.tail _ (.tail _ (.head _))))))
  have xl2:=hex (9,_) (.tail _ (.tail _ (.tail _ (.tail _ (.tail _ (.tail _ (.head _)))))))
  have hsz3':h3.objs.size=g2.size+2:=hsz3
  have adr1:=hrel'.adr
  have adr2:(k2∈o∧g2.nd=nd k2)∨(g2.nd.a=g.size+1+2∧g2.nd.l=g.size+1+4):=by
   rcases hrel2'.adr with⟨hm,hg⟩|⟨_,h1,h2,_⟩
   ·left;exact⟨(ins_mem.mp hm).resolve_right hne,by rw[hg,ba hne]⟩
   ·exact .inr ⟨h1,h2⟩
  let nd':Fin 8→Nd:=upd (upd nd k { g.nd with tn:=g.toks+4 }) k2 { g2.nd with le:=g2.nd.le+1 }
  have ek:nd' k={ g.nd with tn:=g.toks+4 }:=by show upd _ k2 _ k=_;rw[ba (Ne.symm hne),a9]
  have ek2:nd' k2={ g2.nd with le:=g2.nd.le+1 }:=a9
  refine h h3 nd' g2.ep _ (RegOut.two (k2:=k2) O H rfl (hrel2'.epl (hrel'.epl H.epl)) (qw (k:=5) (qk (k:=2) (ql hle' hle2') (qg hsz3'))) xS xSd ?_ (fun j hj=>?_) (fun j e1 e2=>⟨by show upd _ k2 _ j=_;rw[ba e2,ba e1],ba e1,ba e2⟩) (fun j hj=>?_) (fun h1 h2=>?_) (fun b ob e n1 n2 n3 n4 n5 n6 n7=>?_))
  ·have:aq (ins (ins o k) k2) nd'=aq (ins (ins o k) k2) (upd (upd nd k g.nd) k2 g2.nd):=by
    exact List.map_congr_left fun j _=>by
     by_cases e2:j=k2
     ·rw[e2,ek2,a9]
     ·by_cases e1:j=k
      ·rw[e1,ek,ba (Ne.symm hne),a9]
      ·rw[show nd' j=nd j by show upd _ k2 _ j=_;rw[ba e2,ba e1],ba e2,ba e1]
   rw[this];exact xD
  ·rcases hj with e|e
   ·rw[e,ek,a9,ba (Ne.symm hne)]
    exact⟨xi,xl⟩
   ·rw[e,ek2,a9,ba hne,List.map_append]
    exact⟨xi2,xl2⟩
  ·rcases hj with e|e
   ·rw[e,ek]
    rcases adr1 with⟨hm,hg⟩|⟨_,h1,h2,_⟩
    ·left;rw[hg];exact⟨hm,rfl,rfl⟩
    ·right;constructor<;>(simp only;omega)
   ·rw[e,ek2]
    rcases adr2 with⟨hm,hg⟩|⟨h1,h2⟩
    ·left;rw[hg];exact⟨hm,rfl,rfl⟩
    ·right;constructor<;>(simp only;omega)
  ·rw[ek] at h1 h2
   rw[ek2] at h2
   simp only at h1 h2
   exfalso
   rcases adr1 with⟨hm,hg⟩|⟨_,h3,h4,h5⟩
   ·have:(nd k).l<s.heap.objs.size:=Heap.lt_size (H.l k hm)
    rw[hg] at h1;exact(qf (ql h1 this))
   ·rcases adr2 with⟨hm,hg⟩|⟨h6,h7⟩
    ·have:(nd k2).l<s.heap.objs.size:=Heap.lt_size (H.l k2 hm)
     rw[hg] at h2;exact(qn (k:=6) (ql (qx (qg h4) h2) this))
    ·exact(qn (k:=5) (ql (qx (qy (qg h7) h2) h4) (qg h5)))
  ·rw[ek] at n4 n5
   rw[ek2] at n6 n7
   refine hacc b ob e (fun hm=>?_) fun h=>h
   have hb:@LT.lt Nat _ b s.heap.objs.size:=Heap.lt_size e
   have hm':b∈[S,Sd,D,s.heap.objs.size+0,s.heap.objs.size+1,g.nd.a,g.nd.l,g.size+0,g2.nd.a,g2.nd.l]:=hm
   replace hm':=jq4 hm'
   rcases hm' with e|e|e|e|e|e|e|e|e|e<;>first|contradiction|(have e':@Eq Nat b _:=e;omega)
end
noncomputable def l9(st:Stmt)(it:Value)(env:Env):Code:=match st with
 |.For t _ b e _=>.forLoop t it b e env
 |_=>.builtin "" {}
noncomputable def fnS(n i:Nat):Stmt:=ak (d6 (st1 n)) i
noncomputable def xq(n:Nat)(qual:String)(L f cd:Nat):Env:=⟨ky (st1 n),L,3,[],sn qual,some f,.ref cd,some L,0⟩
noncomputable def frO(P:Params)(l:List (String×Nat×Value))(ep:Nat):Obj:=⟨.type "frame",none,.dict ⟨l.map fun x=>⟨PyData.keyHash P (sn x.1),.str (sn x.1) x.2.1,x.2.2⟩⟩ ep,#[]⟩
noncomputable def bd(cur size step:Int):Obj:=⟨.type "range_iterator",none,.fields #[.int cur 0,.int size 0,.int step 0],#[]⟩
noncomputable def ai(nt:Fin 8→Nat):List Value:=[nmV nt 0,nmV nt 1,nmV nt 2,nmV nt 3,nmV nt 4,nmV nt 5,nmV nt 6,nmV nt 7]
noncomputable def a8(n:Fin 8→Int)(tn:Fin 8→Nat):List Value:=[.int (n 0) (tn 0),.int (n 1) (tn 1),.int (n 2) (tn 2),.int (n 3) (tn 3),.int (n 4) (tn 4),.int (n 5) (tn 5),.int (n 6) (tn 6),.int (n 7) (tn 7)]
structure Par where
 nt:Fin 8→Nat
 n:Fin 8→Int
 tn:Fin 8→Nat
 NM:Nat
 NL:Nat
 e1:Nat
 e2:Nat
structure LR where
 L:Nat
 it:Nat
 S:Nat
 Sd:Nat
 D:Nat
 rl:Nat
 ed:Nat
 lo:Nat
 t1:Nat
 t2:Nat
 f:Nat→Nat
 q:Nat→Nat
noncomputable def Par.lk(p:Par)(k:Fin 8):Bool:=(p.n k).fmod 3==2
noncomputable def Par.tg(p:Par)(k:Fin 8):Fin 8:=⟨(((p.n k).fdiv 1536).fmod 8).toNat,by
 have h1:=Int.fmod_nonneg_of_pos ((p.n k).fdiv 1536) (b:=8) (by omega)
 have h2:=Int.fmod_lt_of_pos ((p.n k).fdiv 1536) (b:=8) (by omega)
 omega⟩
theorem Par.tg_val(p:Par)(k:Fin 8):(((p.tg k).val:Nat):Int)=((p.n k).fdiv 1536).fmod 8:=by
 have h1:=Int.fmod_nonneg_of_pos ((p.n k).fdiv 1536) (b:=8) (by omega)
 show(((((p.n k).fdiv 1536).fmod 8).toNat:Nat):Int)=_
 omega
noncomputable def dq(n:Int):Int:=bp n 16384 32768 40960+(n.fdiv 3).fmod 512
theorem vc:∀r:Nat,r<512→Builtin.bitAnd ((16384:Int)+(r:Int)) 61440=16384∧Builtin.bitAnd ((32768:Int)+(r:Int)) 61440=32768∧Builtin.bitAnd ((40960:Int)+(r:Int)) 61440=40960:=by
 decide +kernel
theorem jy(n:Int):Builtin.bitAnd (dq n) 61440=bp n 16384 32768 40960:=by
 have h1:=Int.fmod_nonneg_of_pos (n.fdiv 3) (b:=512) (by omega)
 have h2:=Int.fmod_lt_of_pos (n.fdiv 3) (b:=512) (by omega)
 obtain⟨r,hr⟩:=Int.eq_ofNat_of_zero_le h1
 have hb:=vc r (by omega)
 unfold dq
 rw[hr]
 unfold bp
 split
 ·exact hb.1
 ·split
  ·exact hb.2.1
  ·exact hb.2.2
theorem wm(n:Int):(bp n (16384:Int) 32768 40960==40960)=(n.fmod 3==2):=by
 unfold bp
 rcases jd3 n with h|h|h<;>simp[h]
theorem A6(n:Int)(v0 v1 v2:Value):[v0,v1,v2][(n.fmod 3).toNat]?=some (bp n v0 v1 v2):=by
 unfold bp
 rcases jd3 n with h|h|h<;>simp[h]
theorem ry(n a b c:Int)(t u v:Nat):bp n (Value.int a t) (.int b u) (.int c v)=.int (bp n a b c) (bp n t u v):=by
 unfold bp
 split
 ·rfl
 ·split<;>rfl
noncomputable def cb(l:Nat)(n:Int)(t u v ti j i tk:Nat):XSpec:=
 ⟨.call (.builtin "list.__getitem__") ⟨[.ref l,.int (n.fmod 3) ti],[]⟩,980,9800,none,[(j,lO [.int 16384 t,.int 32768 u,.int 40960 v] 0)],i,tk,rv (.int (bp n 16384 32768 40960) (bp n t u v)),[],[],0⟩
theorem aw{V:SV}{h₀:Heap}{l t u v ti j i tk:Nat}{n:Int}(hp:aj V.pre V.N j=l):XOk V h₀ (cb l n t u v ti j i tk):=
 bn fun A s R _ _ _ hpre hR=>by
  have h1:=hpre (j,_) (.head _)
  rw[hp] at h1
  have hm:=jd3 n
  refine si h1 (by omega) (by simp) (A6 n _ _ _) ?_
  rw[ry]
  exact hR
noncomputable def mq(n:Int)(ta i tk:Nat)(r:Bool):XSpec:=
 ⟨.call (.builtin "int.__eq__") ⟨[.int (Builtin.bitAnd (dq n) 61440) ta,.int 40960 476],[]⟩,980,9800,none,[],i,tk,rv (.bool r),[],[],0⟩
theorem ia{V:SV}{h₀:Heap}{n:Int}{ta i tk:Nat}{r:Bool}(hr:(n.fmod 3==2)=r):XOk V h₀ (mq n ta i tk r):=
 bn fun A s R _ _ _ hpre hR=>by
  refine jpv ?_
  rw[jy,wm,hr]
  exact hR
noncomputable def B0(p:Par)(k:Fin 8)(ti j i tk:Nat):XSpec:=
 ⟨.call (.builtin "list.__getitem__") ⟨[.ref p.NM,.int (((p.n k).fdiv 1536).fmod 8) ti],[]⟩,980,9800,none,[(j,lO (ai p.nt) p.e1)],i,tk,rv (nmV p.nt (p.tg k)),[],[],0⟩
theorem gk(nt:Fin 8→Nat):∀k:Fin 8,(ai nt)[k.val]?=some (nmV nt k)
 |0=>rfl|1=>rfl|2=>rfl|3=>rfl|4=>rfl|5=>rfl|6=>rfl|7=>rfl
theorem sb{V:SV}{h₀:Heap}{p:Par}{k:Fin 8}{ti j i tk:Nat}(hp:aj V.pre V.N j=p.NM):XOk V h₀ (B0 p k ti j i tk):=
 bn fun A s R _ _ _ hpre hR=>by
  have h1:=hpre (j,_) (.head _)
  rw[hp] at h1
  rw[←p.tg_val k]
  refine si h1 (Int.natCast_nonneg _) (by simp[ai]) ?_ hR
  rw[Int.toNat_natCast]
  exact gk p.nt (p.tg k)
structure AO where
 nd:Fin 8→Nd
 ep:Nat
 size:Nat
 toks:Nat
noncomputable def yx(P:Params)(nt:Fin 8→Nat)(z:LR)(r:Value)(o:List (Fin 8))(nd:Fin 8→Nd)(args:List Value)(o':List (Fin 8))(np':Fin 8→Int)(su':Fin 8→List (Fin 8))(jS i tk M:Nat):CallSpec where
 Out:=AO
 code:=.call (.ref 152) ⟨.ref z.S::args,[]⟩
 d:=800
 u:=8000
 pre:=[(jS,sO z.Sd),(jS+1,sD P z.q z.D r 0 0 z.t1 z.t2)]
 i:=i
 tk:=tk
 res _:=rv .none
 upd _:=[]
 new _:=[]
 size g:=g.size
 toks g:=g.toks
 rel _:=True
 mod:=InReg z.D o nd
 facts g h':=Reg P nt z.lo z.D o' np' su' g.nd g.ep h'∧∀b,InReg z.D o' g.nd b→InReg z.D o nd b∨M≤b
theorem Reg.mono{P:Params}{nt:Fin 8→Nat}{lo D:Nat}{o:List (Fin 8)}{np:Fin 8→Int}{su:Fin 8→List (Fin 8)}{nd:Fin 8→Nd}{ep:Nat}{h h':Heap}(H:Reg P nt lo D o np su nd ep h)
  (hk:∀b ob,h.get? b=some ob→InReg D o nd b→h'.get? b=some ob) (hs:h.objs.size≤h'.objs.size):Reg P nt lo D o np su nd ep h':=
 ⟨hk _ _ H.d (.inl rfl),H.nodup,fun k hk'=>hk _ _ (H.i k hk') (.inr ⟨k,hk',.inl rfl⟩),fun k hk'=>hk _ _ (H.l k hk') (.inr ⟨k,hk',.inr rfl⟩),H.inj,H.off,H.offD,H.ltD,Nat.le_trans H.size hs,H.np0,H.su0,H.epl⟩
theorem Reg.lt{P:Params}{nt:Fin 8→Nat}{lo D:Nat}{o:List (Fin 8)}{np:Fin 8→Int}{su:Fin 8→List (Fin 8)}{nd:Fin 8→Nd}{ep:Nat}{h:Heap}(H:Reg P nt lo D o np su nd ep h){b:Nat}(hb:InReg D o nd b):b<h.objs.size∧257≤b∧(b=D∨lo≤b):=by
 have h1:=H.offD
 have h2:=H.ltD
 have h3:=H.size
 rcases hb with rfl|⟨k,hk,rfl|rfl⟩
 ·exact⟨(qc h2 h3),h1,.inl rfl⟩
 ·have:=(H.off k hk).1
  have l:(nd k).a<h.objs.size:=Heap.lt_size (H.i k hk)
  exact⟨l,(qv (qc (ql h1 h2) this)),.inr this⟩
 ·have:=(H.off k hk).2
  have l:(nd k).l<h.objs.size:=Heap.lt_size (H.l k hk)
  exact⟨l,(qv (qc (ql h1 h2) this)),.inr this⟩
structure LR.Ok(z:LR):Prop where
 offS:257≤z.S∧257≤z.Sd∧257≤z.D
 ltS:z.S<z.lo∧z.Sd<z.lo∧z.D<z.lo
 neS:[z.S,z.Sd,z.D].Nodup
section
variable{w:World}{a b c:Bool}{nt:Fin 8→Nat}{z:LR}{o:List (Fin 8)}{np:Fin 8→Int}{su:Fin 8→List (Fin 8)}{nd:Fin 8→Nd}{ep:Nat}{k k2:Fin 8}{N t₀:Nat}{V:SV}{h₀:Heap}{jS i tk:Nat}
theorem l6{args:List Value}{o':List (Fin 8)}{np':Fin 8→Int}{su':Fin 8→List (Fin 8)}(hw:V.w=wf w a b c)(hkt:V.kt=ktB (wf w a b c).params)(e0:aj V.pre V.N jS=z.S)(e1:aj V.pre V.N (jS+1)=z.Sd)(hz:z.Ok)
  (H:Reg (wf w a b c).params nt z.lo z.D o np su nd ep h₀) (hN:h₀.objs.size≤V.N) (hoff:∀b,InReg z.D o nd b→b∉V.pre)
  (K:∀{A:Around} {R:Result→Shared→Prop} {s:Shared} (B:Based (wf w a b c).params s.heap) (hA:Room A 800 8000) (O:Own (wf w a b c).params z.q z.S z.Sd z.D z.lo .none 0 0 z.t1 z.t2 s.heap)
   (H:Reg (wf w a b c).params nt z.lo z.D o np su nd ep s.heap)
   (h:∀h' nd' ep' tk',RegOut (wf w a b c).params nt z.lo z.D o nd o' np' su' nd' ep' s.heap h'→R (rv .none) { s with heap:=h',toks:=tk' }),
   codeAny (model PG (wf w a b c)) A (.call (.ref 152) ⟨.ref z.S::args,[]⟩) R s) :
  b9 V h₀ (yx (wf w a b c).params nt z .none o nd args o' np' su' jS i tk (V.N+i)):=by
 intro A s hh hf hd hu hs ht hb hkeep hpre
 have hs':s.heap.objs.size=V.N+i:=hs
 have hS:=hpre (jS,_) (.head _)
 have hSd:=hpre (jS+1,_) (.tail _ (.head _))
 rw[e0] at hS
 rw[e1] at hSd
 rw[hkt] at hb
 rw[hw]
 refine K ⟨hb⟩ ⟨hh,hd,hu⟩ ⟨hS,hSd,⟨hz.offS.1,hz.offS.2.1⟩,⟨hz.ltS.1,hz.ltS.2.1⟩,hz.neS⟩ (H.mono (fun b ob e hb=>hkeep b ob e (hoff b hb)) (by omega)) fun h' nd' ep' tk' G=>?_
 refine⟨⟨nd',ep',h'.objs.size,tk'⟩,zt,rfl,h',rfl,⟨G.reg,fun b hb=>by rw[←hs'];exact G.isnew b hb⟩,rfl,G.size,(fun p hp=>nomatch hp),(fun p hp=>nomatch hp),List.Pairwise.nil,fun b ob e _ hb=>G.keep b ob e hb⟩
noncomputable def jc(z:LR):Env:=xq 25 "_law_run.<locals>." z.L 241 240
noncomputable def fr6(p:Par)(z:LR)(ring:Bool):List (String×Nat×Value):=[("names",z.f 0,.ref p.NM),("numbers",z.f 1,.ref p.NL),("sorter",z.f 2,.ref z.S),("rounds",z.f 3,.ref z.rl),("ends",z.f 4,.ref z.ed),("ring",z.f 5,.bool ring)]
noncomputable def frB(P:Params)(p:Par)(z:LR):Option (Int×Nat×Nat)→Obj
 |none=>frO P (fr6 p z false) 6
 |some (v,tv,tk)=>frO P (fr6 p z false++[("k",tk,.int v tv)]) 7
noncomputable def ly(P:Params)(p:Par)(z:LR)(fk:Option (Int×Nat×Nat))(cur size:Int):List (Nat×Obj):=
 [(z.L,frB P p z fk),(z.it,bd cur size (-1)),(p.NM,lO (ai p.nt) p.e1),(p.NL,lO (a8 p.n p.tn) p.e2),(z.S,sO z.Sd),(z.Sd,sD P z.q z.D .none 0 0 z.t1 z.t2)]
noncomputable def jjr:List Nat:=dH 35 1224333747247145700422403074010370954265480018268005203452034
noncomputable def jju:List CH:=[.p,.p,.p,.p,.p]
noncomputable def jjq:List Nat:=dH 65 1876288395173147860493532387394697936816455012525930722996166793082765020910895880796204093408611553151734274854912
noncomputable def jjt(X0 X1 X2:XSpec):List CH:=[.p,.p,.f,.p,.p,.p,.x X0,.p,.p,.p,.p,.p,.p,.p,.f,.p,.f,.p,.p,.p,.x X1,.p,.p,.p,.p,.p,.p,.p,.p,.x X2]
noncomputable def jjp:List Nat:=[]
noncomputable def jjs:List CH:=[.stop]
noncomputable def jjk:List Nat:=dH 35 1224333747247145700422403074010370954265480018268005203452034
noncomputable def jjm:List CH:=[.p,.p,.p,.p,.p]
noncomputable def jjj:List Nat:=dH 30 3800817698720499293610499025665409628555062777483264
noncomputable def jjl(X0 X1:XSpec):List CH:=[.p,.p,.f,.p,.p,.p,.x X0,.p,.p,.p,.p,.p,.p,.p,.f,.p,.f,.p,.p,.p,.x X1,.stop]
noncomputable def fkN(fk:Option (Int×Nat×Nat))(v:Int)(t₀:Nat):Option (Int×Nat×Nat):=match fk with
 |none=>some (v,t₀,t₀+1)
 |some (_,_,tk)=>some (v,t₀,tk)
noncomputable def jka(P:Params)(p:Par)(z:LR)(fk:Option (Int×Nat×Nat))(k:Fin 8)(t₀:Nat):List (Nat×Obj):=
 [(0,frB P p z (fkN fk k.val t₀)),(1,bd ((k.val:Int)-1) k.val (-1)),(2,lO (ai p.nt) p.e1),(3,lO (a8 p.n p.tn) p.e2),(4,sO z.Sd),(5,sD P z.q z.D .none 0 0 z.t1 z.t2)]
noncomputable def jjh(P:Params)(p:Par)(z:LR)(fk:Option (Int×Nat×Nat))(o:List (Fin 8))(np:Fin 8→Int)(su:Fin 8→List (Fin 8))(nd:Fin 8→Nd)(k:Fin 8)(N t₀:Nat):Script:=
 .call jjk jjm (yx P p.nt z .none o nd [nmV p.nt k] (ins o k) np su 4 0 2 N) fun g=>
  .fin jjj (jjl (cb (g.size+1) (p.n k) (g.toks+1) (g.toks+2) (g.toks+3) (g.toks+5) 7 2 6) (mq (p.n k) (g.toks+14) 4 15 false)) ⟨.ok (.again (l9 (fnS 25 1) (.ref z.it) (jc z))),jka P p z fk k t₀,4,15⟩
noncomputable def jjn(P:Params)(p:Par)(z:LR)(fk:Option (Int×Nat×Nat))(o:List (Fin 8))(np:Fin 8→Int)(su:Fin 8→List (Fin 8))(nd:Fin 8→Nd)(k:Fin 8)(N t₀:Nat):Script:=
 .call jjr jju (yx P p.nt z .none o nd [nmV p.nt k] (ins o k) np su 4 0 2 N) fun g=>
  .call jjq (jjt (cb (g.size+1) (p.n k) (g.toks+1) (g.toks+2) (g.toks+3) (g.toks+5) 7 2 6) (mq (p.n k) (g.toks+14) 4 15 true) (B0 p k (g.toks+18) 2 4 19))
   (yx P p.nt z .none (ins o k) g.nd [nmV p.nt k,nmV p.nt (p.tg k)] (ins (ins (ins o k) k) (p.tg k)) (upd np k (np k+1)) (upd su (p.tg k) (su (p.tg k)++[k])) 4 4 19 (g.size+4)) fun g2=>
   .fin jjp jjs ⟨.ok (.again (l9 (fnS 25 1) (.ref z.it) (jc z))),jka P p z fk k t₀,0,0⟩
theorem jji{p:Par}(f:Option (List Env))(v:Nat×Nat):∀(k:Fin 8) (c:Bool),let fk:=if k=7 then none else some ((k.val:Int)+1,v);c9 600 (wf w a b c) N t₀ (ly (wf w a b c).params p z fk k.val (k.val+1)) (jjh (wf w a b c).params p z fk o np su nd k N t₀) ⟨none,700,7000,f⟩ (l9 (fnS 25 1) (.ref z.it) (jc z))
 |0,true=>by kernel_rfl
 |0,false=>by kernel_rfl
 |1,true=>by kernel_rfl
 |1,false=>by kernel_rfl
 |2,true=>by kernel_rfl
 |2,false=>by kernel_rfl
 |3,true=>by kernel_rfl
 |3,false=>by kernel_rfl
 |4,true=>by kernel_rfl
 |4,false=>by kernel_rfl
 |5,true=>by kernel_rfl
 |5,false=>by kernel_rfl
 |6,true=>by kernel_rfl
 |6,false=>by kernel_rfl
 |7,true=>by kernel_rfl
 |7,false=>by kernel_rfl
theorem jjo{p:Par}(f:Option (List Env))(v:Nat×Nat):∀(k:Fin 8) (c:Bool),let fk:=if k=7 then none else some ((k.val:Int)+1,v);c9 800 (wf w a b c) N t₀ (ly (wf w a b c).params p z fk k.val (k.val+1)) (jjn (wf w a b c).params p z fk o np su nd k N t₀) ⟨none,700,7000,f⟩ (l9 (fnS 25 1) (.ref z.it) (jc z))
 |0,true=>by kernel_rfl
 |0,false=>by kernel_rfl
 |1,true=>by kernel_rfl
 |1,false=>by kernel_rfl
 |2,true=>by kernel_rfl
 |2,false=>by kernel_rfl
 |3,true=>by kernel_rfl
 |3,false=>by kernel_rfl
 |4,true=>by kernel_rfl
 |4,false=>by kernel_rfl
 |5,true=>by kernel_rfl
 |5,false=>by kernel_rfl
 |6,true=>by kernel_rfl
 |6,false=>by kernel_rfl
 |7,true=>by kernel_rfl
 |7,false=>by kernel_rfl
noncomputable def yu:List Nat:=dH 6 4329054338
noncomputable def yv:List CH:=[.p,.p,.p,.p]
noncomputable def ja0(P:Params)(p:Par)(z:LR)(v:Nat×Nat):List (Nat×Obj):=[(z.L,frB P p z (some (0,v))),(z.it,bd (-1) 0 (-1))]
noncomputable def jnh(P:Params)(p:Par)(z:LR)(v:Nat×Nat):Script:=.fin yu yv ⟨.ok (.done .next),[(0,frB P p z (some (0,v)))],2,0⟩
theorem jni{p:Par}(f:Option (List Env))(v:Nat×Nat):c9 100 (wf w a b c) N t₀ (ja0 (wf w a b c).params p z v) (jnh (wf w a b c).params p z v) ⟨none,700,7000,f⟩ (l9 (fnS 25 1) (.ref z.it) (jc z)):=by kernel_rfl
end
structure AB where
 o:List (Fin 8)
 np:Fin 8→Int
 su:Fin 8→List (Fin 8)
noncomputable def cw(p:Par)(k:Fin 8)(x:AB):AB:=
 if p.lk k=true then⟨ins (ins (ins x.o k) k) (p.tg k),upd x.np k (x.np k+1),upd x.su (p.tg k) (x.su (p.tg k)++[k])⟩ else⟨ins x.o k,x.np,x.su⟩
structure Apart(p:Par)(z:LR):Prop where
 ok:z.Ok
 nodup:[z.L,z.it,p.NM,p.NL,z.S,z.Sd].Nodup
 off:∀x∈[z.L,z.it,p.NM,p.NL,z.S,z.Sd],257≤x∧x<z.lo∧x≠z.D
structure LS(P:Params)(p:Par)(z:LR)(fk:Option (Int×Nat×Nat))(cur size:Int)(h:Heap):Prop where
 based:Based P h
 fr:h.get? z.L=some (frB P p z fk)
 it:h.get? z.it=some (bd cur size (-1))
 nm:h.get? p.NM=some (lO (ai p.nt) p.e1)
 nl:h.get? p.NL=some (lO (a8 p.n p.tn) p.e2)
 s:h.get? z.S=some (sO z.Sd)
 d:h.get? z.Sd=some (sD P z.q z.D .none 0 0 z.t1 z.t2)
section
variable{w:World}{a b c:Bool}{p:Par}{z:LR}{x:AB}{nd:Fin 8→Nd}{ep:Nat}{k:Fin 8}{A:Around}{R:Result→Shared→Prop}{s:Shared}
noncomputable def w3(k:Fin 8)(v:Nat×Nat):Option (Int×Nat×Nat):=if k=7 then none else some ((k.val:Int)+1,v)
theorem LS.pre{fk:Option (Int×Nat×Nat)}{cur size:Int}(Z:Apart p z)(L:LS (wf w a b c).params p z fk cur size s.heap)(H:Reg (wf w a b c).params p.nt z.lo z.D x.o x.np x.su nd ep s.heap) :
  Pre (wf w a b c) (ly (wf w a b c).params p z fk cur size) s.heap.objs.size s.toks s:=by
 have h1:=H.offD
 have h2:=H.ltD
 have h3:=H.size
 refine⟨L.based,rfl,rfl,(qv (qc (ql h1 h2) h3)),?_,?_,Z.nodup⟩
 ·intro q hq
  simp only[ly,List.mem_cons,List.not_mem_nil,or_false] at hq
  rcases hq with rfl|rfl|rfl|rfl|rfl|rfl
  ·exact L.fr
  ·exact L.it
  ·exact L.nm
  ·exact L.nl
  ·exact L.s
  ·exact L.d
 ·intro q hq
  have:q.1∈[z.L,z.it,p.NM,p.NL,z.S,z.Sd]:=List.mem_map_of_mem (f:=(·.1)) hq
  exact .inl (Z.off _ this).1
theorem s0(k:Fin 8)(v:Nat×Nat)(t:Nat):∃v',fkN (w3 k v) k.val t=some ((k.val:Int),v'):=by
 unfold w3
 split
 ·exact⟨(t,t+1),rfl⟩
 ·exact⟨(t,v.2),rfl⟩
noncomputable def n9(z:LR)(b:Nat):Prop:=b=z.D∨z.lo≤b
theorem fh(Z:Apart p z){P:Params}{o:List (Fin 8)}{np:Fin 8→Int}{su:Fin 8→List (Fin 8)}{h:Heap}(H:Reg P p.nt z.lo z.D o np su nd ep h){b:Nat}(hb:InReg z.D o nd b):b∉[z.L,z.it,p.NM,p.NL,z.S,z.Sd]:=fun hm=>by
 have h1:=Z.off b hm
 rcases(H.lt hb).2.2 with h2|h2
 ·exact h1.2.2 h2
 ·exact(qf (qc h1.2.1 h2))
theorem dw{P:Params}{h h':Heap}(B:Based P h){pr:List Nat}(hp:∀x∈pr,257≤x){m:Nat→Prop}(hm:∀x,m x→257≤x)(hk:∀b o,h.get? b=some o→b∉pr→¬m b→h'.get? b=some o):Based P h':=
 ⟨fun a o e=>hk a o (B.kt a o e) (fun q=>by have:=hp a q;have:=bm e;omega) (fun q=>by have:=hm a q;have:=bm e;omega)⟩
theorem jaz(Z:Apart p z){fk fk':Option (Int×Nat×Nat)}{cur size:Int}{P:Params}{h h':Heap}(L:LS P p z fk cur size h)(hD:257≤z.D)(hlo:257≤z.lo)
  {cur' size':Int} (xf:h'.get? z.L=some (frB P p z fk')) (xi:h'.get? z.it=some (bd cur' size' (-1))) (xn:h'.get? p.NM=some (lO (ai p.nt) p.e1)) (xl:h'.get? p.NL=some (lO (a8 p.n p.tn) p.e2))
  (xs:h'.get? z.S=some (sO z.Sd)) (xd:h'.get? z.Sd=some (sD P z.q z.D .none 0 0 z.t1 z.t2))
  {pr:List Nat} (hpr:∀x∈pr,x∈[z.L,z.it,p.NM,p.NL,z.S,z.Sd]∨h.objs.size≤x)
  (hacc:∀b o',h.get? b=some o'→b∉pr→¬n9 z b→h'.get? b=some o') :
  LS P p z fk' cur' size' h'∧(∀b ob,h.get? b=some ob→b∉[z.L,z.it]→¬n9 z b→h'.get? b=some ob):=by
 have hacc':∀b o',h.get? b=some o'→b∉[z.L,z.it,p.NM,p.NL,z.S,z.Sd]→¬n9 z b→h'.get? b=some o':=fun b o' e hb hm=>hacc b o' e (fun q=>by
  rcases hpr b q with q|q
  ·exact hb q
  ·have:@LT.lt Nat _ b h.objs.size:=Heap.lt_size e
   exact(qf (ql q this))) hm
 refine⟨⟨dw L.based (fun x hx=>(Z.off x hx).1) (fun x hx=>by rcases hx with rfl|hx<;>omega) hacc',xf,xi,xn,xl,xs,xd⟩,fun b ob e hb hm=>?_⟩
 by_cases e1:b=p.NM
 ·exact sg L.nm xn e e1
 by_cases e2:b=p.NL
 ·exact sg L.nl xl e e2
 by_cases e3:b=z.S
 ·exact sg L.s xs e e3
 by_cases e4:b=z.Sd
 ·exact sg L.d xd e e4
 refine hacc' b ob e (fun q=>?_) hm
 rcases mO6 q with q|q|q|q|q|q
 ·exact hb (iO2 (.inl q))
 ·exact hb (iO2 (.inr q))
 ·exact e1 q
 ·exact e2 q
 ·exact e3 q
 ·exact e4 q
theorem jqb(hA:Room A 700 7000)(Z:Apart p z){v:Nat×Nat}(L:LS (wf w a b c).params p z (w3 k v) k.val (k.val+1) s.heap)(H:Reg (wf w a b c).params p.nt z.lo z.D x.o x.np x.su nd ep s.heap)(hsu:∀j,(x.su j).length<900)
  (h:∀h' nd' ep' tk' v',LS (wf w a b c).params p z (some ((k.val:Int),v')) ((k.val:Int)-1) k.val h'→Reg (wf w a b c).params p.nt z.lo z.D (cw p k x).o (cw p k x).np (cw p k x).su nd' ep' h' →
   (∀b ob,s.heap.get? b=some ob→b∉[z.L,z.it]→¬n9 z b→h'.get? b=some ob)→s.heap.objs.size≤h'.objs.size →
   codeAny (model PG (wf w a b c)) A (l9 (fnS 25 1) (.ref z.it) (jc z)) R { s with heap:=h',toks:=tk' }) :
  codeAny (model PG (wf w a b c)) A (l9 (fnS 25 1) (.ref z.it) (jc z)) R s:=by
 have P:=L.pre Z H
 have hD:=H.ltD
 have hlo:=H.size
 have mk:∀(o:List (Fin 8)) (nd':Fin 8→Nd) (b:Nat),(InReg z.D o nd' b→InReg z.D x.o nd b∨s.heap.objs.size≤b)→InReg z.D o nd' b→n9 z b:=fun o nd' b hh hb=>by
  rcases hh hb with q|q
  ·exact(H.lt q).2.2
  ·exact .inr (qc hlo q)
 cases hl:p.lk k with
 |false=>
  refine bu (modA:=n9 z) (jji A.frames v k c) P hA.cx ⟨zt,l6 rfl rfl rfl rfl Z.ok H (Nat.le_refl _) (fun b hb=>fh Z H hb) (fun B hA O H h=>wd B hA O H h),fun b hb=>⟨fh Z H hb,(H.lt hb).1,bv (.inl (H.lt hb).2.1)⟩,fun b hb=>(H.lt hb).2.2,fun g h1 _ hf hsz hle _ _ _ _ _=>
   ⟨⟨aw rfl,ia hl,zt⟩,fun h2 hsz2 hex hkept hacc=>?_⟩⟩
  obtain⟨v',hv'⟩:=s0 k v s.toks
  have hsz2':h2.objs.size=g.size+4:=hsz2
  have hle':s.heap.objs.size+0≤g.size:=hle
  have xf:h2.get? z.L=some (frB (wf w a b c).params p z (fkN (if k=7 then none else some ((k.val:Int)+1,v)) k.val s.toks)):=hex (0,_) (.head _)
  have hv2:fkN (if k=7 then none else some ((k.val:Int)+1,v)) k.val s.toks=some ((k.val:Int),v'):=hv'
  rw[hv2] at xf
  have E:=jaz Z L (by have:=H.offD;omega) (by have:=H.offD;exact(qv (ql this hD))) xf (hex (1,_) (.tail _ (.head _))) (hex (2,_) (.tail _ (.tail _ (.head _)))) (hex (3,_) (.tail _ (.tail _ (.tail _ (.head _))))) (hex (4,_) (.tail _ (.tail _ (.tail _ (.tail _ (.head _))))))
   (hex (5,_) (.tail _ (.tail _ (.tail _ (.tail _ (.tail _ (.head _))))))) (pr:=[z.L,z.it,p.NM,p.NL,z.S,z.Sd]) (fun x hx=>.inl hx) (fun b o' e hb hm=>hacc b o' e hb hm)
  have G2:=hf.1.mono (h':=h2) (fun b ob e hb=>hkept b ob e (fh Z hf.1 hb)) (by rw[hsz,hsz2'];exact Nat.le_add_right _ _)
  have:=h h2 g.nd g.ep (g.toks+15) v' E.1 (by unfold cw;rw[hl];exact G2) E.2 (qw (k:=4) (qk (k:=4) hle' (qg hsz2')))
  exact this
 |true=>
  refine bu (modA:=n9 z) (jjo A.frames v k c) P hA.cx ⟨zt,l6 rfl rfl rfl rfl Z.ok H (Nat.le_refl _) (fun b hb=>fh Z H hb) (fun B hA O H h=>wd B hA O H h),fun b hb=>⟨fh Z H hb,(H.lt hb).1,bv (.inl (H.lt hb).2.1)⟩,fun b hb=>(H.lt hb).2.2,fun g h1 _ hf hsz hle _ _ _ _ _=>?_⟩
  have hsz':h1.objs.size=g.size:=hsz
  have hle':s.heap.objs.size+0≤g.size:=hle
  have b6:∀b,InReg z.D (ins x.o k) g.nd b→b∉[z.L,z.it,p.NM,p.NL,z.S,z.Sd]:=fun b hb=>fh Z hf.1 hb
  refine⟨⟨aw rfl,ia hl,sb rfl,zt⟩,l6 rfl rfl rfl rfl Z.ok hf.1 (by rw[hsz'];exact Nat.le_refl _) (fun b hb q=>b6 b hb q) (fun{A R s} B hA O H h=>?_),fun b hb=>⟨fun q=>b6 b hb q,?_,bv (.inl (hf.1.lt hb).2.1)⟩,fun b hb=>(hf.1.lt hb).2.2,fun g2 h2 _ hf2 hsz2 hle2 _ _ _ _ _=>⟨zt,fun h3 hsz3 hex hkept hacc=>?_⟩⟩
  ·by_cases e:p.tg k=k
   ·rw[e] at h ⊢
    exact ja4 B hA O H (by have:=hsu k;exact(qr (k:=100) this)) h
   ·exact jjy B hA O H e (by have:=hsu (p.tg k);exact(qr (k:=100) this)) h
  ·have:=(hf.1.lt hb).1
   rw[hsz'] at this;exact this
  ·obtain⟨v',hv'⟩:=s0 k v s.toks
   have hsz2':h2.objs.size=g2.size:=hsz2
   have hle2':g.size+4≤g2.size:=hle2
   have hsz3':h3.objs.size=g2.size+0:=hsz3
   have xf:h3.get? z.L=some (frB (wf w a b c).params p z (fkN (if k=7 then none else some ((k.val:Int)+1,v)) k.val s.toks)):=hex (0,_) (.head _)
   have hv2:fkN (if k=7 then none else some ((k.val:Int)+1,v)) k.val s.toks=some ((k.val:Int),v'):=hv'
   rw[hv2] at xf
   have memp:∀y:Nat,y∈(d5 (d5 (mkV (wf w a b c) (ly (wf w a b c).params p z (if k=7 then none else some ((k.val:Int)+1,v)) k.val (k.val+1)) s.heap.objs.size s.toks) (yx (wf w a b c).params p.nt z .none x.o nd [nmV p.nt k] (ins x.o k) x.np x.su 4 0 2 s.heap.objs.size) g)
     (yx (wf w a b c).params p.nt z .none (ins x.o k) g.nd [nmV p.nt k,nmV p.nt (p.tg k)] (ins (ins (ins x.o k) k) (p.tg k)) (upd x.np k (x.np k+1)) (upd x.su (p.tg k) (x.su (p.tg k)++[k])) 4 4 19 (g.size+4)) g2).pre→y∈[z.L,z.it,p.NM,p.NL,z.S,z.Sd]∨(g.size≤y∧y<g.size+4):=fun y hb=>by
    refine(List.mem_append.mp (show y∈[z.L,z.it,p.NM,p.NL,z.S,z.Sd]++[g.size+0,g.size+1,g.size+2,g.size+3] from hb)).imp_right fun q=>?_
    rcases mO4 q with q|q|q|q<;>rw[q]<;>exact⟨Nat.le_add_right ..,Nat.add_lt_add_left (by decide) _⟩
   have E:=jaz Z L (by have:=H.offD;omega) (by have:=H.offD;exact(qv (ql this hD))) xf (hex (1,_) (.tail _ (.head _))) (hex (2,_) (.tail _ (.tail _ (.head _)))) (hex (3,_) (.tail _ (.tail _ (.tail _ (.head _))))) (hex (4,_) (.tail _ (.tail _ (.tail _ (.tail _ (.head _))))))
    (hex (5,_) (.tail _ (.tail _ (.tail _ (.tail _ (.tail _ (.head _))))))) (pr:=_) (fun b hb=>by
     rcases memp b hb with q|q
     ·exact .inl q
     ·exact .inr (qc hle' q.1)) hacc
   have G3:=hf2.1.mono (h':=h3) (fun b ob e hb=>hkept b ob e (fun q=>by
    rcases memp b q with q|q
    ·exact fh Z hf2.1 hb q
    ·rcases hf2.2 b hb with q2|q2
     ·have:=(hf.1.lt q2).1;exact(qf (ql (qo hsz' q.1) this))
     ·exact(qf (qu 4 (ql q2 q.2))))) (qy (qe hsz2') hsz3')
   have:=h h3 g2.nd g2.ep (g2.toks+0) v' E.1 (by unfold cw;rw[hl];exact G3) E.2 (qw (k:=4) (qy (qk (k:=4) hle' hle2') hsz3'))
   exact this
structure LE(P:Params)(p:Par)(z:LR)(v:Nat×Nat)(h:Heap):Prop where
 based:Based P h
 fr:h.get? z.L=some (frB P p z (some (0,v)))
 nm:h.get? p.NM=some (lO (ai p.nt) p.e1)
 nl:h.get? p.NL=some (lO (a8 p.n p.tn) p.e2)
 s:h.get? z.S=some (sO z.Sd)
 d:h.get? z.Sd=some (sD P z.q z.D .none 0 0 z.t1 z.t2)
theorem jqc(hA:Room A 700 7000)(Z:Apart p z){v:Nat×Nat}(L:LS (wf w a b c).params p z (some (0,v)) (-1) 0 s.heap)(H:Reg (wf w a b c).params p.nt z.lo z.D x.o x.np x.su nd ep s.heap)
  (h:∀h',LE (wf w a b c).params p z v h'→Reg (wf w a b c).params p.nt z.lo z.D x.o x.np x.su nd ep h'→(∀b ob,s.heap.get? b=some ob→b∉[z.L,z.it]→h'.get? b=some ob)→s.heap.objs.size≤h'.objs.size→R (.ok .next) { s with heap:=h',toks:=s.toks+0 }) :
  codeAny (model PG (wf w a b c)) A (l9 (fnS 25 1) (.ref z.it) (jc z)) R s:=by
 have h1:=H.offD
 have h2:=H.ltD
 have h3:=H.size
 have n2:[z.L,z.it].Nodup:=by
  exact dn2 (nd6 Z.nodup).1.1
 have P:Pre (wf w a b c) (ja0 (wf w a b c).params p z v) s.heap.objs.size s.toks s:=
  ⟨L.based,rfl,rfl,(qv (qc (ql h1 h2) h3)),HasL.mem ⟨L.fr,L.it,zt⟩,(gx (Z.off _ (.head _)).1 (Z.off _ (.tail _ (.head _))).1).mem,n2⟩
 refine bu (modA:=fun _=>False) (jni A.frames v) P hA.cx ⟨zt,fun h' hsz hex _ hacc=>?_⟩
 have hacc':∀b ob,s.heap.get? b=some ob→b∉[z.L,z.it]→h'.get? b=some ob:=fun b ob e hb=>hacc b ob e hb fun q=>q
 have hsz':h'.objs.size=s.heap.objs.size+2:=hsz
 have nin:∀y∈[p.NM,p.NL,z.S,z.Sd],y∉[z.L,z.it]:=fun y hy q=>by
  obtain⟨⟨_,a1,a2,a3,a4⟩,⟨b1,b2,b3,b4⟩,_⟩:=nd6 Z.nodup
  rcases mO4 hy with e|e|e|e<;>subst e<;>rcases mO2 q with q|q<;>exact absurd q.symm (by assumption)
 refine h h' ⟨dw L.based (pr:=[z.L,z.it]) (m:=fun _=>False) (fun y hy=>(Z.off y (iO6 ((mO2 hy).imp_right .inl))).1) (fun _ q=>q.elim) (fun b o e hb _=>hacc' b o e hb),hex (0,_) (.head _),
  hacc' _ _ L.nm (nin _ (.head _)),hacc' _ _ L.nl (nin _ (.tail _ (.head _))),hacc' _ _ L.s (nin _ (.tail _ (.tail _ (.head _)))),hacc' _ _ L.d (nin _ (.tail _ (.tail _ (.tail _ (.head _)))))⟩
  (H.mono (fun b ob e hb=>hacc' b ob e (fun q=>fh Z H hb (iO6 ((mO2 q).imp_right .inl)))) (qw (k:=2) (qg hsz'))) hacc' (qw (k:=2) (qg hsz'))
noncomputable def c6(p:Par):Nat→AB→AB
 |0,x=>x
 |m+1,x=>c6 p m (cw p (Fin.ofNat 8 m) x)
theorem jco{x:AB}{n:Nat}(h:∀j,(x.su j).length≤n)(k:Fin 8):∀j,((cw p k x).su j).length≤n+1:=fun j=>by
 unfold cw
 split
 ·show(upd x.su (p.tg k) (x.su (p.tg k)++[k]) j).length≤_
  by_cases e:j=p.tg k
  ·subst e;rw[a9,List.length_append];have:=h (p.tg k);simpa using this
  ·rw[ba e];have:=h j;exact(qr (k:=1) this)
 ·have:=h j;show(x.su j).length≤_;exact(qr (k:=1) this)
theorem jkb(hA:Room A 700 7000)(Z:Apart p z):∀(m:Nat) (hm:m≤8) {s:Shared} {x:AB} {nd:Fin 8→Nd} {ep:Nat} {v:Nat×Nat} (L:LS (wf w a b c).params p z (if m=8 then none else some ((m:Int),v)) ((m:Int)-1) m s.heap)
  (H:Reg (wf w a b c).params p.nt z.lo z.D x.o x.np x.su nd ep s.heap) (hsu:∀j,(x.su j).length≤8-m)
  (h:∀h' nd' ep' tk' v',LE (wf w a b c).params p z v' h'→Reg (wf w a b c).params p.nt z.lo z.D (c6 p m x).o (c6 p m x).np (c6 p m x).su nd' ep' h' →
   (∀b ob,s.heap.get? b=some ob→b∉[z.L,z.it]→¬n9 z b→h'.get? b=some ob)→s.heap.objs.size≤h'.objs.size→R (.ok .next) { s with heap:=h',toks:=tk' }),
  codeAny (model PG (wf w a b c)) A (l9 (fnS 25 1) (.ref z.it) (jc z)) R s
 |0,_,s,x,nd,ep,v,L,H,hsu,h=>jqc hA Z L H fun h' E G K hs=>h h' nd ep _ v E G (fun b ob e hb _=>K b ob e hb) hs
 |m+1,hm,s,x,nd,ep,v,L,H,hsu,h=>by
  have hk:(Fin.ofNat 8 m).val=m:=Nat.mod_eq_of_lt (by omega)
  have e1:w3 (Fin.ofNat 8 m) v=(if m+1=8 then none else some (((m+1:Nat):Int),v)):=by
   unfold w3
   have:(Fin.ofNat 8 m=7)↔m+1=8:=by
    rw[Fin.ext_iff,hk]
    show m=7↔_
    omega
   by_cases q:m+1=8
   ·rw[if_pos q,if_pos (this.mpr q)]
   ·rw[if_neg q,if_neg fun q'=>q (this.mp q'),hk];rfl
  have L0:LS (wf w a b c).params p z (w3 (Fin.ofNat 8 m) v) ((Fin.ofNat 8 m).val:Int) (((Fin.ofNat 8 m).val:Int)+1) s.heap:=by
   rw[e1,hk]
   have q:(((m+1:Nat):Int)-1)=(m:Int):=by omega
   rw[q] at L
   exact L
  refine jqb (k:=Fin.ofNat 8 m) hA Z (v:=v) L0 H (fun j=>by have:=hsu j;omega) fun h' nd' ep' tk' v' L' H' K' hs'=>?_
  refine jkb hA Z m (qv hm) (s:={ s with heap:=h',toks:=tk' }) (v:=v') (x:=cw p (Fin.ofNat 8 m) x) (by
   have q:m≠8:=(qh hm)
   first|refine itn q ?_|rw[if_neg q]
   rw[hk] at L'
   exact L') H' (fun j=>by have:=jco (p:=p) (x:=x) (n:=8-(m+1)) hsu (Fin.ofNat 8 m) j;omega) fun h2 nd2 ep2 tk2 v2 E2 G2 K2 hs2=>?_
  exact h h2 nd2 ep2 tk2 v2 E2 G2 (fun b ob e hb hm=>K2 b ob (K' b ob e hb hm) hb hm) (Nat.le_trans hs' hs2)
end
noncomputable def jjw:Stmt→PySem.Expr
 |.Assign _ v _=>v
 |_=>default
noncomputable def ou:PySem.Expr→Scope
 |.ListComp _ _ s _=>s
 |_=>default
noncomputable def jnf(e:PySem.Expr)(qual:String)(l L cd:Nat):Env:=⟨ou e,l,3,[],sn qual,none,.ref cd,some L,0⟩
noncomputable def prE:PySem.Expr:=jjw (ak (d6 (st2 16 3)) 1)
noncomputable def jj1(l L:Nat):Env:=jnf prE "TopologicalSorter.prepare.<locals>." l L 156
noncomputable def gs(D:Nat)(i:Int):Obj:=⟨.type "dict_valueiterator",none,.fields #[.ref D,.int i 0,.int 8 0,.int 8 0],#[]⟩
noncomputable def ci(P:Params)(n:String):Option (Nat×Value)→Obj
 |none=>⟨.type "dict",none,.dict #[] 0,#[]⟩
 |some (t,v)=>⟨.type "dict",none,.dict #[⟨PyData.keyHash P (sn n),.str (sn n) t,v⟩] 1,#[]⟩
noncomputable def ol(og:Fin 8→Fin 8):List (Fin 8):=[og 0,og 1,og 2,og 3,og 4,og 5,og 6,og 7]
noncomputable def vb(P:Params)(nt:Fin 8→Nat)(D it acc l:Nat)(og:Fin 8→Fin 8)(nd:Fin 8→Nd)(np:Int)(xs:List Value)(le:Nat)(lv:Option (Nat×Value))(i:Fin 8):List (Nat×Obj):=
 [(it,gs D i.val),(D,dO P nt (aq (ol og) nd) 8),(acc,lO xs le),((nd (og i)).a,br (nmV nt (og i)) (nd (og i)).ad np (nd (og i)).tn (nd (og i)).l),(l,ci P "i" lv)]
noncomputable def ctC(it acc l L:Nat):Code:=.compLoop prE 0 (.ref it) (.ref acc) (jj1 l L)
noncomputable def lm(x:Int)(tx:Nat)(y:Int)(ty i tk:Nat)(r:Bool):XSpec:=
 ⟨.call (.builtin "int.__eq__") ⟨[.int x tx,.int y ty],[]⟩,980,9800,none,[],i,tk,rv (.bool r),[],[],0⟩
theorem f9{V:SV}{h₀:Heap}{x y:Int}{tx ty i tk:Nat}{r:Bool}(hr:(x==y)=r):XOk V h₀ (lm x tx y ty i tk r):=
 bn fun A s R _ _ _ hpre hR=>jpv (by rw[hr];exact hR)
noncomputable def ji5:List Nat:=dH 66 10089376211664297169210076550510393036628270653566301375672240292544856176392321425565728610857901141280359848545095745
noncomputable def ji6(X0 X1:XSpec):List CH:=[.p,.p,.p,.p,.p,.p,.p,.x X0,.p,.p,.p,.p,.x X1,.stop]
noncomputable def ji9:List Nat:=dH 40 110454901495316563557609222479067166689807085964866040684606921606697025
noncomputable def jja(X0:XSpec):List CH:=[.p,.p,.p,.p,.p,.p,.p,.x X0,.stop]
noncomputable def yn:List Nat:=dH 10 72343537961930817
noncomputable def yo:List CH:=[.p,.p,.p]
section
variable{w:World}{a b c:Bool}{nt:Fin 8→Nat}{D it acc l L le N t₀:Nat}{og:Fin 8→Fin 8}{nd:Fin 8→Nd}{np:Int}{xs:List Value}
noncomputable def fb(i:Fin 8)(v:Nat×Value):Option (Nat×Value):=if i=0 then none else some v
noncomputable def lvN(i:Fin 8)(v:Nat×Value)(t₀:Nat)(x:Value):Option (Nat×Value):=if i=0 then some (t₀,x) else some (v.1,x)
noncomputable def ji3(P:Params)(nt:Fin 8→Nat)(D it acc l L:Nat)(og:Fin 8→Fin 8)(nd:Fin 8→Nd)(np:Int)(xs:List Value)(le:Nat)(v:Nat×Value)(i:Fin 8)(t₀:Nat):Script:=
 .fin ji5 (ji6 (lm np (nd (og i)).tn 0 (t₀+2) 0 3 true) (jjx acc xs le (nmV nt (og i)) 2 0 4)) ⟨.ok (.again (ctC it acc l L)),
  [(0,gs D (i.val+1)),(1,dO P nt (aq (ol og) nd) 8),(2,lO (xs++[nmV nt (og i)]) (le+1)),(3,br (nmV nt (og i)) (nd (og i)).ad np (nd (og i)).tn (nd (og i)).l),(4,ci P "i" (lvN i v t₀ (.ref (nd (og i)).a)))],0,4⟩
noncomputable def ji7(P:Params)(nt:Fin 8→Nat)(D it acc l L:Nat)(og:Fin 8→Fin 8)(nd:Fin 8→Nd)(np:Int)(xs:List Value)(le:Nat)(v:Nat×Value)(i:Fin 8)(t₀:Nat):Script:=
 .fin ji9 (jja (lm np (nd (og i)).tn 0 (t₀+2) 0 3 false)) ⟨.ok (.again (ctC it acc l L)),
  [(0,gs D (i.val+1)),(1,dO P nt (aq (ol og) nd) 8),(2,lO xs le),(3,br (nmV nt (og i)) (nd (og i)).ad np (nd (og i)).tn (nd (og i)).l),(4,ci P "i" (lvN i v t₀ (.ref (nd (og i)).a)))],0,3⟩
theorem ji4(f:Option (List Env))(v:Nat×Value):∀(i:Fin 8) (c:Bool),c9 400 (wf w a b c) N t₀ (vb (wf w a b c).params nt D it acc l og nd np xs le (fb i v) i) (ji3 (wf w a b c).params nt D it acc l L og nd np xs le v i t₀) ⟨none,700,7000,f⟩ (ctC it acc l L)
 |0,true=>by kernel_rfl
 |0,false=>by kernel_rfl
 |1,true=>by kernel_rfl
 |1,false=>by kernel_rfl
 |2,true=>by kernel_rfl
 |2,false=>by kernel_rfl
 |3,true=>by kernel_rfl
 |3,false=>by kernel_rfl
 |4,true=>by kernel_rfl
 |4,false=>by kernel_rfl
 |5,true=>by kernel_rfl
 |5,false=>by kernel_rfl
 |6,true=>by kernel_rfl
 |6,false=>by kernel_rfl
 |7,true=>by kernel_rfl
 |7,false=>by kernel_rfl
theorem ji8(f:Option (List Env))(v:Nat×Value):∀(i:Fin 8) (c:Bool),c9 400 (wf w a b c) N t₀ (vb (wf w a b c).params nt D it acc l og nd np xs le (fb i v) i) (ji7 (wf w a b c).params nt D it acc l L og nd np xs le v i t₀) ⟨none,700,7000,f⟩ (ctC it acc l L)
 |0,true=>by kernel_rfl
 |0,false=>by kernel_rfl
 |1,true=>by kernel_rfl
 |1,false=>by kernel_rfl
 |2,true=>by kernel_rfl
 |2,false=>by kernel_rfl
 |3,true=>by kernel_rfl
 |3,false=>by kernel_rfl
 |4,true=>by kernel_rfl
 |4,false=>by kernel_rfl
 |5,true=>by kernel_rfl
 |5,false=>by kernel_rfl
 |6,true=>by kernel_rfl
 |6,false=>by kernel_rfl
 |7,true=>by kernel_rfl
 |7,false=>by kernel_rfl
noncomputable def jn:Obj:=⟨.type "dict_valueiterator",none,.fields #[.none,.int 8 0,.int 8 0,.int 8 0],#[]⟩
noncomputable def jay(P:Params)(nt:Fin 8→Nat)(D it:Nat)(og:Fin 8→Fin 8)(nd:Fin 8→Nd):List (Nat×Obj):=[(it,gs D 8),(D,dO P nt (aq (ol og) nd) 8)]
noncomputable def jnd(P:Params)(nt:Fin 8→Nat)(D:Nat)(og:Fin 8→Fin 8)(nd:Fin 8→Nd):Script:=.fin yn yo ⟨.ok (.done .next),[(0,jn),(1,dO P nt (aq (ol og) nd) 8)],2,0⟩
theorem jne(f:Option (List Env)):c9 100 (wf w a b c) N t₀ (jay (wf w a b c).params nt D it og nd) (jnd (wf w a b c).params nt D og nd) ⟨none,700,7000,f⟩ (ctC it acc l L):=by kernel_rfl
noncomputable def rdy(og:Fin 8→Fin 8)(np:Fin 8→Int)(i:Nat):List (Fin 8):=((ol og).take i).filter fun k=>np k==0
theorem jdp(og:Fin 8→Fin 8):∀i:Fin 8,(ol og).take (i.val+1)=(ol og).take i.val++[og i]
 |0=>rfl|1=>rfl|2=>rfl|3=>rfl|4=>rfl|5=>rfl|6=>rfl|7=>rfl
theorem jla(og:Fin 8→Fin 8):∀i:Fin 8,og i∈ol og
 |0=>by simp[ol]|1=>by simp[ol]|2=>by simp[ol]|3=>by simp[ol]|4=>by simp[ol]|5=>by simp[ol]|6=>by simp[ol]|7=>by simp[ol]
theorem jcs(og:Fin 8→Fin 8)(np:Fin 8→Int)(i:Nat):(rdy og np i).length≤8:=by
 unfold rdy
 refine Nat.le_trans (List.length_filter_le ..) ?_
 rw[List.length_take]
 have:(ol og).length=8:=rfl
 omega
theorem rt{og:Fin 8→Fin 8}{np:Fin 8→Int}(i:Fin 8):rdy og np (i.val+1)=rdy og np i.val++(if np (og i)=0 then [og i] else []):=by
 unfold rdy
 rw[jdp,List.filter_append]
 congr 1
 by_cases h:np (og i)=0<;>simp[h]
structure CL(P:Params)(nt:Fin 8→Nat)(lo D it acc l:Nat)(og:Fin 8→Fin 8)(np:Fin 8→Int)(su:Fin 8→List (Fin 8))(nd:Fin 8→Nd)(i:Nat)(lv:Option (Nat×Value))(h:Heap):Prop where
 based:Based P h
 reg:Reg P nt lo D (ol og) np su nd 8 h
 it:h.get? it=some (gs D i)
 acc:h.get? acc=some (lO ((rdy og np i).map (nmV nt)) (rdy og np i).length)
 l:h.get? l=some (ci P "i" lv)
structure CLs(D it acc l:Nat)(og:Fin 8→Fin 8)(nd:Fin 8→Nd):Prop where
 off:257≤it∧257≤acc∧257≤l
 ne:[it,acc,l].Nodup
 ap:∀b:Nat,InReg D (ol og) nd b→b∉[it,acc,l]
theorem jjg{lo:Nat}{np:Fin 8→Int}{su:Fin 8→List (Fin 8)}{A:Around}{R:Result→Shared→Prop}{s:Shared}(hA:Room A 700 7000){i:Fin 8}{v:Nat×Value}(Z:CLs D it acc l og nd)(C:CL (wf w a b c).params nt lo D it acc l og np su nd i.val (fb i v) s.heap)
  (h:∀h' tk' v',CL (wf w a b c).params nt lo D it acc l og np su nd (i.val+1) (some v') h'→(∀b ob,s.heap.get? b=some ob→b∉[it,acc,l]→h'.get? b=some ob)→s.heap.objs.size≤h'.objs.size →
   codeAny (model PG (wf w a b c)) A (ctC it acc l L) R { s with heap:=h',toks:=tk' }) :
  codeAny (model PG (wf w a b c)) A (ctC it acc l L) R s:=by
 have hm:=jla og i
 have Hi:=C.reg.i _ hm
 have ho:=C.reg.off _ hm
 have h257:=C.reg.offD
 have hDl:=C.reg.ltD
 have hlo:=C.reg.size
 have hne:=Z.ne
 have a1:=Z.ap D (.inl rfl)
 have a2:=Z.ap (nd (og i)).a (.inr ⟨_,hm,.inl rfl⟩)
 have P:Pre (wf w a b c) (vb (wf w a b c).params nt D it acc l og nd (np (og i)) ((rdy og np i.val).map (nmV nt)) (rdy og np i.val).length (fb i v) i) s.heap.objs.size s.toks s:=by
  obtain⟨n1,n2,n3⟩:=xO3 a1
  obtain⟨m1,m2,m3⟩:=xO3 a2
  obtain⟨⟨e1,e2⟩,e3⟩:=nd3 hne
  exact⟨C.based,rfl,rfl,(qv (qc (ql h257 hDl) hlo)),HasL.mem ⟨C.it,C.reg.d,C.acc,Hi,C.l,zt⟩,(jdq Z.off.1 h257 Z.off.2.1 (qv (qc (ql h257 hDl) ho.1)) Z.off.2.2).mem,
   dn5 ⟨⟨n1.symm,e1,m1.symm,e2⟩,⟨n2,qh (qc hDl ho.1),n3⟩,⟨m2.symm,e3⟩,m3⟩⟩
 have fin:∀(h':Heap) (tk':Nat) (v':Nat×Value),h'.objs.size=s.heap.objs.size→h'.get? it=some (gs D (i.val+1))→h'.get? D=some (dO (wf w a b c).params nt (aq (ol og) nd) 8) →
   h'.get? acc=some (lO ((rdy og np (i.val+1)).map (nmV nt)) (rdy og np (i.val+1)).length)→h'.get? (nd (og i)).a=some (br (nmV nt (og i)) (nd (og i)).ad (np (og i)) (nd (og i)).tn (nd (og i)).l)→h'.get? l=some (ci (wf w a b c).params "i" (some v')) →
   (∀b ob,s.heap.get? b=some ob→b∉[it,D,acc,(nd (og i)).a,l]→h'.get? b=some ob)→codeAny (model PG (wf w a b c)) A (ctC it acc l L) R { s with heap:=h',toks:=tk' }:=fun h' tk' v' hs xi xd xa xn xl hacc=>by
  have hk:∀b ob,s.heap.get? b=some ob→b∉[it,acc,l]→h'.get? b=some ob:=fun b ob e hb=>by
   by_cases e1:b=D
   ·exact sg C.reg.d xd e e1
   by_cases e2:b=(nd (og i)).a
   ·exact sg Hi xn e e2
   refine hacc b ob e fun q=>?_
   obtain⟨b1,b2,b3⟩:=xO3 hb
   rcases mO5 q with q|q|q|q|q
   ·exact b1 q
   ·exact e1 q
   ·exact b2 q
   ·exact e2 q
   ·exact b3 q
  have z3:∀x∈[it,acc,l],257≤x:=fun x hx=>by
   rcases mO3 hx with e|e|e
   ·exact qy Z.off.1 e
   ·exact qy Z.off.2.1 e
   ·exact qy Z.off.2.2 e
  exact h h' tk' v' ⟨dw C.based z3 (m:=fun _=>False) (fun _ q=>q.elim) (fun b o e hb _=>hk b o e hb),C.reg.mono (fun b ob e hb=>hk b ob e (Z.ap b hb)) (qg hs),by rw[xi];rfl,xa,xl⟩ hk (qg hs)
 have hv:∀x,∃v',lvN i v s.toks x=some v':=fun x=>by unfold lvN;split<;>exact⟨_,rfl⟩
 obtain⟨v',hv'⟩:=hv (.ref (nd (og i)).a)
 by_cases hz:np (og i)=0
 ·refine bu (modA:=fun _=>False) (ji4 A.frames v i c) P hA.cx ⟨⟨f9 (by rw[hz];rfl),rc rfl (by rw[List.length_map];have:=jcs og np i.val;exact(qr (k:=991) (qs 1 this))),zt⟩,fun h' hsz hex _ hacc=>?_⟩
  have xl:h'.get? l=some (ci (wf w a b c).params "i" (lvN i v s.toks (.ref (nd (og i)).a))):=hex (4,_) (.tail _ (.tail _ (.tail _ (.tail _ (.head _)))))
  rw[hv'] at xl
  refine fin h' (s.toks+4) v' hsz (hex (0,_) (.head _)) (hex (1,_) (.tail _ (.head _))) ?_ (hex (3,_) (.tail _ (.tail _ (.tail _ (.head _))))) xl (fun b ob e hb=>hacc b ob e hb fun q=>q)
  rw[rt,if_pos hz,List.map_append,List.length_append]
  exact hex (2,_) (.tail _ (.tail _ (.head _)))
 ·refine bu (modA:=fun _=>False) (ji8 A.frames v i c) P hA.cx ⟨⟨f9 (by simpa using hz),zt⟩,fun h' hsz hex _ hacc=>?_⟩
  have xl:h'.get? l=some (ci (wf w a b c).params "i" (lvN i v s.toks (.ref (nd (og i)).a))):=hex (4,_) (.tail _ (.tail _ (.tail _ (.tail _ (.head _)))))
  rw[hv'] at xl
  refine fin h' (s.toks+3) v' hsz (hex (0,_) (.head _)) (hex (1,_) (.tail _ (.head _))) ?_ (hex (3,_) (.tail _ (.tail _ (.tail _ (.head _))))) xl (fun b ob e hb=>hacc b ob e hb fun q=>q)
  rw[rt,if_neg hz,List.append_nil]
  exact hex (2,_) (.tail _ (.tail _ (.head _)))
theorem jqa{lo:Nat}{np:Fin 8→Int}{su:Fin 8→List (Fin 8)}{A:Around}{R:Result→Shared→Prop}{s:Shared}(hA:Room A 700 7000){lv:Option (Nat×Value)}(Z:CLs D it acc l og nd)(C:CL (wf w a b c).params nt lo D it acc l og np su nd 8 lv s.heap)
  (h:∀h',h'.get? it=some jn→(∀b ob,s.heap.get? b=some ob→b≠it→h'.get? b=some ob)→s.heap.objs.size≤h'.objs.size→R (.ok .next) { s with heap:=h',toks:=s.toks+0 }) :
  codeAny (model PG (wf w a b c)) A (ctC it acc l L) R s:=by
 have h257:=C.reg.offD
 have hDl:=C.reg.ltD
 have hlo:=C.reg.size
 have a1:=Z.ap D (.inl rfl)
 have hne:it≠D:=fun e=>a1 (by rw[←e];exact .head _)
 have P:Pre (wf w a b c) (jay (wf w a b c).params nt D it og nd) s.heap.objs.size s.toks s:=
  ⟨C.based,rfl,rfl,(qv (qc (ql h257 hDl) hlo)),HasL.mem ⟨C.it,C.reg.d,zt⟩,(gx Z.off.1 h257).mem,uj hne⟩
 refine bu (modA:=fun _=>False) (jne A.frames) P hA.cx ⟨zt,fun h' hsz hex _ hacc=>?_⟩
 have hsz':h'.objs.size=s.heap.objs.size+2:=hsz
 refine h h' (hex (0,_) (.head _)) (fun b ob e hb=>?_) (qw (k:=2) (qg hsz'))
 by_cases e1:b=D
 ·exact sg C.reg.d (hex (1,_) (.tail _ (.head _))) e e1
 refine hacc b ob e (fun q=>?_) fun q=>q
 have q':b∈[it,D]:=q
 replace q':=mO2 q'
 rcases q' with q|q
 ·exact hb q
 ·exact e1 q
theorem jj9{lo:Nat}{np:Fin 8→Int}{su:Fin 8→List (Fin 8)}{A:Around}{R:Result→Shared→Prop}(hA:Room A 700 7000)(Z:CLs D it acc l og nd):∀(m i:Nat) (_:i+m=8) {s:Shared} {v:Nat×Value} (C:CL (wf w a b c).params nt lo D it acc l og np su nd i (if i=0 then none else some v) s.heap)
  (h:∀h' tk' lv,CL (wf w a b c).params nt lo D it acc l og np su nd 8 (some lv) h'→(∀b ob,s.heap.get? b=some ob→b∉[it,acc,l]→h'.get? b=some ob)→s.heap.objs.size≤h'.objs.size →
   codeAny (model PG (wf w a b c)) A (ctC it acc l L) R { s with heap:=h',toks:=tk' }),
  codeAny (model PG (wf w a b c)) A (ctC it acc l L) R s
 |0,i,e,s,v,C,h=>by
  have:i=8:=by omega
  subst this
  exact h s.heap s.toks v C (fun _ _ e _=>e) (Nat.le_refl _)
 |m+1,i,e,s,v,C,h=>by
  have hi:i<8:=by omega
  refine jjg (i:=⟨i,hi⟩) (v:=v) hA Z (by
   have:fb ⟨i,hi⟩ v=(if i=0 then none else some v):=by
    unfold fb
    by_cases q:i=0
    ·subst q;rfl
    ·rw[if_neg q,if_neg fun e=>q (congrArg Fin.val e)]
   rw[this];exact C) fun h' tk' v' C' K hs=>?_
  refine jj9 hA Z m (i+1) (by omega) (s:={ s with heap:=h',toks:=tk' }) (v:=v') (by rw[if_neg (Nat.succ_ne_zero i)];exact C') fun h2 tk2 lv C2 K2 hs2=>?_
  exact h h2 tk2 lv C2 (fun b ob e hb=>K2 b ob (K b ob e hb) hb) (Nat.le_trans hs hs2)
theorem jp8{lo:Nat}{np:Fin 8→Int}{su:Fin 8→List (Fin 8)}{A:Around}{R:Result→Shared→Prop}{s:Shared}(hA:Room A 700 7000)(Z:CLs D it acc l og nd)(C:CL (wf w a b c).params nt lo D it acc l og np su nd 0 none s.heap)
  (h:∀h' tk' lv,h'.get? it=some jn→h'.get? acc=some (lO ((rdy og np 8).map (nmV nt)) (rdy og np 8).length)→h'.get? l=some (ci (wf w a b c).params "i" (some lv))→(∀b ob,s.heap.get? b=some ob→b∉[it,acc,l]→h'.get? b=some ob)→s.heap.objs.size≤h'.objs.size→R (.ok .next) { s with heap:=h',toks:=tk' }) :
  codeAny (model PG (wf w a b c)) A (ctC it acc l L) R s:=by
 refine jj9 hA Z 8 0 rfl (v:=(0,.none)) C fun h' tk' lv C' K hs=>?_
 have hne:=Z.ne
 replace hne:=nd3 hne
 refine jqa hA Z (s:={ s with heap:=h',toks:=tk' }) C' fun h2 hie K2 hs2=>?_
 exact h h2 _ lv hie (K2 _ _ C'.acc (Ne.symm hne.1.1)) (K2 _ _ C'.l (Ne.symm hne.1.2)) (fun b ob e hb=>K2 b ob (K b ob e hb) fun q=>hb (by rw[q];exact .head _)) (Nat.le_trans hs hs2)
end
noncomputable def ar(l:List Stmt)(env:Env):Sem Fin:=PySem.W.R.bindR (PySem.W.Fast.tw12563942051412417395 l env) fun f=>.pure (.done f)
theorem jr{n:Nat}{w:World}{pre:List (Nat×Obj)}{N t₀:Nat}{scr:Script}{B X:Cx}{l:List Stmt}{env:Env}{A C:Around}{R:Result→Shared→Prop}{s:Shared}{modA:Addr→Prop}
  (H:dh n (mkV w pre N t₀) pre scr B X (ar l env)=rhs scr (mkV w pre N t₀)) (P:Pre w pre N t₀ s) (hB:B.Ok A) (hX:X.Ok C) (G:Goal w A R (ae s) s.heap modA scr (mkV w pre N t₀) s.heap) :
  wpAny (model PG w) C (execs l env) (fun f s'=>R (.ok f) s') (fun e s'=>R (.error e) s') s:=by
 have e:execs l env=PySem.W.Fast.tw12563942051412417395 l env:=by rw[PySem.W.Fast.te12563942051412417395]
 rw[e]
 exact ja (inj:=id) H P hB hX G (fun _ _ h=>h) (fun _ _ h=>h)
theorem i2{M:Model}{Γ:Ctx}{env:Env}{Q:Flow→Pos→Shared→Prop}{E:Value→Pos→Shared→Prop}(l₂:List Stmt):∀(l₁:List Stmt) {p:Pos} {s:Shared},
  PySem.Sem.wp M Γ (execs l₁ env) (fun f p' s'=>match f with|.next=>PySem.Sem.wp M Γ (execs l₂ env) Q E p' s'|f=>Q f p' s') E p s→PySem.Sem.wp M Γ (execs (l₁++l₂) env) Q E p s
 |[],p,s,h=>h
 |st::l₁,p,s,h=>by
  show PySem.Sem.wp M Γ (execs (st::(l₁++l₂)) env) Q E p s
  rw[execs_cons,Sem.wp_bind'] at h ⊢
  refine Sem.wp_mono M Γ _ (fun f p' s' h'=>?_) (fun _ _ _ h'=>h') p s h
  cases f with
  |next=>exact i2 l₂ l₁ h'
  |_=>exact h'
theorem ah{M:Model}{A:Around}{E:Value→Shared→Prop}{env:Env}{Q:Flow→Shared→Prop}(l₁ l₂:List Stmt){s:Shared}
  (h:wpAny M A (execs l₁ env) (fun f s'=>match f with|.next=>wpAny M A (execs l₂ env) Q E s'|f=>Q f s') E s):wpAny M A (execs (l₁++l₂) env) Q E s:=fun Γ p hΓ=>by
 refine i2 l₂ l₁ (Sem.wp_mono M Γ _ (fun f p' s' h'=>?_) (fun _ _ _ h'=>h') p s (h Γ p hΓ))
 cases f with
 |next=>exact h' Γ p' hΓ
 |_=>exact h'
noncomputable def vz(n m:Nat)(qual:String)(L f cd:Nat):Env:=⟨ky (st2 n m),L,3,[],sn qual,some f,.ref cd,some L,0⟩
noncomputable def jdd:List Nat:=[0,1,1]
noncomputable def jde:List CH:=[.f,.stop]
noncomputable def jeq:List Nat:=[0,1,1,1,1]
noncomputable def jer:List CH:=[.f,.stop]
section
variable{w:World}{a b c:Bool}{N t₀:Nat}
noncomputable def b5(L:Nat):Env:=vz 16 3 "TopologicalSorter.prepare.<locals>." L 157 156
noncomputable def az(L:Nat):Env:=vz 16 8 "TopologicalSorter._find_cycle.<locals>." L 192 191
noncomputable def iy(P:Params)(cd:Code)(x:String)(v:Value)(t₀:Nat):Script:=.fin jdd jde ⟨.ok (.again cd),[(0,frO P [(x,t₀,v)] 1)],1,1⟩
noncomputable def u8(P:Params)(cd:Code)(x y:String)(v u:Value)(t₀:Nat):Script:=.fin jeq jer ⟨.ok (.again cd),[(0,frO P [(x,t₀,v),(y,t₀+1,u)] 2)],1,2⟩
theorem jdc(S:Nat)(f:Option (List Env)):c9 60 (wf w a b c) N t₀ [] (iy (wf w a b c).params (.func (d6 (st2 16 3)) (b5 N)) "self" (.ref S) t₀) ⟨none,750,7500,f⟩ (.call (.ref 157) ⟨[.ref S],[]⟩):=by kernel_rfl
theorem jhm(S:Nat)(f:Option (List Env)):c9 60 (wf w a b c) N t₀ [] (iy (wf w a b c).params (.func (d6 (st2 16 8)) (az N)) "self" (.ref S) t₀) ⟨none,800,8000,f⟩ (.call (.ref 192) ⟨[.ref S],[]⟩):=by kernel_rfl
theorem E8(S:Nat)(f:Option (List Env)):c9 60 (wf w a b c) N t₀ [] (iy (wf w a b c).params (.func (d6 (st1 28)) (xq 28 "law.<locals>." N 256 255)) "script" (.ref S) t₀) ⟨none,400,400,f⟩ (.call (.ref 256) ⟨[.ref S],[]⟩):=by kernel_rfl
theorem jep(S S':Nat)(f:Option (List Env)):c9 60 (wf w a b c) N t₀ [] (u8 (wf w a b c).params (.func (d6 (st1 25)) (xq 25 "_law_run.<locals>." N 241 240)) "names" "numbers" (.ref S) (.ref S') t₀) ⟨none,500,1000,f⟩ (.call (.ref 241) ⟨[.ref S,.ref S'],[]⟩):=by kernel_rfl
end
structure Noted(S:List Addr)(e:Addr)(h h':Heap):Prop where
 size:h.objs.size≤h'.objs.size
 keep:∀b o,h.get? b=some o→b∉S→b≠e→h'.get? b=some o
 slots:∀b o,h.get? b=some o→b∈S→∃sl,h'.get? b=some { o with slots:=sl }
section
variable{M:Model}{A:Around}{E:Value→Shared→Prop}{s:Shared}
noncomputable def noBase:Heap:={ objs:=#[] }
theorem cf(b:Addr):noBase.get? b=none:=rfl
structure TracedAt(n:Nat)(h:Heap)(e:Addr)(cls:Value):Prop where
 ex:∃oe vs T oT ts,h.get? e=some oe∧oe.cls=cls∧oe.data=.fields vs∧vs[1]?=some (.ref T)∧T≠e∧@LE.le Nat _ n T∧h.get? T=some oT∧oT.data=.fields ts∧ts[3]?=some .none
theorem i5{env:Env}{outer:List Env}{L e:Addr}{oe:Obj}{vs:Array Value}{head:Value}{hadNext:Bool}{Q:Unit→Shared→Prop}
  (hfr:A.frames=some (env::outer)) (hl:s.heap.FunFrames noBase (env::outer)) (hf:env.frame=some L)
  (he:s.heap.get? e=some oe) (hd:oe.data=.fields vs) (hsz:1<vs.size)
  (h:∀h',Noted ((env::outer).filterMap (·.frame)) e s.heap h'→TracedAt s.heap.objs.size h' e oe.cls→h'.FunFrames noBase (env::outer)→Q () { s with heap:=h' }) :
  wpAny M A (do let a ←frameOf env;let pl ←entryPlaceOf L hadNext;let b ←EntryCells.newEntry head a .none (rawInt L) .none pl;setField (.ref e) 1 b) (fun _ s'=>wpAny M A (setFlight (.ref e) none) Q E s') E s:=by
 have hene:e∉(env::outer).filterMap (·.frame):=fun hm=>by
  obtain⟨_,o,ho,hnf⟩:=hl.mem hm
  rw[he] at ho;injection ho with ho;subst ho;exact hnf vs hd
 refine wpAny_bind (wpAny_frameOf_fun hfr hl hf fun h₁ hs₁=>?_)
 refine wpAny_bind (wpAny_entryPlaceOf fun pl hpl=>?_)
 unfold EntryCells.newEntry newFields
 refine wpAny_bind (wpAny_newObj_type ?_ (hpl.sizeOk5 _ _ _ _ _))
 have he₁:h₁.get? e=some oe:=(hs₁.2.1 e hene).trans he
 have he₂:=Heap.get?_push_of_some (h:=h₁) { cls:=.type "traceback",dict:=none,data:=.fields ([head,.ref L,.none,rawInt L,.none]++(if pl.isEmpty then List.replicate 6 Value.none else pl)).toArray } he₁
 refine wpAny_setField he₂ hd hsz ?_
 have hTe:h₁.objs.size≠e:=Nat.ne_of_gt (Heap.lt_size he₁)
 have hd₃:=Obj.data_mapFields hd (·.setIfInBounds 1 (Value.ref h₁.objs.size))
 have he₃:=Heap.get?_update_self (Obj.mapFields (·.setIfInBounds 1 (Value.ref h₁.objs.size))) he₂ (Obj.isFreed_of_fields hd₃)
 have hT₃:=(Heap.get?_update_other (h₁.push { cls:=.type "traceback",dict:=none,data:=.fields ([head,.ref L,.none,rawInt L,.none]++(if pl.isEmpty then List.replicate 6 Value.none else pl)).toArray })
  (Obj.mapFields (·.setIfInBounds 1 (Value.ref h₁.objs.size))) (Ne.symm hTe)).trans (Heap.get?_push_size h₁ rfl)
 unfold setFlight
 refine wpAny_bind (wpAny_field he₃ hd₃ (x:=.ref h₁.objs.size) (by simp[hsz]) ?_)
 refine wif (show(Value.ref h₁.objs.size != Value.none)=true from by simp) ?_
 refine wpAny_setField hT₃ rfl (by simp only[List.size_toArray,List.length_append,List.length_cons,List.length_nil]<;>omega) ?_
 have keep:∀b o,b≠e→h₁.get? b=some o →
   (((h₁.push { cls:=.type "traceback",dict:=none,data:=.fields ([head,.ref L,.none,rawInt L,.none]++(if pl.isEmpty then List.replicate 6 Value.none else pl)).toArray }).update e (Obj.mapFields (·.setIfInBounds 1 (Value.ref h₁.objs.size)))).update h₁.objs.size
    (Obj.mapFields (·.setIfInBounds 3 ((none:Option Addr).elim Value.none fun f=>rawInt f)))).get? b=some o:=fun b o hbe hb=>by
  have hbT:h₁.objs.size≠b:=Nat.ne_of_gt (Heap.lt_size hb)
  rw[Heap.get?_update_other _ _ hbT,Heap.get?_update_other _ _ (Ne.symm hbe)]
  exact Heap.get?_push_of_some _ hb
 have noRecord:∀b o,s.heap.get? b=some o→(∀vs,o.data≠.fields vs)→b≠e:=fun b o hb hnf q=>by
  rw[q,he] at hb;injection hb with hb;subst hb;exact hnf vs hd
 refine h _ ⟨?_,fun b o hb hS hbe=>keep b o hbe ((hs₁.2.1 b hS).trans hb),fun b o hb hS=>?_⟩ ⟨?_⟩ (hl.of_keeps fun b o hb hnf=>?_)
 ·rw[Heap.size_after_update,Heap.size_after_update,Heap.size_push,hs₁.1];exact Nat.le_succ _
 ·obtain⟨sl,hs⟩:=hs₁.2.2 b o hb
  obtain⟨_,o',ho',hnf⟩:=hl.mem hS
  rw[hb] at ho';cases ho'
  exact⟨sl,keep b _ (noRecord b o hb hnf) hs⟩
 ·refine⟨_,_,h₁.objs.size,_,_,?_,Obj.cls_mapFields _ _,hd₃,by simp[hsz],hTe,by rw[hs₁.1];exact Nat.le_refl _,Heap.get?_update_self _ hT₃ (Obj.isFreed_of_fields (Obj.data_mapFields rfl _)),Obj.data_mapFields rfl _,by first|(simp;done)|(rcases hpl with rfl|⟨_,_,_,_,_,_,_,rfl⟩<;>simp)⟩
  rw[Heap.get?_update_other _ _ hTe];exact he₃
 ·obtain⟨sl,hs⟩:=hs₁.2.2 b o hb
  exact⟨_,keep b _ (noRecord b o hb hnf) hs,rfl⟩
theorem fg{env:Env}{outer:List Env}{L e:Addr}{oe:Obj}{vs:Array Value}{Q:Unit→Shared→Prop}
  (hfr:A.frames=some (env::outer)) (hl:s.heap.FunFrames noBase (env::outer)) (hf:env.frame=some L)
  (he:s.heap.get? e=some oe) (hd:oe.data=.fields vs) (h1:vs[1]?=some .none)
  (h:∀h',Noted ((env::outer).filterMap (·.frame)) e s.heap h'→TracedAt s.heap.objs.size h' e oe.cls→h'.FunFrames noBase (env::outer)→Q () { s with heap:=h' }) :
  wpAny M A (noteFrame (.ref e) env) (fun _ s'=>wpAny M A (setFlight (.ref e) none) Q E s') E s:=by
 unfold noteFrame
 simp only[hf]
 refine wpAny_bind (wpAny_field he hd h1 ?_)
 refine wie (by decide) ?_
 exact i5 hfr hl hf he hd (Array.getElem?_eq_some_iff.mp h1).1 h
end
noncomputable def stO(es:Array (Int×Value))(ep:Nat)(t:SetTable):Obj:=⟨.type "set",none,.set es ep t,#[]⟩
section
variable{w:World}{nt:Fin 8→Nat}{A:Around}{R:Result→Shared→Prop}{s:Shared}{a:Nat}{k:Fin 8}{n:Nat}{S:Str→Bool}
theorem vp:(nmV nt k).scannable=true:=rfl
theorem bt{h:Heap}(hS:h.SetOf (strKind PG w) a S n):∃es ep t,h.get? a=some (stO es ep t):=by
 obtain⟨o,es,ep,t,ho,hex,hd,-⟩:=hS
 obtain⟨c,d,dt,sl⟩:=o
 obtain⟨h1,h2,h3⟩:=hex
 simp only at h1 h2 h3 hd
 subst h1 h2 h3 hd
 exact⟨es,ep,t,ho⟩
theorem ui(hS:s.heap.SetOf (strKind PG w) a S n)(h:R (rv (.bool (S (nmS k)))) { s with toks:=s.toks+1 }) :
  codeAny (model PG w) A (.call (.builtin "set.__contains__") ⟨[.ref a,nmV nt k],[]⟩) R s:=by
 refine bf (S:=fun _ R s'=>s'=s∧R (rv (.bool (S (nmS k)))) { s with toks:=s.toks+1 }) F.slot_set_contains hS.typeIs entry_set_contains (F.args_set_contains_2 _ _) (.of_wp fun A R s' ⟨e,h⟩=>?_) ⟨rfl,h⟩
 subst e
 unfold Builtin.«frozenset.__contains__» Builtin.Frozenset.oneOther
 simp only[List.isEmpty_nil,bind_assoc]
 unfold Builtin.Frozenset.addrOf Builtin.Frozenset.withSetAsKey setContains
 refine wpAny_bind (wpAny_pure ?_)
 try dsimp only
 refine wpAny_bind (wpAny_pure ?_)
 try dsimp only
 refine wpAny_bind (wpAny_tryCatch ?_)
 refine wpAny_holding ?_
 refine wpAny_bind ((strKind PG w).pyHash gu ?_)
 refine wpAny_bind (wpAny_setFind_of (s:={ s' with toks:=s'.toks+1 }) gu vp hS fun r hr=>?_)
 refine wpAny_pure ?_
 show wpAny _ _ (ret (Value.bool r.isSome)) _ _ _
 rw[hr]
 exact wpAny_pure ⟨_,rfl,h⟩
theorem jn1(hS:s.heap.SetOf (strKind PG w) a S n)(hroom:n+1<scanBound)
  (h:∀h',Heap.SameBut a s.heap h'→h'.SetOf (strKind PG w) a (fun k'=>S k'||decide (k'=nmS k)) (if S (nmS k) then n else n+1)→R (rv .none) { s with heap:=h',toks:=s.toks+1 }) :
  codeAny (model PG w) A (.call (.builtin "set.add") ⟨[.ref a,nmV nt k],[]⟩) R s:=by
 refine bf (S:=fun _ R s'=>s'=s∧∀h',Heap.SameBut a s.heap h'→h'.SetOf (strKind PG w) a (fun k'=>S k'||decide (k'=nmS k)) (if S (nmS k) then n else n+1)→R (rv .none) { s with heap:=h',toks:=s.toks+1 }) F.slot_set_add hS.typeIs F.entry_set_add (F.args_set_add_2 _ _) (.of_wp fun A R s' ⟨e,h⟩=>?_) ⟨rfl,h⟩
 subst e
 unfold Builtin.«set.add» Builtin.Frozenset.oneOther
 simp only[List.isEmpty_nil,bind_assoc]
 unfold Builtin.Frozenset.addrOf setAdd
 refine wpAny_bind (wpAny_pure ?_)
 try dsimp only
 refine wpAny_bind (wpAny_pure ?_)
 try dsimp only
 refine wpAny_bind ?_
 refine wpAny_holding ?_
 refine wpAny_bind ((strKind PG w).pyHash gu ?_)
 refine wpAny_setAddHashed_of (s:={ s' with toks:=s'.toks+1 }) gu vp hS hroom fun h' hsb hS'=>?_
 show wpAny _ _ (ret Value.none) _ _ _
 exact wpAny_pure ⟨_,rfl,h h' hsb hS'⟩
end
theorem ig{V:SV}{h₀:Heap}{code:Code}{d u:Nat}{hnd:Option Value}{pre:List (Nat×Obj)}{i tk toks:Nat}{res:Result}{o':Obj}(hf:o'.isFreed=false)
  (H:∀(A:Around) (s:Shared) (R:Result→Shared→Prop),A.depth≤d→A.units≤u→ma V h₀ s.heap→s.heap.objs.size=V.N+i→(∀p∈pre,s.heap.get? (aj V.pre V.N p.1)=some p.2)→R res { s with heap:=s.heap.push o',toks:=s.toks+toks }→codeAny (model PG V.w) A code R s) :
  XOk V h₀ ⟨code,d,u,hnd,pre,i,tk,res,[],[o'],toks⟩:=fun A s hh hd hu hs ht hkt hk hpre=>
 H A s _ hd hu hk hs hpre ⟨rfl,s.heap.push o',rfl,Heap.size_push _ _,(fun p hp=>nomatch hp),(fun k o e=>by
  cases k with
  |zero=>
   cases e
   have hs':s.heap.objs.size=V.N+i:=hs
   show(s.heap.push o').get? (V.N+i)=some o'
   rw[←hs'];exact Heap.get?_push_size _ hf
  |succ k=>cases e),fun b o e _=>Heap.get?_push_of_some _ e⟩
noncomputable def dvO(D:Nat):Obj:=⟨.type "dict_values",none,.fields #[.ref D],#[]⟩
noncomputable def et(D:Nat)(i n ep:Int):Obj:=⟨.type "dict_keyiterator",none,.fields #[.ref D,.int i 0,.int n 0,.int ep 0],#[]⟩
section
variable{w:World}{nt:Fin 8→Nat}{A:Around}{R:Result→Shared→Prop}{s:Shared}{D:Nat}{kvs:KV}{ep:Nat}
theorem jaw(hd:D≠1)(ho:s.heap.get? D=some (dO w.params nt kvs ep))(h:R (rv (.ref s.heap.objs.size)) { s with heap:=s.heap.push (dvO D) }) :
  codeAny (model PG w) A (.call (.builtin "dict.values") ⟨[.ref D],[]⟩) R s:=by
 refine bf (S:=fun _ R s'=>s'=s∧R (rv (.ref s.heap.objs.size)) { s with heap:=s.heap.push (dvO D) }) F.slot_dict_values (dk ho).typeIs F.entry_dict_values (F.args_dict_values_1 _) (.of_wp fun A R s' ⟨e,h⟩=>?_) ⟨rfl,h⟩
 subst e
 refine wpAny_bind ?_
 unfold Builtin.Dict.noArgs
 refine wpAny_bind (wpAny_notOrdered_dict (dk ho).typeIs ?_)
 show wpAny _ _ (pure D) _ _ s'
 refine wpAny_pure ?_
 show wpAny _ _ (Builtin.Dict.showsAll D>>=_) _ _ s'
 unfold Builtin.Dict.showsAll
 rw[if_neg (by rw[show(D==sysModules)=false from beq_eq_false_iff_ne.mpr hd];exact Bool.false_ne_true)]
 refine wpAny_bind (wpAny_pure ?_)
 exact wpAny_bind (wpAny_newObj_type (wpAny_pure ⟨_,rfl,h⟩))
theorem jmm(hd:D≠1)(ho:s.heap.get? D=some (dO w.params nt kvs ep))(h:R (rv (.ref s.heap.objs.size)) { s with heap:=s.heap.push (et D 0 kvs.length ep) }) :
  codeAny (model PG w) A (.call (.builtin "dict.__iter__") ⟨[.ref D],[]⟩) R s:=by
 refine bf (S:=fun _ R s'=>s'=s∧R (rv (.ref s.heap.objs.size)) { s with heap:=s.heap.push (et D 0 kvs.length ep) }) F.slot_dict_iter (dk ho).typeIs F.entry_dict_iter (F.args_dict_iter_1 _) (.of_wp fun A R s' ⟨e,h⟩=>?_) ⟨rfl,h⟩
 subst e
 unfold Builtin.«dict.__iter__»
 refine wpAny_bind ?_
 unfold Builtin.Dict.dictSlotNone
 refine wpAny_bind (wpAny_notOrdered_dict (dk ho).typeIs ?_)
 show wpAny _ _ (pure (Value.ref D)) _ _ s'
 refine wpAny_pure ?_
 refine wpAny_bind (wpAny_pure ?_)
 show wpAny _ _ (Builtin.Dict.showsAll D>>=_) _ _ s'
 unfold Builtin.Dict.showsAll
 rw[if_neg (by rw[show(D==sysModules)=false from beq_eq_false_iff_ne.mpr hd];exact Bool.false_ne_true)]
 refine wpAny_bind (wpAny_pure ?_)
 refine wpAny_bind (wpAny_dictEntries ho rfl ?_)
 refine wpAny_bind (wpAny_dictEpoch ho rfl ?_)
 refine wpAny_bind (wpAny_newObj_type (wpAny_pure ⟨_,rfl,?_⟩))
 have:(⟨kvs.map (ent w.params nt)⟩:Array DictEntry).size=kvs.length:=by simp
 rw[this]
 exact h
end
noncomputable def jjb:List Nat:=[]
noncomputable def jjc:List CH:=[.p,.stop]
noncomputable def jjd:List Nat:=[1,1,1,1]
noncomputable def jje:List CH:=[.p,.p,.p,.stop]
section
variable{w:World}{a b c:Bool}{nt:Fin 8→Nat}{D it acc l L le N t₀:Nat}{og:Fin 8→Fin 8}{nd:Fin 8→Nd}{np:Int}{xs:List Value}
noncomputable def csC(it acc l L:Nat):Code:=.compStart prE 0 (.ref it) (.ref acc) (jj1 l L)
noncomputable def jm9(b:Bool)(D it acc l L:Nat):Script:=match b with
 |true=>.fin jjb jjc ⟨.ok (.again (ctC it acc l L)),[(0,gs D 0)],0,0⟩
 |false=>.fin jjd jje ⟨.ok (.again (ctC it acc l L)),[(0,gs D 0)],0,0⟩
theorem jna(f:Option (List Env)):∀(b c:Bool),c9 60 (wf w a b c) N t₀ [(it,gs D 0)] (jm9 b D it acc l L) ⟨none,700,7000,f⟩ (csC it acc l L)
 |true,true=>by kernel_rfl
 |true,false=>by kernel_rfl
 |false,true=>by kernel_rfl
 |false,false=>by kernel_rfl
theorem jp9{lo:Nat}{np:Fin 8→Int}{su:Fin 8→List (Fin 8)}{A:Around}{R:Result→Shared→Prop}{s:Shared}(hA:Room A 700 7000)(Z:CLs D it acc l og nd)(C:CL (wf w a b c).params nt lo D it acc l og np su nd 0 none s.heap)
  (h:∀h' tk' lv,h'.get? it=some jn→h'.get? acc=some (lO ((rdy og np 8).map (nmV nt)) (rdy og np 8).length)→h'.get? l=some (ci (wf w a b c).params "i" (some lv))→(∀b ob,s.heap.get? b=some ob→b∉[it,acc,l]→h'.get? b=some ob)→s.heap.objs.size≤h'.objs.size→R (.ok .next) { s with heap:=h',toks:=tk' }) :
  codeAny (model PG (wf w a b c)) A (csC it acc l L) R s:=by
 have h257:=C.reg.offD
 have hDl:=C.reg.ltD
 have hlo:=C.reg.size
 have P:Pre (wf w a b c) [(it,gs D 0)] s.heap.objs.size s.toks s:=
  ⟨C.based,rfl,rfl,(qv (qc (ql h257 hDl) hlo)),HasL.mem ⟨C.it,zt⟩,(b6 Z.off.1).mem,List.pairwise_singleton ..⟩
 have fin:∀(h':Heap) (tk':Nat),h'.objs.size=s.heap.objs.size→h'.get? it=some (gs D 0)→(∀b ob,s.heap.get? b=some ob→b≠it→h'.get? b=some ob)→codeAny (model PG (wf w a b c)) A (ctC it acc l L) R { s with heap:=h',toks:=tk' }:=fun h' tk' hs xi hk=>by
  have hk':∀b ob,s.heap.get? b=some ob→h'.get? b=some ob:=fun b ob e=>by
   by_cases q:b=it
   ·exact sg C.it xi e q
   ·exact hk b ob e q
  refine jp8 (s:={ s with heap:=h',toks:=tk' }) hA Z ⟨C.based.keeps fun a o e _=>hk' a o e,C.reg.mono (fun b ob e _=>hk' b ob e) (by show _≤h'.objs.size;exact(qg hs)),xi,hk' _ _ C.acc,hk' _ _ C.l⟩ fun h2 tk2 lv x0 x1 x2 x3 x4=>?_
  have x4':h'.objs.size≤h2.objs.size:=x4
  exact h h2 tk2 lv x0 x1 x2 (fun b ob e hb=>x3 b ob (hk' b ob e) hb) (by omega)
 have run:=jna (w:=w) (a:=a) (D:=D) (it:=it) (acc:=acc) (l:=l) (L:=L) (N:=s.heap.objs.size) (t₀:=s.toks) A.frames b c
 cases b with
 |true=>
  refine bu (modA:=fun _=>False) run P hA.cx ⟨zt,fun h' hsz hex _ hacc=>?_⟩
  exact fin h' _ hsz (hex (0,_) (.head _)) fun b ob e hb=>hacc b ob e (fun q=>hb (List.mem_singleton.mp q)) fun q=>q
 |false=>
  refine bu (modA:=fun _=>False) run P hA.cx ⟨zt,fun h' hsz hex _ hacc=>?_⟩
  exact fin h' _ hsz (hex (0,_) (.head _)) fun b ob e hb=>hacc b ob e (fun q=>hb (List.mem_singleton.mp q)) fun q=>q
end
section
variable{w:World}{A:Around}{R:Result→Shared→Prop}{s:Shared}
theorem wb{id:String}{b:Builtin}{args:List Value}(hk:builtinKind id=none)(hp:plainId id=true)(hb:entryFor table id=some b)(ha:argsOk id ⟨args,[]⟩)
  (hc:wpAny (model PG w) A.in1 (b ⟨args,[]⟩) (fun fin s'=>∃v,fin=.done (.ret v)∧R (rv v) s') (fun e s'=>R (.error e) s') s):codeAny (model PG w) A (.call (.builtin id) ⟨args,[]⟩) R s:=by
 refine codeAny_call_builtin hp hb ?_
 have hfin:=wpAny_mono hc (Q':=fun fin s'=>match fin with
   |.done f=>R (.ok f) s'
   |.again c'=>c'.quiet=true∧codeAny (model PG w) A c' R s')
  (fun fin s' h'=>by obtain⟨v,rfl,hv⟩:=h';exact hv) fun _ _ h'=>h'
 simp only[checkBuiltinCall,hk]
 cases hsig:Manifest.signature? id with
 |none=>exact wpAny_pure hfin
 |some sig=>
  simp only[argsOk,hsig] at ha
  have h2:Bind.checkArgs id sig ⟨args,[]⟩=pure ():=ha
  show wpAny _ A.in1 (Bind.checkArgs id sig ⟨args,[]⟩) _ _ s
  rw[h2];exact wpAny_pure hfin
theorem jpm{l:Nat}{xs:List Value}{ep:Nat}(ho:s.heap.get? l=some (lO xs ep))(hl:xs.length<1000)(h:R (rv (.int xs.length (s.toks+1))) { s with toks:=s.toks+1+1 }) :
  codeAny (model PG w) A (.call (.builtin "len") ⟨[.ref l],[]⟩) R s:=
 wb kind_len plain_len entry_len (args_len1 _) (wpAny_mono (wpAny_len_body_list (items:=⟨xs⟩) ⟨_,ho,rfl,ep,rfl⟩ (by simp;omega) (Q:=fun v s'=>R (rv v) s') (by simpa using h)) (fun _ _ q=>q) fun _ _ q=>q)
theorem lr{T:String}{name:Str}{id:String}{B:Builtin}{self:Value}{rest:List Value}(slot:Slot T name id)(entry:entryFor table id=some B)
  (h:wpAny (model PG w) A.in1 (B ⟨self::rest,[]⟩) (fun fin s'=>∃v,fin=.done (.ret v)∧R (rv v) s') (fun e s'=>R (.error e) s') s):codeAny (model PG w) A (.builtin id ⟨self::rest,[]⟩) R s:=
 codeAny_builtin entry (by
  rw[Around.under_plainId slot.plain]
  exact wpAny_mono h (fun fin s' h'=>by obtain⟨v,rfl,hv⟩:=h';exact hv) fun _ _ x=>x)
noncomputable def liO(l:Nat)(i:Nat):Obj:=⟨.type "list_iterator",none,.fields #[.ref l,.int i 0],#[]⟩
noncomputable def liE(i:Nat):Obj:=⟨.type "list_iterator",none,.fields #[.none,.int i 0],#[]⟩
noncomputable def m9:Obj:=⟨.type "tuple",none,.seq #[] 0,#[]⟩
noncomputable def i7(t:Nat):Obj:=⟨.type "StopIteration",none,.fields #[.ref t,.none,.none,.none,.bool false,.none],#[]⟩
theorem jev{it l i:Nat}{xs:List Value}{ep:Nat}{x:Value}(hi:s.heap.get? it=some (liO l i))(ho:s.heap.get? l=some (lO xs ep))(hx:xs[i]?=some x)
  (h:∀h',h'.get? it=some (liO l (i+1))→Heap.SameBut it s.heap h'→R (rv x) { s with heap:=h' }) :
  codeAny (model PG w) A (.builtin "list_iterator.__next__" ⟨[.ref it],[]⟩) R s:=by
 refine lr slot_listiter_next entry_listiter_next ?_
 show wpAny _ _ (field (.ref it) 0>>=_) _ _ s
 refine wpAny_bind (wpAny_field hi rfl (x:=.ref l) rfl ?_)
 show wpAny _ _ (if(Value.ref l==Value.none)=true then _ else _) _ _ s
 refine wie (show ¬((Value.ref l==Value.none)=true) from Bool.false_ne_true) ?_
 show wpAny _ _ (field (.ref it) 1>>=_) _ _ s
 refine wpAny_bind (wpAny_field hi rfl (x:=.int i 0) rfl ?_)
 show wpAny _ _ (seqItems? (.ref l)>>=_) _ _ s
 refine wpAny_bind (wpAny_seqItems ho rfl ?_)
 have hx':(⟨xs⟩:Array Value)[i]?=some x:=by rw[List.getElem?_toArray];exact hx
 simp only[Int.toNat_natCast,hx']
 refine wpAny_bind (wpAny_setField hi rfl (by simp) (wpAny_pure ⟨x,rfl,h _ ?_ (Heap.SameBut.update ..)⟩))
 rw[Heap.get?_update_self _ hi rfl]
 simp[liO,Obj.mapFields,rawInt]
theorem jlj{it l i:Nat}{xs:List Value}{ep:Nat}(hh:A.handled=none)(hi:s.heap.get? it=some (liO l i))(ho:s.heap.get? l=some (lO xs ep))(hx:xs[i]?=none)
  (h:∀h',h'.objs.size=s.heap.objs.size+2→h'.get? it=some (liE i)→h'.get? s.heap.objs.size=some m9→h'.get? (s.heap.objs.size+1)=some (i7 s.heap.objs.size)→(∀b o,s.heap.get? b=some o→b≠it→h'.get? b=some o)→R (.error (.ref (s.heap.objs.size+1))) { s with heap:=h' }) :
  codeAny (model PG w) A (.builtin "list_iterator.__next__" ⟨[.ref it],[]⟩) R s:=by
 refine lr slot_listiter_next entry_listiter_next ?_
 show wpAny _ _ (field (.ref it) 0>>=_) _ _ s
 refine wpAny_bind (wpAny_field hi rfl (x:=.ref l) rfl ?_)
 show wpAny _ _ (if(Value.ref l==Value.none)=true then _ else _) _ _ s
 refine wie (show ¬((Value.ref l==Value.none)=true) from Bool.false_ne_true) ?_
 show wpAny _ _ (field (.ref it) 1>>=_) _ _ s
 refine wpAny_bind (wpAny_field hi rfl (x:=.int i 0) rfl ?_)
 show wpAny _ _ (seqItems? (.ref l)>>=_) _ _ s
 refine wpAny_bind (wpAny_seqItems ho rfl ?_)
 have hx':(⟨xs⟩:Array Value)[i]?=none:=by rw[List.getElem?_toArray];exact hx
 simp only[Int.toNat_natCast,hx']
 refine wpAny_bind (wpAny_rule (wpAny_bind (wpAny_setField hi rfl (by simp) ?_)))
 show wpAny _ _ (newExc (.type "StopIteration") []>>=_) _ _ _
 refine wpAny_bind ?_
 simp only[newExc,newTuple]
 refine wpAny_bind (wpAny_newObj_type ?_ (by size_fits))
 refine wpAny_bind (m:=firstArgMember _ _) (wpAny_of_eq (a:=Value.none) (by first|rfl|(simp only[firstArgMember];rfl)) ?_)
 refine wpAny_newObj_type ?_ (by size_fits)
 simp only[raiseNew]
 refine wpAny_bind (wpAny_handled ?_)
 rw[show A.in1.handled=none from hh]
 refine wpAny_bind (wpAny_pure (wpAny_throw ?_))
 have hsu:((s.heap.update it (Obj.mapFields (·.setIfInBounds 0 .none)))).objs.size=s.heap.objs.size:=Heap.size_after_update ..
 have hlt:@LT.lt Nat _ it s.heap.objs.size:=Heap.lt_size hi
 have eT:(⟨.type "tuple",none,.seq #[] 0,#[]⟩:Obj)=m9:=rfl
 have e1:((s.heap.update it (Obj.mapFields (·.setIfInBounds 0 .none))).push m9).objs.size=s.heap.objs.size+1:=by rw[Heap.size_push,hsu]
 have eM:ownMembersOf (.type "StopIteration") []=#[]:=by simp[ownMembersOf]
 rw[eM]
 have eT':({ cls:=Value.type "tuple",data:=Data.seq #[] }:Obj)=m9:=rfl
 rw[eT',e1,hsu]
 have eS:(⟨.type "StopIteration",none,.fields (#[Value.ref s.heap.objs.size,.none,.none,.none,.bool false,.none]++#[]),#[]⟩:Obj)=i7 s.heap.objs.size:=rfl
 have h1:=h (((s.heap.update it (Obj.mapFields (·.setIfInBounds 0 .none))).push m9).push (i7 s.heap.objs.size)) (by rw[Heap.size_push,e1]) ?_ ?_ ?_ ?_
 ·exact h1
 ·refine Heap.get?_push_of_some _ (Heap.get?_push_of_some _ ?_)
  rw[Heap.get?_update_self _ hi rfl]
  rfl
 ·refine Heap.get?_push_of_some _ ?_
  have:=Heap.get?_push_size (s.heap.update it (Obj.mapFields (·.setIfInBounds 0 .none))) (o:=m9) rfl
  rwa [hsu] at this
 ·have:=Heap.get?_push_size ((s.heap.update it (Obj.mapFields (·.setIfInBounds 0 .none))).push m9) (o:=i7 s.heap.objs.size) rfl
  rwa [e1] at this
 ·intro b o e hb
  exact Heap.get?_push_of_some _ (Heap.get?_push_of_some _ ((Heap.get?_update_other _ _ (Ne.symm hb)).trans e))
end
noncomputable def dm(pre:List (Nat×Obj))(N:Nat)(ex:List (Nat×Obj)):List (Nat×Obj):=ex.map fun p=>(aj (pre.map (·.1)) N p.1,p.2)
noncomputable def ez:List Nat→Bool
 |[]=>true
 |a::l=>(l.all fun x=>Nat.beq a x |>.not)&&ez l
theorem vo:∀{l:List Nat},ez l=true→l.Nodup
 |[],_=>List.Pairwise.nil
 |a::l,h=>by
  unfold ez at h
  rw[Bool.and_eq_true] at h
  refine List.Pairwise.cons (fun x hx e=>?_) (vo h.2)
  have:=List.all_eq_true.mp h.1 x hx
  subst e
  rw[show Nat.beq a a=true from Nat.beq_refl a] at this
  cases this
noncomputable def af(l:List Nat)(h h':Heap):Prop:=∀b o,h.get? b=some o→b∉l→h'.get? b=some o
section
variable{w:World}{pre:List (Nat×Obj)}{N t₀:Nat}{s:Shared}{h':Heap}
theorem ve(P:Pre w pre N t₀ s)(j:Nat):257≤aj (pre.map (·.1)) N j∨aj (pre.map (·.1)) N j=229:=by
 by_cases h:j<(pre.map (·.1)).length
 ·rw[bh _ _ _ h,List.getElem_map]
  exact P.off _ (List.getElem_mem _)
 ·rw[bz _ _ _ (Nat.le_of_not_lt h)]
  have:=P.ge
  exact .inl (by omega)
theorem zq(P:Pre w pre N t₀ s){i j:Nat}(e:aj (pre.map (·.1)) N i=aj (pre.map (·.1)) N j):i=j:=by
 have hlt:∀k (h:k<(pre.map (·.1)).length),aj (pre.map (·.1)) N k<N:=fun k h=>by
  rw[bh _ _ _ h,List.getElem_map]
  have:@LT.lt Nat _ _ s.heap.objs.size:=Heap.lt_size (P.has _ (List.getElem_mem (by rwa [List.length_map] at h)))
  rwa [P.size] at this
 by_cases h:i<(pre.map (·.1)).length
 ·by_cases h':j<(pre.map (·.1)).length
  ·rw[bh _ _ _ h,bh _ _ _ h'] at e
   exact(List.getElem_inj P.nodup).mp e
  ·have:=hlt i h
   rw[e,bz _ _ _ (Nat.le_of_not_lt h')] at this
   omega
 ·by_cases h':j<(pre.map (·.1)).length
  ·have:=hlt j h'
   rw[←e,bz _ _ _ (Nat.le_of_not_lt h)] at this
   omega
  ·rw[bz _ _ _ (Nat.le_of_not_lt h),bz _ _ _ (Nat.le_of_not_lt h')] at e
   omega
theorem Pre.post(P:Pre w pre N t₀ s){i tk:Nat}{ex:List (Nat×Obj)}(hsz:h'.objs.size=N+i)(hex:∀p∈ex,h'.get? (aj (pre.map (·.1)) N p.1)=some p.2)
  (hacc:af (pre.map (·.1)) s.heap h') (hk:ez (ex.map (·.1))=true):Pre w (dm pre N ex) (N+i) (t₀+tk) ((ae s).at h' (t₀+tk)):=by
 refine⟨?_,hsz,rfl,Nat.le_trans P.ge (Nat.le_add_right _ _),fun p hp=>?_,fun p hp=>?_,?_⟩
 ·exact⟨fun a o e=>hacc a o (P.based.kt a o e) fun hm=>by
   obtain⟨q,hq,rfl⟩:=List.mem_map.mp hm
   have:=bv (P:=w.params) (P.off q hq)
   rw[e] at this;cases this⟩
 ·obtain⟨q,hq,rfl⟩:=List.mem_map.mp hp
  exact hex q hq
 ·obtain⟨q,hq,rfl⟩:=List.mem_map.mp hp
  exact ve P q.1
 ·have:(dm pre N ex).map (·.1)=(ex.map (·.1)).map (aj (pre.map (·.1)) N):=by
   unfold dm
   rw[List.map_map,List.map_map];rfl
  rw[this]
  exact List.Pairwise.map _ (fun a b h e=>h (zq P e)) (vo hk)
theorem cz{n i tk:Nat}{hs:List Nat}{cs:List CH}{out:Except Value Fin}{ex:List (Nat×Obj)}{B:Cx}{c:Code}{A:Around}{R:Result→Shared→Prop}
  (H:jcq n (mkV w pre N t₀) pre (.fin hs cs ⟨out,ex,i,tk⟩) B c=rhs (.fin hs cs ⟨out,ex,i,tk⟩) (mkV w pre N t₀)) (P:Pre w pre N t₀ s) (hB:B.Ok A) (hk:ez (ex.map (·.1))=true)
  (hx:dx (mkV w pre N t₀) s.heap cs) (h:∀s',Pre w (dm pre N ex) (N+i) (t₀+tk) s'→af (pre.map (·.1)) s.heap s'.heap→ae s'=ae s→zs w A R out s') :
  codeAny (model PG w) A c R s:=
 bu (modA:=fun _=>False) H P hB ⟨hx,fun h' hsz hex _ hacc=>h _ (P.post hsz hex (fun b o e hb=>hacc b o e hb fun q=>q) hk) (fun b o e hb=>hacc b o e hb fun q=>q) rfl⟩
theorem cy{α:Type}{inj:α→Flow}{n i tk:Nat}{hs:List Nat}{cs:List CH}{out:Except Value Fin}{ex:List (Nat×Obj)}{B X:Cx}{t:Sem α}{A C:Around}{Q:α→Shared→Prop}{E:Value→Shared→Prop}
  (H:dh n (mkV w pre N t₀) pre (.fin hs cs ⟨out,ex,i,tk⟩) B X (PySem.W.R.bindR t fun a=>.pure (.done (inj a)))=rhs (.fin hs cs ⟨out,ex,i,tk⟩) (mkV w pre N t₀)) (P:Pre w pre N t₀ s) (hB:B.Ok A) (hX:X.Ok C) (hk:ez (ex.map (·.1))=true)
  (hx:dx (mkV w pre N t₀) s.heap cs) (h:∀s',Pre w (dm pre N ex) (N+i) (t₀+tk) s'→af (pre.map (·.1)) s.heap s'.heap→ae s'=ae s→match out with
   |.ok (.done f)=>∀a,inj a=f→Q a s'
   |.ok (.again _)=>False
   |.error e=>E e s') :
  wpAny (model PG w) C t Q E s:=by
 refine ja (A:=A) (R:=fun r s'=>match r with|.ok f=>∀a,inj a=f→Q a s'|.error e=>E e s') (modA:=fun _=>False) H P hB hX ⟨hx,fun h' hsz hex _ hacc=>?_⟩ (fun a s' h=>h a rfl) (fun _ _ h=>h)
 have:=h _ (P.post hsz hex (fun b o e hb=>hacc b o e hb fun q=>q) hk) (fun b o e hb=>hacc b o e hb fun q=>q) rfl
 cases out with
 |error e=>exact this
 |ok f=>cases f with
  |done f=>exact this
  |again c=>exact this.elim
end
noncomputable def evT(e:Expr)(env:Env):Sem Fin:=PySem.W.R.bindR (PySem.W.Fast.tw14044960220447912780 e env) fun v=>.pure (.done (.ret v))
noncomputable def trT(e:Expr)(env:Env):Sem Fin:=PySem.W.R.bindR (PySem.W.Fast.tw15418851999007992765 e env (PySem.W.Fast.tw14044960220447912780 e env)) fun v=>.pure (.done (.ret (.bool v)))
noncomputable def itT(v:Value):Sem Fin:=PySem.W.R.bindR (PySem.W.Fast.tw8711993805878244202 v) fun v=>.pure (.done (.ret v))
noncomputable def gw:Option Value→Flow
 |none=>.brk
 |some v=>.ret v
noncomputable def nxT(v:Value):Sem Fin:=PySem.W.R.bindR (PySem.W.Fast.tw9404975358583537561 v) fun v=>.pure (.done (gw v))
noncomputable def asT(t:Expr)(env:Env)(v:Value):Sem Fin:=PySem.W.R.bindR (PySem.W.Fast.tw17772580674575903948 t env v) fun _=>.pure (.done .next)
section
variable{w:World}{pre:List (Nat×Obj)}{N t₀:Nat}{s:Shared}{n i tk:Nat}{hs:List Nat}{cs:List CH}{out:Except Value Fin}{ex:List (Nat×Obj)}{B X:Cx}{env:Env}{A C:Around}{E:Value→Shared→Prop}
theorem bq{e:Expr}{v:Value}{Q:Value→Shared→Prop}
  (H:dh n (mkV w pre N t₀) pre (.fin hs cs ⟨.ok (.done (.ret v)),ex,i,tk⟩) B X (evT e env)=rhs (.fin hs cs ⟨.ok (.done (.ret v)),ex,i,tk⟩) (mkV w pre N t₀)) (P:Pre w pre N t₀ s) (hB:B.Ok A) (hX:X.Ok C) (hk:ez (ex.map (·.1))=true)
  (hx:dx (mkV w pre N t₀) s.heap cs) (h:∀s',Pre w (dm pre N ex) (N+i) (t₀+tk) s'→af (pre.map (·.1)) s.heap s'.heap→ae s'=ae s→Q v s'):wpAny (model PG w) C (eval e env) Q E s:=by
 rw[show eval e env=PySem.W.Fast.tw14044960220447912780 e env from by rw[PySem.W.Fast.te14044960220447912780]]
 exact cy H P hB hX hk hx fun s' p k r a e=>by cases e;exact h s' p k r
theorem cu{e:Expr}{b:Bool}{Q:Bool→Shared→Prop}
  (H:dh n (mkV w pre N t₀) pre (.fin hs cs ⟨.ok (.done (.ret (.bool b))),ex,i,tk⟩) B X (trT e env)=rhs (.fin hs cs ⟨.ok (.done (.ret (.bool b))),ex,i,tk⟩) (mkV w pre N t₀)) (P:Pre w pre N t₀ s) (hB:B.Ok A) (hX:X.Ok C) (hk:ez (ex.map (·.1))=true)
  (hx:dx (mkV w pre N t₀) s.heap cs) (h:∀s',Pre w (dm pre N ex) (N+i) (t₀+tk) s'→af (pre.map (·.1)) s.heap s'.heap→ae s'=ae s→Q b s'):wpAny (model PG w) C (isTrue e env (eval e env)) Q E s:=by
 rw[show isTrue e env (eval e env)=PySem.W.Fast.tw15418851999007992765 e env (PySem.W.Fast.tw14044960220447912780 e env) from by rw[←PySem.W.Fast.te14044960220447912780,PySem.W.Fast.te15418851999007992765]]
 exact cy (inj:=fun v=>.ret (.bool v)) H P hB hX hk hx fun s' p k r a e=>by cases e;exact h s' p k r
theorem kx{x v:Value}{Q:Value→Shared→Prop}
  (H:dh n (mkV w pre N t₀) pre (.fin hs cs ⟨.ok (.done (.ret v)),ex,i,tk⟩) B X (itT x)=rhs (.fin hs cs ⟨.ok (.done (.ret v)),ex,i,tk⟩) (mkV w pre N t₀)) (P:Pre w pre N t₀ s) (hB:B.Ok A) (hX:X.Ok C) (hk:ez (ex.map (·.1))=true)
  (hx:dx (mkV w pre N t₀) s.heap cs) (h:∀s',Pre w (dm pre N ex) (N+i) (t₀+tk) s'→af (pre.map (·.1)) s.heap s'.heap→ae s'=ae s→Q v s'):wpAny (model PG w) C (pyIter x) Q E s:=by
 rw[show pyIter x=PySem.W.Fast.tw8711993805878244202 x from by rw[PySem.W.Fast.te8711993805878244202]]
 exact cy H P hB hX hk hx fun s' p k r a e=>by cases e;exact h s' p k r
theorem rq{x:Value}{v:Option Value}{Q:Option Value→Shared→Prop}
  (H:dh n (mkV w pre N t₀) pre (.fin hs cs ⟨.ok (.done (gw v)),ex,i,tk⟩) B X (nxT x)=rhs (.fin hs cs ⟨.ok (.done (gw v)),ex,i,tk⟩) (mkV w pre N t₀)) (P:Pre w pre N t₀ s) (hB:B.Ok A) (hX:X.Ok C) (hk:ez (ex.map (·.1))=true)
  (hx:dx (mkV w pre N t₀) s.heap cs) (h:∀s',Pre w (dm pre N ex) (N+i) (t₀+tk) s'→af (pre.map (·.1)) s.heap s'.heap→ae s'=ae s→Q v s'):wpAny (model PG w) C (pyNext x) Q E s:=by
 rw[show pyNext x=PySem.W.Fast.tw9404975358583537561 x from by rw[PySem.W.Fast.te9404975358583537561]]
 exact cy H P hB hX hk hx fun s' p k r a e=>by cases a<;>cases v<;>cases e<;>exact h s' p k r
theorem c0{t:Expr}{x:Value}{Q:Unit→Shared→Prop}
  (H:dh n (mkV w pre N t₀) pre (.fin hs cs ⟨.ok (.done .next),ex,i,tk⟩) B X (asT t env x)=rhs (.fin hs cs ⟨.ok (.done .next),ex,i,tk⟩) (mkV w pre N t₀)) (P:Pre w pre N t₀ s) (hB:B.Ok A) (hX:X.Ok C) (hk:ez (ex.map (·.1))=true)
  (hx:dx (mkV w pre N t₀) s.heap cs) (h:∀s',Pre w (dm pre N ex) (N+i) (t₀+tk) s'→af (pre.map (·.1)) s.heap s'.heap→ae s'=ae s→Q () s'):wpAny (model PG w) C (assign t env x) Q E s:=by
 rw[show assign t env x=PySem.W.Fast.tw17772580674575903948 t env x from by rw[PySem.W.Fast.te17772580674575903948]]
 exact cy (inj:=fun _=>.next) H P hB hX hk hx fun s' p k r a _=>h s' p k r
theorem ay{l:List Stmt}{f:Flow}{Q:Flow→Shared→Prop}
  (H:dh n (mkV w pre N t₀) pre (.fin hs cs ⟨.ok (.done f),ex,i,tk⟩) B X (ar l env)=rhs (.fin hs cs ⟨.ok (.done f),ex,i,tk⟩) (mkV w pre N t₀)) (P:Pre w pre N t₀ s) (hB:B.Ok A) (hX:X.Ok C) (hk:ez (ex.map (·.1))=true)
  (hx:dx (mkV w pre N t₀) s.heap cs) (h:∀s',Pre w (dm pre N ex) (N+i) (t₀+tk) s'→af (pre.map (·.1)) s.heap s'.heap→ae s'=ae s→Q f s'):wpAny (model PG w) C (execs l env) Q E s:=by
 rw[show execs l env=PySem.W.Fast.tw12563942051412417395 l env from by rw[PySem.W.Fast.te12563942051412417395]]
 exact cy (inj:=id) H P hB hX hk hx fun s' p k r a e=>by cases e;exact h s' p k r
theorem jq{l:List Stmt}{e:Value}{Q:Flow→Shared→Prop}
  (H:dh n (mkV w pre N t₀) pre (.fin hs cs ⟨.error e,ex,i,tk⟩) B X (ar l env)=rhs (.fin hs cs ⟨.error e,ex,i,tk⟩) (mkV w pre N t₀)) (P:Pre w pre N t₀ s) (hB:B.Ok A) (hX:X.Ok C) (hk:ez (ex.map (·.1))=true)
  (hx:dx (mkV w pre N t₀) s.heap cs) (h:∀s',Pre w (dm pre N ex) (N+i) (t₀+tk) s'→af (pre.map (·.1)) s.heap s'.heap→ae s'=ae s→E e s'):wpAny (model PG w) C (execs l env) Q E s:=by
 rw[show execs l env=PySem.W.Fast.tw12563942051412417395 l env from by rw[PySem.W.Fast.te12563942051412417395]]
 exact cy (inj:=id) H P hB hX hk hx fun s' p k r=>h s' p k r
end
noncomputable def inS:Stmt→List Stmt
 |.While _ b _ _=>b
 |.For _ _ b _ _=>b
 |.If _ b _ _=>b
 |.Try b _ _ _ _=>b
 |_=>[]
noncomputable def elS:Stmt→List Stmt
 |.While _ _ b _=>b
 |.For _ _ _ b _=>b
 |.If _ _ b _=>b
 |.Try _ _ b _ _=>b
 |_=>[]
noncomputable def noE:Expr:=.Name ⟨#[]⟩ default
noncomputable def teS:Stmt→Expr
 |.While t _ _ _=>t
 |.For t _ _ _ _=>t
 |.If t _ _ _=>t
 |.Return (some t) _=>t
 |_=>noE
noncomputable def fi:Stmt→Expr
 |.For _ t _ _ _=>t
 |_=>noE
noncomputable def hdS:Stmt→List ExceptHandler
 |.Try _ h _ _ _=>h
 |_=>[]
noncomputable def hdE:List ExceptHandler→Expr
 |.ExceptHandler (some t) _ _ _::_=>t
 |_=>noE
noncomputable def hdB:List ExceptHandler→List Stmt
 |.ExceptHandler _ _ b _::_=>b
 |_=>[]
noncomputable def gy:Stmt→Pos
 |.While _ _ _ p=>p
 |.For _ _ _ _ p=>p
 |.If _ _ _ p=>p
 |.Try _ _ _ _ p=>p
 |_=>default
noncomputable def jk6:List ExceptHandler→Pos
 |.ExceptHandler _ _ _ p::_=>p
 |_=>default
noncomputable def frS(P:Params)(l:List (String×Nat×Value))(ep:Nat)(sl:Array (Option Value)):Obj:=⟨.type "frame",none,.dict ⟨l.map fun x=>⟨PyData.keyHash P (sn x.1),.str (sn x.1) x.2.1,x.2.2⟩⟩ ep,sl⟩
noncomputable def fcS:List Stmt:=d6 (st2 16 8)
noncomputable def d8:Stmt:=ak fcS 5
noncomputable def jl9:Stmt:=ak (inS d8) 0
noncomputable def fcW:Stmt:=ak (inS d8) 1
noncomputable def ll:Stmt:=ak (inS fcW) 0
noncomputable def iw:Stmt:=ak (inS fcW) 1
noncomputable def d0:Stmt:=ak (inS iw) 0
noncomputable def bx(P:Params)(f:Nat→Nat)(S D st its se n2:Nat)(x:List (String×Nat×Value))(sl:Array (Option Value)):Obj:=frS P ([("self",f 0,.ref S),("n2i",f 1,.ref D),("stack",f 2,.ref st),("itstack",f 3,.ref its),("seen",f 4,.ref se),("node2stacki",f 5,.ref n2)]++x) (6+x.length) sl
noncomputable def mwO(r:Nat):Obj:=⟨.type "method-wrapper",none,.fields #[.builtin "list_iterator.__next__",.ref r],#[]⟩
noncomputable def scX(hnd:Option Value)(se:Nat)(nt:Fin 8→Nat)(k:Fin 8)(o:Obj)(j i tk:Nat)(r:Bool):XSpec:=⟨.call (.builtin "set.__contains__") ⟨[.ref se,nmV nt k],[]⟩,980,9800,hnd,[(j,o)],i,tk,rv (.bool r),[],[],1⟩
noncomputable def dcX(hnd:Option Value)(P:Params)(D:Nat)(nt:Fin 8→Nat)(k:Fin 8)(kv:KV)(ep:Nat)(j i tk:Nat)(r:Bool):XSpec:=⟨.call (.builtin "dict.__contains__") ⟨[.ref D,nmV nt k],[]⟩,980,9800,hnd,[(j,dO P nt kv ep)],i,tk,rv (.bool r),[],[],1⟩
noncomputable def dgX(hnd:Option Value)(P:Params)(D:Nat)(nt:Fin 8→Nat)(k:Fin 8)(kv:KV)(ep:Nat)(j i tk:Nat)(v:Value):XSpec:=⟨.call (.builtin "dict.__getitem__") ⟨[.ref D,nmV nt k],[]⟩,980,9800,hnd,[(j,dO P nt kv ep)],i,tk,rv v,[],[],1⟩
noncomputable def dnX(hnd:Option Value)(P:Params)(D:Nat)(nt:Fin 8→Nat)(k:Fin 8)(kv:KV)(ep:Nat)(j i tk:Nat)(v:Value):XSpec:=⟨.call (.builtin "dict.__setitem__") ⟨[.ref D,nmV nt k,v],[]⟩,980,9800,hnd,[(j,dO P nt kv ep)],i,tk,rv .none,[(j,dO P nt (kv++[(k,v)]) (ep+1))],[],1⟩
noncomputable def ddX(hnd:Option Value)(P:Params)(D:Nat)(nt:Fin 8→Nat)(k:Fin 8)(kv kv':KV)(ep:Nat)(j i tk:Nat):XSpec:=⟨.call (.builtin "dict.__delitem__") ⟨[.ref D,nmV nt k],[]⟩,980,9800,hnd,[(j,dO P nt kv ep)],i,tk,rv .none,[(j,dO P nt kv' (ep+1))],[],1⟩
noncomputable def diX(hnd:Option Value)(P:Params)(D:Nat)(nt:Fin 8→Nat)(kv:KV)(ep n:Nat)(j i tk a:Nat):XSpec:=⟨.call (.builtin "dict.__iter__") ⟨[.ref D],[]⟩,980,9800,hnd,[(j,dO P nt kv ep)],i,tk,rv (.ref a),[],[et D 0 n ep],0⟩
noncomputable def lgX(hnd:Option Value)(l:Nat)(xs:List Value)(x:Value)(le t:Nat)(j i tk:Nat):XSpec:=⟨.call (.builtin "list.__getitem__") ⟨[.ref l,.int (-1) t],[]⟩,980,9800,hnd,[(j,lO (xs++[x]) le)],i,tk,rv x,[],[],0⟩
noncomputable def laX(hnd:Option Value)(l:Nat)(xs:List Value)(le:Nat)(x:Value)(j i tk:Nat):XSpec:=⟨.call (.builtin "list.append") ⟨[.ref l,x],[]⟩,980,9800,hnd,[(j,lO xs le)],i,tk,rv .none,[(j,lO (xs++[x]) (le+1))],[],0⟩
noncomputable def lpX(hnd:Option Value)(l:Nat)(xs:List Value)(le:Nat)(x:Value)(j i tk:Nat):XSpec:=⟨.call (.builtin "list.pop") ⟨[.ref l],[]⟩,980,9800,hnd,[(j,lO (xs++[x]) le)],i,tk,rv x,[(j,lO xs (le+1))],[],0⟩
noncomputable def lnX(hnd:Option Value)(l:Nat)(xs:List Value)(le t:Nat)(j i tk:Nat):XSpec:=⟨.call (.builtin "len") ⟨[.ref l],[]⟩,980,9800,hnd,[(j,lO xs le)],i,tk,rv (.int xs.length t),[],[],2⟩
noncomputable def niX(hnd:Option Value)(r l i₀:Nat)(xs:List Value)(le:Nat)(x:Value)(j j2 i tk:Nat):XSpec:=⟨.builtin "list_iterator.__next__" ⟨[.ref r],[]⟩,980,9800,hnd,[(j,liO l i₀),(j2,lO xs le)],i,tk,rv x,[(j,liO l (i₀+1))],[],0⟩
noncomputable def neX(r l i₀:Nat)(xs:List Value)(le M:Nat)(j j2 i tk:Nat):XSpec:=⟨.builtin "list_iterator.__next__" ⟨[.ref r],[]⟩,980,9800,none,[(j,liO l i₀),(j2,lO xs le)],i,tk,.error (.ref (M+1)),[(j,liE i₀)],[m9,i7 M],0⟩
theorem ce{w:World}{h h':Heap}{a:Nat}{S:Str→Bool}{n:Nat}(hS:h.SetOf (strKind PG w) a S n)(e:h'.get? a=h.get? a):h'.SetOf (strKind PG w) a S n:=by
 obtain⟨o,es,ep,t,ho,r⟩:=hS
 exact⟨o,es,ep,t,e.trans ho,r⟩
section
variable{V:SV}{h₀:Heap}{w:World}{hnd:Option Value}{nt:Fin 8→Nat}{k:Fin 8}{kv kv':KV}{D se l le ep j j2 i tk t n a:Nat}{r:Bool}{v x:Value}{xs:List Value}{o:Obj}
theorem kz(hw:V.w=w)(hp:aj V.pre V.N j=se){h:Heap}{S:Str→Bool}(hS:h.SetOf (strKind PG w) se S n)(ho:h.get? se=some o)(hr:S (nmS k)=r):XOk V h₀ (scX hnd se nt k o j i tk r):=
 bn fun A s R _ _ _ hpre hR=>by
  have h1:=hpre (j,_) (.head _)
  rw[hp] at h1
  rw[hw]
  exact ui (ce hS (h1.trans ho.symm)) (by rw[hr];exact hR)
theorem iz(hw:V.w=w)(hp:aj V.pre V.N j=D)(hD:D≠1)(hr:(kv.lookup k).isSome=r):XOk V h₀ (dcX hnd w.params D nt k kv ep j i tk r):=
 bn fun A s R _ _ _ hpre hR=>by
  have h1:=hpre (j,_) (.head _)
  rw[hp] at h1
  rw[hw]
  exact va hD h1 (by rw[hr];exact hR)
theorem ic(hw:V.w=w)(hp:aj V.pre V.N j=D)(hv:kv.lookup k=some v):XOk V h₀ (dgX hnd w.params D nt k kv ep j i tk v):=
 bn fun A s R _ _ _ hpre hR=>by
  have h1:=hpre (j,_) (.head _)
  rw[hp] at h1
  rw[hw]
  exact ym h1 hv hR
theorem ib(hw:V.w=w)(hp:aj V.pre V.N j=D)(hv:kv.lookup k=none)(hl:kv.length<1000):XOk V h₀ (dnX hnd w.params D nt k kv ep j i tk v):=
 gd fun A s R _ _ _ hpre hR=>by
  have h1:=hpre (j,_) (.head _)
  rw[hp] at h1 hR
  rw[hw]
  exact my (by unfold sizeLine;omega) h1 hv fun h' h2 h3=>hR h' h2 h3
theorem jmi(hw:V.w=w)(hp:aj V.pre V.N j=D)(hn:(kv.map (·.1)).Nodup)(hv:kv.lookup k=some v)(hl:kv.length<1000)(hk:ld kv k=kv'):XOk V h₀ (ddX hnd w.params D nt k kv kv' ep j i tk):=
 gd fun A s R _ _ _ hpre hR=>by
  have h1:=hpre (j,_) (.head _)
  rw[hp] at h1 hR
  rw[hw]
  subst hk
  exact jp7 (by unfold sizeLine;omega) hn h1 hv fun h' h2 h3=>hR h' h2 h3
theorem jmf(hw:V.w=w)(hp:aj V.pre V.N j=D)(hD:D≠1)(hn:kv.length=n)(ha:a=V.N+i):XOk V h₀ (diX hnd w.params D nt kv ep n j i tk a):=
 ig rfl fun A s R _ _ _ hs hpre hR=>by
  have h1:=hpre (j,_) (.head _)
  rw[hp] at h1
  rw[hw]
  subst hn ha
  have hs':s.heap.objs.size=V.N+i:=hs
  exact jmm hD h1 (by rw[hs'];exact hR)
theorem g0(hp:aj V.pre V.N j=l):XOk V h₀ (lgX hnd l xs x le t j i tk):=
 bn fun A s R _ _ _ hpre hR=>by
  have h1:=hpre (j,_) (.head _)
  rw[hp] at h1
  exact jlt h1 hR
theorem fw(hp:aj V.pre V.N j=l)(hl:xs.length<1000):XOk V h₀ (laX hnd l xs le x j i tk):=
 gd fun A s R _ _ _ hpre hR=>by
  have h1:=hpre (j,_) (.head _)
  rw[hp] at h1 hR
  exact sj h1 hl fun h' h2 h3=>hR h' h2 h3
theorem E6(hp:aj V.pre V.N j=l)(hl:xs.length<1000):XOk V h₀ (lpX hnd l xs le x j i tk):=
 gd fun A s R _ _ _ hpre hR=>by
  have h1:=hpre (j,_) (.head _)
  rw[hp] at h1 hR
  exact jpl h1 hl fun h' h2 h3=>hR h' h2 h3
theorem gz(hp:aj V.pre V.N j=l)(hl:xs.length<1000)(ht:t=V.t₀+tk+1):XOk V h₀ (lnX hnd l xs le t j i tk):=fun A s hh hd hu hs htk hkt hk hpre=>by
 have h1:=hpre (j,_) (.head _)
 rw[hp] at h1
 have htk':s.toks=V.t₀+tk:=htk
 refine jpm h1 hl ?_
 rw[htk',←ht]
 refine⟨rfl,s.heap,?_,rfl,(fun p hp=>nomatch hp),(fun k o e=>nomatch e),fun b o e _=>e⟩
 show({ s with toks:=t+1 }:Shared)={ s with heap:=s.heap,toks:=V.t₀+tk+2 }
 rw[ht]
theorem ul{rr i₀:Nat}(hp:aj V.pre V.N j=rr)(hp2:aj V.pre V.N j2=l)(hx:xs[i₀]?=some x):XOk V h₀ (niX hnd rr l i₀ xs le x j j2 i tk):=
 gd fun A s R _ _ _ hpre hR=>by
  have h1:=hpre (j,_) (.head _)
  have h2:=hpre (j2,_) (.tail _ (.head _))
  rw[hp] at h1 hR
  rw[hp2] at h2
  exact jev h1 h2 hx fun h' h2 h3=>hR h' h2 h3
theorem D7{rr i₀ M:Nat}(hp:aj V.pre V.N j=rr)(hp2:aj V.pre V.N j2=l)(hx:xs[i₀]?=none)(hM:M=V.N+i):XOk V h₀ (neX rr l i₀ xs le M j j2 i tk):=fun A s hh hd hu hs htk hkt hk hpre=>by
 have h1:=hpre (j,_) (.head _)
 have h2:=hpre (j2,_) (.tail _ (.head _))
 rw[hp] at h1
 rw[hp2] at h2
 have hs':s.heap.objs.size=V.N+i:=hs
 subst hM
 refine jlj hh h1 h2 hx fun h' g1 g2 g3 g4 g5=>?_
 rw[hs'] at g1 g3 g4
 refine⟨by rw[hs'];rfl,h',rfl,by rw[g1,hs'];rfl,(fun p hp'=>by
  rcases List.mem_singleton.mp hp' with rfl
  rw[hp];exact g2),(fun k o e=>?_),fun b o e hb=>g5 b o e (by have:=hb _ (.head _);rw[hp] at this;exact this)⟩
 match k,e with
 |0,e=>cases e;exact g3
 |1,e=>cases e;exact g4
end
section
variable{w:World}{a b c:Bool}{nt:Fin 8→Nat}{q f:Nat→Nat}{S Sd D L st its se n2 it N t₀ t1 t2 t3 i ad l tn le ep e1 e2 e3 m r i₀ tj:Nat}{og:Fin 8→Fin 8}{nd:Fin 8→Nd}{rl:Value}{po nf np:Int}{k k2:Fin 8}{kv kv':KV}{sx ix su xs:List Value}{sl:Array (Option Value)}{o:Obj}{es:Array (Int×Value)}{tb:SetTable}{v:Value}
noncomputable abbrev nv1(f:Nat→Nat)(v:Value):List (String×Nat×Value):=[("node",f 6,v)]
noncomputable def jkw(f:Nat→Nat)(t:Nat):Nat→Nat:=fun i=>match i with
 |6=>t
 |i=>f i
noncomputable def fB(t3 t₀:Nat):Nat→Nat
 |0=>t3
 |n=>t₀+n
noncomputable def jhr:List Nat:=dH 31 1556821330880152905437933216148309152953336355708993665
noncomputable def jhs:List CH:=[.p,.p,.p,.p,.p,.p,.p]
theorem jhq(hnd:Option Value)(ff:Option (List Env)):au 200 (wf w a b c) N t₀ ([(L,frS (wf w a b c).params [("self",t3,.ref S)] 1 #[]),(S,sO Sd),(Sd,sD (wf w a b c).params q D rl po nf t1 t2)]) (.fin jhr jhs ⟨.ok (.done .next),[(0,bx (wf w a b c).params (fB t3 t₀) S D N (N+1) (N+2) (N+3) [] #[]),(1,sO Sd),(2,sD (wf w a b c).params q D rl po nf t1 t2),(3,lO [] 0),(4,lO [] 0),(5,stO #[] 0 (SetTable.fresh 0 0 !a)),(6,dO (wf w a b c).params nt [] 0)],4,6⟩) ⟨hnd,820,8200,ff⟩ (ar (fcS.take 5) (az L)):=by kernel_rfl
noncomputable def jhd:List Nat:=[1]
noncomputable def jhe:List CH:=[]
theorem jhc(hnd:Option Value)(ff:Option (List Env)):au 60 (wf w a b c) N t₀ ([(L,bx (wf w a b c).params f S D st its se n2 [] sl)]) (.fin jhd jhe ⟨.ok (.done (.ret (.ref D))),[(0,bx (wf w a b c).params f S D st its se n2 [] sl)],0,0⟩) ⟨hnd,820,8200,ff⟩ (evT (fi d8) (az L)):=by kernel_rfl
noncomputable def jhg:List Nat:=[1,1,2]
noncomputable def jhh(X0:XSpec):List CH:=[.x X0]
theorem jhf(hnd:Option Value)(ff:Option (List Env)):au 60 (wf w a b c) N t₀ ([(D,dO (wf w a b c).params nt (aq (ol og) nd) 8)]) (.fin jhg (jhh (diX hnd (wf w a b c).params D nt (aq (ol og) nd) 8 8 0 0 0 N)) ⟨.ok (.done (.ret (.ref N))),[(0,dO (wf w a b c).params nt (aq (ol og) nd) 8),(1,et D 0 8 8)],1,0⟩) ⟨hnd,820,8200,ff⟩ (itT (.ref D)):=by cases c<;>kernel_rfl
noncomputable def jg4:List Nat:=dH 11 1171221847040331841
noncomputable def jg5:List CH:=[.p,.p]
theorem jg3(hnd:Option Value)(ff:Option (List Env)):∀(i:Fin 8),au 60 (wf w a b c) N t₀ ([(it,et D i.val 8 8),(D,dO (wf w a b c).params nt (aq (ol og) nd) 8)]) (.fin jg4 jg5 ⟨.ok (.done (gw (some (nmV nt (og i))))),[(0,et D (i.val+1) 8 8),(1,dO (wf w a b c).params nt (aq (ol og) nd) 8)],0,0⟩) ⟨hnd,820,8200,ff⟩ (nxT (.ref it))  := F8 (by kernel_rfl) (by kernel_rfl) (by kernel_rfl) (by kernel_rfl) (by kernel_rfl) (by kernel_rfl) (by kernel_rfl) (by kernel_rfl)
noncomputable def Q3:List Nat:=dH 10 72343537961930817
noncomputable def Q4:List CH:=[.p,.p]
theorem Q2(ff:Option (List Env)):au 60 (wf w a b c) N t₀ ([(it,et D 8 8 8),(D,dO (wf w a b c).params nt (aq (ol og) nd) 8)]) (.fin Q3 Q4 ⟨.ok (.done (gw none)),[(1,dO (wf w a b c).params nt (aq (ol og) nd) 8)],2,0⟩) ⟨none,820,8200,ff⟩ (nxT (.ref it)):=by kernel_rfl
noncomputable def T0:List Nat:=[1,1]
noncomputable def T4:List CH:=[]
theorem S9(hnd:Option Value)(ff:Option (List Env)):au 60 (wf w a b c) N t₀ ([(L,bx (wf w a b c).params f S D st its se n2 [] sl)]) (.fin T0 T4 ⟨.ok (.done .next),[(0,bx (wf w a b c).params (jkw f t₀) S D st its se n2 (nv1 (jkw f t₀) (nmV nt k)) sl)],0,1⟩) ⟨hnd,820,8200,ff⟩ (asT (teS d8) (az L) (nmV nt k)):=by kernel_rfl
noncomputable def S7:List Nat:=[1,1]
noncomputable def S8:List CH:=[]
theorem S3(hnd:Option Value)(ff:Option (List Env)):au 60 (wf w a b c) N t₀ ([(L,bx (wf w a b c).params f S D st its se n2 (nv1 f v) sl)]) (.fin S7 S8 ⟨.ok (.done .next),[(0,bx (wf w a b c).params f S D st its se n2 (nv1 f (nmV nt k)) sl)],0,1⟩) ⟨hnd,820,8200,ff⟩ (asT (teS d8) (az L) (nmV nt k)):=by kernel_rfl
noncomputable def R7:List Nat:=[1,1,2,2]
noncomputable def R8(X0:XSpec):List CH:=[.x X0]
theorem R6(hnd:Option Value)(ff:Option (List Env)):au 60 (wf w a b c) N t₀ ([(L,bx (wf w a b c).params f S D st its se n2 (nv1 f (nmV nt k)) sl),(se,stO es ep tb)]) (.fin R7 (R8 (scX hnd se nt k (stO es ep tb) 1 0 0 true)) ⟨.ok (.done .cont),[(0,bx (wf w a b c).params f S D st its se n2 (nv1 f (nmV nt k)) sl),(1,stO es ep tb)],0,1⟩) ⟨hnd,820,8200,ff⟩ (ar [jl9] (az L)):=by kernel_rfl
noncomputable def S0:List Nat:=[1,1,2,2]
noncomputable def S1(X0:XSpec):List CH:=[.x X0]
theorem R9(hnd:Option Value)(ff:Option (List Env)):au 60 (wf w a b c) N t₀ ([(L,bx (wf w a b c).params f S D st its se n2 (nv1 f (nmV nt k)) sl),(se,stO es ep tb)]) (.fin S0 (S1 (scX hnd se nt k (stO es ep tb) 1 0 0 false)) ⟨.ok (.done .next),[(0,bx (wf w a b c).params f S D st its se n2 (nv1 f (nmV nt k)) sl),(1,stO es ep tb)],0,1⟩) ⟨hnd,820,8200,ff⟩ (ar [jl9] (az L)):=by kernel_rfl
noncomputable def w7:List Nat:=dH 8 13401389015105
noncomputable def w8(X0 X1:XSpec):List CH:=[.x X0,.x X1]
theorem w6(hnd:Option Value)(ff:Option (List Env)):au 100 (wf w a b c) N t₀ ([(L,bx (wf w a b c).params f S D st its se n2 (nv1 f (nmV nt k)) sl),(se,stO es ep tb),(n2,dO (wf w a b c).params nt kv e3)]) (.fin w7 (w8 (scX hnd se nt k (stO es ep tb) 1 0 0 true) (dcX hnd (wf w a b c).params n2 nt k kv e3 2 0 1 false)) ⟨.ok (.done .next),[(0,bx (wf w a b c).params f S D st its se n2 (nv1 f (nmV nt k)) sl),(1,stO es ep tb),(2,dO (wf w a b c).params nt kv e3)],0,2⟩) ⟨hnd,820,8200,ff⟩ (ar [ll] (az L)):=by kernel_rfl
noncomputable def Q9:List Nat:=dH 6 2181570689
noncomputable def R1:List CH:=[.p,.p,.p]
theorem Q8(hnd:Option Value)(ff:Option (List Env)):∀(xs:List Value) (_:xs≠[]) (_:xs.length≤8),au 60 (wf w a b c) N t₀ ([(L,bx (wf w a b c).params f S D st its se n2 (nv1 f (nmV nt k)) sl),(st,lO xs e1)]) (.fin Q9 R1 ⟨.ok (.done (.ret (.bool true))),[(0,bx (wf w a b c).params f S D st its se n2 (nv1 f (nmV nt k)) sl),(1,lO xs e1)],0,2⟩) ⟨hnd,820,8200,ff⟩ (trT (teS iw) (az L))
 |[x0],_,_=>by kernel_rfl
 |[x0,x1],_,_=>by kernel_rfl
 |[x0,x1,x2],_,_=>by kernel_rfl
 |[x0,x1,x2,x3],_,_=>by kernel_rfl
 |[x0,x1,x2,x3,x4],_,_=>by kernel_rfl
 |[x0,x1,x2,x3,x4,x5],_,_=>by kernel_rfl
 |[x0,x1,x2,x3,x4,x5,x6],_,_=>by kernel_rfl
 |[x0,x1,x2,x3,x4,x5,x6,x7],_,_=>by kernel_rfl
 |[],h,_=>absurd rfl h
 |_::_::_::_::_::_::_::_::_::_,_,h=>absurd h (by simp)
noncomputable def R4:List Nat:=dH 6 2181570689
noncomputable def R5:List CH:=[.p,.p,.p]
theorem R3(hnd:Option Value)(ff:Option (List Env)):au 60 (wf w a b c) N t₀ ([(L,bx (wf w a b c).params f S D st its se n2 (nv1 f (nmV nt k)) sl),(st,lO [] e1)]) (.fin R4 R5 ⟨.ok (.done (.ret (.bool false))),[(0,bx (wf w a b c).params f S D st its se n2 (nv1 f (nmV nt k)) sl),(1,lO [] e1)],0,2⟩) ⟨hnd,820,8200,ff⟩ (trT (teS iw) (az L)):=by kernel_rfl
noncomputable def xo:List Nat:=dH 32 695922872843444159182098058507689714314343370891752644673
noncomputable def xp(X0 X1 X2:XSpec):List CH:=[.x X0,.x X1,.x X2,.p,.p,.p,.p]
theorem xj(hnd:Option Value)(ff:Option (List Env)):∀(xs:List Value) (j:Nat) (_:xs.length≤8) (_:j<xs.length),au 120 (wf w a b c) N t₀ ([(L,bx (wf w a b c).params f S D st its se n2 (nv1 f (nmV nt k)) sl),(se,stO es ep tb),(n2,dO (wf w a b c).params nt kv e3),(st,lO xs e1)]) (.fin xo (xp (scX hnd se nt k (stO es ep tb) 1 0 0 true) (dcX hnd (wf w a b c).params n2 nt k kv e3 2 0 1 true) (dgX hnd (wf w a b c).params n2 nt k kv e3 2 0 2 (.int (j:Int) tj))) ⟨.ok (.done (.ret (.ref (N+3)))),[(0,bx (wf w a b c).params f S D st its se n2 (nv1 f (nmV nt k)) sl),(7,lO (xs.drop j++[nmV nt k]) 0)],4,3⟩) ⟨hnd,820,8200,ff⟩ (ar [ll] (az L))
 |[x0],0,_,_=>by kernel_rfl
 |[x0,x1],0,_,_=>by kernel_rfl
 |[x0,x1],1,_,_=>by kernel_rfl
 |[x0,x1,x2],0,_,_=>by kernel_rfl
 |[x0,x1,x2],1,_,_=>by kernel_rfl
 |[x0,x1,x2],2,_,_=>by kernel_rfl
 |[x0,x1,x2,x3],0,_,_=>by kernel_rfl
 |[x0,x1,x2,x3],1,_,_=>by kernel_rfl
 |[x0,x1,x2,x3],2,_,_=>by kernel_rfl
 |[x0,x1,x2,x3],3,_,_=>by kernel_rfl
 |[x0,x1,x2,x3,x4],0,_,_=>by kernel_rfl
 |[x0,x1,x2,x3,x4],1,_,_=>by kernel_rfl
 |[x0,x1,x2,x3,x4],2,_,_=>by kernel_rfl
 |[x0,x1,x2,x3,x4],3,_,_=>by kernel_rfl
 |[x0,x1,x2,x3,x4],4,_,_=>by kernel_rfl
 |[x0,x1,x2,x3,x4,x5],0,_,_=>by kernel_rfl
 |[x0,x1,x2,x3,x4,x5],1,_,_=>by kernel_rfl
 |[x0,x1,x2,x3,x4,x5],2,_,_=>by kernel_rfl
 |[x0,x1,x2,x3,x4,x5],3,_,_=>by kernel_rfl
 |[x0,x1,x2,x3,x4,x5],4,_,_=>by kernel_rfl
 |[x0,x1,x2,x3,x4,x5],5,_,_=>by kernel_rfl
 |[x0,x1,x2,x3,x4,x5,x6],0,_,_=>by kernel_rfl
 |[x0,x1,x2,x3,x4,x5,x6],1,_,_=>by kernel_rfl
 |[x0,x1,x2,x3,x4,x5,x6],2,_,_=>by kernel_rfl
 |[x0,x1,x2,x3,x4,x5,x6],3,_,_=>by kernel_rfl
 |[x0,x1,x2,x3,x4,x5,x6],4,_,_=>by kernel_rfl
 |[x0,x1,x2,x3,x4,x5,x6],5,_,_=>by kernel_rfl
 |[x0,x1,x2,x3,x4,x5,x6],6,_,_=>by kernel_rfl
 |[x0,x1,x2,x3,x4,x5,x6,x7],0,_,_=>by kernel_rfl
 |[x0,x1,x2,x3,x4,x5,x6,x7],1,_,_=>by kernel_rfl
 |[x0,x1,x2,x3,x4,x5,x6,x7],2,_,_=>by kernel_rfl
 |[x0,x1,x2,x3,x4,x5,x6,x7],3,_,_=>by kernel_rfl
 |[x0,x1,x2,x3,x4,x5,x6,x7],4,_,_=>by kernel_rfl
 |[x0,x1,x2,x3,x4,x5,x6,x7],5,_,_=>by kernel_rfl
 |[x0,x1,x2,x3,x4,x5,x6,x7],6,_,_=>by kernel_rfl
 |[x0,x1,x2,x3,x4,x5,x6,x7],7,_,_=>by kernel_rfl
 |[x0],_+1,_,h=>absurd h (by simp)
 |[x0,x1],_+2,_,h=>absurd h (by simp)
 |[x0,x1,x2],_+3,_,h=>absurd h (by simp)
 |[x0,x1,x2,x3],_+4,_,h=>absurd h (by simp)
 |[x0,x1,x2,x3,x4],_+5,_,h=>absurd h (by simp)
 |[x0,x1,x2,x3,x4,x5],_+6,_,h=>absurd h (by simp)
 |[x0,x1,x2,x3,x4,x5,x6],_+7,_,h=>absurd h (by simp)
 |[x0,x1,x2,x3,x4,x5,x6,x7],_+8,_,h=>absurd h (by simp)
 |[],_,_,h=>absurd h (by simp)
 |_::_::_::_::_::_::_::_::_::_,_,h,_=>absurd h (by simp)
noncomputable def O8:List Nat:=dH 8 4470038077569
noncomputable def O9(X0 X1:XSpec):List CH:=[.p,.p,.x X0,.p,.x X1]
theorem O7(hnd:Option Value)(ff:Option (List Env)):au 100 (wf w a b c) N t₀ ([(L,bx (wf w a b c).params f S D st its se n2 (nv1 f (nmV nt k)) sl),(its,lO (ix++[.ref m]) e2),(m,mwO r),(r,liO l i₀),(l,lO su le)]) (.fin O8 (O9 (lgX hnd its ix (.ref m) e2 (t₀+1) 1 0 2) (niX hnd r l i₀ su le (nmV nt k2) 3 4 0 2)) ⟨.ok (.done .brk),[(0,bx (wf w a b c).params f S D st its se n2 (nv1 f (nmV nt k2)) sl),(1,lO (ix++[.ref m]) e2),(2,mwO r),(3,liO l (i₀+1)),(4,lO su le)],0,3⟩) ⟨hnd,820,8200,ff⟩ (ar (inS d0) (az L)):=by kernel_rfl
noncomputable def Q0:List Nat:=dH 6 3272089729
noncomputable def Q1(X0 X1:XSpec):List CH:=[.p,.p,.x X0,.p,.x X1]
theorem P0(ff:Option (List Env)):au 100 (wf w a b c) N t₀ ([(L,bx (wf w a b c).params f S D st its se n2 (nv1 f (nmV nt k)) sl),(its,lO (ix++[.ref m]) e2),(m,mwO r),(r,liO l i₀),(l,lO su le)]) (.fin Q0 (Q1 (lgX none its ix (.ref m) e2 (t₀+1) 1 0 2) (neX r l i₀ su le N 3 4 0 2)) ⟨.error (.ref (N+1)),[(0,bx (wf w a b c).params f S D st its se n2 (nv1 f (nmV nt k)) sl),(1,lO (ix++[.ref m]) e2),(2,mwO r),(3,liE i₀),(4,lO su le),(6,i7 N)],2,2⟩) ⟨none,820,8200,ff⟩ (ar (inS d0) (az L)):=by kernel_rfl
noncomputable def jhk:List Nat:=[0,0]
noncomputable def jhl:List CH:=[]
theorem jhj(hnd:Option Value)(ff:Option (List Env)):au 60 (wf w a b c) N t₀ ([]) (.fin jhk jhl ⟨.ok (.done (.ret (.type "StopIteration"))),[],0,0⟩) ⟨hnd,820,8200,ff⟩ (evT (hdE (hdS d0)) (az L)):=by kernel_rfl
noncomputable def jha:List Nat:=dH 13 14391973484547021480001
noncomputable def jhb(X0 X1 X2:XSpec):List CH:=[.x X0,.x X1,.x X2,.p]
theorem jg9(hnd:Option Value)(ff:Option (List Env)):au 100 (wf w a b c) N t₀ ([(L,bx (wf w a b c).params f S D st its se n2 (nv1 f (nmV nt k)) sl),(st,lO (sx++[nmV nt k2]) e1),(its,lO (ix++[.ref m]) e2),(n2,dO (wf w a b c).params nt kv e3)]) (.fin jha (jhb (lpX hnd st sx e1 (nmV nt k2) 1 0 0) (ddX hnd (wf w a b c).params n2 nt k2 kv kv' e3 3 0 0) (lpX hnd its ix e2 (.ref m) 2 0 1)) ⟨.ok (.done .next),[(0,bx (wf w a b c).params f S D st its se n2 (nv1 f (nmV nt k)) sl),(1,lO sx (e1+1)),(2,lO ix (e2+1)),(3,dO (wf w a b c).params nt kv' (e3+1))],0,1⟩) ⟨hnd,820,8200,ff⟩ (ar (hdB (hdS d0)) (az L)):=by kernel_rfl
noncomputable def jho:List Nat:=[]
noncomputable def jhp:List CH:=[]
theorem jhn(hnd:Option Value)(ff:Option (List Env)):au 60 (wf w a b c) N t₀ ([]) (.fin jho jhp ⟨.ok (.done .brk),[],0,0⟩) ⟨hnd,820,8200,ff⟩ (ar (elS iw) (az L)):=by kernel_rfl
end
noncomputable def StL(ex:List (Nat×Obj))(chg:List Nat):Nat→List (Nat×Obj)→Prop
 |_,[]=>True
 |n,p::l=>(ex.lookup n=some p.2∨p.1∈chg)∧StL ex chg (n+1) l
theorem uo{l:List (Nat×Obj)}{n:Nat}{o:Obj}(h:l.lookup n=some o):(n,o)∈l:=by
 induction l with
 |nil=>cases h
 |cons p l ih=>
  rw[List.lookup_cons] at h
  by_cases e:n=p.1
  ·subst e
   rw[beq_self_eq_true] at h
   cases h
   exact .head _
  ·rw[beq_eq_false_iff_ne.mpr e] at h
   exact .tail _ (ih h)
theorem StL.mem{ex:List (Nat×Obj)}{chg:List Nat}:∀{l:List (Nat×Obj)} {n:Nat},StL ex chg n l→∀j p,l[j]?=some p→(n+j,p.2)∈ex∨p.1∈chg
 |[],_,_,_,_,h=>nomatch h
 |q::l,n,H,0,p,h=>by
  cases h
  exact H.1.imp (fun h=>uo h) id
 |q::l,n,H,j+1,p,h=>by
  have:=StL.mem H.2 j p h
  rwa [show n+1+j=n+(j+1) by omega] at this
theorem am{w:World}{pre ex:List (Nat×Obj)}{N t₀:Nat}{s:Shared}{h':Heap}{chg:List Nat}(P:Pre w pre N t₀ s)(hex:∀p∈dm pre N ex,h'.get? p.1=some p.2)(K:af (pre.map (·.1)) s.heap h')(hc:StL ex chg 0 pre):af chg s.heap h':=fun b o e hb=>by
 by_cases hm:b∈pre.map (·.1)
 ·obtain⟨p,hp,rfl⟩:=List.mem_map.mp hm
  obtain⟨j,hj,hpj⟩:=List.mem_iff_getElem.mp hp
  have h1:pre[j]?=some p:=by rw[List.getElem?_eq_getElem hj,hpj]
  have h6:=P.has p hp
  rw[e] at h6
  cases h6
  rcases hc.mem j p h1 with h|h
  ·rw[Nat.zero_add] at h
   have h2:=hex (aj (pre.map (·.1)) N j,p.2) (List.mem_map_of_mem (f:=fun p:Nat×Obj=>(aj (pre.map (·.1)) N p.1,p.2)) h)
   have h5:aj (pre.map (·.1)) N j=p.1:=by
    rw[bh _ _ _ (by rwa [List.length_map]),List.getElem_map,hpj]
   rw[←h5];exact h2
  ·exact absurd h hb
 ·exact K b o e hm
noncomputable def OnlySlots(fs:List Nat)(h₀ h:Heap):Prop:=∀b o,h₀.get? b=some o→∃sl,h.get? b=some { o with slots:=sl }∧(b∉fs→sl=o.slots)
theorem OnlySlots.refl{fs:List Nat}{h:Heap}:OnlySlots fs h h:=fun b o e=>⟨o.slots,e,fun _=>rfl⟩
theorem OnlySlots.step{fs chg:List Nat}{h₀ h h':Heap}(O:OnlySlots fs h₀ h)(K:af chg h h')(hc:∀x∈chg,h₀.objs.size≤x):OnlySlots fs h₀ h':=fun b o e=>by
 obtain⟨sl,h1,h2⟩:=O b o e
 have:@LT.lt Nat _ b h₀.objs.size:=Heap.lt_size e
 exact⟨sl,K _ _ h1 fun hm=>by have:=hc b hm;omega,h2⟩
theorem OnlySlots.keep{fs:List Nat}{h₀ h:Heap}(O:OnlySlots fs h₀ h){b:Nat}{o:Obj}(e:h₀.get? b=some o)(hb:b∉fs):h.get? b=some o:=by
 obtain⟨sl,h1,h2⟩:=O b o e
 rw[h2 hb] at h1
 exact h1
theorem OnlySlots.funFrames{fs:List Nat}{h₀ h:Heap}(O:OnlySlots fs h₀ h){l:List Env}(H:h₀.FunFrames noBase l):h.FunFrames noBase l:=
 H.of_keeps fun b o e _=>by
  obtain⟨sl,h1,_⟩:=O b o e
  exact⟨_,h1,rfl⟩
theorem cm{s s':Shared}(h:ae s'=ae s):s'={ s with heap:=s'.heap,toks:=s'.toks }:=by
 obtain⟨h1,g1,d1,t1,o1⟩:=s
 obtain⟨h2,g2,d2,t2,o2⟩:=s'
 have e:(⟨g2,d2,o2⟩:Rest0)=⟨g1,d1,o1⟩:=h
 cases e
 rfl
structure FcZ where
 L:Nat
 st:Nat
 its:Nat
 se:Nat
 n2:Nat
 f:Nat→Nat
 S:Nat
 D:Nat
 lo:Nat
 N0:Nat
 it:Nat
 ii:Int
structure FcZ.Ok(z:FcZ)(og:Fin 8→Fin 8)(nd:Fin 8→Nd)(fs:List Nat):Prop where
 ge:z.N0≤z.L∧z.N0≤z.st∧z.N0≤z.its∧z.N0≤z.se∧z.N0≤z.n2∧257≤z.N0∧z.N0≤z.it
 ne:z.st≠z.its∧z.L≠z.n2
 reg:∀b:Nat,InReg z.D (ol og) nd b→b<z.N0∧257≤b∧b∉fs
 fs:∀b∈fs,b<z.N0∧257≤b
structure SE where
 v:Fin 8
 i:Nat
 m:Nat
 r:Nat
 t:Nat
noncomputable def kvT:List SE→KV
 |[]=>[]
 |e::k=>kvT k++[(e.v,.int (k.length:Int) e.t)]
noncomputable def ey(nt:Fin 8→Nat)(k:List SE):List Value:=k.reverse.map fun e=>nmV nt e.v
noncomputable def fc(k:List SE):List Value:=k.reverse.map fun e=>.ref e.m
noncomputable def SS(Sn:Fin 8→Bool):Str→Bool:=fun x=>(List.finRange 8).any fun j=>Sn j&&decide (nmS j=x)
noncomputable def un(Sn:Fin 8→Bool):Nat:=((List.finRange 8).filter fun j=>!Sn j).length
structure FSG(w:World)(nt:Fin 8→Nat)(og:Fin 8→Fin 8)(nd:Fin 8→Nd)(np:Fin 8→Int)(su:Fin 8→List (Fin 8))(z:FcZ)(fs:List Nat)(h₀:Heap)(ki k:List SE)(Sn:Fin 8→Bool)(x:List (String×Nat×Value))(h:Heap):Prop where
 os:OnlySlots fs h₀ h
 based:Based w.params h
 reg:Reg w.params nt z.lo z.D (ol og) np su nd 8 h
 size:z.N0≤h.objs.size
 fr:∃sl,h.get? z.L=some (bx w.params z.f z.S z.D z.st z.its z.se z.n2 x sl)
 st:∃e,h.get? z.st=some (lO (ey nt k) e)
 its:∃e,h.get? z.its=some (lO (fc k) e)
 n2:∃e,h.get? z.n2=some (dO w.params nt (kvT k) e)
 se:∃n,h.SetOf (strKind PG w) z.se (SS Sn) n∧n+un Sn≤8
 items:∀e∈ki,h.get? e.m=some (mwO e.r)∧h.get? e.r=some (liO (nd e.v).l e.i)∧z.N0≤e.m∧z.N0≤e.r
 nodup:(k.map (·.v)).Nodup
 itk:h.get? z.it=some (et z.D z.ii 8 8)
noncomputable abbrev FS(w:World)(nt:Fin 8→Nat)(og:Fin 8→Fin 8)(nd:Fin 8→Nd)(np:Fin 8→Int)(su:Fin 8→List (Fin 8))(z:FcZ)(fs:List Nat)(h₀:Heap)(k:List SE)(Sn:Fin 8→Bool)(x:List (String×Nat×Value))(h:Heap):Prop:=FSG w nt og nd np su z fs h₀ k k Sn x h
theorem m6{Sn:Fin 8→Bool}{k:Fin 8}:SS Sn (nmS k)=Sn k:=by
 unfold SS
 cases h:Sn k with
 |true=>exact List.any_eq_true.mpr ⟨k,List.mem_finRange k,by rw[h];simp⟩
 |false=>
  refine List.any_eq_false.mpr fun j _ hj=>?_
  rw[Bool.and_eq_true,decide_eq_true_eq] at hj
  rw[gj hj.2,h] at hj
  cases hj.1
theorem jnm{Sn:Fin 8→Bool}{k:Fin 8}:(fun x=>SS Sn x||decide (x=nmS k))=SS (upd Sn k true):=by
 funext x
 rw[Bool.eq_iff_iff]
 unfold SS
 simp only[Bool.or_eq_true,List.any_eq_true,List.mem_finRange,true_and,Bool.and_eq_true,decide_eq_true_eq]
 constructor
 ·rintro(⟨j,h1,h2⟩|h)
  ·refine⟨j,?_,h2⟩
   unfold upd;split<;>first|rfl|exact h1
  ·exact⟨k,a9,h.symm⟩
 ·rintro⟨j,h1,h2⟩
  by_cases e:j=k
  ·subst e;exact .inr h2.symm
  ·rw[ba e] at h1;exact .inl ⟨j,h1,h2⟩
theorem jkx{Sn:Fin 8→Bool}{k:Fin 8}(h:Sn k=false):un (upd Sn k true)+1=un Sn:=by
 revert h
 have:∀(l:List (Fin 8)),l.Nodup→(l.filter fun j=>!Sn j).length=(l.filter fun j=>!upd Sn k true j).length+(if k∈l∧Sn k=false then 1 else 0):=by
  intro l
  induction l with
  |nil=>intro _;simp
  |cons a l ih=>
   intro hn
   rw[List.nodup_cons] at hn
   have:=ih hn.2
   by_cases e:a=k
   ·subst e
    have h1:(upd Sn a true a)=true:=a9
    by_cases h:Sn a=true
    ·simp[List.filter_cons,h,h1,this]
    ·have h':Sn a=false:=by simpa using h
     simp[List.filter_cons,h',h1,this,hn.1]
   ·have h1:(upd Sn k true a)=Sn a:=ba e
    have e':k≠a:=fun q=>e q.symm
    by_cases h:Sn a=true
    ·simp[List.filter_cons,h,h1,this,e']
    ·have h':Sn a=false:=by simpa using h
     simp[List.filter_cons,h',h1,this,e'];omega
 intro h
 have:=this (List.finRange 8) (List.nodup_finRange 8)
 unfold un
 rw[if_pos ⟨List.mem_finRange k,h⟩] at this
 exact(Nat.le_antisymm (qg this) (qe this))
theorem eh(k:List SE):(kvT k).map (·.1)=(k.map (·.v)).reverse:=by
 induction k with
 |nil=>rfl
 |cons e k ih=>simp[kvT,ih]
theorem vr(k:List SE):(kvT k).length=k.length:=by
 have:=congrArg List.length (eh k)
 simpa using this
theorem bk{kv:KV}{k:Fin 8}:k∉kv.map (·.1)→kv.lookup k=none:=by
 induction kv with
 |nil=>intro _;rfl
 |cons p l ih=>
  intro h
  rw[List.map_cons,List.mem_cons,not_or] at h
  rw[List.lookup_cons,beq_eq_false_iff_ne.mpr h.1]
  exact ih h.2
theorem cq{kv:KV}{k:Fin 8}(h:k∈kv.map (·.1)):∃v,kv.lookup k=some v∧(k,v)∈kv:=by
 induction kv with
 |nil=>cases h
 |cons p l ih=>
  rw[List.lookup_cons]
  by_cases e:k=p.1
  ·subst e;rw[beq_self_eq_true];exact⟨_,rfl,.head _⟩
  ·rw[beq_eq_false_iff_ne.mpr e]
   rw[List.map_cons,List.mem_cons] at h
   obtain⟨v,h1,h2⟩:=ih (h.resolve_left e)
   exact⟨v,h1,.tail _ h2⟩
theorem jft{k:List SE}{x:Fin 8}{v:Value}:(x,v)∈kvT k→∃(j:Nat) (t:Nat),v=.int (j:Int) t∧j<k.length:=by
 induction k with
 |nil=>intro h;cases h
 |cons e k ih=>
  intro h
  unfold kvT at h
  rcases List.mem_append.mp h with h|h
  ·obtain⟨j,t,h1,h2⟩:=ih h
   exact⟨j,t,h1,by rw[List.length_cons];exact(qr (k:=1) h2)⟩
  ·rcases List.mem_singleton.mp h with h
   cases h
   exact⟨_,_,rfl,by simp⟩
theorem jfu{e:SE}{k:List SE}(h:((e::k).map (·.v)).Nodup):ld (kvT (e::k)) e.v=kvT k:=by
 show(kvT k++[(e.v,Value.int (k.length:Int) e.t)]).filter (fun p=>p.1 != e.v)=kvT k
 rw[List.filter_append]
 have h1:e.v∉(kvT k).map (·.1):=by
  rw[eh]
  rw[List.map_cons,List.nodup_cons] at h
  simpa using h.1
 have:=sq h1
 unfold ld at this
 rw[this]
 simp
theorem G6{e:SE}{k:List SE}(h:((e::k).map (·.v)).Nodup):(kvT (e::k)).lookup e.v=some (.int (k.length:Int) e.t):=by
 unfold kvT
 have h1:e.v∉(kvT k).map (·.1):=by
  rw[eh]
  rw[List.map_cons,List.nodup_cons] at h
  simpa using h.1
 rw[List.lookup_append,bk h1]
 simp
noncomputable def XHas(h:Heap)(pre:List (Nat×Obj))(N:Nat)(ex:List (Nat×Obj)):Prop:=∀(k j:Nat) (o:Obj) (a:Nat),ex[k]?=some (j,o)→aj (pre.map (·.1)) N j=a→h.get? a=some o
theorem XHas.of{h:Heap}{pre ex:List (Nat×Obj)}{N:Nat}(H:∀p∈dm pre N ex,h.get? p.1=some p.2):XHas h pre N ex:=fun k j o a e ha=>
 ha ▸ H (aj (pre.map (·.1)) N j,o) (List.mem_map.mpr ⟨(j,o),List.mem_of_getElem? e,rfl⟩)
section
variable{w:World}{pre:List (Nat×Obj)}{N t₀:Nat}{s:Shared}{n i tk:Nat}{hs:List Nat}{cs:List CH}{ex:List (Nat×Obj)}{B X:Cx}{env:Env}{A C:Around}{E:Value→Shared→Prop}{chg:List Nat}
theorem aft{G:Shared→Prop}(P:Pre w pre N t₀ s)(hc:StL ex chg 0 pre)(h:∀s',Based w.params s'.heap→s'.heap.objs.size=N+i→af chg s.heap s'.heap→ae s'=ae s→XHas s'.heap pre N ex→G s') :
  ∀s',Pre w (dm pre N ex) (N+i) (t₀+tk) s'→af (pre.map (·.1)) s.heap s'.heap→ae s'=ae s→G s':=
 fun s' P' K r=>h s' P'.based P'.size (am P P'.has K hc) r (.of P'.has)
theorem c7{e:Expr}{v:Value}{Q:Value→Shared→Prop}
  (H:dh n (mkV w pre N t₀) pre (.fin hs cs ⟨.ok (.done (.ret v)),ex,i,tk⟩) B X (evT e env)=rhs (.fin hs cs ⟨.ok (.done (.ret v)),ex,i,tk⟩) (mkV w pre N t₀)) (P:Pre w pre N t₀ s) (hB:B.Ok A) (hX:X.Ok C) (hk:ez (ex.map (·.1))=true)
  (hx:dx (mkV w pre N t₀) s.heap cs) (hc:StL ex chg 0 pre) (h:∀s',Based w.params s'.heap→s'.heap.objs.size=N+i→af chg s.heap s'.heap→ae s'=ae s→XHas s'.heap pre N ex→Q v s'):wpAny (model PG w) C (eval e env) Q E s:=bq H P hB hX hk hx (aft P hc h)
theorem ug{e:Expr}{b:Bool}{Q:Bool→Shared→Prop}
  (H:dh n (mkV w pre N t₀) pre (.fin hs cs ⟨.ok (.done (.ret (.bool b))),ex,i,tk⟩) B X (trT e env)=rhs (.fin hs cs ⟨.ok (.done (.ret (.bool b))),ex,i,tk⟩) (mkV w pre N t₀)) (P:Pre w pre N t₀ s) (hB:B.Ok A) (hX:X.Ok C) (hk:ez (ex.map (·.1))=true)
  (hx:dx (mkV w pre N t₀) s.heap cs) (hc:StL ex chg 0 pre) (h:∀s',Based w.params s'.heap→s'.heap.objs.size=N+i→af chg s.heap s'.heap→ae s'=ae s→XHas s'.heap pre N ex→Q b s'):wpAny (model PG w) C (isTrue e env (eval e env)) Q E s:=cu H P hB hX hk hx (aft P hc h)
theorem d9{x v:Value}{Q:Value→Shared→Prop}
  (H:dh n (mkV w pre N t₀) pre (.fin hs cs ⟨.ok (.done (.ret v)),ex,i,tk⟩) B X (itT x)=rhs (.fin hs cs ⟨.ok (.done (.ret v)),ex,i,tk⟩) (mkV w pre N t₀)) (P:Pre w pre N t₀ s) (hB:B.Ok A) (hX:X.Ok C) (hk:ez (ex.map (·.1))=true)
  (hx:dx (mkV w pre N t₀) s.heap cs) (hc:StL ex chg 0 pre) (h:∀s',Based w.params s'.heap→s'.heap.objs.size=N+i→af chg s.heap s'.heap→ae s'=ae s→XHas s'.heap pre N ex→Q v s'):wpAny (model PG w) C (pyIter x) Q E s:=kx H P hB hX hk hx (aft P hc h)
theorem fz{x:Value}{v:Option Value}{Q:Option Value→Shared→Prop}
  (H:dh n (mkV w pre N t₀) pre (.fin hs cs ⟨.ok (.done (gw v)),ex,i,tk⟩) B X (nxT x)=rhs (.fin hs cs ⟨.ok (.done (gw v)),ex,i,tk⟩) (mkV w pre N t₀)) (P:Pre w pre N t₀ s) (hB:B.Ok A) (hX:X.Ok C) (hk:ez (ex.map (·.1))=true)
  (hx:dx (mkV w pre N t₀) s.heap cs) (hc:StL ex chg 0 pre) (h:∀s',Based w.params s'.heap→s'.heap.objs.size=N+i→af chg s.heap s'.heap→ae s'=ae s→XHas s'.heap pre N ex→Q v s'):wpAny (model PG w) C (pyNext x) Q E s:=rq H P hB hX hk hx (aft P hc h)
theorem cp{t:Expr}{x:Value}{Q:Unit→Shared→Prop}
  (H:dh n (mkV w pre N t₀) pre (.fin hs cs ⟨.ok (.done .next),ex,i,tk⟩) B X (asT t env x)=rhs (.fin hs cs ⟨.ok (.done .next),ex,i,tk⟩) (mkV w pre N t₀)) (P:Pre w pre N t₀ s) (hB:B.Ok A) (hX:X.Ok C) (hk:ez (ex.map (·.1))=true)
  (hx:dx (mkV w pre N t₀) s.heap cs) (hc:StL ex chg 0 pre) (h:∀s',Based w.params s'.heap→s'.heap.objs.size=N+i→af chg s.heap s'.heap→ae s'=ae s→XHas s'.heap pre N ex→Q () s'):wpAny (model PG w) C (assign t env x) Q E s:=c0 H P hB hX hk hx (aft P hc h)
theorem bc{l:List Stmt}{f:Flow}{Q:Flow→Shared→Prop}
  (H:dh n (mkV w pre N t₀) pre (.fin hs cs ⟨.ok (.done f),ex,i,tk⟩) B X (ar l env)=rhs (.fin hs cs ⟨.ok (.done f),ex,i,tk⟩) (mkV w pre N t₀)) (P:Pre w pre N t₀ s) (hB:B.Ok A) (hX:X.Ok C) (hk:ez (ex.map (·.1))=true)
  (hx:dx (mkV w pre N t₀) s.heap cs) (hc:StL ex chg 0 pre) (h:∀s',Based w.params s'.heap→s'.heap.objs.size=N+i→af chg s.heap s'.heap→ae s'=ae s→XHas s'.heap pre N ex→Q f s'):wpAny (model PG w) C (execs l env) Q E s:=ay H P hB hX hk hx (aft P hc h)
theorem dg{c:Code}{R:Result→Shared→Prop}{out:Except Value Fin}
  (H:jcq n (mkV w pre N t₀) pre (.fin hs cs ⟨out,ex,i,tk⟩) B c=rhs (.fin hs cs ⟨out,ex,i,tk⟩) (mkV w pre N t₀)) (P:Pre w pre N t₀ s) (hB:B.Ok A) (hk:ez (ex.map (·.1))=true)
  (hx:dx (mkV w pre N t₀) s.heap cs) (hc:StL ex chg 0 pre) (h:∀s',Based w.params s'.heap→s'.heap.objs.size=N+i→af chg s.heap s'.heap→ae s'=ae s→XHas s'.heap pre N ex→zs w A R out s'):codeAny (model PG w) A c R s:=cz H P hB hk hx (aft P hc h)
theorem zle{a b i:Nat}(h:b=a+i):a≤b:=h ▸ Nat.le_add_right a i
end
end Mine
namespace Mine
noncomputable def jqf(su:Fin 8→List (Fin 8))(x v:Fin 8):Prop:=x∈su v
noncomputable abbrev ck(su:Fin 8→List (Fin 8))(v:Fin 8):Prop:=Acc (jqf su) v
noncomputable abbrev Stk:=List (Fin 8×List (Fin 8))
noncomputable def Chain(su:Fin 8→List (Fin 8)):Option (Fin 8)→Stk→Prop
 |_,[]=>True
 |up,(v,rest)::sk=>(∀x∈su v,x∈rest∨ck su x∨some x=up)∧(∀u,up=some u→u∈su v)∧Chain su (some v) sk
theorem uk{su:Fin 8→List (Fin 8)}{S:Fin 8→Prop}(h:∀v,S v→∃u,u∈su v∧S u){v:Fin 8}(a:ck su v):¬S v:=by
 induction a with
 |intro v _ ih=>
  intro hs
  obtain⟨u,hu,hsu⟩:=h v hs
  exact ih u hu hsu
theorem Chain.up_end{su:Fin 8→List (Fin 8)}{v:Fin 8}(hv:ck su v):∀{sk:Stk},Chain su (some v) sk→Chain su none sk
 |[],_=>trivial
 |(v',rest)::sk,h=>by
  refine⟨fun x hx=>?_,(fun u e=>nomatch e),h.2.2⟩
  rcases h.1 x hx with q|q|q
  ·exact .inl q
  ·exact .inr (.inl q)
  ·cases q;exact .inr (.inl hv)
theorem Chain.pop{su:Fin 8→List (Fin 8)}{v:Fin 8}{sk:Stk}(h:Chain su none ((v,[])::sk)):ck su v∧Chain su none sk:=by
 have hv:ck su v:=by
  refine Acc.intro v fun x hx=>?_
  rcases h.1 x hx with q|q|q
  ·cases q
  ·exact q
  ·cases q
 exact⟨hv,h.2.2.up_end hv⟩
theorem Chain.skip{su:Fin 8→List (Fin 8)}{v u:Fin 8}{us:List (Fin 8)}{sk:Stk}(h:Chain su none ((v,u::us)::sk))(hu:ck su u):Chain su none ((v,us)::sk):=by
 refine⟨fun x hx=>?_,(fun u e=>nomatch e),h.2.2⟩
 rcases h.1 x hx with q|q|q
 ·cases q with
  |head=>exact .inr (.inl hu)
  |tail _ q=>exact .inl q
 ·exact .inr (.inl q)
 ·cases q
theorem Chain.push{su:Fin 8→List (Fin 8)}{v u:Fin 8}{us:List (Fin 8)}{sk:Stk}(h:Chain su none ((v,u::us)::sk))(hu:u∈su v):Chain su none ((u,su u)::(v,us)::sk):=by
 refine⟨fun x hx=>.inl hx,(fun u e=>nomatch e),fun x hx=>?_,(fun u' e=>by cases e;exact hu),h.2.2⟩
 rcases h.1 x hx with q|q|q
 ·cases q with
  |head=>exact .inr (.inr rfl)
  |tail _ q=>exact .inl q
 ·exact .inr (.inl q)
 ·cases q
theorem Chain.back{su:Fin 8→List (Fin 8)}{u:Fin 8}{r:List (Fin 8)}{l₂:Stk}:∀{l₁:Stk} {up:Fin 8},Chain su (some up) (l₁++(u,r)::l₂)→∀x,x∈l₁.map (·.1)∨x=u→∃y,(y=up∨y∈l₁.map (·.1)∨y=u)∧y∈su x
 |[],up,h,x,hx=>by
  rcases hx with hx|rfl
  ·cases hx
  ·exact⟨up,.inl rfl,h.2.1 up rfl⟩
 |(v,rest)::l₁,up,h,x,hx=>by
  have ih:=Chain.back (l₁:=l₁) (up:=v) h.2.2
  have go:x∈l₁.map (·.1)∨x=u→∃y,(y=up∨y∈((v,rest)::l₁).map (·.1)∨y=u)∧y∈su x:=fun hx=>by
   obtain⟨y,hy,hyx⟩:=ih x hx
   refine⟨y,?_,hyx⟩
   rcases hy with rfl|hy|hy
   ·exact .inr (.inl (.head _))
   ·exact .inr (.inl (.tail _ hy))
   ·exact .inr (.inr hy)
  rcases hx with hx|hx
  ·cases hx with
   |head=>exact⟨up,.inl rfl,h.2.1 up rfl⟩
   |tail _ hx=>exact go (.inl hx)
  ·exact go (.inr hx)
theorem Chain.ring{su:Fin 8→List (Fin 8)}{v u:Fin 8}{rest:List (Fin 8)}{sk:Stk}(h:Chain su none ((v,rest)::sk))(hu:u∈su v)(hm:u∈((v,rest)::sk).map (·.1)):¬ck su v:=by
 by_cases e:u=v
 ·subst e
  exact fun a=>uk (S:=fun x=>x=u) (fun x hx=>⟨u,by subst hx;exact hu,rfl⟩) a rfl
 ·have hm':u∈sk.map (·.1):=by
   cases hm with
   |head=>exact absurd rfl e
   |tail _ q=>exact q
  obtain⟨p,hp,rfl⟩:=List.mem_map.mp hm'
  obtain⟨l₁,l₂,rfl⟩:=List.append_of_mem hp
  have hb:=Chain.back (l₁:=l₁) (u:=p.1) (r:=p.2) (l₂:=l₂) (up:=v) h.2.2
  exact fun a=>uk (S:=fun x=>x=v∨x∈l₁.map (·.1)∨x=p.1) (fun x hx=>by
   rcases hx with rfl|hx
   ·exact⟨p.1,hu,.inr (.inr rfl)⟩
   ·obtain⟨y,hy,hyx⟩:=hb x hx
    exact⟨y,hyx,hy⟩) a (.inl rfl)
end Mine
namespace Mine
open PySem.W PySem PySem.W.X
structure SetP where
 es:Array (Int×Value)
 ep:Nat
 t:SetTable
noncomputable def SetP.o(p:SetP):Obj:=stO p.es p.ep p.t
noncomputable def saC(w:World)(se:Nat)(nt:Fin 8→Nat)(k:Fin 8)(p:SetP)(Sn:Fin 8→Bool)(n N t₀:Nat):CallSpec where
 Out:=SetP
 code:=.call (.builtin "set.add") ⟨[.ref se,nmV nt k],[]⟩
 pre:=[(2,stO p.es p.ep p.t)]
 i:=0
 tk:=1
 res _:=rv .none
 upd o:=[(2,stO o.es o.ep o.t)]
 new _:=[]
 size _:=N
 toks _:=t₀+2
 rel _:=True
 facts _ h':=h'.SetOf (strKind PG w) se (SS (upd Sn k true)) (n+1)
noncomputable def xc:List Nat:=dH 10 18872226976378945
noncomputable def xh(X0:XSpec):List CH:=[.x X0]
noncomputable def xb:List Nat:=dH 60 40190832719935832809510418449905770846805173131712015431448499575785740942778297551297135133745841197314497
noncomputable def xg(X0 X1 X2 X3 X4:XSpec):List CH:=[.x X0,.p,.p,.p,.p,.p,.p,.p,.p,.p,.p,.p,.p,.p,.p,.x X1,.x X2,.x X3,.x X4]
section
variable{w:World}{a b c:Bool}{nt:Fin 8→Nat}{f:Nat→Nat}{S D L st its se n2 N t₀ i ad l tn le e1 e2 e3 n:Nat}{og:Fin 8→Fin 8}{nd:Fin 8→Nd}{np:Int}{k:Fin 8}{kv:KV}{sx ix su:List Value}{sl:Array (Option Value)}{p:SetP}{Sn:Fin 8→Bool}
noncomputable def jw(P:Params)(nt:Fin 8→Nat)(f:Nat→Nat)(S D L st its se n2 i ad l tn le e1 e2 e3:Nat)(og:Fin 8→Fin 8)(nd:Fin 8→Nd)(np:Int)(k:Fin 8)(kv:KV)(sx ix su:List Value)(sl:Array (Option Value))(p:SetP):List (Nat×Obj):=
 [(L,bx P f S D st its se n2 (nv1 f (nmV nt k)) sl),(D,dO P nt (aq (ol og) nd) 8),(se,stO p.es p.ep p.t),(i,br (nmV nt k) ad np tn l),(l,lO su le),(st,lO sx e1),(its,lO ix e2),(n2,dO P nt kv e3)]
noncomputable def mn(w:World)(nt:Fin 8→Nat)(f:Nat→Nat)(S D L st its se n2 i ad l tn le e1 e2 e3 n N t₀:Nat)(og:Fin 8→Fin 8)(nd:Fin 8→Nd)(np:Int)(k:Fin 8)(kv:KV)(sx ix su:List Value)(sl:Array (Option Value))(p:SetP)(Sn:Fin 8→Bool):Script:=
 .call xc (xh (scX none se nt k (stO p.es p.ep p.t) 2 0 0 false)) (saC w se nt k p Sn n N t₀) fun o=>
  .fin xb (xg (dgX none w.params D nt k (aq (ol og) nd) 8 1 0 0 (.ref i)) (laX none its ix e2 (.ref (N+1)) 6 2 3) (lnX none st sx e1 (t₀+6) 5 2 3) (dnX none w.params n2 nt k kv e3 7 2 5 (.int (sx.length:Int) (t₀+6))) (laX none st sx e1 (nmV nt k) 5 2 6))
   ⟨.ok (.done .next),[(0,bx w.params f S D st its se n2 (nv1 f (nmV nt k)) sl),(1,dO w.params nt (aq (ol og) nd) 8),(2,stO o.es o.ep o.t),(3,br (nmV nt k) ad np tn l),(4,lO su le),(5,lO (sx++[nmV nt k]) (e1+1)),(6,lO (ix++[.ref (N+1)]) (e2+1)),
    (7,dO w.params nt (kv++[(k,.int (sx.length:Int) (t₀+6))]) (e3+1)),(8,liO l 0),(9,mwO N)],2,6⟩
theorem w9(ff:Option (List Env)):au 300 (wf w a b c) N t₀ (jw (wf w a b c).params nt f S D L st its se n2 i ad l tn le e1 e2 e3 og nd np k kv sx ix su sl p) (mn (wf w a b c) nt f S D L st its se n2 i ad l tn le e1 e2 e3 n N t₀ og nd np k kv sx ix su sl p Sn) ⟨none,820,8200,ff⟩ (ar [ll] (az L)):=by
 cases c<;>kernel_rfl
end
section
variable{w:World}{nt:Fin 8→Nat}{og:Fin 8→Fin 8}{nd:Fin 8→Nd}{np:Fin 8→Int}{su:Fin 8→List (Fin 8)}{z:FcZ}{fs:List Nat}{h₀:Heap}{k:List SE}{Sn:Fin 8→Bool}{x:List (String×Nat×Value)}{h:Heap}
theorem ec{og:Fin 8→Fin 8}(hn:(ol og).Nodup)(u:Fin 8):u∈ol og:=by
 have h8:(ol og).length=8:=rfl
 by_cases h:u∈ol og
 ·exact h
 ·have:=fv (o:=ol og++[u]) (List.nodup_append.mpr ⟨hn,by simp,fun a ha b hb e=>h (by rw[List.mem_singleton.mp hb] at e;exact e ▸ ha)⟩)
  rw[List.length_append,h8] at this
  exact absurd this (by simp)
theorem FSG.len{ki:List SE}(F:FSG w nt og nd np su z fs h₀ ki k Sn x h):k.length≤8:=by
 have:=fv F.nodup
 rwa [List.length_map] at this
theorem db:(ey nt k).length=k.length:=by simp[ey]
theorem sr:(fc k).length=k.length:=by simp[fc]
theorem FSG.ge{ki:List SE}(F:FSG w nt og nd np su z fs h₀ ki k Sn x h)(Z:z.Ok og nd fs):257≤h.objs.size:=by have:=Z.ge;have:=F.size;omega
end
section
variable{w:World}{a b c:Bool}{nt:Fin 8→Nat}{og:Fin 8→Fin 8}{nd:Fin 8→Nd}{np:Fin 8→Int}{su:Fin 8→List (Fin 8)}{z:FcZ}{fs:List Nat}{h₀:Heap}{k:List SE}{Sn:Fin 8→Bool}{A:Around}{E:Value→Shared→Prop}{s:Shared}
theorem jk4{V:SV}{hh:Heap}{se:Nat}{u:Fin 8}{p:SetP}{n:Nat}(hw:V.w=w)(hp:aj V.pre V.N 2=se)(hS:hh.SetOf (strKind PG w) se (SS Sn) n)(hg:hh.get? se=some p.o)(hu:Sn u=false)(hn:n+1<scanBound):b9 V hh (saC w se nt u p Sn n V.N V.t₀):=fun A s hh' hf hd hu' hs ht hkt hk hpre=>by
 have h1:=hpre (2,_) (.head _)
 rw[hp] at h1
 have hs':s.heap.objs.size=V.N:=hs
 have ht':s.toks=V.t₀+1:=ht
 rw[hw]
 refine jn1 (ce hS (h1.trans hg.symm)) hn fun h' hb hS'=>?_
 rw[m6,hu,jnm] at hS'
 have hS2:h'.SetOf (strKind PG w) se (SS (upd Sn u true)) (n+1):=hS'
 obtain⟨es,ep,t,ho⟩:=bt hS2
 refine⟨⟨es,ep,t⟩,zt,rfl,h',?_,hS2,hb.1.trans hs',by rw[hs'];exact Nat.le_refl _,fun p hp'=>?_,(fun p hp'=>nomatch hp'),List.Pairwise.nil,fun b o e hne _=>(hb.2 b fun e=>hne _ (.head _) (by rw[hp];exact e)).trans e⟩
 ·show({ s with heap:=h',toks:=s.toks+1 }:Shared)={ s with heap:=h',toks:=V.t₀+2 }
  rw[ht']
 ·rcases List.mem_singleton.mp hp' with rfl
  rw[hp];exact ho
theorem vx{o:List (Fin 8)}{nd:Fin 8→Nd}{D:Nat}:InReg D o nd D:=.inl rfl
theorem jle{Q:Flow→Shared→Prop}{u:Fin 8}(hA:Room A 820 8200)(Z:z.Ok og nd fs)(F:FS (wf w a b c) nt og nd np su z fs h₀ k Sn (nv1 z.f (nmV nt u)) s.heap)(hu:Sn u=false)(hk:u∉k.map (·.v))(hz:h₀.objs.size=z.N0)
  (h:∀s' e,e.v=u→e.i=0→FS (wf w a b c) nt og nd np su z fs h₀ (e::k) (upd Sn u true) (nv1 z.f (nmV nt u)) s'.heap→ae s'=ae s→Q .next s') :
  wpAny (model PG (wf w a b c)) A (execs [ll] (az z.L)) Q E s:=by
 obtain⟨sl,hfr⟩:=F.fr
 obtain⟨e1,hst⟩:=F.st
 obtain⟨e2,hits⟩:=F.its
 obtain⟨e3,hn2⟩:=F.n2
 obtain⟨n,hse,hun⟩:=F.se
 obtain⟨es,ep,tb,hso⟩:=bt hse
 have um:=ec F.reg.nodup u
 have hi:=F.reg.i u um
 have hl:=F.reg.l u um
 have rD:=Z.reg z.D vx
 have ra:=Z.reg (nd u).a (.inr ⟨u,um,.inl rfl⟩)
 have rl:=Z.reg (nd u).l (.inr ⟨u,um,.inr rfl⟩)
 obtain⟨g1,g2,g3,g4,g5,g6,g7⟩:=Z.ge
 obtain⟨q1,q2⟩:=Z.ne
 have hsz:=F.size
 have P:Pre (wf w a b c) (jw (wf w a b c).params nt z.f z.S z.D z.L z.st z.its z.se z.n2 (nd u).a (nd u).ad (nd u).l (nd u).tn (nd u).le e1 e2 e3 og nd (np u) u (kvT k) (ey nt k) (fc k) ((su u).map (nmV nt)) sl ⟨es,ep,tb⟩) s.heap.objs.size s.toks s:=
  ag F.based (F.ge Z) ⟨hfr,F.reg.d,hso,hi,hl,hst,hits,hn2,zt⟩ (jqk (qv (qc (ql rD.2.1 rD.1) g1)) rD.2.1 (qv (qc (ql rD.2.1 rD.1) g4)) ra.2.1 rl.2.1 (qv (qc (ql rD.2.1 rD.1) g2)) (qv (qc (ql rD.2.1 rD.1) g3)) (qv (qc (ql rD.2.1 rD.1) g5)))
   (by
    refine⟨⟨?_,?_,?_,?_,?_,?_,?_,zt⟩,⟨?_,?_,?_,?_,?_,?_,zt⟩,⟨?_,?_,?_,?_,?_,zt⟩,⟨?_,?_,?_,?_,zt⟩,⟨?_,?_,?_,zt⟩,⟨?_,?_,zt⟩,⟨?_,zt⟩,zt,zt⟩
    all_goals first
     |exact zt
     |(show@Ne Nat _ _;omega))
 have hun1:=jkx hu
 have hsb:n+1<scanBound:=by unfold scanBound;omega
 have hk8:=F.len
 have G:Goal (wf w a b c) A (fun r s'=>match r with|.ok f=>Q f s'|.error e=>E e s') (ae s) s.heap (fun _=>False)
   (mn (wf w a b c) nt z.f z.S z.D z.L z.st z.its z.se z.n2 (nd u).a (nd u).ad (nd u).l (nd u).tn (nd u).le e1 e2 e3 n s.heap.objs.size s.toks og nd (np u) u (kvT k) (ey nt k) (fc k) ((su u).map (nmV nt)) sl ⟨es,ep,tb⟩ Sn)
   (mkV (wf w a b c) (jw (wf w a b c).params nt z.f z.S z.D z.L z.st z.its z.se z.n2 (nd u).a (nd u).ad (nd u).l (nd u).tn (nd u).le e1 e2 e3 og nd (np u) u (kvT k) (ey nt k) (fc k) ((su u).map (nmV nt)) sl ⟨es,ep,tb⟩) s.heap.objs.size s.toks) s.heap:=by
  refine⟨⟨kz rfl rfl hse hso (by rw[m6];exact hu),zt⟩,jk4 rfl rfl hse hso hu hsb,(fun b hb=>hb.elim),(fun b hb=>hb),fun o h1 _ hf hsz1 hle1 hupd _ _ _ _=>?_⟩
  refine⟨⟨ic rfl rfl (by rw[cg,if_pos um]),fw rfl (by rw[sr];exact(qr (k:=991) (qs 1 hk8))),gz rfl (by rw[db];exact(qr (k:=991) (qs 1 hk8))) rfl,ib rfl rfl (bk (by rw[eh];simpa using hk)) (by rw[vr];exact(qr (k:=991) (qs 1 hk8))),fw rfl (by rw[db];exact(qr (k:=991) (qs 1 hk8))),zt⟩,fun h2 hsz2 hex hkept hacc=>?_⟩
  have hsz2':h2.objs.size=s.heap.objs.size+2:=hsz2
  have hsz1':h1.objs.size=s.heap.objs.size:=hsz1
  have x0:=hex (0,_) (.head _)
  have x1:=hex (1,_) (.tail _ (.head _))
  have x2:=hex (2,_) (.tail _ (.tail _ (.head _)))
  have x3:=hex (3,_) (.tail _ (.tail _ (.tail _ (.head _))))
  have x4:=hex (4,_) (.tail _ (.tail _ (.tail _ (.tail _ (.head _)))))
  have x5:=hex (5,_) (.tail _ (.tail _ (.tail _ (.tail _ (.tail _ (.head _))))))
  have x6:=hex (6,_) (.tail _ (.tail _ (.tail _ (.tail _ (.tail _ (.tail _ (.head _)))))))
  have x7:=hex (7,_) (.tail _ (.tail _ (.tail _ (.tail _ (.tail _ (.tail _ (.tail _ (.head _))))))))
  have x8:=hex (8,_) (.tail _ (.tail _ (.tail _ (.tail _ (.tail _ (.tail _ (.tail _ (.tail _ (.head _)))))))))
  have x9:=hex (9,_) (.tail _ (.tail _ (.tail _ (.tail _ (.tail _ (.tail _ (.tail _ (.tail _ (.tail _ (.head _))))))))))
  have K:af [z.L,z.se,z.st,z.its,z.n2] s.heap h2:=fun b o' e hb=>by
   by_cases b1:b=z.D
   ·exact sg F.reg.d x1 e b1
   by_cases b2:b=(nd u).a
   ·exact sg hi x3 e b2
   by_cases b3:b=(nd u).l
   ·exact sg hl x4 e b3
   refine hacc b o' e (fun q=>?_) fun q=>q
   have q':b∈[z.L,z.D,z.se,(nd u).a,(nd u).l,z.st,z.its,z.n2]:=q
   replace hb:=xO5 hb
   replace q':=mO8 q'
   rcases q' with q|q|q|q|q|q|q|q
   ·exact hb.1 q
   ·exact b1 q
   ·exact hb.2.1 q
   ·exact b2 q
   ·exact b3 q
   ·exact hb.2.2.1 q
   ·exact hb.2.2.2.1 q
   ·exact hb.2.2.2.2 q
  have hS2:h2.SetOf (strKind PG (wf w a b c)) z.se (SS (upd Sn u true)) (n+1):=by
   have hf':h1.SetOf (strKind PG (wf w a b c)) z.se (SS (upd Sn u true)) (n+1):=hf
   have hu2:=hupd (2,_) (.head _)
   exact ce hf' (x2.trans hu2.symm)
  have ni:∀b:Nat,b∈[z.L,z.se,z.st,z.its,z.n2]→z.N0≤b:=fun b hb=>by
   exact mA5 hb g1 g4 g2 g3 g5
  have nr:∀b:Nat,InReg z.D (ol og) nd b→b∉[z.L,z.se,z.st,z.its,z.n2]:=fun b hb q=>by
   have:=(Z.reg b hb).1
   have:=ni b q
   omega
  have fin:FS (wf w a b c) nt og nd np su z fs h₀ (⟨u,0,s.heap.objs.size+1,s.heap.objs.size,s.toks+6⟩::k) (upd Sn u true) (nv1 z.f (nmV nt u)) h2:=by
   refine⟨F.os.step K (fun x hx=>by rw[hz];exact ni x hx),dw F.based (pr:=[z.L,z.se,z.st,z.its,z.n2]) (m:=fun _=>False) (fun x hx=>by have:=ni x hx;exact(qv (qc (ql rD.2.1 rD.1) this))) (fun _ q=>q.elim) (fun b o e hb _=>K b o e hb),F.reg.mono (fun b ob e hb=>K b ob e (nr b hb)) (qw (k:=2) (qg hsz2')),(qw (k:=2) (qk (k:=2) hsz (qg hsz2'))),
    ⟨sl,x0⟩,⟨e1+1,?_⟩,⟨e2+1,?_⟩,⟨e3+1,?_⟩,⟨n+1,hS2,by omega⟩,fun e he=>?_,?_,?_⟩
   ·rw[show ey nt (⟨u,0,s.heap.objs.size+1,s.heap.objs.size,s.toks+6⟩::k)=ey nt k++[nmV nt u] by simp[ey]]
    exact x5
   ·rw[show fc (⟨u,0,s.heap.objs.size+1,s.heap.objs.size,s.toks+6⟩::k)=fc k++[.ref (s.heap.objs.size+1)] by simp[fc]]
    exact x6
   ·show h2.get? z.n2=some (dO _ nt (kvT k++[(u,.int (k.length:Int) (s.toks+6))]) _)
    rw[←db (nt:=nt) (k:=k)]
    exact x7
   ·cases he with
    |head=>exact⟨x9,x8,by show z.N0≤s.heap.objs.size+1;exact(qr (k:=1) hsz),hsz⟩
    |tail _ he=>
     obtain⟨m1,m2,m3,m4⟩:=F.items e he
     have d1:e.m∉[z.L,z.se,z.st,z.its,z.n2]:=fun q=>by
      replace q:=mO5 q
      rcases q with q|q|q|q|q
      ·exact ao m1 hfr rfl q
      ·exact ao m1 hso rfl q
      ·exact ao m1 hst rfl q
      ·exact ao m1 hits rfl q
      ·exact ao m1 hn2 rfl q
     have d2:e.r∉[z.L,z.se,z.st,z.its,z.n2]:=fun q=>by
      replace q:=mO5 q
      rcases q with q|q|q|q|q
      ·exact ao m2 hfr rfl q
      ·exact ao m2 hso rfl q
      ·exact ao m2 hst rfl q
      ·exact ao m2 hits rfl q
      ·exact ao m2 hn2 rfl q
     exact⟨K _ _ m1 d1,K _ _ m2 d2,m3,m4⟩
   ·rw[List.map_cons,List.nodup_cons]
    exact⟨hk,F.nodup⟩
   ·refine K _ _ F.itk fun q=>?_
    have hit:=F.itk
    replace q:=mO5 q
    rcases q with q|q|q|q|q
    ·exact ao hit hfr rfl q
    ·exact ao hit hso rfl q
    ·exact ao hit hst rfl q
    ·exact ao hit hits rfl q
    ·exact ao hit hn2 rfl q
  exact h ⟨h2,s.gens,s.drawn,_,s.os⟩ _ rfl rfl fin rfl
 have:=jr (modA:=fun _=>False) (w9 A.frames) P hA.cx hA.cx G
 exact this
end
section
variable{w:World}{a b c:Bool}{nt:Fin 8→Nat}{og:Fin 8→Fin 8}{nd:Fin 8→Nd}{np:Fin 8→Int}{su:Fin 8→List (Fin 8)}{z:FcZ}{fs:List Nat}{h₀:Heap}{ki k:List SE}{Sn:Fin 8→Bool}{x:List (String×Nat×Value)}{h h':Heap}{A:Around}{E:Value→Shared→Prop}{s:Shared}
theorem jdo(Z:z.Ok og nd fs){chg:List Nat}(hc:∀b∈chg,z.N0≤b){b:Nat}(hb:InReg z.D (ol og) nd b):b∉chg:=fun q=>by
 have:=(Z.reg b hb).1
 have:=hc b q
 omega
theorem FSG.next(F:FSG w nt og nd np su z fs h₀ ki k Sn x h)(Z:z.Ok og nd fs)(hz:h₀.objs.size=z.N0){chg:List Nat}(K:af chg h h')(hc:∀b∈chg,z.N0≤b)(hs:h.objs.size≤h'.objs.size){ki' k':List SE}{Sn':Fin 8→Bool}{x':List (String×Nat×Value)}{z':FcZ}
  (hz':z'.D=z.D∧z'.lo=z.lo∧z'.N0=z.N0)
  (hfr:∃sl,h'.get? z'.L=some (bx w.params z'.f z'.S z'.D z'.st z'.its z'.se z'.n2 x' sl)) (hst:∃e,h'.get? z'.st=some (lO (ey nt k') e)) (hits:∃e,h'.get? z'.its=some (lO (fc k') e)) (hn2:∃e,h'.get? z'.n2=some (dO w.params nt (kvT k') e))
  (hse:∃n,h'.SetOf (strKind PG w) z'.se (SS Sn') n∧n+un Sn'≤8) (hit:∀e∈ki',h'.get? e.m=some (mwO e.r)∧h'.get? e.r=some (liO (nd e.v).l e.i)∧z.N0≤e.m∧z.N0≤e.r) (hnd:(k'.map (·.v)).Nodup) (hik:h'.get? z'.it=some (et z'.D z'.ii 8 8)) :
  FSG w nt og nd np su z' fs h₀ ki' k' Sn' x' h':=by
 have h257:=Z.ge.2.2.2.2.2.1
 obtain⟨z1,z2,z3⟩:=hz'
 refine⟨F.os.step K (fun y hy=>by rw[hz];exact hc y hy),dw F.based (pr:=chg) (m:=fun _=>False) (fun y hy=>by have:=hc y hy;exact(qc h257 this)) (fun _ q=>q.elim) (fun b o e hb _=>K b o e hb),?_,by rw[z3];have:=F.size;exact(qc this hs),hfr,hst,hits,hn2,hse,by rw[z3];exact hit,hnd,hik⟩
 rw[z1,z2]
 exact F.reg.mono (fun b ob e hb=>K b ob e (jdo Z hc hb)) hs
noncomputable def SlotsBut(r:Nat)(fs:List Nat)(h h':Heap):Prop:=∀b o,h.get? b=some o→b≠r→∃sl,h'.get? b=some { o with slots:=sl }∧(b∉fs→sl=o.slots)
theorem SlotsBut.at{r:Nat}{fs:List Nat}(O:SlotsBut r fs h h'){b:Nat}{o:Obj}(e:h.get? b=some o)(h1:b≠r)(h2:b∉fs):h'.get? b=some o:=by
 obtain⟨sl,h3,h4⟩:=O b o e h1
 rw[h4 h2] at h3
 exact h3
theorem FSG.rel(F:FSG w nt og nd np su z fs h₀ ki k Sn x h)(Z:z.Ok og nd fs)(hz:h₀.objs.size=z.N0){r:Nat}(O:SlotsBut r (z.L::fs) h h')(hs:h.objs.size≤h'.objs.size){ki':List SE}(hki:∀e∈ki',e∈ki∧e.m≠r∧e.r≠r)
  (hr:z.N0≤r) (hro:r≠z.L∧r≠z.st∧r≠z.its∧r≠z.n2∧r≠z.se∧r≠z.it):FSG w nt og nd np su z fs h₀ ki' k Sn x h':=by
 obtain⟨g1,g2,g3,g4,g5,g6,g7⟩:=Z.ge
 obtain⟨r1,r2,r3,r4,r5,r6⟩:=hro
 have old:∀b:Nat,b<z.N0→b≠r:=fun b hb e=>by exact(qf (ql (qy hr e) hb))
 have nfs:∀b:Nat,z.N0≤b→b∉fs:=fun b hb q=>by have:=(Z.fs b q).1;exact(qf (ql hb this))
 have own:∀b o,h.get? b=some o→z.N0≤b→b≠r→b≠z.L→h'.get? b=some o:=fun b o e h1 h2 h3=>O.at e h2 (by
  rw[List.mem_cons,not_or];exact⟨h3,nfs b h1⟩)
 have rg:∀b ob,h.get? b=some ob→InReg z.D (ol og) nd b→h'.get? b=some ob:=fun b ob e hb=>O.at e (old b (Z.reg b hb).1) (by
  rw[List.mem_cons,not_or]
  have:=Z.reg b hb
  exact⟨fun q=>by have:=this.1;omega,this.2.2⟩)
 refine⟨?_,?_,F.reg.mono rg hs,by have:=F.size;exact(qc this hs),?_,?_,?_,?_,?_,?_,F.nodup,?_⟩
 ·intro b o e
  obtain⟨sl,h1,h2⟩:=F.os b o e
  have hlt:@LT.lt Nat _ b h₀.objs.size:=Heap.lt_size e
  obtain⟨sl',h3,h4⟩:=O b _ h1 (old b (qx hlt hz))
  exact⟨sl',h3,fun hb=>(h4 (by rw[List.mem_cons,not_or];exact⟨fun q=>by have q':@Eq Nat b z.L:=q;exact(qf (ql (qy (qo hz g1) q) hlt)),hb⟩)).trans (h2 hb)⟩
 ·refine⟨fun b o e=>?_⟩
  have hb:@LT.lt Nat _ b 257:=bm e
  refine O.at (F.based.kt b o e) (old b (qc hb g6)) ?_
  rw[List.mem_cons,not_or]
  exact⟨fun q=>by have q':@Eq Nat b z.L:=q;exact(qf (qc (ql (qy g1 q) hb) g6)),fun q=>by have:=(Z.fs b q).2;exact(qf (qc hb this))⟩
 ·obtain⟨sl,e⟩:=F.fr
  obtain⟨sl',h3,_⟩:=O _ _ e (fun q=>r1 q.symm)
  exact⟨sl',h3⟩
 ·obtain⟨e,h1⟩:=F.st
  exact⟨e,own _ _ h1 g2 (fun q=>r2 q.symm) (fun q=>by obtain⟨sl,e⟩:=F.fr;exact ao h1 e rfl q)⟩
 ·obtain⟨e,h1⟩:=F.its
  exact⟨e,own _ _ h1 g3 (fun q=>r3 q.symm) (fun q=>by obtain⟨sl,e⟩:=F.fr;exact ao h1 e rfl q)⟩
 ·obtain⟨e,h1⟩:=F.n2
  exact⟨e,own _ _ h1 g5 (fun q=>r4 q.symm) (fun q=>Z.ne.2 q.symm)⟩
 ·obtain⟨n,hS,hn⟩:=F.se
  obtain⟨es,ep,tb,ho⟩:=bt hS
  refine⟨n,ce hS ((own _ _ ho g4 (fun q=>r5 q.symm) (fun q=>by obtain⟨sl,e⟩:=F.fr;exact ao ho e rfl q)).trans ho.symm),hn⟩
 ·intro e he
  obtain⟨h1,h2,h3⟩:=hki e he
  obtain⟨m1,m2,m3,m4⟩:=F.items e h1
  obtain⟨sl,hL⟩:=F.fr
  exact⟨own _ _ m1 m3 h2 (fun q=>ao m1 hL rfl q),own _ _ m2 m4 h3 (fun q=>ao m2 hL rfl q),m3,m4⟩
 ·obtain⟨sl,hL⟩:=F.fr
  exact own _ _ F.itk g7 (fun q=>r6 q.symm) (fun q=>ao F.itk hL rfl q)
end
theorem dz:d0=.Try (inS d0) [.ExceptHandler (some (hdE (hdS d0))) none [ak (hdB (hdS d0)) 0,ak (hdB (hdS d0)) 1] (jk6 (hdS d0))] [] [] (gy d0):=by kernel_rfl
theorem jhi:hdB (hdS d0)=[ak (hdB (hdS d0)) 0,ak (hdB (hdS d0)) 1]:=by kernel_rfl
theorem jl8(L:Nat):(az L).scope.kind=.function:=by kernel_rfl
noncomputable def enS(su:Fin 8→List (Fin 8))(e:SE):Fin 8×List (Fin 8):=(e.v,(su e.v).drop e.i)
noncomputable def ms(su:Fin 8→List (Fin 8)):List SE→Nat
 |[]=>0
 |e::k=>((su e.v).drop e.i).length+ms su k
theorem ue:isSubtype (.type "StopIteration") (.type "BaseException")=pure true:=by rw[isSubtype_type];kernel_rfl
theorem ud:isSubtype (.type ((Manifest.find? "StopIteration").elim "type" fun x=>x.metatype)) (.type "tuple")=pure false:=by
 rw[show((Manifest.find? "StopIteration").elim "type" fun x=>x.metatype) = "type" from by kernel_rfl,isSubtype_type];kernel_rfl
section
variable{w:World}{a b c:Bool}{nt:Fin 8→Nat}{og:Fin 8→Fin 8}{nd:Fin 8→Nd}{np:Fin 8→Int}{su:Fin 8→List (Fin 8)}{z:FcZ}{fs:List Nat}{h₀:Heap}{ki k:List SE}{Sn:Fin 8→Bool}{x:List (String×Nat×Value)}{h h':Heap}{A:Around}{E:Value→Shared→Prop}{s:Shared}{outer:List Env}
structure FcAt(A:Around)(z:FcZ)(og:Fin 8→Fin 8)(nd:Fin 8→Nd)(fs:List Nat)(h₀:Heap)(outer:List Env):Prop where
 room:Room A 820 8200
 frames:A.frames=some (az z.L::outer)
 ff:h₀.FunFrames noBase outer
 fsE:fs=outer.filterMap (·.frame)
 ok:z.Ok og nd fs
 size:h₀.objs.size=z.N0
theorem FcAt.funFrames(T:FcAt A z og nd fs h₀ outer)(O:OnlySlots fs h₀ h){P:Params}{sl:Array (Option Value)}(hfr:h.get? z.L=some (bx P z.f z.S z.D z.st z.its z.se z.n2 x sl)):h.FunFrames noBase (az z.L::outer):=
 ⟨by rw[jl8];exact(fun e=>by cases e),⟨z.L,_,rfl,cf _,hfr,(fun vs e=>by cases e)⟩,O.funFrames T.ff⟩
theorem FcAt.fsL(T:FcAt A z og nd fs h₀ outer):(az z.L::outer).filterMap (·.frame)=z.L::fs:=by rw[T.fsE];rfl
theorem FcAt.hcx(T:FcAt A z og nd fs h₀ outer)(hd:Option Value):Cx.Ok ⟨hd,820,8200,A.frames⟩ (A.mark hd):=by
 have:=(T.room.cx).mark hd
 unfold Cx.mark at this
 rwa [Option.or_none] at this
theorem jnn(T:FcAt A z og nd fs h₀ outer){u u':Fin 8}{us:List (Fin 8)}{e:SE}{Q:Flow→Shared→Prop}(F:FS (wf w a b c) nt og nd np su z fs h₀ (e::k) Sn (nv1 z.f (nmV nt u)) s.heap)(hd:(su e.v).drop e.i=u'::us)
  (h:∀s',FS (wf w a b c) nt og nd np su z fs h₀ ({ e with i:=e.i+1 }::k) Sn (nv1 z.f (nmV nt u')) s'.heap→ae s'=ae s→Q .brk s') :
  wpAny (model PG (wf w a b c)) A (execs (inS d0) (az z.L)) Q E s:=by
 have Z:=T.ok
 obtain⟨sl,hfr⟩:=F.fr
 obtain⟨e2,hits⟩:=F.its
 obtain⟨hm,hr,gm,gr⟩:=F.items e (.head _)
 have um:=ec F.reg.nodup e.v
 have hl:=F.reg.l e.v um
 have rl:=Z.reg (nd e.v).l (.inr ⟨e.v,um,.inr rfl⟩)
 obtain⟨g1,g2,g3,g4,g5,g6,g7⟩:=Z.ge
 have eits:fc (e::k)=fc k++[.ref e.m]:=by simp[fc]
 rw[eits] at hits
 have P:=ag (w:=wf w a b c) (pre:=[(z.L,bx (wf w a b c).params z.f z.S z.D z.st z.its z.se z.n2 (nv1 z.f (nmV nt u)) sl),(z.its,lO (fc k++[.ref e.m]) e2),(e.m,mwO e.r),(e.r,liO (nd e.v).l e.i),((nd e.v).l,lO ((su e.v).map (nmV nt)) (nd e.v).le)])
  F.based (F.ge Z) ⟨hfr,hits,hm,hr,hl,zt⟩ (jdq (qv (qc (ql rl.2.1 rl.1) g1)) (qv (qc (ql rl.2.1 rl.1) g3)) (qc g6 gm) (qc g6 gr) rl.2.1)
  (by
   refine⟨⟨zt,zt,zt,zt,zt⟩,⟨zt,zt,?_,zt⟩,⟨zt,zt,zt⟩,⟨zt,zt⟩,zt,zt⟩
   show@Ne Nat _ _;exact(qj (qc rl.1 g3)))
 have hx:((su e.v).map (nmV nt))[e.i]?=some (nmV nt u'):=by
  rw[List.getElem?_map,←List.head?_drop,hd];rfl
 refine ay (O7 (k2:=u') none A.frames) P T.room.cx T.room.cx rfl ⟨g0 rfl,ul rfl rfl hx,zt⟩ fun s' P' K r=>h s' ?_ r
 have K2:af [z.L,e.r] s.heap s'.heap:=am P P'.has K ⟨.inr (.head _),.inl rfl,.inl rfl,.inr (.tail _ (.head _)),.inl rfl,zt⟩
 have x0:=P'.has (z.L,_) (.head _)
 have x3:=P'.has (e.r,_) (.tail _ (.tail _ (.tail _ (.head _))))
 have hs:s.heap.objs.size≤s'.heap.objs.size:=by rw[P'.size];exact Nat.le_add_right _ _
 have kt:∀{b:Nat} {o:Obj},s.heap.get? b=some o→b≠z.L→b≠e.r→s'.heap.get? b=some o:=fun{b o} hb h1 h2=>K2 b o hb (by
  refine nO2 ?_;exact⟨h1,h2⟩)
 obtain⟨e1,hst⟩:=F.st
 obtain⟨e3,hn2⟩:=F.n2
 obtain⟨n,hse,hun⟩:=F.se
 obtain⟨es,ep,tb,hso⟩:=bt hse
 refine F.next Z T.size K2 (fun y hy=>?_) hs ⟨rfl,rfl,rfl⟩ ⟨sl,x0⟩ ⟨e1,by
   rw[show ey nt ({ e with i:=e.i+1 }::k)=ey nt (e::k) by simp[ey]]
   exact kt hst (fun q=>ao hst hfr rfl q) (fun q=>ao hst hr rfl q)⟩ ⟨e2,?_⟩ ⟨e3,kt hn2 (fun q=>Z.ne.2 q.symm) (fun q=>ao hn2 hr rfl q)⟩
  ⟨n,ce hse ((kt hso (fun q=>ao hso hfr rfl q) (fun q=>ao hso hr rfl q)).trans hso.symm),hun⟩ (fun e' he'=>?_) (by simpa using F.nodup) (kt F.itk (fun q=>ao F.itk hfr rfl q) (fun q=>ao F.itk hr rfl q))
 ·exact mA2 hy g1 gr
 ·rw[show fc ({ e with i:=e.i+1 }::k)=fc k++[.ref e.m] by simp[fc]]
  exact kt hits (fun q=>ao hits hfr rfl q) (fun q=>ao hits hr rfl q)
 ·cases he' with
  |head=>exact⟨kt hm (fun q=>ao hm hfr rfl q) (fun q=>ao hm hr rfl q),x3,gm,gr⟩
  |tail _ he'=>
   obtain⟨m1,m2,m3,m4⟩:=F.items e' (.tail _ he')
   have nv:e'.v≠e.v:=fun q=>by
    have:=F.nodup
    rw[List.map_cons,List.nodup_cons] at this
    exact this.1 (q ▸ List.mem_map_of_mem he')
   refine⟨kt m1 (fun q=>ao m1 hfr rfl q) (fun q=>ao m1 hr rfl q),kt m2 (fun q=>ao m2 hfr rfl q) (fun q=>?_),m3,m4⟩
   rw[q,hr] at m2
   have e4:=congrArg (fun o:Obj=>match o.data with|.fields vs=>vs[0]?|_=>none) (Option.some.inj m2)
   have e5:some (Value.ref (nd e.v).l)=some (Value.ref (nd e'.v).l):=e4
   injection e5 with e5
   injection e5 with e5
   exact nv (F.reg.inj _ (ec F.reg.nodup _) _ um e5.symm)
theorem jno(T:FcAt A z og nd fs h₀ outer){u:Fin 8}{e:SE}{Q:Flow→Shared→Prop}(F:FS (wf w a b c) nt og nd np su z fs h₀ (e::k) Sn (nv1 z.f (nmV nt u)) s.heap)(hd:(su e.v).drop e.i=[])
  (hb:∀s',False→Q .brk s')
  (h:∀s',FS (wf w a b c) nt og nd np su z fs h₀ k Sn (nv1 z.f (nmV nt u)) s'.heap→ae s'=ae s→Q .next s') :
  wpAny (model PG (wf w a b c)) A (exec d0 (az z.L)) Q E s:=by
 have Z:=T.ok
 obtain⟨sl,hfr⟩:=F.fr
 obtain⟨e2,hits⟩:=F.its
 obtain⟨hm,hr,gm,gr⟩:=F.items e (.head _)
 have um:=ec F.reg.nodup e.v
 have hl:=F.reg.l e.v um
 have rl:=Z.reg (nd e.v).l (.inr ⟨e.v,um,.inr rfl⟩)
 obtain⟨g1,g2,g3,g4,g5,g6,g7⟩:=Z.ge
 have eits:fc (e::k)=fc k++[.ref e.m]:=by simp[fc]
 have hits':=hits
 rw[eits] at hits'
 have P:=ag (w:=wf w a b c) (pre:=[(z.L,bx (wf w a b c).params z.f z.S z.D z.st z.its z.se z.n2 (nv1 z.f (nmV nt u)) sl),(z.its,lO (fc k++[.ref e.m]) e2),(e.m,mwO e.r),(e.r,liO (nd e.v).l e.i),((nd e.v).l,lO ((su e.v).map (nmV nt)) (nd e.v).le)])
  F.based (F.ge Z) ⟨hfr,hits',hm,hr,hl,zt⟩ (jdq (qv (qc (ql rl.2.1 rl.1) g1)) (qv (qc (ql rl.2.1 rl.1) g3)) (qc g6 gm) (qc g6 gr) rl.2.1)
  (by
   refine⟨⟨zt,zt,zt,zt,zt⟩,⟨zt,zt,?_,zt⟩,⟨zt,zt,zt⟩,⟨zt,zt⟩,zt,zt⟩
   show@Ne Nat _ _;exact(qj (qc rl.1 g3)))
 have hx:((su e.v).map (nmV nt))[e.i]?=none:=by
  rw[List.getElem?_map,←List.head?_drop,hd];rfl
 first|refine xq1 dz ?_|refine xq2 dz ?_|refine xq3 dz ?_|rw[dz]
 refine wpAny_Try_except ?_
 refine jq (P0 A.frames) P T.room.cx T.room.cx rfl ⟨g0 rfl,D7 rfl rfl hx rfl,zt⟩ fun s1 P1 K1 r1=>?_
 have K2:af [e.r] s.heap s1.heap:=am P P1.has K1 ⟨.inl rfl,.inl rfl,.inl rfl,.inr (.head _),.inl rfl,zt⟩
 have hz1:s1.heap.objs.size=s.heap.objs.size+2:=P1.size
 have he:s1.heap.get? (s.heap.objs.size+1)=some (i7 s.heap.objs.size):=P1.has _ (.tail _ (.tail _ (.tail _ (.tail _ (.tail _ (.head _))))))
 have hL1:=K2 _ _ hfr (by rw[List.mem_singleton];exact fun q=>ao hfr hr rfl q)
 have O1:OnlySlots fs h₀ s1.heap:=F.os.step K2 fun y hy=>by rw[List.mem_singleton.mp hy,T.size];exact gr
 refine fg T.frames (T.funFrames O1 hL1) rfl he rfl rfl fun h2 N2 Tr2 F2=>?_
 rw[T.fsL] at N2
 refine wpAny_handleBy_builtin (X := "StopIteration") (T := "StopIteration") (b:=true) ue ud isSubtype_stop ?_
 have lt0:∀b o,s.heap.get? b=some o→@LT.lt Nat _ b s.heap.objs.size:=fun b o e=>Heap.lt_size e
 have S2:SlotsBut e.r (z.L::fs) s.heap h2:=fun b o hb hne=>by
  have h1:=K2 b o hb (du hne)
  have hbe:b≠s.heap.objs.size+1:=fun q=>by have:=lt0 b o hb;have q':@Eq Nat b (s.heap.objs.size+1):=q;exact(qn (k:=1) (qq this q))
  by_cases hS:b∈z.L::fs
  ·obtain⟨sl',h3⟩:=N2.slots b o h1 hS
   exact⟨sl',h3,fun q=>absurd hS q⟩
  ·exact⟨o.slots,N2.keep b o h1 hS hbe,fun _=>rfl⟩
 have hz2:s.heap.objs.size+2≤h2.objs.size:=by have:=N2.size;exact(qp hz1 this)
 have ro:e.r≠z.L∧e.r≠z.st∧e.r≠z.its∧e.r≠z.n2∧e.r≠z.se∧e.r≠z.it:=by
  obtain⟨e1,hst⟩:=F.st
  obtain⟨e3,hn2⟩:=F.n2
  obtain⟨n,hse,hun⟩:=F.se
  obtain⟨es,ep,tb,hso⟩:=bt hse
  exact⟨fun q=>ao hr hfr rfl q,fun q=>ao hr hst rfl q,fun q=>ao hr hits rfl q,fun q=>ao hr hn2 rfl q,fun q=>ao hr hso rfl q,fun q=>ao hr F.itk rfl q⟩
 have kik:∀e'∈k,e'∈e::k∧e'.m≠e.r∧e'.r≠e.r:=fun e' he'=>by
  obtain⟨m1,m2,m3,m4⟩:=F.items e' (.tail _ he')
  have nv:e'.v≠e.v:=fun q=>by
   have:=F.nodup
   rw[List.map_cons,List.nodup_cons] at this
   exact this.1 (q ▸ List.mem_map_of_mem he')
  refine⟨.tail _ he',fun q=>ao m1 hr rfl q,fun q=>?_⟩
  rw[q,hr] at m2
  have e4:=congrArg (fun o:Obj=>match o.data with|.fields vs=>vs[0]?|_=>none) (Option.some.inj m2)
  have e5:some (Value.ref (nd e.v).l)=some (Value.ref (nd e'.v).l):=e4
  injection e5 with e5
  injection e5 with e5
  exact nv (F.reg.inj _ (ec F.reg.nodup _) _ um e5.symm)
 have F3:FSG (wf w a b c) nt og nd np su z fs h₀ k (e::k) Sn (nv1 z.f (nmV nt u)) h2:=F.rel Z T.size S2 (qw (k:=2) hz2) kik gr ro
 have P3:=ag (w:=wf w a b c) (s:={ s1 with heap:=h2 }) (pre:=[]) F3.based (F3.ge Z) zt zt zt
 obtain⟨oe,vs,TB,oT,ts,t1,t2,t3,t4,t5,t6,t7,t8,t9⟩:=Tr2.ex
 have t6':@LE.le Nat _ (s.heap.objs.size+2) TB:=by rw[←hz1];exact t6
 refine bq (jhj (some (.ref (s.heap.objs.size+1))) A.frames) P3 (T.hcx _) (T.hcx _) rfl zt fun s4 P4 K4 r4=>?_
 have K4':∀b o,h2.get? b=some o→s4.heap.get? b=some o:=fun b o e=>K4 b o e n0m
 have hz4:s4.heap.objs.size=h2.objs.size:=P4.size
 refine⟨rfl,⟨oe,K4' _ _ t1,t2⟩,?_⟩
 first|refine itp rfl ?_|rw[if_pos rfl]
 refine wpAny_setFlight_none (K4' _ _ t1) t3 t4 (K4' _ _ t7) t8 (Array.getElem?_eq_some_iff.mp t9).1 ?_
 have S5:SlotsBut e.r (z.L::fs) s.heap (s4.heap.update TB (Obj.mapFields (·.setIfInBounds 3 .none))):=fun b o hb hne=>by
  obtain⟨sl',h1,h2⟩:=S2 b o hb hne
  refine⟨sl',(Heap.get?_update_other _ _ (fun q=>?_)).trans (K4' _ _ h1),h2⟩
  have:=lt0 b o hb
  have q':@Eq Nat TB b:=q
  exact(qn (k:=2) (ql (qx (qp hz1 t6) q) this))
 have hz5:(s4.heap.update TB (Obj.mapFields (·.setIfInBounds 3 .none))).objs.size=s4.heap.objs.size:=Heap.size_after_update ..
 have F5:FSG (wf w a b c) nt og nd np su z fs h₀ k (e::k) Sn (nv1 z.f (nmV nt u)) (s4.heap.update TB (Obj.mapFields (·.setIfInBounds 3 .none))):=F.rel Z T.size S5 (qw (k:=2) (qy (qy hz2 hz4) hz5)) kik gr ro
 generalize s4.heap.update TB (Obj.mapFields (·.setIfInBounds 3 .none))=h5 at F5 hz5
 obtain⟨sl5,hfr5⟩:=F5.fr
 obtain⟨e15,hst5⟩:=F5.st
 obtain⟨e25,hits5⟩:=F5.its
 obtain⟨e35,hn25⟩:=F5.n2
 obtain⟨n5,hse5,hun5⟩:=F5.se
 obtain⟨es5,ep5,tb5,hso5⟩:=bt hse5
 rw[eits] at hits5
 rw[show ey nt (e::k)=ey nt k++[nmV nt e.v] by simp[ey]] at hst5
 obtain⟨q1,q2⟩:=Z.ne
 have hk8:=F5.len
 rw[List.length_cons] at hk8
 have P5:=ag (w:=wf w a b c) (s:={ s4 with heap:=h5 }) (pre:=[(z.L,bx (wf w a b c).params z.f z.S z.D z.st z.its z.se z.n2 (nv1 z.f (nmV nt u)) sl5),(z.st,lO (ey nt k++[nmV nt e.v]) e15),(z.its,lO (fc k++[.ref e.m]) e25),(z.n2,dO (wf w a b c).params nt (kvT (e::k)) e35)])
  F5.based (F5.ge Z) ⟨hfr5,hst5,hits5,hn25,zt⟩ (r0 (qv (qc (ql rl.2.1 rl.1) g1)) (qv (qc (ql rl.2.1 rl.1) g2)) (qv (qc (ql rl.2.1 rl.1) g3)) (qv (qc (ql rl.2.1 rl.1) g5)))
  (by
   refine⟨⟨zt,zt,?_,zt⟩,⟨?_,zt,zt⟩,⟨zt,zt⟩,zt,zt⟩
   all_goals (show@Ne Nat _ _;omega))
 rw[←jhi]
 refine ay (jg9 (k2:=e.v) (kv':=kvT k) (some (.ref (s.heap.objs.size+1))) A.frames) P5 (T.hcx _) (T.hcx _) rfl ⟨E6 rfl (by rw[db];exact(qr (k:=992) hk8)),jmi rfl rfl (by rw[eh];exact((List.reverse_perm _).nodup_iff.mpr F5.nodup)) (G6 F5.nodup) (by rw[vr,List.length_cons];exact(qr (k:=991) (qs 1 hk8))) (jfu F5.nodup),E6 rfl (by rw[sr];exact(qr (k:=992) hk8)),zt⟩ fun s6 P6 K6 r6=>h s6 ?_ ?_
 ·have K7:af [z.st,z.its,z.n2] h5 s6.heap:=am P5 P6.has K6 ⟨.inl rfl,.inr (.head _),.inr (.tail _ (.head _)),.inr (.tail _ (.tail _ (.head _))),zt⟩
  have kt:∀{b:Nat} {o:Obj},h5.get? b=some o→b≠z.st→b≠z.its→b≠z.n2→s6.heap.get? b=some o:=fun{b o} hb h1 h2 h3=>K7 b o hb (by
   refine nO3 ?_;exact⟨h1,h2,h3⟩)
  have y1:=P6.has (z.st,_) (.tail _ (.head _))
  have y2:=P6.has (z.its,_) (.tail _ (.tail _ (.head _)))
  have y3:=P6.has (z.n2,_) (.tail _ (.tail _ (.tail _ (.head _))))
  refine F5.next Z T.size K7 (fun y hy=>?_) (ch P6) ⟨rfl,rfl,rfl⟩ ⟨sl5,kt hfr5 (fun q=>ao hfr5 hst5 rfl q) (fun q=>ao hfr5 hits5 rfl q) q2⟩ ⟨_,y1⟩ ⟨_,y2⟩ ⟨_,y3⟩
   ⟨n5,ce hse5 ((kt hso5 (fun q=>ao hso5 hst5 rfl q) (fun q=>ao hso5 hits5 rfl q) (fun q=>ao hso5 hn25 rfl q)).trans hso5.symm),hun5⟩ (fun e' he'=>?_) (by
    have:=F5.nodup
    rw[List.map_cons,List.nodup_cons] at this
    exact this.2) (kt F5.itk (fun q=>ao F5.itk hst5 rfl q) (fun q=>ao F5.itk hits5 rfl q) (fun q=>ao F5.itk hn25 rfl q))
  ·exact mA3 hy g2 g3 g5
  ·obtain⟨m1,m2,m3,m4⟩:=F5.items e' he'
   exact⟨kt m1 (fun q=>ao m1 hst5 rfl q) (fun q=>ao m1 hits5 rfl q) (fun q=>ao m1 hn25 rfl q),kt m2 (fun q=>ao m2 hst5 rfl q) (fun q=>ao m2 hits5 rfl q) (fun q=>ao m2 hn25 rfl q),m3,m4⟩
 ·rw[r6]
  show ae s4=_
  rw[r4]
  show ae s1=_
  exact r1
end
theorem ko:inS iw=[d0]:=by kernel_rfl
theorem pn:inS fcW=[ll]++[iw]:=by kernel_rfl
theorem ji:inS d8=[jl9]++[fcW]:=by kernel_rfl
theorem kq:iw=.While (teS iw) (inS iw) (elS iw) (gy iw):=by kernel_rfl
theorem pp:fcW=.While (teS fcW) (inS fcW) [] (gy fcW):=by kernel_rfl
theorem jj:d8=.For (teS d8) (fi d8) (inS d8) [] (gy d8):=by kernel_rfl
theorem pq:fcS=fcS.take 5++([d8]++[ak fcS 6]):=by kernel_rfl
section
variable{w:World}{a b c:Bool}{D N t₀ L:Nat}{nt:Fin 8→Nat}
noncomputable def Q6:List Nat:=[]
noncomputable def Q7:List CH:=[]
theorem Q5(hnd:Option Value)(ff:Option (List Env)):au 60 (wf w a b c) N t₀ ([]) (.fin Q6 Q7 ⟨.ok (.done (.ret (.bool true))),[],0,0⟩) ⟨hnd,820,8200,ff⟩ (trT (teS fcW) (az L)):=by kernel_rfl
noncomputable def jg7:List Nat:=[]
noncomputable def jg8:List CH:=[]
theorem jg6(hnd:Option Value)(ff:Option (List Env)):au 60 (wf w a b c) N t₀ ([]) (.fin jg7 jg8 ⟨.ok (.done (.ret .none)),[],0,0⟩) ⟨hnd,820,8200,ff⟩ (ar [ak fcS 6] (az L)):=by kernel_rfl
end
noncomputable def rn(g:Fin 8→Nat)(Sn:Fin 8→Bool)(l:List (Fin 8)):Nat:=match l with
 |[]=>0
 |j::l=>(if Sn j then 0 else g j)+rn g Sn l
theorem rm{g:Fin 8→Nat}{Sn:Fin 8→Bool}{u:Fin 8}:∀{l:List (Fin 8)},u∉l→rn g (upd Sn u true) l=rn g Sn l
 |[],_=>rfl
 |j::l,h=>by
  rw[List.mem_cons,not_or] at h
  unfold rn
  rw[rm h.2,ba (fun e=>h.1 e.symm)]
theorem ri{g:Fin 8→Nat}{Sn:Fin 8→Bool}{u:Fin 8}(hu:Sn u=false):∀{l:List (Fin 8)},l.Nodup→u∈l→rn g (upd Sn u true) l+g u=rn g Sn l
 |j::l,hn,h=>by
  rw[List.nodup_cons] at hn
  unfold rn
  by_cases e:j=u
  ·subst e
   rw[rm hn.1,a9,hu]
   simp;omega
  ·have hm:u∈l:=by
    cases h with
    |head=>exact absurd rfl e
    |tail _ h=>exact h
   have:=ri (g:=g) hu hn.2 hm
   rw[ba e]
   omega
noncomputable def usM(su:Fin 8→List (Fin 8))(Sn:Fin 8→Bool):Nat:=rn (fun j=>(su j).length+2) Sn (List.finRange 8)
theorem jcm{su:Fin 8→List (Fin 8)}{Sn:Fin 8→Bool}{u:Fin 8}(hu:Sn u=false):usM su (upd Sn u true)+(su u).length+2=usM su Sn:=by
 have:=ri (g:=fun j=>(su j).length+2) hu (List.nodup_finRange 8) (List.mem_finRange u)
 unfold usM
 omega
section
variable{w:World}{a b c:Bool}{nt:Fin 8→Nat}{og:Fin 8→Fin 8}{nd:Fin 8→Nd}{np:Fin 8→Int}{su:Fin 8→List (Fin 8)}{z:FcZ}{fs:List Nat}{h₀:Heap}{Sn:Fin 8→Bool}{A:Around}{E:Value→Shared→Prop}{s:Shared}{outer:List Env}{R:Result→Shared→Prop}
structure Kn(su:Fin 8→List (Fin 8))(k:List SE)(Sn:Fin 8→Bool):Prop where
 st:∀e∈k,Sn e.v=true
 sd:∀x,Sn x=true→x∈k.map (·.v)∨ck su x
noncomputable def inW(L:Nat):Code:=.whileLoop (teS iw) (inS iw) (elS iw) (az L)
noncomputable def jqi(L:Nat):Code:=.whileLoop (teS fcW) (inS fcW) [] (az L)
theorem jps(T:FcAt A z og nd fs h₀ outer){k₀:List SE}{u₀:Fin 8}(F₀:FS (wf w a b c) nt og nd np su z fs h₀ k₀ Sn (nv1 z.f (nmV nt u₀)) s.heap)(C₀:Chain su none (k₀.map (enS su)))(K₀:Kn su k₀ Sn)
  (hN:∀s' e k u us,FS (wf w a b c) nt og nd np su z fs h₀ ({ e with i:=e.i+1 }::k) Sn (nv1 z.f (nmV nt u)) s'.heap→ae s'=ae s→(su e.v).drop e.i=u::us→Chain su none ((e.v,u::us)::k.map (enS su))→Kn su (e::k) Sn→ms su (e::k)≤ms su k₀→R (.ok .next) s')
  (hB:∀s' u,FS (wf w a b c) nt og nd np su z fs h₀ [] Sn (nv1 z.f (nmV nt u)) s'.heap→ae s'=ae s→(∀x,Sn x=true→ck su x)→R (.ok .brk) s') :
  codeAny (model PG (wf w a b c)) A (inW z.L) R s:=by
 refine codeAny_whileLoop (fun n s'=>∃k u,k.length=n∧FS (wf w a b c) nt og nd np su z fs h₀ k Sn (nv1 z.f (nmV nt u)) s'.heap∧ae s'=ae s∧Chain su none (k.map (enS su))∧Kn su k Sn∧ms su k≤ms su k₀) (fun n s1 hI=>?_) k₀.length ⟨k₀,u₀,rfl,F₀,rfl,C₀,K₀,Nat.le_refl _⟩
 obtain⟨k,u,hn,F,r,C,K,hm⟩:=hI
 have Z:=T.ok
 obtain⟨g1,g2,g3,g4,g5,g6,g7⟩:=Z.ge
 obtain⟨sl,hfr⟩:=F.fr
 obtain⟨e1,hst⟩:=F.st
 have P:=ag (w:=wf w a b c) (pre:=[(z.L,bx (wf w a b c).params z.f z.S z.D z.st z.its z.se z.n2 (nv1 z.f (nmV nt u)) sl),(z.st,lO (ey nt k) e1)]) F.based (F.ge Z) ⟨hfr,hst,zt⟩ (gx (qc g6 g1) (qc g6 g2)) ⟨⟨zt,zt⟩,zt,zt⟩
 have same:∀{s':Shared},af [] s1.heap s'.heap→s1.heap.objs.size≤s'.heap.objs.size→FS (wf w a b c) nt og nd np su z fs h₀ k Sn (nv1 z.f (nmV nt u)) s'.heap:=fun{s'} K2 hs=>by
  have kt:∀{b:Nat} {o:Obj},s1.heap.get? b=some o→s'.heap.get? b=some o:=fun{b o} e=>K2 b o e n0m
  obtain⟨e2,hits⟩:=F.its
  obtain⟨e3,hn2⟩:=F.n2
  obtain⟨n,hse,hun⟩:=F.se
  obtain⟨es,ep,tb,hso⟩:=bt hse
  exact F.next Z T.size K2 (fun y hy=>nomatch hy) hs ⟨rfl,rfl,rfl⟩ ⟨sl,kt hfr⟩ ⟨e1,kt hst⟩ ⟨e2,kt hits⟩ ⟨e3,kt hn2⟩ ⟨n,ce hse ((kt hso).trans hso.symm),hun⟩ (fun e he=>by
   obtain⟨m1,m2,m3,m4⟩:=F.items e he
   exact⟨kt m1,kt m2,m3,m4⟩) F.nodup (kt F.itk)
 cases k with
 |nil=>
  refine cu (R3 none A.frames) P T.room.cx T.room.cx rfl zt fun s2 P2 K2 r2=>?_
  first|refine itn (by simp) ?_|rw[if_neg (by simp)]
  have K3:=am P P2.has K2 ⟨.inl rfl,.inl rfl,zt⟩ (chg:=[])
  have hs2:s1.heap.objs.size≤s2.heap.objs.size:=by rw[P2.size];exact Nat.le_add_right _ _
  have F2:=same K3 hs2
  have P3:=ag (w:=wf w a b c) (pre:=[]) F2.based (F2.ge Z) zt zt zt
  refine ay (jhn none A.frames) P3 T.room.cx T.room.cx rfl zt fun s3 P4 K4 r4=>?_
  have hs3:s1.heap.objs.size≤s3.heap.objs.size:=by rw[P4.size];exact Nat.le_trans hs2 (Nat.le_add_right _ _)
  refine hB s3 u (same (fun b o e hb=>K4 b o (K3 b o e hb) n0m) hs3) (r4.trans (r2.trans r)) fun x hx=>?_
  rcases K.sd x hx with q|q
  ·cases q
  ·exact q
 |cons e k=>
  have h8:=F.len
  refine cu (Q8 none A.frames (ey nt (e::k)) (fun q=>by have:=congrArg List.length q;rw[db] at this;cases this) (by rw[db];exact h8)) P T.room.cx T.room.cx rfl zt fun s2 P2 K2 r2=>?_
  first|refine itp rfl ?_|rw[if_pos rfl]
  have K3:=am P P2.has K2 ⟨.inl rfl,.inl rfl,zt⟩ (chg:=[])
  have hs2:s1.heap.objs.size≤s2.heap.objs.size:=by rw[P2.size];exact Nat.le_add_right _ _
  have F2:=same K3 hs2
  first|refine xq1 ko ?_|refine xq2 ko ?_|refine xq3 ko ?_|rw[ko]
  refine wpAny_execs_cons ?_
  cases hd:(su e.v).drop e.i with
  |nil=>
   refine jno T F2 hd (fun _ q=>q.elim) fun s3 F3 r3=>wpAny_execs_nil ?_
   have C':Chain su none ((e.v,[])::k.map (enS su)):=by
    have:(e::k).map (enS su)=(e.v,(su e.v).drop e.i)::k.map (enS su):=rfl
    rw[this,hd] at C;exact C
   obtain⟨c1,c2⟩:=C'.pop
   refine⟨k.length,by rw[←hn];exact Nat.lt_succ_self _,k,u,rfl,F3,r3.trans (r2.trans r),c2,⟨fun e' he'=>K.st e' (.tail _ he'),fun x hx=>?_⟩,?_⟩
   ·rcases K.sd x hx with q|q
    ·rcases List.mem_cons.mp q with q|q
     ·exact .inr (q ▸ c1)
     ·exact .inl q
    ·exact .inr q
   ·refine Nat.le_trans ?_ hm
    show _≤_+_
    omega
  |cons u' us=>
   first|refine xq1 dz ?_|refine xq2 dz ?_|refine xq3 dz ?_|rw[dz]
   refine wpAny_Try_except ?_
   refine wpAny_mono (jnn (E:=fun _ _=>False) T F2 hd (Q:=fun f s'=>f=.brk∧FS (wf w a b c) nt og nd np su z fs h₀ ({ e with i:=e.i+1 }::k) Sn (nv1 z.f (nmV nt u')) s'.heap∧ae s'=ae s2) fun s' F' r'=>⟨rfl,F',r'⟩) (fun f s3 h3=>?_) fun _ _ q=>q.elim
   obtain⟨rfl,F3,r3⟩:=h3
   refine hN s3 e k u' us F3 (r3.trans (r2.trans r)) hd ?_ K hm
   have:(e::k).map (enS su)=(e.v,(su e.v).drop e.i)::k.map (enS su):=rfl
   rw[this,hd] at C
   exact C
end
section
variable{w:World}{a b c:Bool}{nt:Fin 8→Nat}{og:Fin 8→Fin 8}{nd:Fin 8→Nd}{np:Fin 8→Int}{su:Fin 8→List (Fin 8)}{z:FcZ}{fs:List Nat}{h₀:Heap}{k:List SE}{Sn:Fin 8→Bool}{A:Around}{E:Value→Shared→Prop}{s:Shared}{outer:List Env}{R:Result→Shared→Prop}{x:List (String×Nat×Value)}
theorem FSG.same{ki:List SE}{h h':Heap}(T:FcAt A z og nd fs h₀ outer)(F:FSG w nt og nd np su z fs h₀ ki k Sn x h)(K2:af [] h h')(hs:h.objs.size≤h'.objs.size):FSG w nt og nd np su z fs h₀ ki k Sn x h':=by
 have kt:∀{b:Nat} {o:Obj},h.get? b=some o→h'.get? b=some o:=fun{b o} e=>K2 b o e n0m
 obtain⟨sl,hfr⟩:=F.fr
 obtain⟨e1,hst⟩:=F.st
 obtain⟨e2,hits⟩:=F.its
 obtain⟨e3,hn2⟩:=F.n2
 obtain⟨n,hse,hun⟩:=F.se
 obtain⟨es,ep,tb,hso⟩:=bt hse
 exact F.next T.ok T.size K2 (fun y hy=>nomatch hy) hs ⟨rfl,rfl,rfl⟩ ⟨sl,kt hfr⟩ ⟨e1,kt hst⟩ ⟨e2,kt hits⟩ ⟨e3,kt hn2⟩ ⟨n,ce hse ((kt hso).trans hso.symm),hun⟩ (fun e he=>by
  obtain⟨m1,m2,m3,m4⟩:=F.items e he
  exact⟨kt m1,kt m2,m3,m4⟩) F.nodup (kt F.itk)
theorem ga{D:Nat}(h:257≤D):D≠1:=(qj (qw (k:=255) h))
theorem jk8(T:FcAt A z og nd fs h₀ outer){u:Fin 8}{Q:Flow→Shared→Prop}(F:FS (wf w a b c) nt og nd np su z fs h₀ k Sn (nv1 z.f (nmV nt u)) s.heap)(hu:Sn u=true)(hk:u∉k.map (·.v))
  (h:∀s',FS (wf w a b c) nt og nd np su z fs h₀ k Sn (nv1 z.f (nmV nt u)) s'.heap→ae s'=ae s→Q .next s') :
  wpAny (model PG (wf w a b c)) A (execs [ll] (az z.L)) Q E s:=by
 have Z:=T.ok
 obtain⟨g1,g2,g3,g4,g5,g6,g7⟩:=Z.ge
 obtain⟨sl,hfr⟩:=F.fr
 obtain⟨e3,hn2⟩:=F.n2
 obtain⟨n,hse,hun⟩:=F.se
 obtain⟨es,ep,tb,hso⟩:=bt hse
 have q2:=Z.ne.2
 have P:=ag (w:=wf w a b c) (pre:=[(z.L,bx (wf w a b c).params z.f z.S z.D z.st z.its z.se z.n2 (nv1 z.f (nmV nt u)) sl),(z.se,stO es ep tb),(z.n2,dO (wf w a b c).params nt (kvT k) e3)]) F.based (F.ge Z) ⟨hfr,hso,hn2,zt⟩ (f0 (qc g6 g1) (qc g6 g4) (qc g6 g5)) ⟨⟨zt,q2,zt⟩,⟨zt,zt⟩,zt,zt⟩
 refine ay (w6 none A.frames) P T.room.cx T.room.cx rfl ⟨kz rfl rfl hse hso (by rw[m6];exact hu),iz rfl rfl (ga (qc g6 g5)) (by rw[bk (by rw[eh];simpa using hk)];rfl),zt⟩ fun s2 P2 K2 r2=>h s2 ?_ r2
 exact F.same T (am P P2.has K2 ⟨.inl rfl,.inl rfl,.inl rfl,zt⟩) (ch P2)
theorem jm8(T:FcAt A z og nd fs h₀ outer){u:Fin 8}{Q:Flow→Shared→Prop}(F:FS (wf w a b c) nt og nd np su z fs h₀ k Sn (nv1 z.f (nmV nt u)) s.heap)(hu:Sn u=true)(hk:u∈k.map (·.v))
  (h:∀s' (cad:Nat) xs,s'.heap.get? cad=some (lO xs 0)→xs≠[]→xs.length≤9→OnlySlots fs h₀ s'.heap→Based (wf w a b c).params s'.heap→h₀.objs.size≤cad→h₀.objs.size≤s'.heap.objs.size→ae s'=ae s→Q (.ret (.ref cad)) s') :
  wpAny (model PG (wf w a b c)) A (execs [ll] (az z.L)) Q E s:=by
 have Z:=T.ok
 obtain⟨g1,g2,g3,g4,g5,g6,g7⟩:=Z.ge
 obtain⟨sl,hfr⟩:=F.fr
 obtain⟨e1,hst⟩:=F.st
 obtain⟨e3,hn2⟩:=F.n2
 obtain⟨n,hse,hun⟩:=F.se
 obtain⟨es,ep,tb,hso⟩:=bt hse
 have q2:=Z.ne.2
 have P:=ag (w:=wf w a b c) (pre:=[(z.L,bx (wf w a b c).params z.f z.S z.D z.st z.its z.se z.n2 (nv1 z.f (nmV nt u)) sl),(z.se,stO es ep tb),(z.n2,dO (wf w a b c).params nt (kvT k) e3),(z.st,lO (ey nt k) e1)]) F.based (F.ge Z) ⟨hfr,hso,hn2,hst,zt⟩ (r0 (qc g6 g1) (qc g6 g4) (qc g6 g5) (qc g6 g2))
  ⟨⟨zt,q2,zt,zt⟩,⟨zt,zt,zt⟩,⟨zt,zt⟩,zt,zt⟩
 have hm:u∈(kvT k).map (·.1):=by rw[eh];simpa using hk
 obtain⟨v,hv,hvm⟩:=cq hm
 obtain⟨j,t,rfl,hj⟩:=jft hvm
 have h8:=F.len
 refine ay (xj (tj:=t) none A.frames (ey nt k) j (by rw[db];exact h8) (by rw[db];exact hj)) P T.room.cx T.room.cx rfl ⟨kz rfl rfl hse hso (by rw[m6];exact hu),iz rfl rfl (ga (qc g6 g5)) (by rw[hv];rfl),ic rfl rfl hv,zt⟩ fun s2 P2 K2 r2=>?_
 have O:OnlySlots fs h₀ s2.heap:=F.os.step K2 fun y hy=>by
  have hy':y∈[z.L,z.se,z.n2,z.st]:=hy
  replace hy':=mO4 hy'
  have:=T.size
  exact(hy'.elim (fun hy'=>(qy (qo this g1) hy')) fun hy'=>(hy'.elim (fun hy'=>(qy (qo this g4) hy')) fun hy'=>(hy'.elim (fun hy'=>(qy (qo this g5) hy')) fun hy'=>(qy (qo this g2) hy'))))
 have hz:=F.size
 have hsz:=T.size
 refine h s2 (s.heap.objs.size+3) ((ey nt k).drop j++[nmV nt u]) (P2.has (s.heap.objs.size+3,_) (.tail _ (.head _))) (by simp) (by rw[List.length_append,List.length_drop,db];simp;omega) O P2.based (qr (k:=3) (qo hsz hz)) (by rw[P2.size];exact(qr (k:=4) (qo hsz hz))) r2
theorem jk7(T:FcAt A z og nd fs h₀ outer){u₀:Fin 8}(F₀:FS (wf w a b c) nt og nd np su z fs h₀ [] Sn (nv1 z.f (nmV nt u₀)) s.heap)(hu₀:Sn u₀=false)(K₀:∀x,Sn x=true→ck su x)
  (hN:∀s' Sn' u',FS (wf w a b c) nt og nd np su z fs h₀ [] Sn' (nv1 z.f (nmV nt u')) s'.heap→ae s'=ae s→(∀x,Sn' x=true→ck su x)→(∀x,Sn x=true→Sn' x=true)→Sn' u₀=true→R (.ok .next) s')
  (hC:∀s' (cad:Nat) xs,s'.heap.get? cad=some (lO xs 0)→xs≠[]→xs.length≤9→OnlySlots fs h₀ s'.heap→Based (wf w a b c).params s'.heap→h₀.objs.size≤cad→h₀.objs.size≤s'.heap.objs.size→ae s'=ae s→(∃v,¬ck su v)→R (.ok (.ret (.ref cad))) s') :
  codeAny (model PG (wf w a b c)) A (jqi z.L) R s:=by
 refine codeAny_whileLoop (fun n s'=>∃k Sn' u,n=usM su Sn'+ms su k∧FS (wf w a b c) nt og nd np su z fs h₀ k Sn' (nv1 z.f (nmV nt u)) s'.heap∧ae s'=ae s∧Kn su k Sn'∧(∀x,Sn x=true→Sn' x=true)∧(Sn' u₀=true∨u=u₀) ∧
  (match k with
   |[]=>Sn' u=false
   |e::k1=>u∈su e.v∧Chain su none ((e.v,u::(su e.v).drop e.i)::k1.map (enS su)))) (fun n s1 hI=>?_) (usM su Sn) ⟨[],Sn,u₀,rfl,F₀,rfl,⟨(fun e he=>nomatch he),fun x hx=>.inr (K₀ x hx)⟩,fun x hx=>hx,.inr rfl,hu₀⟩
 obtain⟨k,Sn',u,hn,F,r,K,hmono,hu0,hV⟩:=hI
 have Z:=T.ok
 have P:=ag (w:=wf w a b c) (pre:=[]) F.based (F.ge Z) zt zt zt
 refine cu (Q5 none A.frames) P T.room.cx T.room.cx rfl zt fun s2 P2 K2 r2=>?_
 first|refine itp rfl ?_|rw[if_pos rfl]
 have F2:=F.same T K2 (ch P2)
 first|refine xq1 pn ?_|refine xq2 pn ?_|refine xq3 pn ?_|rw[pn]
 refine ah _ _ ?_
 have inner:∀(s3:Shared) (k3:List SE) (Sn3:Fin 8→Bool) (u3:Fin 8),FS (wf w a b c) nt og nd np su z fs h₀ k3 Sn3 (nv1 z.f (nmV nt u3)) s3.heap→ae s3=ae s→Chain su none (k3.map (enS su))→Kn su k3 Sn3→(∀x,Sn x=true→Sn3 x=true)→Sn3 u₀=true→usM su Sn3+ms su k3≤n →
   wpAny (model PG (wf w a b c)) A (execs [iw] (az z.L)) (fun f s₃=>match f with
    |.next|.cont=>∃m,m<n∧∃k Sn' u,m=usM su Sn'+ms su k∧FS (wf w a b c) nt og nd np su z fs h₀ k Sn' (nv1 z.f (nmV nt u)) s₃.heap∧ae s₃=ae s∧Kn su k Sn'∧(∀x,Sn x=true→Sn' x=true)∧(Sn' u₀=true∨u=u₀) ∧
      (match k with
       |[]=>Sn' u=false
       |e::k1=>u∈su e.v∧Chain su none ((e.v,u::(su e.v).drop e.i)::k1.map (enS su)))
    |.brk=>R (.ok .next) s₃
    |.ret v=>R (.ok (.ret v)) s₃) (notedBy (model PG (wf w a b c)) A (az z.L) fun e s'=>R (.error e) s') s3:=fun s3 k3 Sn3 u3 F3 r3 C3 K3 m3 h3 hle=>by
  refine wpAny_execs_cons ?_
  first|refine xq1 kq ?_|refine xq2 kq ?_|refine xq3 kq ?_|rw[kq]
  refine wpAny_While ?_
  refine jps T F3 C3 K3 (fun s4 e k4 u4 us F4 r4 hd C4 K4 hm=>wpAny_execs_nil ?_) (fun s4 u4 F4 r4 he=>?_)
  ·have hlt:ms su ({ e with i:=e.i+1 }::k4)+1=ms su (e::k4):=by
    show((su e.v).drop (e.i+1)).length+_+1=((su e.v).drop e.i).length+_
    have:((su e.v).drop (e.i+1)).length+1=((su e.v).drop e.i).length:=by
     have:=congrArg List.length hd
     rw[List.length_drop,List.length_cons] at this
     rw[List.length_drop,List.length_drop]
     omega
    omega
   have hdr:(su e.v).drop (e.i+1)=us:=by
    rw[←List.drop_drop,hd];rfl
   refine⟨usM su Sn3+ms su ({ e with i:=e.i+1 }::k4),by omega,_,Sn3,u4,rfl,F4,r4.trans r3,⟨fun e' he'=>?_,K4.sd⟩,m3,.inl h3,?_,?_⟩
   ·cases he' with
    |head=>exact K4.st e (.head _)
    |tail _ he'=>exact K4.st e' (.tail _ he')
   ·have:u4∈(su e.v).drop e.i:=by rw[hd];exact .head _
    exact List.mem_of_mem_drop this
   ·show Chain su none ((e.v,u4::(su e.v).drop (e.i+1))::k4.map (enS su))
    rw[hdr];exact C4
  ·exact hN s4 Sn3 u4 F4 (r4.trans r3) he m3 h3
 by_cases hu:Sn' u=true
 ·
  cases k with
  |nil=>exact absurd hV (by rw[hu];exact Bool.noConfusion)
  |cons e k1=>
   by_cases hk:u∈(e::k1).map (·.v)
   ·refine jm8 T F2 hu hk fun s3 cad xs x1 x2 x3 x4 x5 x6 x7 r3=>?_
    exact hC s3 cad xs x1 x2 x3 x4 x5 x6 x7 (r3.trans (r2.trans r)) ⟨e.v,by
     have hm:((e.v,u::(su e.v).drop e.i)::k1.map (enS su)).map (·.1)=(e::k1).map (·.v):=by
      simp[enS,List.map_map,Function.comp_def]
     exact hV.2.ring hV.1 (by rw[hm];exact hk)⟩
   ·refine jk8 T F2 hu hk fun s3 F3 r3=>?_
    have hend:ck su u:=(K.sd u hu).resolve_left hk
    refine inner s3 (e::k1) Sn' u F3 (r3.trans (r2.trans r)) (hV.2.skip hend) K hmono ?_ (qg hn)
    rcases hu0 with q|q
    ·exact q
    ·rw[←q];exact hu
 ·have hu':Sn' u=false:=by simpa using hu
  have hk:u∉k.map (·.v):=fun q=>by
   obtain⟨e,he,hev⟩:=List.mem_map.mp q
   exact hu (hev ▸ K.st e he)
  refine jle T.room Z F2 hu' hk T.size fun s3 e hev hei F3 r3=>?_
  have hC3:Chain su none ((e::k).map (enS su)):=by
   have e1:(e::k).map (enS su)=(u,su u)::k.map (enS su):=by
    show enS su e::_=_
    unfold enS
    rw[hev,hei];rfl
   rw[e1]
   cases k with
   |nil=>exact⟨fun x hx=>.inl hx,(fun u e=>nomatch e),zt⟩
   |cons e1 k1=>exact hV.2.push hV.1
  have hus:=jcm (su:=su) hu'
  refine inner s3 (e::k) (upd Sn' u true) u F3 (r3.trans (r2.trans r)) hC3 ⟨fun e' he'=>?_,fun x hx=>?_⟩ (fun x hx=>?_) ?_ ?_
  ·cases he' with
   |head=>rw[hev];exact a9
   |tail _ he'=>
    have:=K.st e' he'
    unfold upd
    split
    ·rfl
    ·exact this
  ·by_cases q:x=u
   ·left;rw[q,←hev];exact .head _
   ·rw[ba q] at hx
    exact(K.sd x hx).imp (fun h=>.tail _ h) id
  ·unfold upd
   split
   ·rfl
   ·exact hmono x hx
  ·rcases hu0 with q|q
   ·unfold upd
    split
    ·rfl
    ·exact q
   ·rw[q];exact a9
  ·have:ms su (e::k)=(su u).length+ms su k:=by
    show((su e.v).drop e.i).length+_=_
    rw[hev,hei];rfl
   omega
end
section
variable{w:World}{a b c:Bool}{nt:Fin 8→Nat}{og:Fin 8→Fin 8}{nd:Fin 8→Nd}{np:Fin 8→Int}{su:Fin 8→List (Fin 8)}{z:FcZ}{fs:List Nat}{h₀:Heap}{Sn:Fin 8→Bool}{A:Around}{E:Value→Shared→Prop}{s:Shared}{outer:List Env}{R:Result→Shared→Prop}{x:List (String×Nat×Value)}
noncomputable def FcZ.at(z:FcZ)(i:Int)(f:Nat→Nat):FcZ:={ z with ii:=i,f:=f }
theorem FcAt.at(T:FcAt A z og nd fs h₀ outer)(i:Int)(f:Nat→Nat):FcAt A (z.at i f) og nd fs h₀ outer:=⟨T.room,T.frames,T.ff,T.fsE,⟨T.ok.ge,T.ok.ne,T.ok.reg,T.ok.fs⟩,T.size⟩
theorem FSG.move{z':FcZ}(T:FcAt A z og nd fs h₀ outer){h h':Heap}{x':List (String×Nat×Value)}(F:FS w nt og nd np su z fs h₀ [] Sn x h)(hz:z'.D=z.D∧z'.lo=z.lo∧z'.N0=z.N0∧z'.st=z.st∧z'.its=z.its∧z'.n2=z.n2∧z'.se=z.se∧z'.it=z.it∧z'.L=z.L)(hs:h.objs.size≤h'.objs.size)
  (K2:af [z.L,z.it] h h') (hfr:∃sl,h'.get? z'.L=some (bx w.params z'.f z'.S z'.D z'.st z'.its z'.se z'.n2 x' sl)) (hit:h'.get? z'.it=some (et z'.D z'.ii 8 8)):FS w nt og nd np su z' fs h₀ [] Sn x' h':=by
 obtain⟨z1,z2,z3,z4,z5,z6,z7,z8,z9⟩:=hz
 have Z:=T.ok
 obtain⟨g1,g2,g3,g4,g5,g6,g7⟩:=Z.ge
 obtain⟨sl,hfr0⟩:=F.fr
 have kt:∀{b:Nat} {o:Obj},h.get? b=some o→b≠z.L→b≠z.it→h'.get? b=some o:=fun{b o} e h1 h2=>K2 b o e (by
  refine nO2 ?_;exact⟨h1,h2⟩)
 obtain⟨e1,hst⟩:=F.st
 obtain⟨e2,hits⟩:=F.its
 obtain⟨e3,hn2⟩:=F.n2
 obtain⟨n,hse,hun⟩:=F.se
 obtain⟨es,ep,tb,hso⟩:=bt hse
 have hi:=F.itk
 refine F.next Z T.size K2 (fun y hy=>by
  exact mA2 hy g1 g7) hs ⟨z1,z2,z3⟩ hfr ⟨e1,?_⟩ ⟨e2,?_⟩ ⟨e3,?_⟩ ⟨n,?_,hun⟩ (fun e he=>nomatch he) F.nodup hit
 ·rw[z4];exact kt hst (fun q=>ao hst hfr0 rfl q) (fun q=>ao hst hi rfl q)
 ·rw[z5];exact kt hits (fun q=>ao hits hfr0 rfl q) (fun q=>ao hits hi rfl q)
 ·rw[z6];exact kt hn2 (fun q=>Z.ne.2 q.symm) (fun q=>ao hn2 hi rfl q)
 ·rw[z7];exact ce hse ((kt hso (fun q=>ao hso hfr0 rfl q) (fun q=>ao hso hi rfl q)).trans hso.symm)
noncomputable def j8(nt:Fin 8→Nat)(f:Nat→Nat)(i:Nat)(u:Fin 8):List (String×Nat×Value):=if i=0 then [] else nv1 f (nmV nt u)
noncomputable def jrc(it L:Nat):Code:=.forLoop (teS d8) (.ref it) (inS d8) [] (az L)
theorem jl4(T:FcAt A z og nd fs h₀ outer)(F₀:FS (wf w a b c) nt og nd np su (z.at 0 z.f) fs h₀ [] (fun _=>false) [] s.heap)
  (hN:∀s',OnlySlots fs h₀ s'.heap→Based (wf w a b c).params s'.heap→h₀.objs.size≤s'.heap.objs.size→ae s'=ae s→(∀v,ck su v)→R (.ok .next) s')
  (hC:∀s' (cad:Nat) xs,s'.heap.get? cad=some (lO xs 0)→xs≠[]→xs.length≤9→OnlySlots fs h₀ s'.heap→Based (wf w a b c).params s'.heap→h₀.objs.size≤cad→h₀.objs.size≤s'.heap.objs.size→ae s'=ae s→(∃v,¬ck su v)→R (.ok (.ret (.ref cad))) s') :
  codeAny (model PG (wf w a b c)) A (jrc z.it z.L) R s:=by
 refine codeAny_forLoop (fun n s'=>∃(i:Nat) (f:Nat→Nat) (Sn:Fin 8→Bool) (u:Fin 8),n+i=8∧FS (wf w a b c) nt og nd np su (z.at i f) fs h₀ [] Sn (j8 nt f i u) s'.heap∧ae s'=ae s∧(∀x,Sn x=true→ck su x)∧∀j:Fin 8,j.val<i→Sn (og j)=true) (fun n s1 hI=>?_) 8 ⟨0,z.f,_,0,rfl,F₀,rfl,(fun x hx=>nomatch hx),fun j hj=>absurd hj (Nat.not_lt_zero _)⟩
 obtain⟨i,f,Sn,u,hn,F,r,hE,hS⟩:=hI
 have T1:=T.at (i:Int) f
 have Z:=T1.ok
 obtain⟨g1,g2,g3,g4,g5,g6,g7⟩:=Z.ge
 have gi:257≤z.it:=Nat.le_trans g6 g7
 have gL:257≤z.L:=Nat.le_trans g6 g1
 have rD:=Z.reg z.D vx
 have hitk:s1.heap.get? z.it=some (et z.D (i:Int) 8 8):=F.itk
 have hDo:s1.heap.get? z.D=some (dO (wf w a b c).params nt (aq (ol og) nd) 8):=F.reg.d
 have hsz:=T.size
 rcases n with _|n
 ·have hi8:i=8:=by omega
  subst hi8
  refine fz (Q2 A.frames) (ag (w:=wf w a b c) (pre:=[(z.it,et z.D 8 8 8),(z.D,dO (wf w a b c).params nt (aq (ol og) nd) 8)]) F.based (F.ge Z) ⟨hitk,hDo,zt⟩ ⟨.inl gi,.inl rD.2.1,zt⟩ ⟨⟨zt,zt⟩,zt,zt⟩) T.room.cx T.room.cx rfl zt (chg:=[z.it]) ⟨.inr (.head _),.inl rfl,zt⟩ fun s2 P2b P2z K3 r2 P2x=>?_
  refine wpAny_execs_nil ?_
  refine hN s2 (F.os.step K3 fun y hy=>by rw[List.mem_singleton.mp hy,hsz];exact g7) P2b ?_ (r2.trans r) fun v=>?_
  ·have:s2.heap.objs.size=s1.heap.objs.size+2:=P2z
   have f1:z.N0≤s1.heap.objs.size:=F.size
   exact(qw (k:=2) (qk (k:=2) (qo hsz f1) (qg P2z)))
  ·have hv:=ec F.reg.nodup v
   have:∃j:Fin 8,og j=v:=by
    simp only[ol,List.mem_cons,List.not_mem_nil,or_false] at hv
    rcases hv with q|q|q|q|q|q|q|q<;>exact⟨_,q.symm⟩
   obtain⟨j,hj⟩:=this
   exact hE v (hj ▸ hS j j.isLt)
 ·have hi:i<8:=by omega
  have P:=ag (w:=wf w a b c) (pre:=[(z.it,et z.D i 8 8),(z.D,dO (wf w a b c).params nt (aq (ol og) nd) 8)]) F.based (F.ge Z) ⟨hitk,hDo,zt⟩ ⟨.inl gi,.inl rD.2.1,zt⟩ ⟨⟨zt,zt⟩,zt,zt⟩
  refine rq (v:=some (nmV nt (og ⟨i,hi⟩))) (jg3 none A.frames ⟨i,hi⟩) P T.room.cx T.room.cx rfl zt fun s2 P2 K2 r2=>?_
  have K3:af [z.it] s1.heap s2.heap:=am P P2.has K2 ⟨.inr (.head _),.inl rfl,zt⟩
  obtain⟨sl,hfr⟩:=F.fr
  have hfr':s1.heap.get? z.L=some (bx (wf w a b c).params f z.S z.D z.st z.its z.se z.n2 (j8 nt f i u) sl):=hfr
  have nLi:z.L≠z.it:=fun q=>ao hfr' hitk rfl q
  have hfr2:s2.heap.get? z.L=some (bx (wf w a b c).params f z.S z.D z.st z.its z.se z.n2 (j8 nt f i u) sl):=K3 _ _ hfr' (du nLi)
  have hit2:s2.heap.get? z.it=some (et z.D ((i:Int)+1) 8 8):=P2.has (z.it,_) (.head _)
  have hs2:s2.heap.objs.size=s1.heap.objs.size:=P2.size
  have store:∀(s3:Shared) (f':Nat→Nat),af [z.L] s2.heap s3.heap→s2.heap.objs.size≤s3.heap.objs.size→ae s3=ae s2→s3.heap.get? z.L=some (bx (wf w a b c).params f' z.S z.D z.st z.its z.se z.n2 (nv1 f' (nmV nt (og ⟨i,hi⟩))) sl) →
    wpAny (model PG (wf w a b c)) A (execs (inS d8) (az z.L)) (fun f s₃=>match f with
     |.next|.cont=>∃m,m<n+1∧∃(i:Nat) (f:Nat→Nat) (Sn:Fin 8→Bool) (u:Fin 8),m+i=8∧FS (wf w a b c) nt og nd np su (z.at i f) fs h₀ [] Sn (j8 nt f i u) s₃.heap∧ae s₃=ae s∧(∀x,Sn x=true→ck su x)∧∀j:Fin 8,j.val<i→Sn (og j)=true
     |.brk=>R (.ok .next) s₃
     |.ret v=>R (.ok (.ret v)) s₃) (notedBy (model PG (wf w a b c)) A (az z.L) fun e s'=>R (.error e) s') s3:=fun s3 f' K4 hs3 r3 x3=>by
   have T3:=T.at ((i:Int)+1) f'
   have F3:FS (wf w a b c) nt og nd np su (z.at ((i:Int)+1) f') fs h₀ [] Sn (nv1 f' (nmV nt (og ⟨i,hi⟩))) s3.heap:=F.move T1 ⟨rfl,rfl,rfl,rfl,rfl,rfl,rfl,rfl,rfl⟩ (qp hs2 hs3) (fun b o e hb=>K4 b o (K3 b o e (fun q=>hb (.tail _ q))) (fun q=>hb (by rw[List.mem_singleton.mp q];exact .head _))) ⟨sl,x3⟩
    (K4 _ _ hit2 (by rw[List.mem_singleton];exact fun q=>nLi q.symm))
   have rr:ae s3=ae s:=r3.trans (r2.trans r)
   obtain⟨n3,hse,hun⟩:=F3.se
   obtain⟨es,ep,tb,hso⟩:=bt hse
   have P3:=ag (w:=wf w a b c) (pre:=[(z.L,bx (wf w a b c).params f' z.S z.D z.st z.its z.se z.n2 (nv1 f' (nmV nt (og ⟨i,hi⟩))) sl),(z.se,stO es ep tb)]) F3.based (F3.ge T3.ok) ⟨x3,hso,zt⟩ ⟨.inl gL,.inl (Nat.le_trans g6 g4),zt⟩ ⟨⟨zt,zt⟩,zt,zt⟩
   first|refine xq1 ji ?_|refine xq2 ji ?_|refine xq3 ji ?_|rw[ji]
   refine ah _ _ ?_
   by_cases hu:Sn (og ⟨i,hi⟩)=true
   ·refine ay (R6 none A.frames) P3 T.room.cx T.room.cx rfl ⟨kz rfl rfl hse hso (by rw[m6];exact hu),zt⟩ fun s4 P4 K5 r4=>?_
    have K6:=am P3 P4.has K5 ⟨.inl rfl,.inl rfl,zt⟩ (chg:=[])
    refine⟨n,Nat.lt_succ_self _,i+1,f',Sn,og ⟨i,hi⟩,by omega,?_,r4.trans rr,hE,fun j hj=>?_⟩
    ·have e1:j8 nt f' (i+1) (og ⟨i,hi⟩)=nv1 f' (nmV nt (og ⟨i,hi⟩)):=by unfold j8;rw[if_neg (Nat.succ_ne_zero i)]
     rw[e1]
     exact F3.same T3 K6 (ch P4)
    ·by_cases q:j.val=i
     ·have:j=⟨i,hi⟩:=Fin.ext q
      rw[this];exact hu
     ·exact hS j (by omega)
   ·have hu':Sn (og ⟨i,hi⟩)=false:=by simpa using hu
    refine ay (R9 none A.frames) P3 T.room.cx T.room.cx rfl ⟨kz rfl rfl hse hso (by rw[m6];exact hu'),zt⟩ fun s4 P4 K5 r4=>?_
    have K6:=am P3 P4.has K5 ⟨.inl rfl,.inl rfl,zt⟩ (chg:=[])
    have F4:=F3.same T3 K6 (ch P4)
    refine wpAny_execs_cons ?_
    first|refine xq1 pp ?_|refine xq2 pp ?_|refine xq3 pp ?_|rw[pp]
    refine wpAny_While ?_
    refine jk7 (z:=z.at ((i:Int)+1) f') T3 F4 hu' hE (fun s5 Sn' u' F5 r5 hE5 hm5 h5=>wpAny_execs_nil ?_) (fun s5 cad xs x1 x2 x3 x4 x5 x6 x7 r5 hv=>?_)
    ·refine⟨n,Nat.lt_succ_self _,i+1,f',Sn',u',by omega,?_,r5.trans (r4.trans rr),hE5,fun j hj=>?_⟩
     ·have e1:j8 nt f' (i+1) u'=nv1 f' (nmV nt u'):=by unfold j8;rw[if_neg (Nat.succ_ne_zero i)]
      rw[e1]
      exact F5
     ·by_cases q:j.val=i
      ·have:j=⟨i,hi⟩:=Fin.ext q
       rw[this];exact h5
      ·exact hm5 _ (hS j (by omega))
    ·exact hC s5 cad xs x1 x2 x3 x4 x5 x6 x7 (r5.trans (r4.trans rr)) hv
  show wpAny _ _ (assign (teS d8) (az z.L) (nmV nt (og ⟨i,hi⟩))) _ _ s2
  by_cases h0:i=0
  ·have ex:j8 nt f i u=[]:=by unfold j8;rw[if_pos h0]
   rw[ex] at hfr2
   have P2':=ag (w:=wf w a b c) (pre:=[(z.L,bx (wf w a b c).params f z.S z.D z.st z.its z.se z.n2 [] sl)]) P2.based (by rw[hs2];exact F.ge Z) ⟨hfr2,zt⟩ ⟨.inl gL,zt⟩ ⟨zt,zt⟩
   refine c0 (S9 none A.frames) P2' T.room.cx T.room.cx rfl zt fun s3 P3 K4 r3=>?_
   exact store s3 (jkw f s2.toks) K4 (ch P3) r3 (P3.has (z.L,_) (.head _))
  ·have ex:j8 nt f i u=nv1 f (nmV nt u):=by unfold j8;rw[if_neg h0]
   rw[ex] at hfr2
   have P2':=ag (w:=wf w a b c) (pre:=[(z.L,bx (wf w a b c).params f z.S z.D z.st z.its z.se z.n2 (nv1 f (nmV nt u)) sl)]) P2.based (by rw[hs2];exact F.ge Z) ⟨hfr2,zt⟩ ⟨.inl gL,zt⟩ ⟨zt,zt⟩
   refine c0 (S3 none A.frames) P2' T.room.cx T.room.cx rfl zt fun s3 P3 K4 r3=>?_
   exact store s3 f K4 (ch P3) r3 (P3.has (z.L,_) (.head _))
end
theorem Room.deeper{A:Around}{d u:Nat}(r:Room A d u)(env:Env):Room (A.deeper env) (d+1) (u+10):=⟨r.h,by have:=r.d;show A.depth+_≤_;exact(qs 1 this),by have:=r.u;show A.units+_≤_;exact(qr (k:=7) (qs 3 this))⟩
theorem Room.mono{A:Around}{d u d' u':Nat}(r:Room A d u)(h1:d≤d')(h2:u≤u'):Room A d' u':=⟨r.h,Nat.le_trans r.d h1,Nat.le_trans r.u h2⟩
section
variable{w:World}{a b c:Bool}{nt:Fin 8→Nat}{og:Fin 8→Fin 8}{nd:Fin 8→Nd}{np:Fin 8→Int}{su:Fin 8→List (Fin 8)}{A:Around}{s:Shared}{outer:List Env}{R:Result→Shared→Prop}{S Sd D lo t1 t2:Nat}{q:Nat→Nat}{rl:Value}{po nf:Int}{fs:List Nat}
theorem jjz:SS (fun _=>false)=fun _=>false:=by
 funext x
 unfold SS
 refine List.any_eq_false.mpr fun j _ hj=>?_
 cases hj
theorem bo{h:Heap}{l:List Env}(H:h.FunFrames noBase l):∀b∈l.filterMap (·.frame),@LT.lt Nat _ b h.objs.size:=fun b hb=>by
 obtain⟨_,o,ho,_⟩:=H.mem hb
 exact Heap.lt_size ho
theorem jpz(hA:Room A 800 8000)(hfr:A.frames=some outer)(hff:s.heap.FunFrames noBase outer)(hfs:fs=outer.filterMap (·.frame))(B:Based (wf w a b c).params s.heap)(hS:s.heap.get? S=some (sO Sd))(hSd:s.heap.get? Sd=some (sD (wf w a b c).params q D rl po nf t1 t2))
  (oS:257≤S) (oSd:257≤Sd) (H:Reg (wf w a b c).params nt lo D (ol og) np su nd 8 s.heap) (hfo:∀x∈fs,257≤x∧¬InReg D (ol og) nd x)
  (hN:∀h' tk',OnlySlots fs s.heap h'→Based (wf w a b c).params h'→s.heap.objs.size≤h'.objs.size→(∀v,ck su v)→R (rv .none) { s with heap:=h',toks:=tk' })
  (hC:∀h' tk' (cad:Nat) xs,h'.get? cad=some (lO xs 0)→xs≠[]→xs.length≤9→OnlySlots fs s.heap h'→Based (wf w a b c).params h'→s.heap.objs.size≤cad→s.heap.objs.size≤h'.objs.size→(∃v,¬ck su v)→R (rv (.ref cad)) { s with heap:=h',toks:=tk' }) :
  codeAny (model PG (wf w a b c)) A (.call (.ref 192) ⟨[.ref S],[]⟩) R s:=by
 have h257:257≤s.heap.objs.size:=by have:=H.offD;have:=H.ltD;have:=H.size;omega
 refine dg (jhm S A.frames) (ag (w:=wf w a b c) (pre:=[]) B h257 zt zt zt) hA.cx  rfl zt (chg:=[]) zt fun s1 P1b P1z K1' r1 P1x=>?_
 have hs1:s1.heap.objs.size=s.heap.objs.size+1:=P1z
 have hL:s1.heap.get? s.heap.objs.size=some (frS (wf w a b c).params [("self",s.toks,.ref S)] 1 #[]):=P1x 0 _ _ (s.heap.objs.size) rfl rfl
 show codeAny _ A (.func fcS (az s.heap.objs.size)) R s1
 refine codeAny_func ?_
 have hA2:Room (A.deeper (az s.heap.objs.size)) 820 8200:=(hA.deeper _).mono (qb rfl) (qb rfl)
 have hfr2:(A.deeper (az s.heap.objs.size)).frames=some (az s.heap.objs.size::outer):=by
  show A.frames.map _=_
  rw[hfr];rfl
 generalize A.deeper (az s.heap.objs.size)=A2 at hA2 hfr2
 first|refine xq1 pq ?_|refine xq2 pq ?_|refine xq3 pq ?_|rw[pq]
 refine ah _ _ ?_
 have kS:∀{b:Nat} {o:Obj},s.heap.get? b=some o→s1.heap.get? b=some o:=fun{b o} e=>K1' b o e n0m
 have ltS:@LT.lt Nat _ Sd s.heap.objs.size:=Heap.lt_size hSd
 refine bc (jhq (nt:=nt) none A2.frames) (ag (w:=wf w a b c) (pre:=[(s.heap.objs.size,frS (wf w a b c).params [("self",s.toks,.ref S)] 1 #[]),(S,sO Sd),(Sd,sD (wf w a b c).params q D rl po nf t1 t2)]) P1b (qc (qb rfl) (qq (ql oSd ltS) P1z)) ⟨hL,kS hS,kS hSd,zt⟩ (f0 (by omega) (by omega) (by omega)) ⟨⟨zt,(by show@Ne Nat _ _;exact(qj ltS)),zt⟩,⟨zt,zt⟩,zt,zt⟩) hA2.cx hA2.cx rfl zt (chg:=[s.heap.objs.size]) ⟨.inr (.head _),.inl rfl,.inl rfl,zt⟩ fun s2 P3b P3z K4 r2 P3x=>?_
 have hs2:s2.heap.objs.size=s1.heap.objs.size+4:=P3z
 have kS2:∀{b:Nat} {o:Obj},s.heap.get? b=some o→s2.heap.get? b=some o:=fun{b o} e=>K4 b o (kS e) (by
  have:@LT.lt Nat _ b s.heap.objs.size:=Heap.lt_size e
  rw[List.mem_singleton]
  intro q
  have q':@Eq Nat b s.heap.objs.size:=q
  exact(qf (qy this q)))
 generalize hN1:s1.heap.objs.size=N1 at *
 have x0:=(P3x 0 _ _ (s.heap.objs.size) rfl rfl)
 have x3:=(P3x 3 _ _ (N1+0) rfl rfl)
 have x4:=(P3x 4 _ _ (N1+1) rfl rfl)
 have x5:=(P3x 5 _ _ (N1+2) rfl rfl)
 have x6:=(P3x 6 _ _ (N1+3) rfl rfl)
 have hz:∀it f i,(FcZ.mk s.heap.objs.size N1 (N1+1) (N1+2) (N1+3) f S D lo s.heap.objs.size it i).L=s.heap.objs.size:=fun _ _ _=>rfl
 refine ah _ _ (wpAny_execs_cons ?_)
 first|refine xq1 jj ?_|refine xq2 jj ?_|refine xq3 jj ?_|rw[jj]
 refine wpAny_For ?_ (fun x=>by kernel_rfl)
 refine c7 (jhc none A2.frames) (ag (w:=wf w a b c) (pre:=[(s.heap.objs.size,bx (wf w a b c).params (fB s.toks s1.toks) S D N1 (N1+1) (N1+2) (N1+3) [] #[])]) P3b (qc (qb rfl) (qk (k:=4) (qq (ql oSd ltS) P1z) (qg P3z))) ⟨x0,zt⟩ (b6 (by omega)) ⟨zt,zt⟩) hA2.cx hA2.cx rfl zt (chg:=[]) ⟨.inl rfl,zt⟩ fun s3 P5b P5z K6 r3 P5x=>?_
 have kS3:∀{b:Nat} {o:Obj},s2.heap.get? b=some o→s3.heap.get? b=some o:=fun{b o} e=>K6 b o e n0m
 have hs3:s3.heap.objs.size=s2.heap.objs.size:=P5z
 have hD:257≤D:=H.offD
 refine d9 (jhf none A2.frames) (ag (w:=wf w a b c) (pre:=[(D,dO (wf w a b c).params nt (aq (ol og) nd) 8)]) P5b (qc (qb rfl) (qy (qk (k:=4) (qq (ql oSd ltS) P1z) (qg P3z)) P5z)) ⟨kS3 (kS2 H.d),zt⟩ ⟨.inl hD,zt⟩ ⟨zt,zt⟩) hA2.cx hA2.cx rfl ⟨jmf rfl rfl (ga hD) rfl rfl,zt⟩ (chg:=[]) ⟨.inl rfl,zt⟩ fun s4 P7b P7z K8 r4 P7x=>?_
 have kS4:∀{b:Nat} {o:Obj},s2.heap.get? b=some o→s4.heap.get? b=some o:=fun{b o} e=>K8 b o (kS3 e) n0m
 have hs4:s4.heap.objs.size=s3.heap.objs.size+1:=P7z
 have hit:s4.heap.get? s3.heap.objs.size=some (et D 0 8 8):=P7x 1 _ _ (s3.heap.objs.size) rfl rfl
 have ltR:∀b,InReg D (ol og) nd b→b<s.heap.objs.size∧257≤b:=fun b hb=>⟨(H.lt hb).1,(H.lt hb).2.1⟩
 have T:FcAt A2 ⟨s.heap.objs.size,N1,N1+1,N1+2,N1+3,fB s.toks s1.toks,S,D,lo,s.heap.objs.size,s3.heap.objs.size,0⟩ og nd fs s.heap outer:=
  ⟨hA2,hfr2,hff,hfs,⟨⟨by show s.heap.objs.size≤s.heap.objs.size;exact(Nat.le_refl _),by show s.heap.objs.size≤N1;exact(qv (qg P1z)),by show s.heap.objs.size≤N1+1;exact(qr (k:=1) (qv (qg P1z))),by show s.heap.objs.size≤N1+2;exact(qr (k:=2) (qv (qg P1z))),by show s.heap.objs.size≤N1+3;exact(qr (k:=3) (qv (qg P1z))),h257,by show s.heap.objs.size≤s3.heap.objs.size;exact(qw (k:=5) (qy (qk (k:=4) (qg P1z) (qg P3z)) P5z))⟩,⟨by show N1≠N1+1;exact(qh (Nat.le_refl _)),by show s.heap.objs.size≠N1+3;exact(qh (qr (k:=3) (qg P1z)))⟩,
   fun b hb=>⟨(ltR b hb).1,(ltR b hb).2,fun q=>(hfo b q).2 hb⟩,fun b hb=>⟨by rw[hfs] at hb;exact bo hff b hb,(hfo b hb).1⟩⟩,rfl⟩
 have O4:OnlySlots fs s.heap s4.heap:=OnlySlots.refl.step (chg:=[]) (fun b o e _=>kS4 (kS2 e)) (fun y hy=>nomatch hy)
 have F:FS (wf w a b c) nt og nd np su (FcZ.at ⟨s.heap.objs.size,N1,N1+1,N1+2,N1+3,fB s.toks s1.toks,S,D,lo,s.heap.objs.size,s3.heap.objs.size,0⟩ 0 (fB s.toks s1.toks)) fs s.heap [] (fun _=>false) [] s4.heap:=by
  refine⟨O4,P7b,H.mono (fun b ob e _=>kS4 (kS2 e)) (qw (k:=6) (qq (qy (qk (k:=4) (qg P1z) (qg P3z)) P5z) P7z)),by show s.heap.objs.size≤_;exact(qw (k:=6) (qq (qy (qk (k:=4) (qg P1z) (qg P3z)) P5z) P7z)),⟨#[],kS4 x0⟩,⟨0,kS4 x3⟩,⟨0,kS4 x4⟩,⟨0,kS4 x6⟩,⟨0,?_,?_⟩,(fun e he=>nomatch he),List.Pairwise.nil,hit⟩
  ·rw[jjz]
   exact(PyProof.Rows.setObjOf_fresh (knd:=strKind PG (wf w a b c)) (!a)).setOf (kS4 x5) (by unfold scanBound;exact(qb rfl))
  ·decide
 refine jl4 T F (fun s5 y1 y2 y3 r5 he=>?_) fun s5 cad xs y1 y2 y3 y4 y5 y6 y7 r5 hv=>?_
 ·have P8:=ag (w:=wf w a b c) (pre:=[]) y2 (qv (qc (ql oSd ltS) y3)) zt zt zt
  refine wpAny_execs_nil ?_
  refine ay (jg6 none A2.frames) P8 hA2.cx hA2.cx rfl zt fun s6 P9 K9 r6=>?_
  have rr:=r6.trans (r5.trans (r4.trans (r3.trans (r2.trans r1))))
  have hs6:s6.heap.objs.size=s5.heap.objs.size:=P9.size
  have:=hN s6.heap s6.toks (y1.step (chg:=[]) (fun b o e _=>K9 b o e n0m) (fun y hy=>nomatch hy)) P9.based (qy y3 hs6) he
  rw[←cm rr] at this
  exact this
 ·have rr:=r5.trans (r4.trans (r3.trans (r2.trans r1)))
  have:=hC s5.heap s5.toks cad xs y1 y2 y3 y4 y5 y6 y7 hv
  rw[←cm rr] at this
  exact this
end
noncomputable def prS:List Stmt:=d6 (st2 16 3)
noncomputable def cyE(t:Nat):Obj:=⟨.ref 120,none,.fields #[.ref t,.none,.none,.none,.bool false,.none],#[]⟩
noncomputable def tr:Str:=sn "nodes are in a cycle"
noncomputable def veX(cad N t i tk:Nat):XSpec:=⟨.builtin "ValueError.__new__" ⟨[.ref 120,.str tr t,.ref cad],[]⟩,980,9800,none,[],i,tk,rv (.ref (N+1)),[],[⟨.type "tuple",none,.seq #[.str tr t,.ref cad] 0,#[]⟩,cyE N],0⟩
noncomputable def dvX(hnd:Option Value)(P:Params)(D:Nat)(nt:Fin 8→Nat)(kv:KV)(ep:Nat)(j i tk a:Nat):XSpec:=⟨.call (.builtin "dict.values") ⟨[.ref D],[]⟩,980,9800,hnd,[(j,dO P nt kv ep)],i,tk,rv (.ref a),[],[dvO D],0⟩
section
variable{V:SV}{h₀:Heap}{w:World}{hnd:Option Value}{nt:Fin 8→Nat}{kv:KV}{D ep j i tk a cad N t:Nat}
theorem jmb(hw:V.w=w)(hp:aj V.pre V.N j=D)(hD:D≠1)(ha:a=V.N+i):XOk V h₀ (dvX hnd w.params D nt kv ep j i tk a):=
 ig rfl fun A s R _ _ _ hs hpre hR=>by
  have h1:=hpre (j,_) (.head _)
  rw[hp] at h1
  rw[hw]
  subst ha
  have hs':s.heap.objs.size=V.N+i:=hs
  exact jaw hD h1 (by rw[hs'];exact hR)
theorem jkv(hkt:V.kt.get 120=some (jj2 V.w.params))(hN:N=V.N+i):XOk V h₀ (veX cad N t i tk):=fun A s hh hd hu hs htk hb hk hpre=>by
 have hs':s.heap.objs.size=V.N+i:=hs
 have hC:=hb 120 _ hkt
 subst hN
 obtain⟨hp,g,d,tk',os⟩:=s
 have hs2:hp.objs.size=V.N+i:=hs'
 refine codeAny_exc_new_subU (C:=120) (N:=119) (nm:=sn "CycleError") (q:=sn "CycleError") (bs:=[.type "ValueError"]) (hdct:=true) (sn:=[]) (sub:=[]) (ab:=false) (col:=none) (dd:=none) PySem.F.excBase_ValueError rfl PySem.F.excBase_ValueError .base hC ?_
 refine⟨by show rv (.ref (hp.objs.size+1))=rv (.ref (V.N+i+1));rw[hs2],_,rfl,by rw[Heap.size_push,Heap.size_push];rfl,(fun p hp=>nomatch hp),(fun k o e=>?_),fun b o e hb=>Heap.get?_push_of_some _ (Heap.get?_push_of_some _ e)⟩
 have e1:(hp.push (⟨.type "tuple",none,.seq #[.str tr t,.ref cad] 0,#[]⟩:Obj)).objs.size=V.N+i+1:=by rw[Heap.size_push,hs2]
 match k,e with
 |0,e=>
  cases e
  have:=Heap.get?_push_size hp (o:=(⟨.type "tuple",none,.seq #[.str tr t,.ref cad] 0,#[]⟩:Obj)) rfl
  rw[hs2] at this
  exact Heap.get?_push_of_some _ this
 |1,e=>
  cases e
  have:=Heap.get?_push_size (hp.push (⟨.type "tuple",none,.seq #[.str tr t,.ref cad] 0,#[]⟩:Obj)) (o:=cyE hp.objs.size) rfl
  rw[e1,hs2] at this
  show(Heap.push (hp.push _) (cyE hp.objs.size)).get? (V.N+i+1)=some (cyE (V.N+i))
  rw[hs2]
  exact this
end
section
variable{w:World}{a b c:Bool}{nt:Fin 8→Nat}{q:Nat→Nat}{S Sd D L N t₀ t1 t2 t3 t4 cad:Nat}{og:Fin 8→Fin 8}{nd:Fin 8→Nd}{sl:Array (Option Value)}{rl:Value}
noncomputable def jda:List Nat:=dH 13 14169441320417315782785
noncomputable def jdb:List CH:=[.p]
theorem jc9(hnd:Option Value)(ff:Option (List Env)):au 60 (wf w a b c) N t₀ ([(L,frS (wf w a b c).params [("self",t3,.ref S)] 1 sl),(S,sO Sd),(Sd,sD (wf w a b c).params q D .none 0 0 t1 t2)]) (.fin jda jdb ⟨.ok (.done .next),[(0,frS (wf w a b c).params [("self",t3,.ref S)] 1 sl),(1,sO Sd),(2,sD (wf w a b c).params q D .none 0 0 t1 t2)],0,1⟩) ⟨hnd,620,6200,ff⟩ (ar [ak prS 0] (b5 L)):=by kernel_rfl
noncomputable def jdg:List Nat:=[1]
noncomputable def jdh:List CH:=[]
theorem jdf(hnd:Option Value)(ff:Option (List Env)):au 60 (wf w a b c) N t₀ ([(L,frS (wf w a b c).params [("self",t3,.ref S),("cycle",t4,.none)] 2 sl)]) (.fin jdg jdh ⟨.ok (.done .next),[(0,frS (wf w a b c).params [("self",t3,.ref S),("cycle",t4,.none)] 2 sl)],0,0⟩) ⟨hnd,620,6200,ff⟩ (ar [ak prS 3] (b5 L)):=by kernel_rfl
noncomputable def jc4:List Nat:=dH 6 2181570689
noncomputable def jc5:List CH:=[.p,.p,.p]
theorem jc3(hnd:Option Value)(ff:Option (List Env)):∀(xs:List Value) (_:xs≠[]) (_:xs.length≤9),au 60 (wf w a b c) N t₀ ([(L,frS (wf w a b c).params [("self",t3,.ref S),("cycle",t4,.ref cad)] 2 sl),(cad,lO xs 0)]) (.fin jc4 jc5 ⟨.ok (.done (.ret (.bool true))),[(0,frS (wf w a b c).params [("self",t3,.ref S),("cycle",t4,.ref cad)] 2 sl),(1,lO xs 0)],0,2⟩) ⟨hnd,620,6200,ff⟩ (trT (teS (ak prS 3)) (b5 L))
 |[x0],_,_=>by kernel_rfl
 |[x0,x1],_,_=>by kernel_rfl
 |[x0,x1,x2],_,_=>by kernel_rfl
 |[x0,x1,x2,x3],_,_=>by kernel_rfl
 |[x0,x1,x2,x3,x4],_,_=>by kernel_rfl
 |[x0,x1,x2,x3,x4,x5],_,_=>by kernel_rfl
 |[x0,x1,x2,x3,x4,x5,x6],_,_=>by kernel_rfl
 |[x0,x1,x2,x3,x4,x5,x6,x7],_,_=>by kernel_rfl
 |[x0,x1,x2,x3,x4,x5,x6,x7,x8],_,_=>by kernel_rfl
 |[],h,_=>absurd rfl h
 |_::_::_::_::_::_::_::_::_::_::_,_,h=>absurd h (by simp)
noncomputable def jc7:List Nat:=dH 37 316015213534238792042573076153013728859179961912423533480675115072
noncomputable def jc8(X0:XSpec):List CH:=[.p,.p,.p,.p,.x X0,.p,.p]
theorem jc6(ff:Option (List Env)):au 100 (wf w a b c) N t₀ ([(L,frS (wf w a b c).params [("self",t3,.ref S),("cycle",t4,.ref cad)] 2 sl)]) (.fin jc7 (jc8 (veX cad N t₀ 0 1)) ⟨.error (.ref (N+1)),[(0,frS (wf w a b c).params [("self",t3,.ref S),("cycle",t4,.ref cad)] 2 sl),(2,cyE (N+2))],3,1⟩) ⟨none,620,6200,ff⟩ (ar (inS (ak prS 3)) (b5 L)):=by kernel_rfl
end
structure CpO where
 lv:Nat×Value
 size:Nat
 toks:Nat
noncomputable def cpC(P:Params)(nt:Fin 8→Nat)(og:Fin 8→Fin 8)(nd:Fin 8→Nd)(D it acc l L:Nat)(rl:List Value):CallSpec where
 Out:=CpO
 code:=csC it acc l L
 d:=700
 u:=7000
 pre:=[(3,dO P nt (aq (ol og) nd) 8),(5,gs D 0),(6,lO [] 0),(7,ci P "i" none)]
 i:=4
 tk:=1
 res _:=.ok .next
 upd o:=[(5,jn),(6,lO rl rl.length),(7,ci P "i" (some o.lv))]
 new _:=[]
 size o:=o.size
 toks o:=o.toks
 rel _:=True
structure FcO where
 sl:Array (Option Value)
 size:Nat
 toks:Nat
 cad:Nat
 xs:List Value
noncomputable def jj6:Bool→FcO→Result
 |true,o=>rv (.ref o.cad)
 |false,_=>rv .none
noncomputable def jl7:Bool→FcO→List (Nat×Obj)
 |true,o=>[(o.cad,lO o.xs 0)]
 |false,_=>[]
noncomputable def fcC(ring:Bool)(P:Params)(q:Nat→Nat)(L S Sd D t1 t2 t3:Nat)(r:Value)(sl:Array (Option Value))(outer:List Env)(fs:List Nat)(h₀:Heap):CallSpec where
 Out:=FcO
 code:=.call (.ref 192) ⟨[.ref S],[]⟩
 d:=800
 u:=8000
 fr:=some (some (b5 L::outer))
 pre:=[(0,frS P [("self",t3,.ref S)] 1 sl),(1,sO Sd),(2,sD P q D r 0 0 t1 t2)]
 i:=0
 tk:=0
 res:=jj6 ring
 upd o:=[(0,frS P [("self",t3,.ref S)] 1 o.sl)]
 new:=jl7 ring
 size o:=o.size
 toks o:=o.toks
 rel _:=True
 mod b:=b∈fs
 facts o h':=(∀b ob,h₀.get? b=some ob→b∈fs→∃sl,h'.get? b=some { ob with slots:=sl })∧(ring=true→o.xs≠[]∧o.xs.length≤9∧h₀.objs.size≤o.cad)
noncomputable def jdl:List Nat:=dH 24 2112819967846290738221270164277578422026369
noncomputable def jdn(X0:XSpec):List CH:=[.p,.x X0,.p,.p]
noncomputable def jdk:List Nat:=dH 21 4050965263774475306002183490432696840
noncomputable def jdm:List CH:=[.p,.p]
noncomputable def jc0:List Nat:=dH 17 3752505744119837757454418049
noncomputable def jc2:List CH:=[]
noncomputable def jcz:List Nat:=[1,1]
noncomputable def jc1:List CH:=[]
noncomputable def jcv:List Nat:=dH 17 3752505744119837757454418049
noncomputable def jcx:List CH:=[]
noncomputable def jcu:List Nat:=[1,1]
noncomputable def jcw:List CH:=[]
section
variable{w:World}{a b c:Bool}{nt:Fin 8→Nat}{q:Nat→Nat}{S Sd D L N t₀ t1 t2 t3 t4 cad:Nat}{og:Fin 8→Fin 8}{nd:Fin 8→Nd}{sl:Array (Option Value)}{r:Value}{rl:List Value}{outer:List Env}{fs:List Nat}{h₀:Heap}
noncomputable def vn(P:Params)(nt:Fin 8→Nat)(q:Nat→Nat)(S Sd D L t1 t2 t3:Nat)(og:Fin 8→Fin 8)(nd:Fin 8→Nd)(sl:Array (Option Value)):List (Nat×Obj):=[(L,frS P [("self",t3,.ref S)] 1 sl),(S,sO Sd),(Sd,sD P q D .none 0 0 t1 t2),(D,dO P nt (aq (ol og) nd) 8)]
noncomputable def jdi(P:Params)(nt:Fin 8→Nat)(q:Nat→Nat)(S Sd D L t1 t2 t3:Nat)(og:Fin 8→Fin 8)(nd:Fin 8→Nd)(sl:Array (Option Value))(rl:List Value)(N:Nat):Script:=
 .call jdl (jdn (dvX none P D nt (aq (ol og) nd) 8 3 0 1 N)) (cpC P nt og nd D (N+1) (N+2) (N+3) L rl) fun o=>
  .fin jdk jdm ⟨.ok (.done .next),[(0,frS P [("self",t3,.ref S)] 1 sl),(1,sO Sd),(2,sD P q D (.ref (N+2)) 0 0 t1 t2),(3,dO P nt (aq (ol og) nd) 8),(6,lO rl rl.length)],0,2⟩
theorem jdj(ff:Option (List Env)):au 160 (wf w a b c) N t₀ (vn (wf w a b c).params nt q S Sd D L t1 t2 t3 og nd sl) (jdi (wf w a b c).params nt q S Sd D L t1 t2 t3 og nd sl rl N) ⟨none,620,6200,ff⟩ (ar [ak prS 1] (b5 L)):=by
 cases c<;>kernel_rfl
noncomputable def ng(P:Params)(q:Nat→Nat)(S Sd D L t1 t2 t3:Nat)(r:Value)(sl:Array (Option Value)):List (Nat×Obj):=[(L,frS P [("self",t3,.ref S)] 1 sl),(S,sO Sd),(Sd,sD P q D r 0 0 t1 t2)]
noncomputable def jcy(P:Params)(q:Nat→Nat)(S Sd D L t1 t2 t3:Nat)(r:Value)(sl:Array (Option Value))(outer:List Env)(fs:List Nat)(h₀:Heap):Bool→Script
 |false=>.call jc0 jc2 (fcC false P q L S Sd D t1 t2 t3 r sl outer fs h₀) fun o=>
   .fin jcz jc1 ⟨.ok (.done .next),[(0,frS P [("self",t3,.ref S),("cycle",o.toks,.none)] 2 o.sl),(1,sO Sd),(2,sD P q D r 0 0 t1 t2)],0,1⟩
 |true=>.call jcv jcx (fcC true P q L S Sd D t1 t2 t3 r sl outer fs h₀) fun o=>
   .fin jcu jcw ⟨.ok (.done .next),[(0,frS P [("self",t3,.ref S),("cycle",o.toks,.ref o.cad)] 2 o.sl),(1,sO Sd),(2,sD P q D r 0 0 t1 t2),(3,lO o.xs 0)],0,1⟩
theorem vl:∀(ring:Bool),au 160 (wf w a b c) N t₀ (ng (wf w a b c).params q S Sd D L t1 t2 t3 r sl) (jcy (wf w a b c).params q S Sd D L t1 t2 t3 r sl outer fs h₀ ring) ⟨none,620,6200,some (b5 L::outer)⟩ (ar [ak prS 2] (b5 L))
 |false=>by kernel_rfl
 |true=>by kernel_rfl
end
theorem nh:prS=[ak prS 0]++([ak prS 1]++([ak prS 2]++[ak prS 3])):=by kernel_rfl
theorem ka:ak prS 3=.If (teS (ak prS 3)) (inS (ak prS 3)) (elS (ak prS 3)) (gy (ak prS 3)):=by kernel_rfl
theorem A4(L:Nat):(b5 L).scope.kind=.function:=by kernel_rfl
section
variable{w:World}{a b c:Bool}{nt:Fin 8→Nat}{og:Fin 8→Fin 8}{nd:Fin 8→Nd}{np:Fin 8→Int}{su:Fin 8→List (Fin 8)}{A:Around}{s:Shared}{outer:List Env}{R:Result→Shared→Prop}{S Sd D L N lo t1 t2 t3:Nat}{q:Nat→Nat}{r:Value}{fs:List Nat}{h h' h₀:Heap}{sl:Array (Option Value)}
theorem SlotsBut.keep{r:Nat}{fs chg:List Nat}(O:SlotsBut r fs h₀ h)(K:af chg h h')(hc:∀x∈chg,x=r∨h₀.objs.size≤x):SlotsBut r fs h₀ h':=fun b o e hb=>by
 obtain⟨sl,h1,h2⟩:=O b o e hb
 have:@LT.lt Nat _ b h₀.objs.size:=Heap.lt_size e
 exact⟨sl,K _ _ h1 fun hm=>by
  rcases hc b hm with q|q
  ·exact hb q
  ·exact(qf (ql q this)),h2⟩
theorem SlotsBut.funFrames{r:Nat}{fs:List Nat}(O:SlotsBut r fs h₀ h){l:List Env}(hr:r∉l.filterMap (·.frame))(H:h₀.FunFrames noBase l):h.FunFrames noBase l:=by
 induction l with
 |nil=>trivial
 |cons e l ih=>
  obtain⟨h1,⟨L,o,h2,h3,h4,h5⟩,h6⟩:=H
  have hm:(e::l).filterMap (·.frame)=L::l.filterMap (·.frame):=by rw[List.filterMap_cons,h2]
  rw[hm,List.mem_cons,not_or] at hr
  obtain⟨sl,h7,-⟩:=O L o h4 (fun q=>hr.1 q.symm)
  exact⟨h1,⟨L,_,h2,h3,h7,h5⟩,ih hr.2 h6⟩
structure SO(S Sd D lo:Nat):Prop where
 s:257≤S∧S<lo∧S≠D
 d:257≤Sd∧Sd<lo∧Sd≠D
theorem SO.reg(O:SO S Sd D lo){P:Params}{ep:Nat}(H:Reg P nt lo D (ol og) np su nd ep h){b:Nat}(hb:InReg D (ol og) nd b):b≠S∧b≠Sd:=by
 have h1:=O.s
 have h2:=O.d
 rcases(H.lt hb).2.2 with e|e
 ·subst e;exact⟨fun e=>h1.2.2 e.symm,fun e=>h2.2.2 e.symm⟩
 ·exact⟨(qj (qc h1.2.1 e)),(qj (qc h2.2.1 e))⟩
theorem jnb{V:SV}{hh:Heap}{N:Nat}(hw:V.w=wf w a b c)(hkt:V.kt=ktB (wf w a b c).params)(hN:V.N=N)(hV:V.pre=[L,S,Sd,D])(hLN:hh.objs.size=N)(hL:L<N)(O:SO S Sd D lo)(H:Reg (wf w a b c).params nt lo D (ol og) np su nd 8 hh)(hLr:∀b,InReg D (ol og) nd b→b≠L) :
  b9 V hh (cpC (wf w a b c).params nt og nd D (N+1) (N+2) (N+3) L ((rdy og np 8).map (nmV nt))):=by
 intro A s hh' hf hd hu hs ht hb hkeep hpre
 have hs':s.heap.objs.size=N+4:=by rw[←hN];exact hs
 have ad:∀j,4≤j→aj V.pre V.N j=N+(j-4):=fun j hj=>by
  rw[bz _ _ _ (by rw[hV];exact hj),hV,hN];rfl
 have a3:aj V.pre V.N 3=D:=by rw[hV];rfl
 have p3:=hpre (3,_) (.head _)
 have p5:=hpre (5,_) (.tail _ (.head _))
 have p6:=hpre (6,_) (.tail _ (.tail _ (.head _)))
 have p7:=hpre (7,_) (.tail _ (.tail _ (.tail _ (.head _))))
 rw[a3] at p3
 rw[ad 5 (qb rfl)] at p5
 rw[ad 6 (qb rfl)] at p6
 rw[ad 7 (qb rfl)] at p7
 rw[hkt] at hb
 have hreg:∀b ob,hh.get? b=some ob→InReg D (ol og) nd b→s.heap.get? b=some ob:=fun b ob e hr=>by
  by_cases q:b=D
  ·exact sg H.d p3 e q
  ·refine hkeep b ob e ?_
   have h1:=O.reg H hr
   have h2:=hLr b hr
   rw[hV]
   refine nO4 ?_
   exact⟨h2,h1.1,h1.2,q⟩
 have hsz:=H.size
 have h257:=H.offD
 have hDl:=H.ltD
 have Z:CLs D (N+1) (N+2) (N+3) og nd:=⟨⟨(qr (k:=1) (qv (qx (qc (ql h257 hDl) hsz) hLN))),(qr (k:=2) (qv (qx (qc (ql h257 hDl) hsz) hLN))),(qr (k:=3) (qv (qx (qc (ql h257 hDl) hsz) hLN)))⟩,by simp,fun b hr q=>by
  have:=(H.lt hr).1
  replace q:=mO3 q
  exact(q.elim (fun q=>(qn (k:=1) (qq (qx this hLN) q))) fun q=>(q.elim (fun q=>(qn (k:=2) (qk (k:=2) (qx this hLN) (qg q)))) fun q=>(qn (k:=3) (qk (k:=3) (qx this hLN) (qg q)))))⟩
 have C:CL (wf w a b c).params nt lo D (N+1) (N+2) (N+3) og np su nd 0 none s.heap:=⟨⟨hb⟩,H.mono hreg (qw (k:=4) (qk (k:=4) (qe hLN) (qg hs'))),p5,p6,p7⟩
 rw[hw]
 refine jp9 ⟨hh',hd,hu⟩ Z C fun h' tk' lv x0 x1 x2 x3 x4=>?_
 refine⟨⟨lv,h'.objs.size,tk'⟩,zt,rfl,h',rfl,zt,rfl,x4,fun p hp=>?_,(fun p hp=>nomatch hp),List.Pairwise.nil,fun y ob e hb _=>x3 y ob e fun q=>?_⟩
 ·simp only[cpC,List.mem_cons,List.not_mem_nil,or_false] at hp
  rcases hp with rfl|rfl|rfl
  ·rw[ad 5 (qb rfl)];exact x0
  ·rw[ad 6 (qb rfl)]
   have x1':h'.get? (N+2)=some (lO ((rdy og np 8).map (nmV nt)) (rdy og np 8).length):=x1
   rw[List.length_map]
   exact x1'
  ·rw[ad 7 (qb rfl)];exact x2
 ·replace q:=mO3 q
  rcases q with q|q|q
  ·exact hb (5,jn) (by simp[cpC]) (by rw[ad 5 (qb rfl)];exact q)
  ·exact hb (6,lO ((rdy og np 8).map (nmV nt)) ((rdy og np 8).map (nmV nt)).length) (by simp[cpC]) (by rw[ad 6 (qb rfl)];exact q)
  ·exact hb (7,ci (wf w a b c).params "i" (some lv)) (by simp[cpC]) (by rw[ad 7 (qb rfl)];exact q)
theorem jma{V:SV}{hh:Heap}{rg:Bool}(hrg:rg=true↔∃v,¬ck su v)(hw:V.w=wf w a b c)(hkt:V.kt=ktB (wf w a b c).params)(hV:V.pre=[L,S,Sd])(hsz:hh.objs.size=V.N)(oL:257≤L)(O:SO S Sd D lo)(H:Reg (wf w a b c).params nt lo D (ol og) np su nd 8 hh)(hLr:∀b,InReg D (ol og) nd b→b≠L)
  (hff:hh.FunFrames noBase outer) (hfs:fs=outer.filterMap (·.frame)) (hfo:∀x∈fs,257≤x∧¬InReg D (ol og) nd x∧x∉V.pre) :
  b9 V hh (fcC rg (wf w a b c).params q L S Sd D t1 t2 t3 r sl outer fs hh):=by
 intro A s hh' hf hd hu hs ht hb hkeep hpre
 have hs':s.heap.objs.size=V.N:=hs
 have p0:=hpre (0,_) (.head _)
 have p1:=hpre (1,_) (.tail _ (.head _))
 have p2:=hpre (2,_) (.tail _ (.tail _ (.head _)))
 have ad0:aj V.pre V.N 0=L:=by rw[hV];rfl
 have ad1:aj V.pre V.N 1=S:=by rw[hV];rfl
 have ad2:aj V.pre V.N 2=Sd:=by rw[hV];rfl
 rw[ad0] at p0
 rw[ad1] at p1
 rw[ad2] at p2
 rw[hkt] at hb
 have nreg:∀b,InReg D (ol og) nd b→b∉V.pre:=fun b hr=>by
  have h1:=O.reg H hr
  have h2:=hLr b hr
  rw[hV]
  refine nO3 ?_
  exact⟨h2,h1.1,h1.2⟩
 have nfs:∀b∈fs,b∉V.pre:=fun b hb=>(hfo b hb).2.2
 have Hs:=H.mono (h':=s.heap) (fun b ob e hr=>hkeep b ob e (nreg b hr)) (qy (qe hsz) hs')
 have ffo:∀(l:List Env),hh.FunFrames noBase l→(∀b∈l.filterMap (·.frame),b∈fs)→s.heap.FunFrames noBase l:=fun l=>by
  induction l with
  |nil=>exact fun _ _=>trivial
  |cons e l ih=>
   intro hF hm
   obtain⟨h1,⟨L',o,h2,h3,h4,h5⟩,h6⟩:=hF
   have hm':(e::l).filterMap (·.frame)=L'::l.filterMap (·.frame):=by rw[List.filterMap_cons,h2]
   rw[hm'] at hm
   exact⟨h1,⟨L',o,h2,h3,hkeep _ _ h4 (nfs _ (hm _ (.head _))),h5⟩,ih h6 fun b hb=>hm b (.tail _ hb)⟩
 have ff2:s.heap.FunFrames noBase (b5 L::outer):=⟨by rw[A4];exact(fun e=>by cases e),⟨L,_,rfl,cf _,p0,(fun vs e=>by cases e)⟩,ffo outer hff (fun b hb=>by rw[hfs];exact hb)⟩
 rw[hw]
 have fin:∀(h':Heap) (tk':Nat) (o:FcO),o.size=h'.objs.size→o.toks=tk'→OnlySlots (L::fs) s.heap h'→s.heap.objs.size≤h'.objs.size→(rg=true→o.xs≠[]∧o.xs.length≤9∧hh.objs.size≤o.cad)→h'.get? L=some (frS (wf w a b c).params [("self",t3,.ref S)] 1 o.sl) →
   (∀p∈jl7 rg o,h'.get? p.1=some p.2∧(V.N≤p.1))→((jl7 rg o).map (·.1)).Nodup →
   ∃o',(fcC rg (wf w a b c).params q L S Sd D t1 t2 t3 r sl outer fs hh).rel o'∧jj6 rg o=(fcC rg (wf w a b c).params q L S Sd D t1 t2 t3 r sl outer fs hh).res o'∧∃h'',({ s with heap:=h',toks:=tk' }:Shared)={ s with heap:=h'',toks:=(fcC rg (wf w a b c).params q L S Sd D t1 t2 t3 r sl outer fs hh).toks o' } ∧
    (fcC rg (wf w a b c).params q L S Sd D t1 t2 t3 r sl outer fs hh).facts o' h''∧h''.objs.size=(fcC rg (wf w a b c).params q L S Sd D t1 t2 t3 r sl outer fs hh).size o'∧s.heap.objs.size≤(fcC rg (wf w a b c).params q L S Sd D t1 t2 t3 r sl outer fs hh).size o' ∧
    (∀p∈(fcC rg (wf w a b c).params q L S Sd D t1 t2 t3 r sl outer fs hh).upd o',h''.get? (aj V.pre V.N p.1)=some p.2) ∧
    (∀p∈(fcC rg (wf w a b c).params q L S Sd D t1 t2 t3 r sl outer fs hh).new o',h''.get? p.1=some p.2∧(V.N+(fcC rg (wf w a b c).params q L S Sd D t1 t2 t3 r sl outer fs hh).i≤p.1∨(p.1<V.N∧p.1∉V.pre∧V.kt.get p.1=none))) ∧
    (((fcC rg (wf w a b c).params q L S Sd D t1 t2 t3 r sl outer fs hh).new o').map (·.1)).Nodup ∧
    (∀y o'',s.heap.get? y=some o''→(∀p∈(fcC rg (wf w a b c).params q L S Sd D t1 t2 t3 r sl outer fs hh).upd o',y≠aj V.pre V.N p.1)→¬(fcC rg (wf w a b c).params q L S Sd D t1 t2 t3 r sl outer fs hh).mod y→h''.get? y=some o''):=fun h' tk' o e1 e2 x1 x2 x3 x4 x5 x6=>by
  refine⟨o,zt,rfl,h',by subst e2;rfl,⟨fun b ob e hm=>?_,x3⟩,e1.symm,by rw[←e1] at x2;exact x2,fun p hp=>?_,fun p hp=>⟨(x5 p hp).1,.inl (x5 p hp).2⟩,x6,fun b o' e hne hm=>?_⟩
  ·obtain⟨sl',h1,_⟩:=x1 b ob (hkeep b ob e (nfs b hm))
   exact⟨sl',h1⟩
  ·rcases List.mem_singleton.mp hp with rfl
   rw[ad0];exact x4
  ·refine x1.keep e fun q=>?_
   rcases List.mem_cons.mp q with q|q
   ·exact hne _ (.head _) (by rw[ad0];exact q)
   ·exact hm q
 have mxL:∀h',OnlySlots (L::fs) s.heap h'→∃sl',h'.get? L=some (frS (wf w a b c).params [("self",t3,.ref S)] 1 sl'):=fun h' x1=>by
  obtain⟨sl',h1,_⟩:=x1 L _ p0
  exact⟨sl',h1⟩
 refine jpz (fs:=L::fs) (np:=np) (su:=su) (lo:=lo) (q:=q) ⟨hh',hd,hu⟩ (hf _ rfl) ff2 (by rw[hfs];rfl) ⟨hb⟩ p1 p2 O.s.1 O.d.1 Hs (fun x hx=>?_) (fun h' tk' x1 x2 x3 x4=>?_) (fun h' tk' cad xs y1 y2 y3 y4 y5 y6 y7 y8=>?_)
 ·rcases List.mem_cons.mp hx with rfl|hx
  ·exact⟨oL,fun hr=>hLr _ hr rfl⟩
  ·exact⟨(hfo x hx).1,(hfo x hx).2.1⟩
 ·have hr:rg=false:=by
   cases e:rg with
   |false=>rfl
   |true=>obtain⟨v,hv⟩:=hrg.mp e;exact absurd (x4 v) hv
  subst hr
  obtain⟨sl',h1⟩:=mxL h' x1
  exact fin h' tk' ⟨sl',h'.objs.size,tk',0,[]⟩ rfl rfl x1 x3 (fun e=>nomatch e) h1 (fun p hp=>nomatch hp) List.Pairwise.nil
 ·have hr:rg=true:=hrg.mpr y8
  subst hr
  obtain⟨sl',h1⟩:=mxL h' y4
  refine fin h' tk' ⟨sl',h'.objs.size,tk',cad,xs⟩ rfl rfl y4 y7 (fun _=>⟨y2,y3,by show hh.objs.size≤cad;exact(qc (qy (qe hsz) hs') y6)⟩) h1 (fun p hp=>?_) (List.pairwise_singleton ..)
  rcases List.mem_singleton.mp hp with rfl
  exact⟨y1,by rw[←hs'];exact y6⟩
end
section
variable{w:World}{a b c:Bool}{nt:Fin 8→Nat}{og:Fin 8→Fin 8}{nd:Fin 8→Nd}{np:Fin 8→Int}{su:Fin 8→List (Fin 8)}{A:Around}{s:Shared}{outer:List Env}{R:Result→Shared→Prop}{S Sd D lo t1 t2:Nat}{q:Nat→Nat}{fs:List Nat}
theorem dr{n:Nat}{w:World}{pre:List (Nat×Obj)}{N t₀:Nat}{scr:Script}{B X:Cx}{l:List Stmt}{env:Env}{A C:Around}{Q:Flow→Shared→Prop}{E:Value→Shared→Prop}{s:Shared}{modA:Addr→Prop}
  (H:dh n (mkV w pre N t₀) pre scr B X (ar l env)=rhs scr (mkV w pre N t₀)) (P:Pre w pre N t₀ s) (hB:B.Ok A) (hX:X.Ok C) (G:Goal w A (fun r s'=>match r with|.ok f=>Q f s'|.error e=>E e s') (ae s) s.heap modA scr (mkV w pre N t₀) s.heap) :
  wpAny (model PG w) C (execs l env) Q E s:=jr H P hB hX G
noncomputable def GoalS(w:World)(B₀:Around)(R₀:Result→Shared→Prop)(z:Rest0)(hi:Heap)(modA:Addr→Prop):Script→SV→Heap→Prop
 |.fin _ cs W,V,h₀=>dx V h₀ cs∧∀s':Shared,ae s'=z→s'.heap.objs.size=V.N+W.i→(∀p∈W.ex,s'.heap.get? (aj V.pre V.N p.1)=some p.2) →
   ma V h₀ s'.heap→(∀b o',hi.get? b=some o'→b∉V.pre→¬modA b→s'.heap.get? b=some o')→zs w B₀ R₀ W.out s'
 |.call _ cs C next,V,h₀=>dx V h₀ cs∧b9 V h₀ C∧vg V C∧(∀b,C.mod b→modA b)∧∀o h',C.rel o→C.facts o h'→h'.objs.size=C.size o→V.N+C.i≤C.size o→(∀p∈C.upd o,h'.get? (aj V.pre V.N p.1)=some p.2) →
   (∀p∈C.pre,(∀u∈C.upd o,p.1≠u.1)→h'.get? (aj V.pre V.N p.1)=some p.2)→(∀p∈C.new o,h'.get? p.1=some p.2)→(∀b o',h₀.get? b=some o'→b∉V.pre→¬C.mod b→h'.get? b=some o') →
   (∀b o',hi.get? b=some o'→b∉V.pre→¬modA b→h'.get? b=some o')→GoalS w B₀ R₀ z hi modA (next o) (d5 V C o) h'
theorem GoalS.goal{w:World}{B₀:Around}{R₀:Result→Shared→Prop}{z:Rest0}{hi:Heap}{modA:Addr→Prop}:∀{scr:Script} {V:SV} {h₀:Heap},GoalS w B₀ R₀ z hi modA scr V h₀→Goal w B₀ R₀ z hi modA scr V h₀
 |.fin ..,_,_,G=>⟨G.1,fun h' a b c d=>G.2 (z.at h' _) rfl a b c d⟩
 |.call ..,_,_,G=>⟨G.1,G.2.1,G.2.2.1,G.2.2.2.1,fun o h' a b c d e f g i j=>(G.2.2.2.2 o h' a b c d e f g i j).goal⟩
theorem eb{n:Nat}{w:World}{pre:List (Nat×Obj)}{N t₀:Nat}{scr:Script}{B X:Cx}{l:List Stmt}{env:Env}{A C:Around}{Q:Flow→Shared→Prop}{E:Value→Shared→Prop}{s:Shared}{modA:Addr→Prop}
  (H:dh n (mkV w pre N t₀) pre scr B X (ar l env)=rhs scr (mkV w pre N t₀)) (P:Pre w pre N t₀ s) (hB:B.Ok A) (hX:X.Ok C) (G:GoalS w A (fun r s'=>match r with|.ok f=>Q f s'|.error e=>E e s') (ae s) s.heap modA scr (mkV w pre N t₀) s.heap) :
  wpAny (model PG w) C (execs l env) Q E s:=jr H P hB hX G.goal
structure PrO(P:Params)(nt:Fin 8→Nat)(og:Fin 8→Fin 8)(np:Fin 8→Int)(q:Nat→Nat)(Sd D t1 t2:Nat)(fs:List Nat)(h h':Heap):Prop where
 based:Based P h'
 size:h.objs.size≤h'.objs.size
 keep:SlotsBut Sd fs h h'
 rd:∃rl:Nat,h.objs.size≤rl∧h'.get? Sd=some (sD P q D (.ref rl) 0 0 t1 t2)∧h'.get? rl=some (lO ((rdy og np 8).map (nmV nt)) (rdy og np 8).length)
theorem jn2(hA:Room A 600 6000)(hfr:A.frames=some outer)(hff:s.heap.FunFrames noBase outer)(hfs:fs=outer.filterMap (·.frame))(B:Based (wf w a b c).params s.heap)(hS:s.heap.get? S=some (sO Sd))(hSd:s.heap.get? Sd=some (sD (wf w a b c).params q D .none 0 0 t1 t2))
  (O:SO S Sd D lo) (H:Reg (wf w a b c).params nt lo D (ol og) np su nd 8 s.heap) (hfo:∀x∈fs,257≤x∧¬InReg D (ol og) nd x∧x≠S∧x≠Sd)
  (hN:∀h' tk',PrO (wf w a b c).params nt og np q Sd D t1 t2 fs s.heap h'→(∀v,ck su v)→R (rv .none) { s with heap:=h',toks:=tk' })
  (hC:∀h' tk' (e:Nat),PrO (wf w a b c).params nt og np q Sd D t1 t2 fs s.heap h'→s.heap.objs.size≤e→TracedAt s.heap.objs.size h' e (.ref 120)→(∃v,¬ck su v)→R (.error (.ref e)) { s with heap:=h',toks:=tk' }) :
  codeAny (model PG (wf w a b c)) A (.call (.ref 157) ⟨[.ref S],[]⟩) R s:=by
 have hD:=H.offD
 have hDl:=H.ltD
 have hlo:=H.size
 have h257:257≤s.heap.objs.size:=(qv (qc (ql hD hDl) hlo))
 have oS:=O.s
 have oD:=O.d
 refine dg (jdc S A.frames) (ag (w:=wf w a b c) (pre:=[]) B h257 zt zt zt) (Room.cx (hA.mono (qb rfl) (qb rfl)))  rfl zt (chg:=[]) zt fun s1 P1b P1z K1' r1 P1x=>?_
 have hs1:s1.heap.objs.size=s.heap.objs.size+1:=P1z
 have hL:s1.heap.get? s.heap.objs.size=some (frS (wf w a b c).params [("self",s.toks,.ref S)] 1 #[]):=P1x 0 _ _ (s.heap.objs.size) rfl rfl
 generalize hLN:s.heap.objs.size=L at *
 generalize ht3:s.toks=t3 at *
 show codeAny _ A (.func prS (b5 L)) R s1
 refine codeAny_func ?_
 have hA2:Room (A.deeper (b5 L)) 620 6200:=(hA.deeper _).mono (qb rfl) (qb rfl)
 have hfr2:(A.deeper (b5 L)).frames=some (b5 L::outer):=by
  show A.frames.map _=_
  rw[hfr];rfl
 generalize A.deeper (b5 L)=A2 at hA2 hfr2
 first|refine xq1 nh ?_|refine xq2 nh ?_|refine xq3 nh ?_|rw[nh]
 refine ah _ _ ?_
 have kS:∀{b:Nat} {o:Obj},s.heap.get? b=some o→s1.heap.get? b=some o:=fun{b o} e=>K1' b o e n0m
 have ltS:@LT.lt Nat _ S s.heap.objs.size:=Heap.lt_size hS
 have ltSd:@LT.lt Nat _ Sd s.heap.objs.size:=Heap.lt_size hSd
 have neSSd:S≠Sd:=fun e=>by subst e;rw[hS] at hSd;cases hSd
 refine bc (jc9 none A2.frames) (ag (w:=wf w a b c) (pre:=[(L,frS (wf w a b c).params [("self",t3,.ref S)] 1 #[]),(S,sO Sd),(Sd,sD (wf w a b c).params q D .none 0 0 t1 t2)]) P1b (qc (qb rfl) (qq (qc (ql hD hDl) hlo) P1z)) ⟨hL,kS hS,kS hSd,zt⟩ (f0 (by omega) oS.1 oD.1) ⟨⟨zt,(by show@Ne Nat _ _;exact(qj (qx ltSd hLN))),zt⟩,⟨zt,zt⟩,zt,zt⟩) hA2.cx hA2.cx rfl zt (chg:=[]) ⟨.inl rfl,.inl rfl,.inl rfl,zt⟩ fun s2 P3b P3z K4 r3 P3x=>?_
 have kS2:∀{b:Nat} {o:Obj},s1.heap.get? b=some o→s2.heap.get? b=some o:=fun{b o} e=>K4 b o e n0m
 have hs2:s2.heap.objs.size=s1.heap.objs.size:=P3z
 refine ah _ _ ?_
 have H2:Reg (wf w a b c).params nt lo D (ol og) np su nd 8 s2.heap:=H.mono (fun b ob e _=>kS2 (kS e)) (qv (qy (qq (qe hLN) P1z) P3z))
 have P4:Pre (wf w a b c) (vn (wf w a b c).params nt q S Sd D L t1 t2 t3 og nd #[]) s2.heap.objs.size s2.toks s2:=
  ag P3b (qc (qb rfl) (qy (qq (qc (ql hD hDl) hlo) P1z) P3z)) ⟨kS2 hL,kS2 (kS hS),kS2 (kS hSd),H2.d,zt⟩ (r0 (by omega) oS.1 oD.1 (by omega)) ⟨⟨zt,(by show@Ne Nat _ _;exact(qj (qx ltSd hLN))),(by show@Ne Nat _ _;exact(qj (qc hDl hlo))),zt⟩,⟨zt,zt,zt⟩,⟨oD.2.2,zt⟩,zt,zt⟩
 have hLr:∀b,InReg D (ol og) nd b→b≠L:=fun b hb e=>by
  have:=(H.lt hb).1
  have e':@Eq Nat b L:=e
  exact(qf (qy (qx this hLN) e))
 refine eb (modA:=fun _=>False) (jdj (rl:=(rdy og np 8).map (nmV nt)) A2.frames) P4 hA2.cx hA2.cx ⟨⟨jmb rfl rfl (ga hD) rfl,zt⟩,jnb rfl rfl rfl rfl rfl (qy (qg P1z) P3z) O H2 hLr,(fun b hb=>hb.elim),(fun b hb=>hb),fun o h3 _ _ hsz3 hle3 _ _ _ _ _=>⟨zt,fun s4 r4z hsz4 hex hkept hacc=>?_⟩⟩
 have hle3':s2.heap.objs.size+4≤o.size:=hle3
 have hsz4':s4.heap.objs.size=o.size+0:=hsz4
 generalize hN2:s2.heap.objs.size=N2 at *
 have x0:s4.heap.get? L=some (frS (wf w a b c).params [("self",t3,.ref S)] 1 #[]):=hex (0,_) (.head _)
 have x1:s4.heap.get? S=some (sO Sd):=hex (1,_) (.tail _ (.head _))
 have x2:s4.heap.get? Sd=some (sD (wf w a b c).params q D (.ref (N2+2)) 0 0 t1 t2):=hex (2,_) (.tail _ (.tail _ (.head _)))
 have x3:s4.heap.get? D=some (dO (wf w a b c).params nt (aq (ol og) nd) 8):=hex (3,_) (.tail _ (.tail _ (.tail _ (.head _))))
 have x4:s4.heap.get? (N2+2)=some (lO ((rdy og np 8).map (nmV nt)) ((rdy og np 8).map (nmV nt)).length):=hex (6,_) (.tail _ (.tail _ (.tail _ (.tail _ (.head _)))))
 rw[List.length_map] at x4
 have K5:af [Sd] s.heap s4.heap:=fun y o' e hy=>by
  have e2:=kS2 (kS e)
  have hly:@LT.lt Nat _ y s.heap.objs.size:=Heap.lt_size e
  by_cases e3:y=D
  ·subst e3
   have e4:=H2.d
   rw[e2] at e4;cases e4;exact x3
  by_cases e4:y=S
  ·exact sg hS x1 e e4
  refine hacc y o' e2 (fun hm=>?_) (fun q=>q)
  have hm':y∈[L,S,Sd,D,N2+0,N2+1,N2+2,N2+3]:=hm
  replace hm':=mO8 hm'
  rcases hm' with q|q|q|q|q|q|q|q
  ·have q':@Eq Nat y L:=q;exact(qf (qy (qx hly hLN) q))
  ·exact e4 q
  ·exact hy (List.mem_singleton.mpr q)
  ·exact e3 q
  ·have q':@Eq Nat y (N2+0):=q;exact(qn (k:=1) (ql (qy (qy (qq (qe hLN) P1z) P3z) q) hly))
  ·have q':@Eq Nat y (N2+1):=q;exact(qn (k:=2) (ql (qq (qy (qq (qe hLN) P1z) P3z) q) hly))
  ·have q':@Eq Nat y (N2+2):=q;exact(qn (k:=3) (ql (qk (k:=2) (qy (qq (qe hLN) P1z) P3z) (qg q)) hly))
  ·have q':@Eq Nat y (N2+3):=q;exact(qn (k:=4) (ql (qk (k:=3) (qy (qq (qe hLN) P1z) P3z) (qg q)) hly))
 have h4sz:N2+4≤s4.heap.objs.size:=(qy hle3' hsz4')
 have B4:Based (wf w a b c).params s4.heap:=dw B (pr:=[Sd]) (m:=fun _=>False) (fun y hy=>by rw[List.mem_singleton.mp hy];exact oD.1) (fun _ q=>q.elim) (fun b o e hb _=>K5 b o e hb)
 have H4:Reg (wf w a b c).params nt lo D (ol og) np su nd 8 s4.heap:=H.mono (fun b ob e hb=>K5 b ob e (du ((O.reg H hb).2))) (qw (k:=5) (qy (qk (k:=4) (qy (qq (qe hLN) P1z) P3z) hle3') hsz4'))
 have S4:SlotsBut Sd fs s.heap s4.heap:=fun y o' e hy=>⟨o'.slots,K5 y o' e (du hy),fun _=>rfl⟩
 have SdF:Sd∉fs:=fun hm=>(hfo Sd hm).2.2.2 rfl
 have ff4:s4.heap.FunFrames noBase outer:=S4.funFrames (by rw[←hfs];exact SdF) hff
 show wpAny _ A2 (execs ([ak prS 2]++[ak prS 3]) (b5 L)) _ _ _
 refine ah _ _ ?_
 have hfo4:∀x∈fs,257≤x∧¬InReg D (ol og) nd x∧x∉[L,S,Sd]:=fun x hx=>by
  have h1:=hfo x hx
  have h2:=bo hff x (by rw[←hfs];exact hx)
  refine⟨h1.1,h1.2.1,?_⟩
  refine nO3 ?_
  exact⟨(qh (qx h2 hLN)),h1.2.2⟩
 have r4:ae s4=ae s:=r4z.trans (r3.trans r1)
 obtain⟨rg,hrg⟩:∃rg:Bool,rg=true↔∃v,¬ck su v:=by
  by_cases h:∃v,¬ck su v
  ·exact⟨true,⟨fun _=>h,fun _=>rfl⟩⟩
  ·exact⟨false,⟨(fun e=>by cases e),fun e=>absurd e h⟩⟩
 have P5:Pre (wf w a b c) (ng (wf w a b c).params q S Sd D L t1 t2 t3 (.ref (N2+2)) #[]) s4.heap.objs.size s4.toks s4:=
  ag B4 (qc (qb rfl) (qy (qk (k:=4) (qy (qq (qc (ql hD hDl) hlo) P1z) P3z) hle3') hsz4')) ⟨x0,x1,x2,zt⟩ (f0 (by omega) oS.1 oD.1) ⟨⟨zt,(by show@Ne Nat _ _;exact(qj (qx ltSd hLN))),zt⟩,⟨zt,zt⟩,zt,zt⟩
 have hcx:Cx.Ok ⟨none,620,6200,some (b5 L::outer)⟩ A2:=by rw[←hfr2];exact hA2.cx
 have hmod:∀y,y∈fs→y∉[L,S,Sd]∧y<s4.heap.objs.size∧(ktB (wf w a b c).params).get y=none:=fun y hy=>⟨(hfo4 y hy).2.2,by
  have h2:=bo hff y (by rw[←hfs];exact hy)
  exact(qw (k:=5) (qy (qk (k:=4) (qy (qq (qx h2 hLN) P1z) P3z) hle3') hsz4')),bv (.inl (hfo4 y hy).1)⟩
 have callOk:=jma (V:=mkV (wf w a b c) (ng (wf w a b c).params q S Sd D L t1 t2 t3 (.ref (N2+2)) #[]) s4.heap.objs.size s4.toks) (q:=q) (t1:=t1) (t2:=t2) (t3:=t3) (r:=.ref (N2+2)) (sl:=#[]) (rg:=rg) hrg rfl rfl rfl rfl (by omega) O H4 hLr ff4 hfs hfo4
 have after:∀(s6:Shared) (sl6:Array (Option Value)),ae s6=ae s→s4.heap.objs.size≤s6.heap.objs.size→s6.heap.get? Sd=some (sD (wf w a b c).params q D (.ref (N2+2)) 0 0 t1 t2)→(∀y o',s4.heap.get? y=some o'→y∉L::fs→s6.heap.get? y=some o')→(∀y o',s4.heap.get? y=some o'→y∈fs→∃sl,s6.heap.get? y=some { o' with slots:=sl }) →
   PrO (wf w a b c).params nt og np q Sd D t1 t2 fs s.heap s6.heap∧s6.heap.FunFrames noBase outer:=fun s6 sl6 r6 hs6 xd xk xf=>by
  have OS:∀y o',s4.heap.get? y=some o'→y≠L→∃sl,s6.heap.get? y=some { o' with slots:=sl }∧(y∉fs→sl=o'.slots):=fun y o' e hy=>by
   by_cases hm:y∈fs
   ·obtain⟨sl,h⟩:=xf y o' e hm
    exact⟨sl,h,fun q=>absurd hm q⟩
   ·exact⟨o'.slots,xk y o' e (by rw[List.mem_cons,not_or];exact⟨hy,hm⟩),fun _=>rfl⟩
  have S6:SlotsBut Sd fs s.heap s6.heap:=fun y o' e hy=>by
   obtain⟨sl,h1,h2⟩:=S4 y o' e hy
   have hly:@LT.lt Nat _ y s.heap.objs.size:=Heap.lt_size e
   obtain⟨sl',h3,h4⟩:=OS y _ h1 (fun q=>by have q':@Eq Nat y L:=q;exact(qf (qy (qx hly hLN) q)))
   exact⟨sl',h3,fun hm=>(h4 hm).trans (h2 hm)⟩
  refine⟨⟨⟨fun y o' e=>?_⟩,(qw (k:=5) (qc (qy (qk (k:=4) (qy (qq (qe hLN) P1z) P3z) hle3') hsz4') hs6)),S6,N2+2,(qr (k:=2) (qv (qy (qq (qe hLN) P1z) P3z))),xd,xk _ _ x4 ?_⟩,S6.funFrames (by rw[←hfs];exact SdF) hff⟩
  ·have hy:y<257:=bm e
   refine xk _ _ (B4.kt y o' e) ?_
   rw[List.mem_cons,not_or]
   exact⟨fun q=>by have q':@Eq Nat y L:=q;exact(qz (ql (qy (qc (ql hD hDl) hlo) q) hy) rfl),fun q=>by have:=(hfo y q).1;exact(qf (qc hy this))⟩
  ·rw[List.mem_cons,not_or]
   refine⟨fun q=>by have q':@Eq Nat (N2+2) L:=q;exact(qn (k:=2) (qy (qq (qe q) P1z) P3z)),fun q=>?_⟩
   have:=bo hff (N2+2) (by rw[←hfs];exact q)
   have e':@LT.lt Nat _ (N2+2) s.heap.objs.size:=this
   exact(qn (k:=3) (qk (k:=3) (qy (qq (qe hLN) P1z) P3z) this))
 cases rg with
 |false=>
  refine eb (modA:=fun y=>y∈fs) (vl false) P5 hcx hcx ⟨zt,callOk,hmod,(fun y hy=>hy),fun o5 h5 _ hf5 hsz5 hle5 _ _ _ _ _=>⟨zt,fun s6 r6z hsz6 hex6 hkept6 hacc6=>?_⟩⟩
  have hsz5':h5.objs.size=o5.size:=hsz5
  have hle5':s4.heap.objs.size+0≤o5.size:=hle5
  have hsz6':s6.heap.objs.size=o5.size+0:=hsz6
  have y0:s6.heap.get? L=some (frS (wf w a b c).params [("self",t3,.ref S),("cycle",o5.toks,.none)] 2 o5.sl):=hex6 (0,_) (.head _)
  have y1:s6.heap.get? S=some (sO Sd):=hex6 (1,_) (.tail _ (.head _))
  have y2:s6.heap.get? Sd=some (sD (wf w a b c).params q D (.ref (N2+2)) 0 0 t1 t2):=hex6 (2,_) (.tail _ (.tail _ (.head _)))
  have xk:∀y o',s4.heap.get? y=some o'→y∉L::fs→s6.heap.get? y=some o':=fun y o' e hy=>by
   rw[List.mem_cons,not_or] at hy
   by_cases e1:y=S
   ·exact sg x1 y1 e e1
   by_cases e2:y=Sd
   ·exact sg x2 y2 e e2
   refine hacc6 y o' e (fun hm=>?_) hy.2
   have hm':y∈[L,S,Sd]:=hm
   replace hm':=mO3 hm'
   rcases hm' with q|q|q
   ·exact hy.1 q
   ·exact e1 q
   ·exact e2 q
  have xf:∀y o',s4.heap.get? y=some o'→y∈fs→∃sl,s6.heap.get? y=some { o' with slots:=sl }:=fun y o' e hm=>by
   obtain⟨sl,h⟩:=hf5.1 y o' e hm
   exact⟨sl,hkept6 y _ h (fun hmm=>(hfo4 y hm).2.2 (by
    have:y∈[L,S,Sd]:=hmm
    exact this))⟩
  have r6:ae s6=ae s:=r6z.trans (r4)
  obtain⟨F6,ff6⟩:=after s6 o5.sl r6 (qy hle5' hsz6') y2 xk xf
  refine bc (jdf none A2.frames) (ag (w:=wf w a b c) (pre:=[(L,frS (wf w a b c).params [("self",t3,.ref S),("cycle",o5.toks,.none)] 2 o5.sl)]) F6.based (qc (qb rfl) (qy (qc (qy (qk (k:=4) (qy (qq (qc (ql hD hDl) hlo) P1z) P3z) hle3') hsz4') hle5') hsz6')) ⟨y0,zt⟩ (b6 (by omega)) ⟨zt,zt⟩) hA2.cx hA2.cx rfl zt (chg:=[]) ⟨.inl rfl,zt⟩ fun s7 P7b P7z K8 r7 P7x=>?_
  obtain⟨rl,z1,z2,z3⟩:=F6.rd
  have F7:PrO (wf w a b c).params nt og np q Sd D t1 t2 fs s.heap s7.heap:=⟨P7b,by have:=F6.size;have e7:s7.heap.objs.size=s6.heap.objs.size:=P7z;exact(qw (k:=5) (qy (qy (qc (qy (qk (k:=4) (qy (qq (qe hLN) P1z) P3z) hle3') hsz4') hle5') hsz6') P7z)),F6.keep.keep K8 (fun y hy=>nomatch hy),rl,z1,K8 _ _ z2 n0m,K8 _ _ z3 n0m⟩
  have he:∀v,ck su v:=fun v=>Classical.byContradiction fun h=>by
   have:=hrg.mpr ⟨v,h⟩
   cases this
  have:=hN s7.heap s7.toks F7 he
  rw[←cm (r7.trans r6)] at this
  exact this
 |true=>
  refine eb (modA:=fun y=>y∈fs) (vl true) P5 hcx hcx ⟨zt,callOk,hmod,(fun y hy=>hy),fun o5 h5 _ hf5 hsz5 hle5 _ _ hnew5 _ _=>⟨zt,fun s6 r6z hsz6 hex6 hkept6 hacc6=>?_⟩⟩
  have hsz5':h5.objs.size=o5.size:=hsz5
  have hle5':s4.heap.objs.size+0≤o5.size:=hle5
  have hsz6':s6.heap.objs.size=o5.size+0:=hsz6
  have y0:s6.heap.get? L=some (frS (wf w a b c).params [("self",t3,.ref S),("cycle",o5.toks,.ref o5.cad)] 2 o5.sl):=hex6 (0,_) (.head _)
  have y1:s6.heap.get? S=some (sO Sd):=hex6 (1,_) (.tail _ (.head _))
  have y2:s6.heap.get? Sd=some (sD (wf w a b c).params q D (.ref (N2+2)) 0 0 t1 t2):=hex6 (2,_) (.tail _ (.tail _ (.head _)))
  have y3:s6.heap.get? o5.cad=some (lO o5.xs 0):=hex6 (3,_) (.tail _ (.tail _ (.tail _ (.head _))))
  obtain⟨hx1,hx2,hcad⟩:=hf5.2 rfl
  have xk:∀y o',s4.heap.get? y=some o'→y∉L::fs→s6.heap.get? y=some o':=fun y o' e hy=>by
   rw[List.mem_cons,not_or] at hy
   by_cases e1:y=S
   ·exact sg x1 y1 e e1
   by_cases e2:y=Sd
   ·exact sg x2 y2 e e2
   refine hacc6 y o' e (fun hm=>?_) hy.2
   have hm':y∈[L,S,Sd,o5.cad]:=hm
   replace hm':=mO4 hm'
   have hlt:@LT.lt Nat _ y s4.heap.objs.size:=Heap.lt_size e
   rcases hm' with q|q|q|q
   ·exact hy.1 q
   ·exact e1 q
   ·exact e2 q
   ·have q':@Eq Nat y o5.cad:=q;exact(qf (ql (qy hcad q) hlt))
  have xf:∀y o',s4.heap.get? y=some o'→y∈fs→∃sl,s6.heap.get? y=some { o' with slots:=sl }:=fun y o' e hm=>by
   obtain⟨sl,h⟩:=hf5.1 y o' e hm
   refine⟨sl,hkept6 y _ h (fun hmm=>?_)⟩
   have h7:y∈[L,S,Sd,o5.cad]:=hmm
   have:=(hfo4 y hm).2.2
   replace h7:=mO4 h7
   replace this:=xO3 this
   have hlt:@LT.lt Nat _ y s4.heap.objs.size:=Heap.lt_size e
   rcases h7 with q|q|q|q
   ·exact this.1 q
   ·exact this.2.1 q
   ·exact this.2.2 q
   ·have q':@Eq Nat y o5.cad:=q;exact(qf (ql (qy hcad q) hlt))
  have r6:ae s6=ae s:=r6z.trans (r4)
  obtain⟨F6,ff6⟩:=after s6 o5.sl r6 (qy hle5' hsz6') y2 xk xf
  first|refine xq1 ka ?_|refine xq2 ka ?_|refine xq3 ka ?_|rw[ka]
  refine wpAny_execs_cons (wpAny_If ?_)
  refine ug (jc3 none A2.frames o5.xs hx1 hx2) (ag (w:=wf w a b c) (pre:=[(L,frS (wf w a b c).params [("self",t3,.ref S),("cycle",o5.toks,.ref o5.cad)] 2 o5.sl),(o5.cad,lO o5.xs 0)]) F6.based (qc (qb rfl) (qy (qc (qy (qk (k:=4) (qy (qq (qc (ql hD hDl) hlo) P1z) P3z) hle3') hsz4') hle5') hsz6')) ⟨y0,y3,zt⟩ (gx (by omega) (qc (qb rfl) (qc (qy (qk (k:=4) (qy (qq (qc (ql hD hDl) hlo) P1z) P3z) hle3') hsz4') hcad))) ⟨⟨zt,zt⟩,zt,zt⟩) hA2.cx hA2.cx rfl zt (chg:=[]) ⟨.inl rfl,.inl rfl,zt⟩ fun s7 P7b P7z K8 r7 P7x=>?_
  first|refine itp rfl ?_|rw[if_pos rfl]
  have hs7:s7.heap.objs.size=s6.heap.objs.size:=P7z
  have P8:=ag (w:=wf w a b c) (pre:=[(L,frS (wf w a b c).params [("self",t3,.ref S),("cycle",o5.toks,.ref o5.cad)] 2 o5.sl)]) P7b (qc (qb rfl) (qy (qy (qc (qy (qk (k:=4) (qy (qq (qc (ql hD hDl) hlo) P1z) P3z) hle3') hsz4') hle5') hsz6') P7z)) ⟨K8 _ _ y0 n0m,zt⟩ (b6 (by omega)) ⟨zt,zt⟩
  refine jq (jc6 A2.frames) P8 hA2.cx hA2.cx rfl ⟨jkv (by kernel_rfl) rfl,zt⟩ fun s9 P9 K9 r9=>?_
  have K10:af [] s7.heap s9.heap:=am P8 P9.has K9 ⟨.inl rfl,zt⟩
  have hs9:s9.heap.objs.size=s7.heap.objs.size+3:=P9.size
  have he:s9.heap.get? (s7.heap.objs.size+1)=some (cyE (s7.heap.objs.size+2)):=P9.has (s7.heap.objs.size+1,_) (.tail _ (.head _))
  have K11:af [] s6.heap s9.heap:=fun y o' e _=>K10 _ _ (K8 _ _ e n0m) n0m
  have yL:=K11 _ _ y0 n0m
  have ff9:s9.heap.FunFrames noBase (b5 L::outer):=⟨by rw[A4];exact(fun e=>by cases e),⟨L,_,rfl,cf _,yL,(fun vs e=>by cases e)⟩,ff6.of_keeps fun y o' e _=>⟨o',K11 _ _ e n0m,rfl⟩⟩
  show wpAny _ A2 (leaving (b5 L) (.ref (s7.heap.objs.size+1))) _ _ s9
  unfold leaving
  refine wpAny_bind (fg hfr2 ff9 rfl he rfl rfl fun h10 N10 T10 F10=>?_)
  have hfL:(b5 L::outer).filterMap (·.frame)=L::fs:=by rw[hfs];rfl
  rw[hfL] at N10
  have hs10:=N10.size
  obtain⟨rl,z1,z2,z3⟩:=F6.rd
  have old:∀y o',s6.heap.get? y=some o'→y∉L::fs→h10.get? y=some o':=fun y o' e hy=>N10.keep y o' (K11 y o' e n0m) hy (fun q=>by
   have hly:@LT.lt Nat _ y s6.heap.objs.size:=Heap.lt_size e
   have q':@Eq Nat y (s7.heap.objs.size+1):=q
   exact(qn (k:=1) (qq (qy hly P7z) q)))
  have nL:∀y:Nat,y≠L→y∉fs→y∉L::fs:=fun y h1 h2=>by rw[List.mem_cons,not_or];exact⟨h1,h2⟩
  have F10':PrO (wf w a b c).params nt og np q Sd D t1 t2 fs s.heap h10:=by
   refine⟨⟨fun y o' e=>?_⟩,by have:=F6.size;exact(qw (k:=8) (qc (qk (k:=3) (qy (qy (qc (qy (qk (k:=4) (qy (qq (qe hLN) P1z) P3z) hle3') hsz4') hle5') hsz6') P7z) (qg hs9)) hs10)),fun y o' e hy=>?_,rl,z1,old _ _ z2 (nL _ (qh (qx ltSd hLN)) SdF),old _ _ z3 (nL _ (fun q=>?_) (fun q=>?_))⟩
   ·have hy:y<257:=bm e
    exact old _ _ (F6.based.kt y o' e) (nL _ (qh (qv (qc (ql (qc hy hD) hDl) hlo))) (fun q=>by have:=(hfo y q).1;exact(qf (qc hy this))))
   ·obtain⟨sl,h1,h2⟩:=F6.keep y o' e hy
    have hly:@LT.lt Nat _ y s.heap.objs.size:=Heap.lt_size e
    have h3:=K11 _ _ h1 n0m
    by_cases hm:y∈fs
    ·obtain⟨sl',h4⟩:=N10.slots y _ h3 (.tail _ hm)
     exact⟨sl',h4,fun q=>absurd hm q⟩
    ·exact⟨sl,old y _ h1 (nL _ (fun q=>by have q':@Eq Nat y L:=q;exact(qf (qy (qx hly hLN) q))) hm),h2⟩
   ·exact ao z3 y0 rfl q
   ·have:=bo hff rl (by rw[←hfs];exact q)
    have e':@LT.lt Nat _ rl s.heap.objs.size:=this
    exact(qf (ql z1 this))
  have T11:TracedAt L h10 (s7.heap.objs.size+1) (.ref 120):=by
   obtain⟨oe,vs,TB,oT,ts,t1,t2,t3,t4,t5,t6,t7,t8,t9⟩:=T10.ex
   have t6':@LE.le Nat _ s9.heap.objs.size TB:=t6
   exact⟨oe,vs,TB,oT,ts,t1,t2,t3,t4,t5,by show@LE.le Nat _ L TB;exact(qw (k:=8) (qc (qk (k:=3) (qy (qy (qc (qy (qk (k:=4) (qy (qg P1z) P3z) hle3') hsz4') hle5') hsz6') P7z) (qg hs9)) t6)),t7,t8,t9⟩
  have:=hC h10 s9.toks (s7.heap.objs.size+1) F10' (qr (k:=1) (qw (k:=5) (qy (qy (qc (qy (qk (k:=4) (qy (qg P1z) P3z) hle3') hsz4') hle5') hsz6') P7z))) T11 (hrg.mp rfl)
  have rr:=r9.trans (r7.trans r6)
  have e1:({ s9 with heap:=h10 }:Shared)={ s with heap:=h10,toks:=s9.toks }:=by
   have:=cm rr
   rw[this]
  rw[←e1] at this
  exact this
end
noncomputable def lrS:List Stmt:=d6 (st1 25)
theorem oj:lrS=[ak lrS 0]++([ak lrS 1]++([ak lrS 2]++([ak lrS 3]++[ak lrS 4]))):=by kernel_rfl
theorem kc:ak lrS 1=.For (teS (fnS 25 1)) (fi (fnS 25 1)) (inS (fnS 25 1)) (elS (fnS 25 1)) (gy (fnS 25 1)):=by kernel_rfl
theorem E5(it L:Nat)(env:Env):l9 (fnS 25 1) (.ref it) env=.forLoop (teS (fnS 25 1)) (.ref it) (inS (fnS 25 1)) (elS (fnS 25 1)) env:=by kernel_rfl
noncomputable def lrQ(t:Nat):Nat→Nat
 |0=>t+3
 |1=>t+5
 |2=>t+8
 |_=>t+11
noncomputable def lrF(t1 t2 t:Nat):Nat→Nat
 |0=>t1
 |1=>t2
 |n+2=>t+12+n
noncomputable def lrZ(L M T t1 t2 it:Nat):LR:=⟨L,it,M+1,M,M+3,M+4,M+5,it+1,T+6,T+9,lrF t1 t2 T,lrQ T⟩
noncomputable def rgO(t:Nat):Obj:=⟨.type "range",none,.fields #[.int 7 t,.int (-1) (t+2),.int (-1) (t+4)],#[]⟩
section
variable{w:World}{a b c:Bool}{L N t₀ t1 t2 rg t it:Nat}{p:Par}
noncomputable def av(L:Nat):Env:=xq 25 "_law_run.<locals>." L 241 240
noncomputable def jet:List Nat:=dH 159 2416992562351275848556571852514116088943143772995890996934233320368705479725304213336088620926404090129307138037701382801175103223573422540440376696401961928777859878556376602085929354696325215900217739213627946845607584762103502117130586347499009953108283654064636059461182205078798336
noncomputable def jeu:List CH:=[.p,.p,.p,.p,.p,.f,.p,.p,.p,.p,.p,.p,.p,.p,.p,.p,.p,.p,.p,.p,.p,.p,.p,.p,.p,.p,.p]
theorem jes(ff:Option (List Env)):au 400 (wf w a b c) N t₀ ([(L,frO (wf w a b c).params [("names",t1,.ref p.NM),("numbers",t2,.ref p.NL)] 2)]) (.fin jet jeu ⟨.ok (.done .next),[(0,frO (wf w a b c).params (fr6 p (lrZ L N t₀ t1 t2 it) false) 6),(1,sD (wf w a b c).params (lrQ t₀) (N+3) .none 0 0 (t₀+6) (t₀+9)),(2,sO N),(4,dO (wf w a b c).params p.nt [] 0),(5,lO [] 0),(6,dO (wf w a b c).params p.nt [] 0)],10,16⟩) ⟨none,520,5200,ff⟩ (ar [ak lrS 0] (av L)):=by cases c<;>kernel_rfl
noncomputable def jd5:List Nat:=dH 6 1090785280
noncomputable def jd6:List CH:=[.p,.p,.p,.p,.p,.p,.p,.p,.p,.p]
theorem jd4(hnd:Option Value)(ff:Option (List Env)):au 100 (wf w a b c) N t₀ ([]) (.fin jd5 jd6 ⟨.ok (.done (.ret (.ref N))),[(0,rgO t₀)],1,5⟩) ⟨hnd,520,5200,ff⟩ (evT (fi (fnS 25 1)) (av L)):=by kernel_rfl
noncomputable def jeg:List Nat:=dH 7 138529738817
noncomputable def jeh:List CH:=[.p,.p]
theorem jef(hnd:Option Value)(ff:Option (List Env)):au 60 (wf w a b c) N t₀ ([(rg,rgO t)]) (.fin jeg jeh ⟨.ok (.done (.ret (.ref N))),[(0,rgO t),(1,bd 7 8 (-1))],1,0⟩) ⟨hnd,520,5200,ff⟩ (itT (.ref rg)):=by cases c<;>kernel_rfl
end
noncomputable def fBd(p:Par):AB:=c6 p 8 ⟨[],fun _=>0,fun _=>[]⟩
theorem ik{o:List (Fin 8)}{k j:Fin 8}(h:j∈o):j∈ins o k:=ins_mem.mpr (.inl h)
theorem wh{p:Par}{k j:Fin 8}{x:AB}(h:j∈x.o):j∈(cw p k x).o:=by
 unfold cw
 split
 ·exact ik (ik (ik h))
 ·exact ik h
theorem wi{p:Par}{k:Fin 8}{x:AB}:k∈(cw p k x).o:=by
 unfold cw
 split
 ·exact ik (ik (ins_mem.mpr (.inr rfl)))
 ·exact ins_mem.mpr (.inr rfl)
theorem lw{p:Par}:∀{m:Nat} {x:AB} {j:Fin 8},j∈x.o→j∈(c6 p m x).o
 |0,_,_,h=>h
 |m+1,x,j,h=>lw (m:=m) (wh h)
theorem lx{p:Par}:∀{m:Nat} {x:AB} {j:Fin 8},m≤8→j.val<m→j∈(c6 p m x).o
 |0,_,_,_,h=>absurd h (Nat.not_lt_zero _)
 |m+1,x,j,hm,h=>by
  show j∈(c6 p m (cw p (Fin.ofNat 8 m) x)).o
  by_cases e:j.val=m
  ·refine lw ?_
   have:Fin.ofNat 8 m=j:=Fin.ext (by show m % 8=j.val;rw[Nat.mod_eq_of_lt (by omega)];exact e.symm)
   rw[this];exact wi
  ·exact lx (qv hm) (by omega)
theorem jht(p:Par)(j:Fin 8):j∈(fBd p).o:=lx (Nat.le_refl 8) j.isLt
theorem vi:∀{l₁ l₂:List (Fin 8)},l₁.Nodup→(∀x∈l₁,x∈l₂)→l₁.length≤l₂.length
 |[],_,_,_=>Nat.zero_le _
 |x::l₁,l₂,hn,h=>by
  rw[List.nodup_cons] at hn
  have hx:=h x (.head _)
  have h1:=vi (l₁:=l₁) (l₂:=l₂.erase x) hn.2 fun y hy=>(List.mem_erase_of_ne fun(e:y=x)=>hn.1 (e ▸ hy)).mpr (h y (.tail _ hy))
  rw[List.length_erase_of_mem hx] at h1
  have:0<l₂.length:=List.length_pos_of_mem hx
  rw[List.length_cons]
  omega
noncomputable def ogB(p:Par):Fin 8→Fin 8:=fun i=>((fBd p).o[i.val]?).getD 0
theorem jk9{p:Par}(hn:(fBd p).o.Nodup):(fBd p).o=ol (ogB p):=by
 have h1:=fv hn
 have h2:=vi (List.nodup_finRange 8) (fun x _=>jht p x)
 rw[List.length_finRange] at h2
 have h3:(fBd p).o.length=8:=(Nat.le_antisymm h1 h2)
 unfold ol ogB
 generalize (fBd p).o=l at h3
 match l,h3 with
 |[a,b,c,d,e,f,g,h],_=>rfl
section
variable{w:World}{a b c:Bool}{p:Par}{A:Around}{E:Value→Shared→Prop}{Q:Flow→Shared→Prop}{s:Shared}{L t1 t2:Nat}
structure LB(P:Params)(p:Par)(z:LR)(nd:Fin 8→Nd)(h₀ h:Heap):Prop where
 le:∃v,LE P p z v h
 reg:Reg P p.nt z.lo z.D (ol (ogB p)) (fBd p).np (fBd p).su nd 8 h
 rl:h.get? z.rl=some (lO [] 0)
 ed:h.get? z.ed=some (dO P p.nt [] 0)
 keep:af [z.L] h₀ h
 size:h₀.objs.size≤h.objs.size
 ap:Apart p z
 new:h₀.objs.size≤z.S∧h₀.objs.size≤z.Sd∧h₀.objs.size≤z.D∧h₀.objs.size≤z.rl∧h₀.objs.size≤z.ed
 ne:[z.S,z.Sd,z.D,z.rl,z.ed].Nodup
 lts:z.rl<z.lo∧z.ed<z.lo
 t0:z.f 0=z.f 0
theorem jk2{rest:List Stmt}(hA:Room A 520 5200)(B:Based (wf w a b c).params s.heap)(hL:s.heap.get? L=some (frO (wf w a b c).params [("names",t1,.ref p.NM),("numbers",t2,.ref p.NL)] 2))(hNM:s.heap.get? p.NM=some (lO (ai p.nt) p.e1))(hNL:s.heap.get? p.NL=some (lO (a8 p.n p.tn) p.e2))
  (oL:257≤L) (oNM:257≤p.NM) (oNL:257≤p.NL) (ne:p.NM≠p.NL)
  (h:∀s' z nd,z.L=L→LB (wf w a b c).params p z nd s.heap s'.heap→ae s'=ae s→wpAny (model PG (wf w a b c)) A (execs rest (av L)) Q E s') :
  wpAny (model PG (wf w a b c)) A (execs ([ak lrS 0]++([ak lrS 1]++rest)) (av L)) Q E s:=by
 have ltL:@LT.lt Nat _ L s.heap.objs.size:=Heap.lt_size hL
 have ltM:@LT.lt Nat _ p.NM s.heap.objs.size:=Heap.lt_size hNM
 have ltN:@LT.lt Nat _ p.NL s.heap.objs.size:=Heap.lt_size hNL
 refine ah _ _ ?_
 have P:=ag (w:=wf w a b c) (pre:=[(L,frO (wf w a b c).params [("names",t1,.ref p.NM),("numbers",t2,.ref p.NL)] 2)]) B (qv (ql oNL ltN)) ⟨hL,zt⟩ (b6 (by omega)) ⟨zt,zt⟩
 generalize hM:s.heap.objs.size=M at *
 generalize hT:s.toks=T at *
 refine ay (jes (it:=M+11) A.frames) P hA.cx hA.cx rfl zt fun s1 P1 K1 r1=>?_
 have K1':af [L] s.heap s1.heap:=K1
 have hs1:s1.heap.objs.size=M+10:=P1.size
 refine ah _ _ (wpAny_execs_cons ?_)
 first|refine xq1 kc ?_|refine xq2 kc ?_|refine xq3 kc ?_|rw[kc]
 refine wpAny_For ?_ (fun x=>by kernel_rfl)
 have P2:=ag (w:=wf w a b c) (pre:=[]) P1.based (qc (qb rfl) (qk (k:=10) (ql oNL ltN) (qg hs1))) zt zt zt
 refine bq (jd4 none A.frames) P2 hA.cx hA.cx rfl zt fun s2 P3 K3 r3=>?_
 have hs2:s2.heap.objs.size=s1.heap.objs.size+1:=P3.size
 have P4:=ag (w:=wf w a b c) (pre:=[(s1.heap.objs.size,rgO s1.toks)]) P3.based (qc (qb rfl) (qq (qk (k:=10) (ql oNL ltN) (qg hs1)) hs2)) ⟨P3.has (s1.heap.objs.size,_) (.head _),zt⟩ (b6 (qc (qb rfl) (qk (k:=10) (ql oNL ltN) (qg hs1)))) ⟨zt,zt⟩
 refine kx (jef none A.frames) P4 hA.cx hA.cx rfl zt fun s3 P5 K5 r5=>?_
 have K6:af [] s2.heap s3.heap:=am P4 P5.has K5 ⟨.inl rfl,zt⟩
 have hs3:s3.heap.objs.size=s2.heap.objs.size+1:=P5.size
 have K7:∀{y:Nat} {o:Obj},s1.heap.get? y=some o→s3.heap.get? y=some o:=fun{y o} e=>K6 _ _ (K3 _ _ e n0m) n0m
 rw[hs1] at hs2
 have eit:s2.heap.objs.size=M+11:=hs2
 let z:=lrZ L M T t1 t2 (M+11)
 have x0:s3.heap.get? L=some (frO (wf w a b c).params (fr6 p z false) 6):=K7 (P1.has (L,_) (.head _))
 have x1:s3.heap.get? M=some (sD (wf w a b c).params (lrQ T) (M+3) .none 0 0 (T+6) (T+9)):=K7 (P1.has (M+0,_) (.tail _ (.head _)))
 have x2:s3.heap.get? (M+1)=some (sO M):=K7 (P1.has (M+1,_) (.tail _ (.tail _ (.head _))))
 have x4:s3.heap.get? (M+3)=some (dO (wf w a b c).params p.nt [] 0):=K7 (P1.has (M+3,_) (.tail _ (.tail _ (.tail _ (.head _)))))
 have x5:s3.heap.get? (M+4)=some (lO [] 0):=K7 (P1.has (M+4,_) (.tail _ (.tail _ (.tail _ (.tail _ (.head _))))))
 have x6:s3.heap.get? (M+5)=some (dO (wf w a b c).params p.nt [] 0):=K7 (P1.has (M+5,_) (.tail _ (.tail _ (.tail _ (.tail _ (.tail _ (.head _)))))))
 have xi:s3.heap.get? (M+11)=some (bd 7 8 (-1)):=by
  have:=P5.has (s2.heap.objs.size,_) (.tail _ (.head _))
  rw[eit] at this
  exact this
 have K8:af [L] s.heap s3.heap:=fun y o e hy=>K7 (K1' y o e hy)
 have nLM:p.NM≠L:=fun e=>by rw[e] at hNM;exact ao hNM hL rfl rfl
 have nLN:p.NL≠L:=fun e=>by rw[e] at hNL;exact ao hNL hL rfl rfl
 have xM:=K8 _ _ hNM (du nLM)
 have xN:=K8 _ _ hNL (du nLN)
 have Z:Apart p z:=by
  refine⟨⟨?_,?_,?_⟩,?_,?_⟩
  ·show 257≤M+1∧257≤M∧257≤M+3;exact⟨(qr (k:=1) (qv (ql oNL ltN))),(qv (ql oNL ltN)),(qr (k:=3) (qv (ql oNL ltN)))⟩
  ·show M+1<M+12∧M<M+12∧M+3<M+12;omega
  ·show [M+1,M,M+3].Nodup
   exact dn3 ⟨⟨(qj (Nat.le_refl _)),by omega⟩,by omega⟩
  ·show [L,M+11,p.NM,p.NL,M+1,M].Nodup
   exact dn6 ⟨⟨(qh (qr (k:=11) ltL)),nLM.symm,nLN.symm,(qh (qr (k:=1) ltL)),(qh ltL)⟩,⟨(qj (qr (k:=11) ltM)),(qj (qr (k:=11) ltN)),by omega,by omega⟩,⟨by omega,(qh (qr (k:=1) ltM)),(qh ltM)⟩,⟨(qh (qr (k:=1) ltN)),(qh ltN)⟩,(qj (Nat.le_refl _))⟩
  ·intro x hx
   have hx':x∈[L,M+11,p.NM,p.NL,M+1,M]:=hx
   replace hx':=mO6 hx'
   show 257≤x∧x<M+12∧x≠M+3
   exact(hx'.elim (fun hx'=>⟨(qy oL hx'),(qr (k:=12) (ql (qe hx') ltL)),(qh (qr (k:=3) (ql (qe hx') ltL)))⟩) fun hx'=>(hx'.elim (fun hx'=>⟨(qw (k:=12) (qk (k:=11) (ql oL ltL) (qg hx'))),(qs 1 (qe hx')),(qj (qw (k:=7) (qg hx')))⟩) fun hx'=>(hx'.elim (fun hx'=>⟨(qy oNM hx'),(qr (k:=12) (ql (qe hx') ltM)),(qh (qr (k:=3) (ql (qe hx') ltM)))⟩) fun hx'=>(hx'.elim (fun hx'=>⟨(qy oNL hx'),(qr (k:=12) (ql (qe hx') ltN)),(qh (qr (k:=3) (ql (qe hx') ltN)))⟩) fun hx'=>(hx'.elim (fun hx'=>⟨(qw (k:=2) (qq (ql oL ltL) hx')),(qr (k:=10) (qs 1 (qe hx'))),(qh (qr (k:=1) (qs 1 (qe hx'))))⟩) fun hx'=>⟨(qv (qy (ql oL ltL) hx')),(qr (k:=11) (qs 1 (qe hx'))),(qh (qr (k:=2) (qs 1 (qe hx'))))⟩)))))
 have LS0:LS (wf w a b c).params p z none 7 8 s3.heap:=⟨P5.based,x0,xi,xM,xN,x2,x1⟩
 have R0:Reg (wf w a b c).params p.nt z.lo z.D [] (fun _=>0) (fun _=>[]) (fun _=>⟨0,0,0,0,0⟩) 0 s3.heap:=
  ⟨x4,List.Pairwise.nil,(fun k hk=>nomatch hk),(fun k hk=>nomatch hk),(fun j hj=>nomatch hj),(fun k hk=>nomatch hk),by show 257≤M+3;exact(qr (k:=3) (qv (ql oNL ltN))),by show M+3<M+12;omega,by show M+12≤s3.heap.objs.size;exact(qq (qg hs2) hs3),fun _ _=>rfl,fun _ _=>rfl,rfl⟩
 rw[eit,←E5 (M+11) L (av L)]
 refine jkb (p:=p) (z:=z) (x:=⟨[],fun _=>0,fun _=>[]⟩) (hA.mono (qb rfl) (qb rfl)) Z 8 (Nat.le_refl 8) (v:=(0,0)) LS0 R0 (fun j=>Nat.zero_le _) fun h' nd' ep' tk' v' E' R' K' hs'=>?_
 have R2:Reg (wf w a b c).params p.nt z.lo z.D (fBd p).o (fBd p).np (fBd p).su nd' ep' h':=R'
 have e8:=jk9 R2.nodup
 have ee:ep'=8:=by rw[R2.epl,e8];rfl
 rw[e8,ee] at R2
 have hs'':s3.heap.objs.size≤h'.objs.size:=hs'
 have nz:∀y:Nat,y<M+12→y≠M+3→¬n9 z y:=fun y h1 h2 q=>by
  rcases q with q|q
  ·exact h2 q
  ·have q':M+12≤y:=q
   exact(qf (qc h1 q'))
 have nn:∀y:Nat,y≠L→y≠M+11→y∉[z.L,z.it]:=fun y h1 h2 q=>by
  have q':y∈[L,M+11]:=q
  replace q':=mO2 q'
  exact(q'.elim (fun q'=>(h1 q')) fun q'=>(h2 q'))
 have LBf:LB (wf w a b c).params p z nd' s.heap h':=by
  refine⟨⟨v',E'⟩,R2,?_,?_,fun y o e hy=>?_,(qw (k:=12) (qc (qq (qk (k:=11) (qe hM) (qg hs2)) hs3) hs')),Z,?_,?_,?_,rfl⟩
  ·exact K' (M+4) _ x5 (nn _ (qj (qr (k:=4) ltL)) (by omega)) (nz _ (by omega) (qj (Nat.le_refl _)))
  ·exact K' (M+5) _ x6 (nn _ (qj (qr (k:=5) ltL)) (by omega)) (nz _ (by omega) (by omega))
  ·have hly:@LT.lt Nat _ y s.heap.objs.size:=Heap.lt_size e
   have hy':y∉[L]:=hy
   rw[List.mem_singleton] at hy'
   exact K' y o (K8 y o e (du hy')) (nn y hy' (qh (qr (k:=11) (qx hly hM)))) (nz y (qr (k:=12) (qx hly hM)) (qh (qr (k:=3) (qx hly hM))))
  ·show s.heap.objs.size≤M+1∧s.heap.objs.size≤M∧s.heap.objs.size≤M+3∧s.heap.objs.size≤M+4∧s.heap.objs.size≤M+5;exact⟨(qr (k:=1) (qe hM)),(qe hM),(qr (k:=3) (qe hM)),(qr (k:=4) (qe hM)),(qr (k:=5) (qe hM))⟩
  ·show [M+1,M,M+3,M+4,M+5].Nodup
   exact dn5 ⟨⟨(qj (Nat.le_refl _)),by omega,by omega,by omega⟩,⟨by omega,by omega,by omega⟩,⟨(qh (Nat.le_refl _)),by omega⟩,(qh (Nat.le_refl _))⟩
  ·show M+4<M+12∧M+5<M+12;omega
 exact wpAny_execs_nil (h { s3 with heap:=h',toks:=tk' } z nd' rfl LBf (r5.trans (r3.trans r1)))
end
open PyProof.Rows (seqObj pairsOf Keyed arrOf SortSt SortedToK KeysOf strKind_oneLt StrsAre sortedHeap)
noncomputable def tuO(xs:List Value):Obj:=⟨.type "tuple",none,.seq ⟨xs⟩ 0,#[]⟩
noncomputable def bg(rd:List (Fin 8)):List (Fin 8):=(List.finRange 8).filter fun k=>decide (k∈rd)
theorem sortN_mem{rd:List (Fin 8)}{k:Fin 8}:k∈bg rd↔k∈rd:=by simp[bg]
theorem fp:∀{l₁ l₂:List (Fin 8)},l₁.Pairwise (·<·)→l₂.Pairwise (·<·)→(∀x,x∈l₁↔x∈l₂)→l₁=l₂
 |[],[],_,_,_=>rfl
 |[],y::l₂,_,_,h=>absurd ((h y).mpr (.head _)) (by simp)
 |x::l₁,[],_,_,h=>absurd ((h x).mp (.head _)) (by simp)
 |x::l₁,y::l₂,h1,h2,h=>by
  rw[List.pairwise_cons] at h1 h2
  have e:x=y:=by
   have hx:=(h x).mp (.head _)
   have hy:=(h y).mpr (.head _)
   rcases List.mem_cons.mp hx with e|hx
   ·exact e
   rcases List.mem_cons.mp hy with e|hy
   ·exact e.symm
   have a:=h2.1 x hx
   have b:=h1.1 y hy
   exact absurd a (by rw[Fin.lt_def] at *;exact(Nat.not_lt_of_le (qv b)))
  subst e
  refine congrArg (x::·) (fp h1.2 h2.2 fun z=>?_)
  constructor
  ·intro hz
   rcases List.mem_cons.mp ((h z).mp (.tail _ hz)) with e|q
   ·subst e;exact absurd (h1.1 z hz) (by rw[Fin.lt_def];exact(Nat.not_lt_of_le (Nat.le_refl _)))
   ·exact q
  ·intro hz
   rcases List.mem_cons.mp ((h z).mpr (.tail _ hz)) with e|q
   ·subst e;exact absurd (h2.1 z hz) (by rw[Fin.lt_def];exact(Nat.not_lt_of_le (Nat.le_refl _)))
   ·exact q
theorem gv:(List.finRange 8).Pairwise (·<·):=by decide
theorem i8(rd:List (Fin 8)):(bg rd).Pairwise (·<·):=List.Pairwise.filter _ gv
noncomputable def ivV:Value→Fin 8
 |.str x _=>((List.finRange 8).find? fun k=>decide (nmS k=x)).getD 0
 |_=>0
theorem jv(nt:Fin 8→Nat)(k:Fin 8):ivV (nmV nt k)=k:=by
 show((List.finRange 8).find? fun j=>decide (nmS j=nmS k)).getD 0=k
 cases h:(List.finRange 8).find? fun j=>decide (nmS j=nmS k) with
 |none=>
  have:=List.find?_eq_none.mp h k (List.mem_finRange k)
  simp at this
 |some j=>
  have:=List.find?_some h
  rw[decide_eq_true_eq] at this
  exact gj this
theorem jph(a b:Fin 8):(decide ((nmS a).cps.toList<(nmS b).cps.toList))=decide (a<b):=by
 show decide ([97+a.val]<[97+b.val])=_
 rw[decide_eq_decide,Fin.lt_def]
 simp[List.cons_lt_cons_iff]
theorem zw{nt:Fin 8→Nat}{rd:List (Fin 8)}(hn:rd.Nodup){xs:Array Keyed}(hp:xs.Perm (pairsOf (rd.map (nmV nt))))(hs:SortedToK PyProof.Rows.strKind xs (pairsOf (rd.map (nmV nt))).size):(xs.map (·.2)).toList=(bg rd).map (nmV nt):=by
 have hl:xs.toList.Perm ((rd.map (nmV nt)).zip (rd.map (nmV nt))):=by rw[←PyProof.Rows.pairsOf_toList];exact Array.perm_iff_toList_perm.mp hp
 have h2:(xs.toList.map (·.2)).Perm (rd.map (nmV nt)):=by
  have:=hl.map (·.2)
  rwa [List.map_snd_zip (Nat.le_refl _)] at this
 have h1:∀p∈xs.toList,p.1=p.2∧∃k,p.2=nmV nt k:=fun p hp'=>by
  have h3:=PyProof.Rows.mem_zip_self (hl.mem_iff.mp hp')
  obtain⟨k,_,e⟩:=List.mem_map.mp h3.2
  exact⟨h3.1,k,by rw[←h3.1];exact e.symm⟩
 rw[Array.toList_map]
 have e1:xs.toList.map (·.2)=(xs.toList.map fun p=>ivV p.2).map (nmV nt):=by
  rw[List.map_map]
  refine List.map_congr_left fun p hp'=>?_
  obtain⟨_,k,hk⟩:=h1 p hp'
  show p.2=nmV nt (ivV p.2)
  rw[hk,jv]
 rw[e1]
 congr 1
 have hperm:(xs.toList.map fun p=>ivV p.2).Perm rd:=by
  have:=h2.map ivV
  rw[List.map_map,List.map_map] at this
  have e2:rd.map (ivV ∘ nmV nt)=rd:=by
   rw[show(ivV ∘ nmV nt)=id from funext fun k=>jv nt k];simp
  rw[e2] at this
  exact this
 refine fp ?_ (i8 rd) fun x=>by rw[sortN_mem,hperm.mem_iff]
 have hnd:(xs.toList.map fun p=>ivV p.2).Nodup:=hperm.nodup_iff.mpr hn
 rw[List.pairwise_iff_getElem]
 intro i j hi hj hij
 have hi':i<xs.size:=by simpa using hi
 have hj':j<xs.size:=by simpa using hj
 have hle:=hs i j (Nat.le_of_lt hij) (by rw[←hp.size_eq];exact hj')
 obtain⟨ei,ki,hki⟩:=h1 xs[i] (by simp)
 obtain⟨ej,kj,hkj⟩:=h1 xs[j] (by simp)
 rw[PyProof.Rows.KK_str hi' (x:=nmS ki) (t:=nt ki) (q:=xs[i].2) (Prod.ext (ei.trans hki) rfl),PyProof.Rows.KK_str hj' (x:=nmS kj) (t:=nt kj) (q:=xs[j].2) (Prod.ext (ej.trans hkj) rfl)] at hle
 change decide ((nmS kj).cps.toList<(nmS ki).cps.toList)=false at hle
 rw[jph] at hle
 simp only[List.getElem_map,Array.getElem_toList]
 rw[hki,hkj,jv,jv]
 have hne:ki≠kj:=fun e=>by
  have h5:(xs.toList.map fun p=>ivV p.2)[i]=(xs.toList.map fun p=>ivV p.2)[j]:=by
   simp only[List.getElem_map,Array.getElem_toList]
   rw[hki,hkj,jv,jv,e]
  have:=(List.getElem_inj hnd).mp h5
  exact(qf (qy hij this))
 have h6:¬(kj<ki):=by simpa using hle
 rw[Fin.lt_def] at h6 ⊢
 have:ki.val≠kj.val:=fun e=>hne (Fin.ext e)
 omega
theorem vj(nt:Fin 8→Nat):∀rd:List (Fin 8),StrsAre (rd.map (nmV nt)) (rd.map nmS)
 |[]=>.nil
 |k::l=>.cons (nmS k) (nt k) (vj nt l)
noncomputable def pcX(hnd:Option Value)(l:Nat)(o:Obj)(vs:List Value)(a e:Nat)(j i tk:Nat):XSpec:=⟨.builtin "proto.collect" ⟨[.ref l],[]⟩,980,9800,hnd,[(j,o)],i,tk,rv (.ref a),[],[lO vs e],0⟩
noncomputable def soX(hnd:Option Value)(a:Nat)(vs out:List Value)(e:Nat)(j i tk:Nat):XSpec:=⟨.call (.builtin "list.sort") ⟨[.ref a],[]⟩,980,9800,hnd,[(j,lO vs 0)],i,tk,rv .none,[(j,lO out e)],[tuO vs,lO [] 0],0⟩
section
variable{w:World}{A:Around}{R:Result→Shared→Prop}{s:Shared}{V:SV}{h₀:Heap}{hnd:Option Value}{l a e j i tk:Nat}{vs out:List Value}{o:Obj}
theorem q8{T:String}{n:Nat}(hT:T = "list" ∨ T = "tuple")(ho:s.heap.get? l=some ⟨.type T,none,.seq ⟨vs⟩ n,#[]⟩)(hv:vs≠[])(hl:vs.length<1000)
  (h:R (rv (.ref s.heap.objs.size)) { s with heap:=(s.heap.push (lO [] 0)).update s.heap.objs.size (Obj.mapSeq (·++⟨vs⟩)) }) :
  codeAny (model PG w) A (.builtin "proto.collect" ⟨[.ref l],[]⟩) R s:=by
 refine codeAny_builtin PyProof.Rows.entry_proto_collect' ?_
 show wpAny _ _ (do again (.builtin "list.__iadd__" ⟨[←newList [],.ref l],[]⟩)) _ _ s
 refine wpAny_bind (wpAny_newList (wpAny_pure ⟨Code.quiet_builtin _ (by decide +kernel),codeAny_builtin PyProof.Rows.entry_list_iadd' ?_⟩))
 show wpAny _ _ (Builtin.List.listExtendWith (.ref s.heap.objs.size) (.ref l) (.ref s.heap.objs.size)) _ _ { s with heap:=s.heap.push (lO [] 0) }
 unfold Builtin.List.listExtendWith
 have ho':(s.heap.push (lO [] 0)).get? l=some _:=Heap.get?_push_of_some _ ho
 refine wpAny_bind (wpAny_typeOf (T:=T) ⟨_,ho',rfl⟩ ?_)
 refine wif (by rcases hT with rfl|rfl<;>simp) ?_
 refine wpAny_bind (PyProof.Rows.listItems_at ho' rfl ?_)
 refine wpAny_bind (PyProof.Rows.listItems_at (xs:=#[]) (n:=0) (Heap.get?_push_size _ rfl) rfl ?_)
 refine wie (by simp) ?_
 refine wpAny_bind (PyProof.Rows.listUpdate_at (xs:=#[]) (n:=0) (Heap.get?_push_size _ rfl) rfl ?_ (Nat.zero_le _) (by show(#[]++(⟨vs⟩:Array Value)).size≤sizeLine+1;simp only[Array.size_append,List.size_toArray,List.length_nil];unfold sizeLine;omega))
 exact wpAny_pure h
theorem ft{T:String}{n:Nat}(hT:T = "list" ∨ T = "tuple")(hp:aj V.pre V.N j=l)(hv:vs≠[])(hl:vs.length<1000)(ha:a=V.N+i):XOk V h₀ (pcX hnd l ⟨.type T,none,.seq ⟨vs⟩ n,#[]⟩ vs a 1 j i tk):=fun A s hh hd hu hs htk hkt hk hpre=>by
 have h1:=hpre (j,_) (.head _)
 rw[hp] at h1
 have hs':s.heap.objs.size=V.N+i:=hs
 refine q8 hT h1 hv hl ?_
 have hg:=Heap.get?_push_size s.heap (o:=lO [] 0) rfl
 have e1:((s.heap.push (lO [] 0)).update s.heap.objs.size (Obj.mapSeq (·++⟨vs⟩))).get? s.heap.objs.size=some (lO vs 1):=by
  rw[Heap.get?_update_self _ hg rfl]
  have:vs.length≠0:=fun e=>hv (List.length_eq_zero_iff.mp e)
  simp[lO,Obj.mapSeq,this]
 refine⟨by show rv (.ref s.heap.objs.size)=rv (.ref a);rw[hs',ha],_,rfl,by rw[Heap.size_after_update,Heap.size_push];rfl,(fun p hp=>nomatch hp),(fun k ob e=>?_),fun y ob e hb=>?_⟩
 ·cases k with
  |zero=>
   cases e
   show Heap.get? _ (V.N+i)=some (lO vs 1)
   rw[←hs'];exact e1
  |succ k=>cases e
 ·have:@LT.lt Nat _ y s.heap.objs.size:=Heap.lt_size e
  rw[Heap.get?_update_other _ _ (nne (.inr this))]
  exact Heap.get?_push_of_some _ e
theorem jk3{nt:Fin 8→Nat}{rd:List (Fin 8)}(hp:aj V.pre V.N j=a)(hrd:rd≠[])(hn:rd.Nodup):XOk V h₀ (soX hnd a (rd.map (nmV nt)) ((bg rd).map (nmV nt)) 2 j i tk):=fun A s hh hd hu hs htk hkt hk hpre=>by
 have h1:=hpre (j,_) (.head _)
 rw[hp] at h1
 have hs':s.heap.objs.size=V.N+i:=hs
 have h8:=fv hn
 have hS:StrsAre (rd.map (nmV nt)) (rd.map nmS):=vj nt rd
 refine bf (S:=fun _ R s'=>s'=s∧R (rv .none) { s with heap:=sortedHeap s.heap a (rd.map (nmV nt)) ⟨(bg rd).map (nmV nt)⟩ }) PyProof.Rows.slot_list_sort ⟨_,h1,rfl⟩ PyProof.Rows.entry_list_sort (PyProof.Rows.args_list_sort _) (.of_wp fun A R s' ⟨e,h⟩=>?_) ⟨rfl,?_⟩
 ·subst e
  refine PyProof.Rows.list_sort_treeK strKind_oneLt h1 hS.keysOf (fun v₁ v₂ rest e=>PyProof.Rows.keyKind_strs (by rw[←e];exact hS)) (by rw[List.length_map];exact(qr (k:=55) (qs 1 h8))) fun st' hp hs=>⟨_,rfl,?_⟩
  have e2:=zw hn hp hs
  have e3:(arrOf st').map (·.2)=⟨(bg rd).map (nmV nt)⟩:=by rw[←e2]
  rw[e3]
  exact h
 ·have hlt:@LT.lt Nat _ a s.heap.objs.size:=Heap.lt_size h1
  have z1:(s.heap.update a (Obj.mapSeq fun _=>#[])).objs.size=V.N+i:=by rw[Heap.size_after_update,hs']
  have hlen:rd.length≠0:=fun e=>hrd (List.length_eq_zero_iff.mp e)
  have hso:(bg rd).length≠0:=fun e=>by
   have e':=List.length_eq_zero_iff.mp e
   cases rd with
   |nil=>exact hrd rfl
   |cons k l=>
    have:k∈bg (k::l):=sortN_mem.mpr (.head _)
    rw[e'] at this
    cases this
  have g1:(s.heap.update a (Obj.mapSeq fun _=>#[])).get? a=some (lO [] 1):=by
   rw[Heap.get?_update_self _ h1 rfl]
   simp[lO,Obj.mapSeq]
   exact fun e=>hlen e.symm
  have g2:=Heap.get?_push_of_some (tuO (rd.map (nmV nt))) g1
  have g3:=Heap.get?_push_of_some (lO [] 0) g2
  have e1:(sortedHeap s.heap a (rd.map (nmV nt)) ⟨(bg rd).map (nmV nt)⟩).get? a=some (lO ((bg rd).map (nmV nt)) 2):=by
   show(((((s.heap.update a (Obj.mapSeq fun _=>#[])).push (tuO (rd.map (nmV nt)))).push (lO [] 0)).update a (Obj.mapSeq fun _=>⟨(bg rd).map (nmV nt)⟩))).get? a=_
   rw[Heap.get?_update_self _ g3 rfl]
   simp[lO,Obj.mapSeq,hso]
  have oth:∀y:Nat,y≠a→(sortedHeap s.heap a (rd.map (nmV nt)) ⟨(bg rd).map (nmV nt)⟩).get? y=(((s.heap.update a (Obj.mapSeq fun _=>#[])).push (tuO (rd.map (nmV nt)))).push (lO [] 0)).get? y:=fun y hy=>Heap.get?_update_other _ _ (fun q=>hy q.symm)
  refine⟨rfl,_,rfl,?_,fun p hp'=>?_,(fun k ob e=>?_),fun y ob e hb=>?_⟩
  ·show(Heap.update _ _ _).objs.size=_
   rw[Heap.size_after_update,Heap.size_push,Heap.size_push,Heap.size_after_update];rfl
  ·rcases List.mem_singleton.mp hp' with rfl
   rw[hp];exact e1
  ·have hlt':a<V.N+i:=(qx hlt hs')
   match k,e with
   |0,e=>
    cases e
    show Heap.get? _ (V.N+i+0)=some (tuO (rd.map (nmV nt)))
    rw[oth _ (by exact(qj (qx hlt hs')))]
    have:=Heap.get?_push_size (s.heap.update a (Obj.mapSeq fun _=>#[])) (o:=tuO (rd.map (nmV nt))) rfl
    rw[z1] at this
    exact Heap.get?_push_of_some _ this
   |1,e=>
    cases e
    show Heap.get? _ (V.N+i+1)=some (lO [] 0)
    rw[oth _ (qj (qr (k:=1) (qx hlt hs')))]
    have:=Heap.get?_push_size ((s.heap.update a (Obj.mapSeq fun _=>#[])).push (tuO (rd.map (nmV nt)))) (o:=lO [] 0) rfl
    rw[Heap.size_push,z1] at this
    exact this
  ·have hy:y≠a:=fun q=>hb _ (.head _) (by rw[hp];exact q)
   rw[oth y hy]
   refine Heap.get?_push_of_some _ (Heap.get?_push_of_some _ ?_)
   rw[Heap.get?_update_other _ _ (fun q=>hy q.symm)]
   exact e
end
end Mine
namespace Mine
open PySem.W PySem PySem.W.X
noncomputable def lrW:Stmt:=ak lrS 3
noncomputable def jnk:Stmt→Expr
 |.Assign _ v _=>v
 |.Expr v _=>v
 |_=>noE
noncomputable def ja3:Stmt→Expr
 |.Assign [t] _ _=>t
 |_=>noE
noncomputable def lrN:Stmt:=ak (inS lrW) 2
noncomputable def nmE:Expr→Str
 |.Name x _=>x
 |_=>⟨#[]⟩
noncomputable def poE:Expr→Pos
 |.Name _ q=>q
 |_=>default
noncomputable def stT(env:Env)(x:Str)(v:Value):Sem Fin:=PySem.W.R.bindR (PySem.W.Fast.tw7998390705656384164 env x v) fun _=>.pure (.done .next)
theorem md{w:World}{pre:List (Nat×Obj)}{N t₀:Nat}{s:Shared}{n i tk:Nat}{hs:List Nat}{cs:List CH}{ex:List (Nat×Obj)}{B X:Cx}{env:Env}{A C:Around}{E:Value→Shared→Prop}{y:Str}{x:Value}{Q:Unit→Shared→Prop}
  (H:dh n (mkV w pre N t₀) pre (.fin hs cs ⟨.ok (.done .next),ex,i,tk⟩) B X (stT env y x)=rhs (.fin hs cs ⟨.ok (.done .next),ex,i,tk⟩) (mkV w pre N t₀)) (P:Pre w pre N t₀ s) (hB:B.Ok A) (hX:X.Ok C) (hk:ez (ex.map (·.1))=true)
  (hx:dx (mkV w pre N t₀) s.heap cs) (h:∀s',Pre w (dm pre N ex) (N+i) (t₀+tk) s'→af (pre.map (·.1)) s.heap s'.heap→ae s'=ae s→Q () s'):wpAny (model PG w) C (storeName env y x) Q E s:=by
 rw[show storeName env y x=PySem.W.Fast.tw7998390705656384164 env y x from by rw[PySem.W.Fast.te7998390705656384164]]
 exact cy (inj:=fun _=>.next) H P hB hX hk hx fun s' p k r a _=>h s' p k r
noncomputable def frL(P:Params)(p:Par)(z:LR)(ring:Bool)(tk:Nat)(kv:Value)(ext:List (String×Nat×Value))(ep:Nat)(sl:Array (Option Value)):Obj:=frS P (fr6 p z ring++("k",tk,kv)::ext) ep sl
noncomputable def A1(n:Int)(t1 t2 t3:Nat):Obj:=tuO [.int (Builtin.bitAnd (dq n) 61440) t1,.int ((n.fdiv 12288).fmod 3) t2,.int ((n.fdiv 36864).fmod 2) t3]
noncomputable def d7:Option Nat→Obj
 |none=>⟨.none,none,.fields #[],#[]⟩
 |some cd=>⟨.none,none,.fields #[.int 176 0,.int 12 0,.ref cd],#[]⟩
noncomputable def ltX(hnd:Option Value)(x:Int)(tx:Nat)(y:Int)(ty i tk:Nat)(r:Bool):XSpec:=⟨.call (.builtin "int.__lt__") ⟨[.int x tx,.int y ty],[]⟩,980,9800,hnd,[],i,tk,rv (.bool r),[],[],0⟩
noncomputable def gtX(hnd:Option Value)(x:Int)(tx:Nat)(y:Int)(ty i tk:Nat)(r:Bool):XSpec:=⟨.call (.builtin "int.__gt__") ⟨[.int x tx,.int y ty],[]⟩,980,9800,hnd,[],i,tk,rv (.bool r),[],[],0⟩
noncomputable def ixX(hnd:Option Value)(p:Par)(k:Fin 8)(t j i tk:Nat):XSpec:=⟨.call (.builtin "list.index") ⟨[.ref p.NM,nmV p.nt k],[]⟩,980,9800,hnd,[(j,lO (ai p.nt) p.e1)],i,tk,rv (.int k.val t),[],[],1⟩
noncomputable def nuX(hnd:Option Value)(p:Par)(k:Fin 8)(t j i tk:Nat):XSpec:=⟨.call (.builtin "list.__getitem__") ⟨[.ref p.NL,.int k.val t],[]⟩,980,9800,hnd,[(j,lO (a8 p.n p.tn) p.e2)],i,tk,rv (.int (p.n k) (p.tn k)),[],[],0⟩
section
variable{V:SV}{h₀:Heap}{hnd:Option Value}{x y:Int}{tx ty i tk t j:Nat}{r:Bool}{p:Par}{k:Fin 8}
theorem fu(h:decide (x<y)=r):XOk V h₀ (ltX hnd x tx y ty i tk r):=bn fun A s R _ _ _ hpre hR=>jq6 (by rw[h];exact hR)
theorem pg(h:decide (x>y)=r):XOk V h₀ (gtX hnd x tx y ty i tk r):=bn fun A s R _ _ _ hpre hR=>jq7 (by rw[h];exact hR)
theorem M7(hp:aj V.pre V.N j=p.NM)(ht:t=V.t₀+tk):XOk V h₀ (ixX hnd p k t j i tk):=fun A s hh hd hu hs htk hkt hk hpre=>by
 have h1:=hpre (j,_) (.head _)
 rw[hp] at h1
 have htk':s.toks=V.t₀+tk:=htk
 refine bf F.slot_list_index ⟨_,h1,rfl⟩ F.entry_list_index (F.args_list_index_2 _ _) ((MeetsSeq.list_index p.NM ⟨ai p.nt⟩ p.e1 (nmV p.nt k) (fun v=>Value.isStrOf (nmS k) v) (fun v hv=>?_) k.val k.isLt (by omega) ?_ (fun m hm hlt=>?_)).inModel PG _) ⟨h1,?_⟩
 ·have:∃m:Fin 8,v=nmV p.nt m:=by
   simp only[ai,List.mem_toArray,List.mem_cons,List.not_mem_nil,or_false] at hv
   rcases hv with q|q|q|q|q|q|q|q<;>exact⟨_,q⟩
  obtain⟨m,rfl⟩:=this
  exact PyProof.Rows.eqGives_str (nmS m) (nmS k) (p.nt m) (p.nt k)
 ·have:=gk p.nt k
  have e:(⟨ai p.nt⟩:Array Value)[k.val]?=some (nmV p.nt k):=by rw[List.getElem?_toArray];exact this
  rw[Array.getElem?_eq_getElem k.isLt] at e
  rw[Option.some.inj e]
  show Value.isStrOf (nmS k) (nmV p.nt k)=true
  rw[cr];simp
 ·have hm8:m<8:=hm
  have e:(⟨ai p.nt⟩:Array Value)[m]?=some (nmV p.nt ⟨m,hm8⟩):=by rw[List.getElem?_toArray];exact gk p.nt ⟨m,hm8⟩
  rw[Array.getElem?_eq_getElem hm] at e
  rw[Option.some.inj e]
  show Value.isStrOf (nmS k) (nmV p.nt ⟨m,hm8⟩)=false
  rw[cr]
  exact beq_eq_false_iff_ne.mpr fun e=>by have:=congrArg Fin.val e;simp at this;omega
 ·refine⟨?_,s.heap,?_,rfl,(fun p hp=>nomatch hp),(fun k o e=>nomatch e),fun b o e _=>e⟩
  ·show rv (.int k.val s.toks)=rv (.int k.val t)
   rw[ht,htk']
  ·rfl
theorem wn(n:Fin 8→Int)(tn:Fin 8→Nat):∀k:Fin 8,(a8 n tn)[k.val]?=some (.int (n k) (tn k))
 |0=>rfl|1=>rfl|2=>rfl|3=>rfl|4=>rfl|5=>rfl|6=>rfl|7=>rfl
theorem iu(hp:aj V.pre V.N j=p.NL):XOk V h₀ (nuX hnd p k t j i tk):=bn fun A s R _ _ _ hpre hR=>by
 have h1:=hpre (j,_) (.head _)
 rw[hp] at h1
 refine si h1 (Int.natCast_nonneg _) (by simp[a8]) ?_ hR
 rw[Int.toNat_natCast]
 exact wn p.n p.tn k
end
section
variable{w:World}{a b c:Bool}{N t₀ tk ep rl t1 t2 rle re t3 t4 t5 tp aa ee cd vv:Nat}{p:Par}{z:LR}{ring:Bool}{kv x3 x4 x5:Value}{ext:List (String×Nat×Value)}{sl:Array (Option Value)}{rs vs out:List Value}{po:Int}{og:Fin 8→Fin 8}{nd:Fin 8→Nd}{np:Fin 8→Int}{k:Fin 8}{ends:KV}
noncomputable def jkd:List Nat:=dH 82 199795004192990918917308095602251513454618388100809897763165343226027125191361150739577257506410718246905112936991608568681516679669581522055200897
noncomputable def jke(X0 X1 X2:XSpec):List CH:=[.f,.p,.p,.p,.p,.x X0,.p,.p,.p,.p,.p,.p,.p,.p,.p,.p,.x X1,.x X2]
theorem jkc(ff:Option (List Env)):∀(vs:List Value) (_:vs≠[]) (_:vs.length≤8),au 300 (wf w a b c) N t₀ ([(z.L,frL (wf w a b c).params p z ring tk kv ext ep sl),(z.S,sO z.Sd),(z.Sd,sD (wf w a b c).params z.q z.D (.ref rl) po po t1 t2),(rl,lO vs rle),(z.rl,lO rs re)]) (.fin jkd (jke (ltX none po t2 po t1 1 4 false) (lnX none z.rl rs re (t₀+8) 4 1 7) (ltX none (rs.length:Int) (t₀+8) 9 (t₀+9) 1 10 true)) ⟨.ok (.done (.ret (.bool true))),[(0,frL (wf w a b c).params p z ring tk kv ext ep sl),(1,sO z.Sd),(2,sD (wf w a b c).params z.q z.D (.ref rl) po po t1 t2),(3,lO vs rle),(4,lO rs re)],1,10⟩) ⟨none,520,5200,ff⟩ (trT (teS lrW) (av z.L))
 |[x0],_,_=>by cases c<;>kernel_rfl
 |[x0,x1],_,_=>by cases c<;>kernel_rfl
 |[x0,x1,x2],_,_=>by cases c<;>kernel_rfl
 |[x0,x1,x2,x3],_,_=>by cases c<;>kernel_rfl
 |[x0,x1,x2,x3,x4],_,_=>by cases c<;>kernel_rfl
 |[x0,x1,x2,x3,x4,x5],_,_=>by cases c<;>kernel_rfl
 |[x0,x1,x2,x3,x4,x5,x6],_,_=>by cases c<;>kernel_rfl
 |[x0,x1,x2,x3,x4,x5,x6,x7],_,_=>by cases c<;>kernel_rfl
 |[],h,_=>absurd rfl h
 |_::_::_::_::_::_::_::_::_::_,_,h=>absurd h (by simp)
noncomputable def jbj:List Nat:=dH 79 3096972767416108885872895488869736401381672726417523252539494068958390744400989278424274099613501895498805254517251034490569995258543256633473
noncomputable def jbk(X0:XSpec):List CH:=[.f,.p,.p,.p,.p,.x X0,.p,.p,.p,.p,.p,.p,.p,.p,.p,.p]
theorem jbi(ff:Option (List Env)):au 300 (wf w a b c) N t₀ ([(z.L,frL (wf w a b c).params p z ring tk kv ext ep sl),(z.S,sO z.Sd),(z.Sd,sD (wf w a b c).params z.q z.D (.ref rl) po po t1 t2),(rl,lO [] rle)]) (.fin jbj (jbk (ltX none po t2 po t1 1 4 false)) ⟨.ok (.done (.ret (.bool false))),[(0,frL (wf w a b c).params p z ring tk kv ext ep sl),(1,sO z.Sd),(2,sD (wf w a b c).params z.q z.D (.ref rl) po po t1 t2),(3,lO [] rle)],1,7⟩) ⟨none,520,5200,ff⟩ (trT (teS lrW) (av z.L)):=by cases c<;>kernel_rfl
noncomputable def jbp:List Nat:=[1,1]
noncomputable def jbq:List CH:=[]
theorem jbo(ff:Option (List Env)):au 60 (wf w a b c) N t₀ ([(z.L,frL (wf w a b c).params p z ring tk kv [] 7 sl)]) (.fin jbp jbq ⟨.ok (.done .next),[(0,frL (wf w a b c).params p z ring tk kv [("ready",t₀,.ref tp)] 8 sl)],0,1⟩) ⟨none,520,5200,ff⟩ (stT (av z.L) (nmE (ja3 (ak (inS lrW) 0))) (.ref tp)):=by kernel_rfl
noncomputable def jbm:List Nat:=[1,1]
noncomputable def jbn:List CH:=[]
theorem jbl(ff:Option (List Env)):au 60 (wf w a b c) N t₀ ([(z.L,frL (wf w a b c).params p z ring tk kv [("ready",t3,x3),("name",t4,x4),("x",t5,x5)] 10 sl)]) (.fin jbm jbn ⟨.ok (.done .next),[(0,frL (wf w a b c).params p z ring tk kv [("ready",t3,.ref tp),("name",t4,x4),("x",t5,x5)] 10 sl)],0,1⟩) ⟨none,520,5200,ff⟩ (stT (av z.L) (nmE (ja3 (ak (inS lrW) 0))) (.ref tp)):=by kernel_rfl
noncomputable def jkt:List Nat:=dH 15 77673483910807272525934785
noncomputable def jku(X0 X1 X2:XSpec):List CH:=[.p,.p,.p,.p,.x X0,.x X1,.x X2]
theorem jks(ff:Option (List Env)):∀(vs:List Value) (_:vs≠[]) (_:vs.length≤8),au 200 (wf w a b c) N t₀ ([(z.L,frL (wf w a b c).params p z ring tk kv (("ready",t3,.ref tp)::ext) ep sl),(tp,tuO vs),(z.rl,lO rs re)]) (.fin jkt (jku (pcX none tp (tuO vs) vs N 1 1 0 0) (soX none (N+1) vs out 2 4 2 0) (laX none z.rl rs re (.ref (N+1)) 2 4 0)) ⟨.ok (.done .next),[(0,frL (wf w a b c).params p z ring tk kv (("ready",t3,.ref tp)::ext) ep sl),(1,tuO vs),(2,lO (rs++[.ref (N+1)]) (re+1)),(4,lO out 2)],4,0⟩) ⟨none,520,5200,ff⟩ (ar [ak (inS lrW) 1] (av z.L))
 |[x0],_,_=>by cases c<;>kernel_rfl
 |[x0,x1],_,_=>by cases c<;>kernel_rfl
 |[x0,x1,x2],_,_=>by cases c<;>kernel_rfl
 |[x0,x1,x2,x3],_,_=>by cases c<;>kernel_rfl
 |[x0,x1,x2,x3,x4],_,_=>by cases c<;>kernel_rfl
 |[x0,x1,x2,x3,x4,x5],_,_=>by cases c<;>kernel_rfl
 |[x0,x1,x2,x3,x4,x5,x6],_,_=>by cases c<;>kernel_rfl
 |[x0,x1,x2,x3,x4,x5,x6,x7],_,_=>by cases c<;>kernel_rfl
 |[],h,_=>absurd rfl h
 |_::_::_::_::_::_::_::_::_::_,_,h=>absurd h (by simp)
noncomputable def jkj:List Nat:=[1,2,2,2]
noncomputable def jkk(X0:XSpec):List CH:=[.p,.p,.x X0]
theorem jki(ff:Option (List Env)):au 60 (wf w a b c) N t₀ ([(z.L,frL (wf w a b c).params p z ring tk kv ext ep sl),(z.rl,lO (rs++[.ref aa]) re)]) (.fin jkj (jkk (lgX none z.rl rs (.ref aa) re (t₀+1) 1 0 2)) ⟨.ok (.done (.ret (.ref aa))),[(0,frL (wf w a b c).params p z ring tk kv ext ep sl),(1,lO (rs++[.ref aa]) re)],0,2⟩) ⟨none,520,5200,ff⟩ (evT (fi lrN) (av z.L)):=by kernel_rfl
noncomputable def jkg:List Nat:=[1,1,1,2]
noncomputable def jkh:List CH:=[.p,.p]
theorem jkf(ff:Option (List Env)):au 60 (wf w a b c) N t₀ ([(aa,lO vs ee)]) (.fin jkg jkh ⟨.ok (.done (.ret (.ref N))),[(0,lO vs ee),(1,liO aa 0)],1,0⟩) ⟨none,520,5200,ff⟩ (itT (.ref aa)):=by cases c<;>kernel_rfl
noncomputable def jbv:List Nat:=[1,1]
noncomputable def jbw:List CH:=[]
theorem jbu(ff:Option (List Env)):au 60 (wf w a b c) N t₀ ([(z.L,frL (wf w a b c).params p z ring tk kv [("ready",t3,x3)] 8 sl)]) (.fin jbv jbw ⟨.ok (.done .next),[(0,frL (wf w a b c).params p z ring tk kv [("ready",t3,x3),("name",t₀,nmV p.nt k)] 9 sl)],0,1⟩) ⟨none,520,5200,ff⟩ (asT (teS lrN) (av z.L) (nmV p.nt k)):=by kernel_rfl
noncomputable def jbs:List Nat:=[1,1]
noncomputable def jbt:List CH:=[]
theorem jbr(ff:Option (List Env)):au 60 (wf w a b c) N t₀ ([(z.L,frL (wf w a b c).params p z ring tk kv [("ready",t3,x3),("name",t4,x4),("x",t5,x5)] 10 sl)]) (.fin jbs jbt ⟨.ok (.done .next),[(0,frL (wf w a b c).params p z ring tk kv [("ready",t3,x3),("name",t4,nmV p.nt k),("x",t5,x5)] 10 sl)],0,1⟩) ⟨none,520,5200,ff⟩ (asT (teS lrN) (av z.L) (nmV p.nt k)):=by kernel_rfl
noncomputable def jbg:List Nat:=dH 12 74994798684944212033
noncomputable def jbh(X0 X1:XSpec):List CH:=[.x X0,.x X1]
theorem jbf(ff:Option (List Env)):au 100 (wf w a b c) N t₀ ([(z.L,frL (wf w a b c).params p z ring tk kv [("ready",t3,x3),("name",t4,nmV p.nt k)] 9 sl),(p.NM,lO (ai p.nt) p.e1),(p.NL,lO (a8 p.n p.tn) p.e2)]) (.fin jbg (jbh (ixX none p k t₀ 1 0 0) (nuX none p k t₀ 2 0 1)) ⟨.ok (.done .next),[(0,frL (wf w a b c).params p z ring tk kv [("ready",t3,x3),("name",t4,nmV p.nt k),("x",t₀+1,.int (p.n k) (p.tn k))] 10 sl),(1,lO (ai p.nt) p.e1),(2,lO (a8 p.n p.tn) p.e2)],0,2⟩) ⟨none,520,5200,ff⟩ (ar [ak (inS lrN) 0] (av z.L)):=by kernel_rfl
noncomputable def jbd:List Nat:=dH 12 74994798684944212033
noncomputable def jbe(X0 X1:XSpec):List CH:=[.x X0,.x X1]
theorem jbc(ff:Option (List Env)):au 100 (wf w a b c) N t₀ ([(z.L,frL (wf w a b c).params p z ring tk kv [("ready",t3,x3),("name",t4,nmV p.nt k),("x",t5,x5)] 10 sl),(p.NM,lO (ai p.nt) p.e1),(p.NL,lO (a8 p.n p.tn) p.e2)]) (.fin jbd (jbe (ixX none p k t₀ 1 0 0) (nuX none p k t₀ 2 0 1)) ⟨.ok (.done .next),[(0,frL (wf w a b c).params p z ring tk kv [("ready",t3,x3),("name",t4,nmV p.nt k),("x",t5,.int (p.n k) (p.tn k))] 10 sl),(1,lO (ai p.nt) p.e1),(2,lO (a8 p.n p.tn) p.e2)],0,2⟩) ⟨none,520,5200,ff⟩ (ar [ak (inS lrN) 0] (av z.L)):=by kernel_rfl
noncomputable def jch:List Nat:=dH 37 320899520551044874000384076953780783092278335033658821561150345216
noncomputable def jci(X0 X1 X2 X3 X4:XSpec):List CH:=[.f,.p,.p,.p,.x X0,.p,.p,.p,.p,.p,.p,.p,.f,.p,.f,.p,.p,.p,.x X1,.p,.p,.p,.p,.x X2,.x X3,.x X4]
theorem jcg(ff:Option (List Env)):au 200 (wf w a b c) N t₀ ([(z.L,frL (wf w a b c).params p z ring tk kv [("ready",t3,x3),("name",t4,nmV p.nt k),("x",t5,.int (p.n k) (p.tn k))] 10 sl),(p.NM,lO (ai p.nt) p.e1),(z.ed,dO (wf w a b c).params p.nt ends ee)]) (.fin jch (jci (cb (N+1) (p.n k) (t₀+1) (t₀+2) (t₀+3) (t₀+5) 4 2 6) (mq (p.n k) (t₀+14) 4 15 true) (B0 p k (t₀+18) 1 4 19) (dgX none (wf w a b c).params z.ed p.nt (p.tg k) ends ee 2 4 19 (.ref vv)) (dnX none (wf w a b c).params z.ed p.nt k ends ee 2 4 20 (.ref vv))) ⟨.ok (.done .next),[(0,frL (wf w a b c).params p z ring tk kv [("ready",t3,x3),("name",t4,nmV p.nt k),("x",t5,.int (p.n k) (p.tn k))] 10 sl),(1,lO (ai p.nt) p.e1),(2,dO (wf w a b c).params p.nt (ends++[(k,.ref vv)]) (ee+1))],4,21⟩) ⟨none,520,5200,ff⟩ (ar [ak (inS lrN) 1] (av z.L)):=by cases c<;>kernel_rfl
noncomputable def jck:List Nat:=dH 139 5454143400750176150848941915903461265181511225520879038738817340105569104573641156098894616709682113362857636107345120799996075618994765533694014651409400979810478778387957804401465523768352249850089487136473101286058252520871013983801941983380901888
noncomputable def jcl(X0 X1 X2 X3 X4 X5 X6:XSpec):List CH:=[.f,.p,.p,.p,.x X0,.p,.p,.p,.p,.p,.p,.p,.f,.p,.f,.p,.p,.p,.x X1,.f,.p,.f,.p,.p,.p,.x X2,.p,.p,.p,.p,.p,.p,.p,.p,.p,.p,.p,.p,.p,.p,.p,.p,.p,.p,.p,.p,.p,.f,.p,.p,.p,.f,.p,.f,.p,.p,.p,.x X3,.x X4,.x X5,.p,.p,.p,.p,.p,.p,.p,.p,.p,.p,.p,.p,.x X6]
theorem jcj(ff:Option (List Env)):au 600 (wf w a b c) N t₀ ([(z.L,frL (wf w a b c).params p z ring tk kv [("ready",t3,x3),("name",t4,nmV p.nt k),("x",t5,.int (p.n k) (p.tn k))] 10 sl),(p.NM,lO (ai p.nt) p.e1),(z.ed,dO (wf w a b c).params p.nt ends ee),(229,d7 none)]) (.fin jck (jcl (cb (N+1) (p.n k) (t₀+1) (t₀+2) (t₀+3) (t₀+5) 5 2 6) (mq (p.n k) (t₀+14) 4 15 false) (cb (N+13) (p.n k) (t₀+23) (t₀+24) (t₀+25) (t₀+27) 17 14 28) (ltX none (dq (p.n k)) (t₀+32) 0 (t₀+54) 18 55 false) (gtX none (dq (p.n k)) (t₀+32) 18446744073709551615 (t₀+55) 18 56 false) (gtX none (dq (p.n k)) (t₀+32) 4294967295 (t₀+56) 18 57 false) (dnX none (wf w a b c).params z.ed p.nt k ends ee 2 19 61 (.ref (N+18)))) ⟨.ok (.done .next),[(0,frL (wf w a b c).params p z ring tk kv [("ready",t3,x3),("name",t4,nmV p.nt k),("x",t5,.int (p.n k) (p.tn k))] 10 sl),(1,lO (ai p.nt) p.e1),(2,dO (wf w a b c).params p.nt (ends++[(k,.ref (N+18))]) (ee+1)),(3,d7 (some (N+10))),(22,A1 (p.n k) (t₀+58) (t₀+38) (t₀+44))],19,62⟩) ⟨none,520,5200,ff⟩ (ar [ak (inS lrN) 1] (av z.L)):=by cases c<;>kernel_rfl
noncomputable def jce:List Nat:=dH 136 20805903436508204256672854999076521773617538102840232946915450564846423421615632504577890286764489270296736609503732817256188017081484813222083478703271864567288427948838207385373314706473920401767486927830309887301763121723799378874708525060096
noncomputable def jcf(X0 X1 X2 X3 X4 X5 X6:XSpec):List CH:=[.f,.p,.p,.p,.x X0,.p,.p,.p,.p,.p,.p,.p,.f,.p,.f,.p,.p,.p,.x X1,.f,.p,.f,.p,.p,.p,.x X2,.p,.p,.p,.p,.p,.p,.p,.p,.p,.p,.p,.p,.p,.p,.p,.p,.p,.p,.p,.p,.p,.f,.p,.p,.p,.f,.p,.f,.p,.p,.p,.x X3,.x X4,.x X5,.p,.p,.p,.p,.p,.p,.p,.p,.p,.p,.p,.p,.x X6]
theorem jcd(ff:Option (List Env)):au 600 (wf w a b c) N t₀ ([(z.L,frL (wf w a b c).params p z ring tk kv [("ready",t3,x3),("name",t4,nmV p.nt k),("x",t5,.int (p.n k) (p.tn k))] 10 sl),(p.NM,lO (ai p.nt) p.e1),(z.ed,dO (wf w a b c).params p.nt ends ee),(229,d7 (some cd))]) (.fin jce (jcf (cb (N+1) (p.n k) (t₀+1) (t₀+2) (t₀+3) (t₀+5) 5 2 6) (mq (p.n k) (t₀+14) 4 15 false) (cb (N+7) (p.n k) (t₀+18) (t₀+19) (t₀+20) (t₀+22) 11 8 23) (ltX none (dq (p.n k)) (t₀+27) 0 (t₀+49) 12 50 false) (gtX none (dq (p.n k)) (t₀+27) 18446744073709551615 (t₀+50) 12 51 false) (gtX none (dq (p.n k)) (t₀+27) 4294967295 (t₀+51) 12 52 false) (dnX none (wf w a b c).params z.ed p.nt k ends ee 2 13 56 (.ref (N+12)))) ⟨.ok (.done .next),[(0,frL (wf w a b c).params p z ring tk kv [("ready",t3,x3),("name",t4,nmV p.nt k),("x",t5,.int (p.n k) (p.tn k))] 10 sl),(1,lO (ai p.nt) p.e1),(2,dO (wf w a b c).params p.nt (ends++[(k,.ref (N+12))]) (ee+1)),(3,d7 (some cd)),(16,A1 (p.n k) (t₀+53) (t₀+33) (t₀+39))],13,57⟩) ⟨none,520,5200,ff⟩ (ar [ak (inS lrN) 1] (av z.L)):=by cases c<;>kernel_rfl
end
noncomputable def jcb:List Nat:=dH 184 23931925853683573296031975258188676336279057752719911346333731758107809374432412537558568108952513115507474000711018529667978637735008028224284447486431066401221187752188081830109623916252065808184655969157119561829888121508166200688635787796251677959507125154689099064375701015940057620574986445773709536287551794800766856716091521
noncomputable def jcc(X0 X1:XSpec):List CH:=[.f,.p,.p,.p,.p,.p,.p,.p,.x X0,.p,.p,.p,.p,.p,.p,.p,.p,.x X1,.p,.p,.p,.p,.p,.p,.p,.p,.p,.p,.p,.p,.p,.p,.p,.p,.p,.p,.p,.p,.p]
noncomputable def jb9:List Nat:=dH 225 3090164311803776774153399798885039166838938442787469775960737015793545029156151161677089572079293482992634396573233624490056444317132048981341641508912511125821915612693138394542152207900457902200173664659830747615569879363593575090080773439067469560308395463983875668002406822870034723949274236347149852927783869875333074321279531286149277028914504739528148839662925622719639909221534900025449391123857537
noncomputable def jca(X0 X1 X2:XSpec):List CH:=[.f,.p,.p,.p,.p,.p,.p,.p,.x X0,.p,.p,.p,.p,.p,.p,.p,.p,.x X1,.p,.p,.p,.p,.p,.p,.p,.p,.x X2,.p,.p,.p,.p,.p,.p,.p,.p,.p,.p,.p,.p,.p,.p,.p,.p,.p,.p,.p,.p,.p]
noncomputable def jb7:List Nat:=dH 266 392850584206490969824111343058081214650325931037001836738803540519469486104096932574641350161854264033333144653074979015985056848656169447087619190114074390984931015132844471608966050406911518837216289883040062699078044473058794440082878435028716381653738143867786126468183188392830632981037833336083891558333706072516206998492479397944853755675424772643629059549403909881023942461113884876006873569991326360388543240300351338699063560882155093217687647095661267487595131253555329
noncomputable def jb8(X0 X1 X2 X3:XSpec):List CH:=[.f,.p,.p,.p,.p,.p,.p,.p,.x X0,.p,.p,.p,.p,.p,.p,.p,.p,.x X1,.p,.p,.p,.p,.p,.p,.p,.p,.x X2,.p,.p,.p,.p,.p,.p,.p,.p,.x X3,.p,.p,.p,.p,.p,.p,.p,.p,.p,.p,.p,.p,.p,.p,.p,.p,.p,.p,.p,.p,.p]
noncomputable def jb5:List Nat:=dH 307 49332734830353803281345196785300016508389627449579814597008126606136630687446822796461112044243029787246572301025463041362041289652034962926600442653949869215102721572935838857599109149516770014061543266191993990055337515391866188608937497320281042564505125508597495052083132040925287256516262916375628531001350607315804922253976643562438084722293203472519361088191682264847435748269849302729950450811147499150503989293747390347567731341612463276891655722567073783653168942163377107870483779083228555633085184580895566536300387782343014159105691408662657
noncomputable def jb6(X0 X1 X2 X3 X4:XSpec):List CH:=[.f,.p,.p,.p,.p,.p,.p,.p,.x X0,.p,.p,.p,.p,.p,.p,.p,.p,.x X1,.p,.p,.p,.p,.p,.p,.p,.p,.x X2,.p,.p,.p,.p,.p,.p,.p,.p,.x X3,.p,.p,.p,.p,.p,.p,.p,.p,.x X4,.p,.p,.p,.p,.p,.p,.p,.p,.p,.p,.p,.p,.p,.p,.p,.p,.p,.p,.p,.p,.p]
noncomputable def jb3:List Nat:=dH 348 6133659391603719801529637689063863500786740051337459250532451569035735920145878447841410689345963682092122818955553638738568694344717284623503096882409471710488216491751721028849201723306253976378375561399431226257423652060745380558099862745434045324347526328708014455621160285492998954762437690545541023900635339835483369743786773040684329550059172839551171423576393346843685099212606751259555758871584544056764510988787827202477549838857411853783792261782388128200525942530393000798090259580830022595858161911985833260608676246681733881832182961796335752270752495692764262714564209406057153511431548217764513253677415025082497
noncomputable def jb4(X0 X1 X2 X3 X4 X5:XSpec):List CH:=[.f,.p,.p,.p,.p,.p,.p,.p,.x X0,.p,.p,.p,.p,.p,.p,.p,.p,.x X1,.p,.p,.p,.p,.p,.p,.p,.p,.x X2,.p,.p,.p,.p,.p,.p,.p,.p,.x X3,.p,.p,.p,.p,.p,.p,.p,.p,.x X4,.p,.p,.p,.p,.p,.p,.p,.p,.x X5,.p,.p,.p,.p,.p,.p,.p,.p,.p,.p,.p,.p,.p,.p,.p,.p,.p,.p,.p,.p,.p]
noncomputable def jb1:List Nat:=dH 389 756364480298551703214831222892102739030415562213496689862492513773256056298082369780112832627275621189223802797999621640664069692784440853947041660005365626618415925175230206596463593629148460992393935281832354410921602237338401294041853032599964011471486988476006164757231445234310950224131953467279713542580609647505011973074124623344285031956721668758682510864818744681733228531254913519073428651677037296982237429739796499253955869309860843987356129752294153966275025795416526382754880399845695405211041293441926020878571287100246553588919654751801627958390611001274225115100145596376426815385941959485565077130190724668386556877671147502707185462054787996264515798545328194562185964746266942374017
noncomputable def jb2(X0 X1 X2 X3 X4 X5 X6:XSpec):List CH:=[.f,.p,.p,.p,.p,.p,.p,.p,.x X0,.p,.p,.p,.p,.p,.p,.p,.p,.x X1,.p,.p,.p,.p,.p,.p,.p,.p,.x X2,.p,.p,.p,.p,.p,.p,.p,.p,.x X3,.p,.p,.p,.p,.p,.p,.p,.p,.x X4,.p,.p,.p,.p,.p,.p,.p,.p,.x X5,.p,.p,.p,.p,.p,.p,.p,.p,.x X6,.p,.p,.p,.p,.p,.p,.p,.p,.p,.p,.p,.p,.p,.p,.p,.p,.p,.p,.p,.p,.p]
noncomputable def jbz:List Nat:=dH 430 92627533807904347820559849644591376604864521326283116331522207050707603541824560417010695324083393178434438624677031461775407583275168903127641066179801001060397268992720700878328424069237966472630930470499262644676732128365554816671536594395591790753308240732418164538353159481307283418170080603661683962714303330121483247331243711745454719461692433184420476249707631852319330329694039401867677494251035422416843876911304806611138902720060396696924569317011868757113293721387674472277042455803872705223486900474799796879627080916501124909422381892659078170449522941138565388806152112208578619622227118331223886769141857547577999032496449899212121892649731688801288898508086853016561483084060699987726624380032168104509416113519645517725412854099718437865928956117183360925825
noncomputable def jb0(X0 X1 X2 X3 X4 X5 X6 X7:XSpec):List CH:=[.f,.p,.p,.p,.p,.p,.p,.p,.x X0,.p,.p,.p,.p,.p,.p,.p,.p,.x X1,.p,.p,.p,.p,.p,.p,.p,.p,.x X2,.p,.p,.p,.p,.p,.p,.p,.p,.x X3,.p,.p,.p,.p,.p,.p,.p,.p,.x X4,.p,.p,.p,.p,.p,.p,.p,.p,.x X5,.p,.p,.p,.p,.p,.p,.p,.p,.x X6,.p,.p,.p,.p,.p,.p,.p,.p,.x X7,.p,.p,.p,.p,.p,.p,.p,.p,.p,.p,.p,.p,.p,.p,.p,.p,.p,.p,.p,.p,.p]
noncomputable def jbx:List Nat:=dH 471 11276919704309241991207267903789094805105826160574258156419745186449692202224164647822484176330210111864407542024469010855432358141825560505116744895935015063199407200640633676165814418367305074215367022953921474237428997114388495031753513846913382394979185843082708209648781737742821685571278571144952300057944916055072709629986526921555350343336542801478391562965216167437246284660977055844372302064076974175903521019012191472939470718455398294889754275138958986272858297156452257428377064885741204736612993693644690358070103499524664791878843758211568201228636519404619513035135114738069792642058918070009701949744706528896903081460637299554571682646641463012638908387025003306232679816265430297249437692437082496041763209002985849968780481371390361860715200110737666745834982214470947540189794421158700693476775983456637787063110071834331146354817
noncomputable def jby(X0 X1 X2 X3 X4 X5 X6 X7 X8:XSpec):List CH:=[.f,.p,.p,.p,.p,.p,.p,.p,.x X0,.p,.p,.p,.p,.p,.p,.p,.p,.x X1,.p,.p,.p,.p,.p,.p,.p,.p,.x X2,.p,.p,.p,.p,.p,.p,.p,.p,.x X3,.p,.p,.p,.p,.p,.p,.p,.p,.x X4,.p,.p,.p,.p,.p,.p,.p,.p,.x X5,.p,.p,.p,.p,.p,.p,.p,.p,.x X6,.p,.p,.p,.p,.p,.p,.p,.p,.x X7,.p,.p,.p,.p,.p,.p,.p,.p,.x X8,.p,.p,.p,.p,.p,.p,.p,.p,.p,.p,.p,.p,.p,.p,.p,.p,.p,.p,.p,.p,.p]
noncomputable def l8(p:Par)(np:Fin 8→Int)(nd:Fin 8→Nd)(rd:List (Fin 8)):List (Nat×Obj):=rd.map fun k=>((nd k).a,br (nmV p.nt k) (nd k).ad (np k) (nd k).tn (nd k).l)
noncomputable def fj(P:Params)(p:Par)(z:LR)(ring:Bool)(tk:Nat)(kv:Value)(ext:List (String×Nat×Value))(ep:Nat)(sl:Array (Option Value))(rl rle t1 t2:Nat)(po:Int)(og:Fin 8→Fin 8)(nd:Fin 8→Nd)(rd:List (Fin 8)):List (Nat×Obj):=
 [(z.L,frL P p z ring tk kv ext ep sl),(z.S,sO z.Sd),(z.Sd,sD P z.q z.D (.ref rl) po po t1 t2),(z.D,dO P p.nt (aq (ol og) nd) 8),(rl,lO (rd.map (nmV p.nt)) rle)]
noncomputable def gX(P:Params)(p:Par)(z:LR)(og:Fin 8→Fin 8)(nd:Fin 8→Nd)(k:Fin 8)(tk:Nat):XSpec:=dgX none P z.D p.nt k (aq (ol og) nd) 8 3 4 tk (.ref (nd k).a)
noncomputable def gEx(P:Params)(p:Par)(z:LR)(ring:Bool)(tk:Nat)(kv:Value)(ext:List (String×Nat×Value))(ep:Nat)(sl:Array (Option Value))(rl rle t2:Nat)(po:Int)(og:Fin 8→Fin 8)(nd:Fin 8→Nd)(rd:List (Fin 8))(t₀:Nat):List (Nat×Obj):=
 [(0,frL P p z ring tk kv ext ep sl),(1,sO z.Sd),(2,sD P z.q z.D (.ref rl) (po+(rd.length:Int)) po (t₀+(10+3*rd.length)) t2),(3,dO P p.nt (aq (ol og) nd) 8),(4,lO [] (rle+1)),(7+rd.length,tuO (rd.map (nmV p.nt)))]
noncomputable def jgf(p:Par)(nd:Fin 8→Nd):Nat→List (Fin 8)→List (Nat×Obj)
 |_,[]=>[]
 |n,k::l=>(n,br (nmV p.nt k) (nd k).ad (-1) 287 (nd k).l)::jgf p nd (n+1) l
noncomputable def gCs(P:Params)(p:Par)(z:LR)(og:Fin 8→Fin 8)(nd:Fin 8→Nd)(rl rle N:Nat):List (Fin 8)→List Nat×List CH
 |[k0]=>(jcb,jcc (pcX none rl (lO ([k0].map (nmV p.nt)) rle) ([k0].map (nmV p.nt)) (N+1) 1 4 1 3) (gX P p z og nd k0 7))
 |[k0,k1]=>(jb9,jca (pcX none rl (lO ([k0,k1].map (nmV p.nt)) rle) ([k0,k1].map (nmV p.nt)) (N+1) 1 4 1 3) (gX P p z og nd k0 7) (gX P p z og nd k1 10))
 |[k0,k1,k2]=>(jb7,jb8 (pcX none rl (lO ([k0,k1,k2].map (nmV p.nt)) rle) ([k0,k1,k2].map (nmV p.nt)) (N+1) 1 4 1 3) (gX P p z og nd k0 7) (gX P p z og nd k1 10) (gX P p z og nd k2 13))
 |[k0,k1,k2,k3]=>(jb5,jb6 (pcX none rl (lO ([k0,k1,k2,k3].map (nmV p.nt)) rle) ([k0,k1,k2,k3].map (nmV p.nt)) (N+1) 1 4 1 3) (gX P p z og nd k0 7) (gX P p z og nd k1 10) (gX P p z og nd k2 13) (gX P p z og nd k3 16))
 |[k0,k1,k2,k3,k4]=>(jb3,jb4 (pcX none rl (lO ([k0,k1,k2,k3,k4].map (nmV p.nt)) rle) ([k0,k1,k2,k3,k4].map (nmV p.nt)) (N+1) 1 4 1 3) (gX P p z og nd k0 7) (gX P p z og nd k1 10) (gX P p z og nd k2 13) (gX P p z og nd k3 16) (gX P p z og nd k4 19))
 |[k0,k1,k2,k3,k4,k5]=>(jb1,jb2 (pcX none rl (lO ([k0,k1,k2,k3,k4,k5].map (nmV p.nt)) rle) ([k0,k1,k2,k3,k4,k5].map (nmV p.nt)) (N+1) 1 4 1 3) (gX P p z og nd k0 7) (gX P p z og nd k1 10) (gX P p z og nd k2 13) (gX P p z og nd k3 16) (gX P p z og nd k4 19) (gX P p z og nd k5 22))
 |[k0,k1,k2,k3,k4,k5,k6]=>(jbz,jb0 (pcX none rl (lO ([k0,k1,k2,k3,k4,k5,k6].map (nmV p.nt)) rle) ([k0,k1,k2,k3,k4,k5,k6].map (nmV p.nt)) (N+1) 1 4 1 3) (gX P p z og nd k0 7) (gX P p z og nd k1 10) (gX P p z og nd k2 13) (gX P p z og nd k3 16) (gX P p z og nd k4 19) (gX P p z og nd k5 22) (gX P p z og nd k6 25))
 |[k0,k1,k2,k3,k4,k5,k6,k7]=>(jbx,jby (pcX none rl (lO ([k0,k1,k2,k3,k4,k5,k6,k7].map (nmV p.nt)) rle) ([k0,k1,k2,k3,k4,k5,k6,k7].map (nmV p.nt)) (N+1) 1 4 1 3) (gX P p z og nd k0 7) (gX P p z og nd k1 10) (gX P p z og nd k2 13) (gX P p z og nd k3 16) (gX P p z og nd k4 19) (gX P p z og nd k5 22) (gX P p z og nd k6 25) (gX P p z og nd k7 28))
 |_=>([],[])
section
variable{w:World}{a b c:Bool}{N t₀ tk ep rl t1 t2 rle:Nat}{p:Par}{z:LR}{ring:Bool}{kv:Value}{ext:List (String×Nat×Value)}{sl:Array (Option Value)}{po:Int}{og:Fin 8→Fin 8}{nd:Fin 8→Nd}{np:Fin 8→Int}
noncomputable def jq9(P:Params)(p:Par)(z:LR)(ring:Bool)(tk:Nat)(kv:Value)(ext:List (String×Nat×Value))(ep:Nat)(sl:Array (Option Value))(rl rle t2:Nat)(po:Int)(og:Fin 8→Fin 8)(nd:Fin 8→Nd)(N t₀:Nat)(rd:List (Fin 8)):Script:=
 .fin (gCs P p z og nd rl rle N rd).1 (gCs P p z og nd rl rle N rd).2 ⟨.ok (.done (.ret (.ref (N+2)))),gEx P p z ring tk kv ext ep sl rl rle t2 po og nd rd t₀++jgf p nd 5 rd,6,13+3*rd.length⟩
theorem jkl(ff:Option (List Env)):∀(rd:List (Fin 8)) (_:rd≠[]) (_:rd.length≤8),au 1200 (wf w a b c) N t₀ (fj (wf w a b c).params p z ring tk kv ext ep sl rl rle t1 t2 po og nd rd++l8 p np nd rd) (jq9 (wf w a b c).params p z ring tk kv ext ep sl rl rle t2 po og nd N t₀ rd) ⟨none,520,5200,ff⟩ (evT (jnk (ak (inS lrW) 0)) (av z.L))
 |[k0],_,_=>by cases c<;>kernel_rfl
 |[k0,k1],_,_=>by cases c<;>kernel_rfl
 |[k0,k1,k2],_,_=>by cases c<;>kernel_rfl
 |[k0,k1,k2,k3],_,_=>by cases c<;>kernel_rfl
 |[k0,k1,k2,k3,k4],_,_=>by cases c<;>kernel_rfl
 |[k0,k1,k2,k3,k4,k5],_,_=>by cases c<;>kernel_rfl
 |[k0,k1,k2,k3,k4,k5,k6],_,_=>by cases c<;>kernel_rfl
 |[k0,k1,k2,k3,k4,k5,k6,k7],_,_=>by cases c<;>kernel_rfl
 |[],h,_=>absurd rfl h
 |_::_::_::_::_::_::_::_::_::_,_,h=>absurd h (by simp)
end
noncomputable def dnS:List Stmt:=d6 (st2 16 7)
noncomputable def cc(L:Nat):Env:=vz 16 7 "TopologicalSorter.done.<locals>." L 185 184
noncomputable abbrev Ext:=List (String×Nat×Value)
noncomputable def frD(P:Params)(f:Nat→Nat)(S tp D:Nat)(ext:Ext)(ep:Nat):Obj:=frS P (("self",f 0,.ref S)::("nodes",f 1,.ref tp)::("n2i",f 2,.ref D)::ext) ep #[]
noncomputable def dnF:Stmt:=ak dnS 2
noncomputable def dnI:Stmt:=ak (inS dnF) 4
noncomputable def jnq(a b c:Nat):Nat→Nat
 |0=>a
 |1=>b
 |_=>c
noncomputable def dtX(hnd:Option Value)(P:Params)(D:Nat)(nt:Fin 8→Nat)(k:Fin 8)(kv:KV)(ep:Nat)(j i tk:Nat)(v:Value):XSpec:=⟨.call (.builtin "dict.get") ⟨[.ref D,nmV nt k],[]⟩,980,9800,hnd,[(j,dO P nt kv ep)],i,tk,rv v,[],[],1⟩
theorem jav{V:SV}{h₀:Heap}{w:World}{hnd:Option Value}{D ep j i tk:Nat}{nt:Fin 8→Nat}{k:Fin 8}{kv:KV}{v:Value}(hw:V.w=w)(hp:aj V.pre V.N j=D)(hD:D≠1)(hv:kv.lookup k=some v):XOk V h₀ (dtX hnd w.params D nt k kv ep j i tk v):=
 bn fun A s R _ _ _ hpre hR=>by
  have h1:=hpre (j,_) (.head _)
  rw[hp] at h1
  rw[hw]
  exact jj8 hD h1 (by rw[hv];exact hR)
section
variable{w:World}{a b c:Bool}{N t₀ L S Sd D tp t3 t4 t5 t6 t7 t8 t1 t2 ep i ad tn l le r re:Nat}{q f:Nat→Nat}{k:Fin 8}{nt:Fin 8→Nat}{x y v1 v2 v3 v4:Value}{ext:Ext}{og:Fin 8→Fin 8}{nd:Fin 8→Nd}{po nf np:Int}{vs xs:List Value}
noncomputable def jm3:List Nat:=[0,2,2,2,2]
noncomputable def jm4:List CH:=[.f,.stop]
theorem jm2(ff:Option (List Env)):∀(vs:List Value) (_:vs≠[]) (_:vs.length≤8),c9 100 (wf w a b c) N t₀ ([]) (.fin jm3 jm4 ⟨.ok (.again (.func dnS (cc (N+1)))),[(0,tuO vs),(1,frS (wf w a b c).params [("self",t₀,.ref S),("nodes",t₀+1,.ref N)] 2 #[])],2,2⟩) ⟨none,600,6000,ff⟩ ((.call (.ref 185) ⟨.ref S::vs,[]⟩))
 |[x0],_,_=>by cases c<;>kernel_rfl
 |[x0,x1],_,_=>by cases c<;>kernel_rfl
 |[x0,x1,x2],_,_=>by cases c<;>kernel_rfl
 |[x0,x1,x2,x3],_,_=>by cases c<;>kernel_rfl
 |[x0,x1,x2,x3,x4],_,_=>by cases c<;>kernel_rfl
 |[x0,x1,x2,x3,x4,x5],_,_=>by cases c<;>kernel_rfl
 |[x0,x1,x2,x3,x4,x5,x6],_,_=>by cases c<;>kernel_rfl
 |[x0,x1,x2,x3,x4,x5,x6,x7],_,_=>by cases c<;>kernel_rfl
 |[],h,_=>absurd rfl h
 |_::_::_::_::_::_::_::_::_::_,_,h=>absurd h (by simp)
noncomputable def jm6:List Nat:=dH 28 5941632852522234829434794813518009169359495233665
noncomputable def jm7:List CH:=[.p,.p]
theorem jm5(ff:Option (List Env)):au 200 (wf w a b c) N t₀ ([(L,frS (wf w a b c).params [("self",t3,.ref S),("nodes",t4,.ref tp)] 2 #[]),(S,sO Sd),(Sd,sD (wf w a b c).params q D (.ref r) po nf t1 t2)]) (.fin jm6 jm7 ⟨.ok (.done .next),[(0,frD (wf w a b c).params (jnq t3 t4 (t₀+2)) S tp D [] 3),(1,sO Sd),(2,sD (wf w a b c).params q D (.ref r) po nf t1 t2)],0,3⟩) ⟨none,620,6200,ff⟩ (ar (dnS.take 2) (cc L)):=by cases c<;>kernel_rfl
noncomputable def jmr:List Nat:=[1]
noncomputable def jms:List CH:=[]
theorem jmq(ff:Option (List Env)):au 60 (wf w a b c) N t₀ ([(L,frD (wf w a b c).params f S tp D ext ep)]) (.fin jmr jms ⟨.ok (.done (.ret (.ref tp))),[(0,frD (wf w a b c).params f S tp D ext ep)],0,0⟩) ⟨none,620,6200,ff⟩ (evT (fi dnF) (cc L)):=by kernel_rfl
noncomputable def jiv:List Nat:=[1,1]
noncomputable def jiw:List CH:=[]
theorem jiu(ff:Option (List Env)):au 60 (wf w a b c) N t₀ ([(L,frD (wf w a b c).params f S tp D [] 3)]) (.fin jiv jiw ⟨.ok (.done .next),[(0,frD (wf w a b c).params f S tp D [("node",t₀,nmV nt k)] 4)],0,1⟩) ⟨none,620,6200,ff⟩ (asT (teS dnF) (cc L) (nmV nt k)):=by kernel_rfl
noncomputable def jis:List Nat:=[1,1]
noncomputable def jit:List CH:=[]
theorem wa(ff:Option (List Env)):au 60 (wf w a b c) N t₀ ([(L,frD (wf w a b c).params f S tp D (("node",t4,x)::ext) ep)]) (.fin jis jit ⟨.ok (.done .next),[(0,frD (wf w a b c).params f S tp D (("node",t4,nmV nt k)::ext) ep)],0,1⟩) ⟨none,620,6200,ff⟩ (asT (teS dnF) (cc L) (nmV nt k)):=by kernel_rfl
noncomputable def ji1:List Nat:=dH 66 7567032158748222876907557412884287105828364856152080356740477710338196278738292911780359186448500277518581580861808769
noncomputable def ji2(X0:XSpec):List CH:=[.x X0,.p,.p,.p,.p,.p,.p,.p,.p,.p,.p,.p]
theorem ji0(ff:Option (List Env)):au 300 (wf w a b c) N t₀ ([(L,frD (wf w a b c).params f S tp D [("node",t4,nmV nt k)] 4),(D,dO (wf w a b c).params nt (aq (ol og) nd) 8),(i,br (nmV nt k) ad (-1) tn l)]) (.fin ji1 (ji2 (dtX none (wf w a b c).params D nt k (aq (ol og) nd) 8 1 0 0 (.ref i))) ⟨.ok (.done .next),[(0,frD (wf w a b c).params f S tp D [("node",t4,nmV nt k),("nodeinfo",t₀+1,.ref i),("stat",t₀+3,.int (-1) tn)] 6),(1,dO (wf w a b c).params nt (aq (ol og) nd) 8),(2,br (nmV nt k) ad (-2) 290 l)],0,5⟩) ⟨none,620,6200,ff⟩ (ar ((inS dnF).take 4) (cc L)):=by cases c<;>kernel_rfl
noncomputable def jiy:List Nat:=dH 66 7567032158748222876907557412884287105828364856152080356740477710338196278738292911780359186448500277518581580861808769
noncomputable def jiz(X0:XSpec):List CH:=[.x X0,.p,.p,.p,.p,.p,.p,.p,.p,.p,.p,.p]
theorem jix(ff:Option (List Env)):au 300 (wf w a b c) N t₀ ([(L,frD (wf w a b c).params f S tp D (("node",t4,nmV nt k)::("nodeinfo",t5,x)::("stat",t6,y)::ext) ep),(D,dO (wf w a b c).params nt (aq (ol og) nd) 8),(i,br (nmV nt k) ad (-1) tn l)]) (.fin jiy (jiz (dtX none (wf w a b c).params D nt k (aq (ol og) nd) 8 1 0 0 (.ref i))) ⟨.ok (.done .next),[(0,frD (wf w a b c).params f S tp D (("node",t4,nmV nt k)::("nodeinfo",t5,.ref i)::("stat",t6,.int (-1) tn)::ext) ep),(1,dO (wf w a b c).params nt (aq (ol og) nd) 8),(2,br (nmV nt k) ad (-2) 290 l)],0,5⟩) ⟨none,620,6200,ff⟩ (ar ((inS dnF).take 4) (cc L)):=by cases c<;>kernel_rfl
noncomputable def jmo:List Nat:=dH 26 2855192283699383985294546755930222509835681921
noncomputable def jmp:List CH:=[.p,.p,.p,.p]
theorem jmn(ff:Option (List Env)):au 100 (wf w a b c) N t₀ ([(L,frD (wf w a b c).params f S tp D (("node",t4,v1)::("nodeinfo",t5,.ref i)::ext) ep),(i,br (nmV nt k) ad np tn l)]) (.fin jmo jmp ⟨.ok (.done (.ret (.ref l))),[(0,frD (wf w a b c).params f S tp D (("node",t4,v1)::("nodeinfo",t5,.ref i)::ext) ep),(1,br (nmV nt k) ad np tn l)],0,1⟩) ⟨none,620,6200,ff⟩ (evT (fi dnI) (cc L)):=by cases c<;>kernel_rfl
noncomputable def jmu:List Nat:=[1,1,1,2]
noncomputable def jmv:List CH:=[.p,.p]
theorem jmt(ff:Option (List Env)):au 60 (wf w a b c) N t₀ ([(l,lO vs le)]) (.fin jmu jmv ⟨.ok (.done (.ret (.ref N))),[(0,lO vs le),(1,liO l 0)],1,0⟩) ⟨none,620,6200,ff⟩ (itT (.ref l)):=by cases c<;>kernel_rfl
noncomputable def jmx:List Nat:=[1,1,1,2]
noncomputable def jmy:List CH:=[.p,.p]
theorem jmw(ff:Option (List Env)):au 60 (wf w a b c) N t₀ ([(tp,tuO vs)]) (.fin jmx jmy ⟨.ok (.done (.ret (.ref N))),[(0,tuO vs),(1,⟨.type "tuple_iterator",none,.fields #[.ref tp,.int 0 0],#[]⟩)],1,0⟩) ⟨none,620,6200,ff⟩ (itT (.ref tp)):=by cases c<;>kernel_rfl
noncomputable def jip:List Nat:=[1,1]
noncomputable def jiq:List CH:=[]
theorem jio(ff:Option (List Env)):au 60 (wf w a b c) N t₀ ([(L,frD (wf w a b c).params f S tp D [("node",t4,v1),("nodeinfo",t5,v2),("stat",t6,v3)] 6)]) (.fin jip jiq ⟨.ok (.done .next),[(0,frD (wf w a b c).params f S tp D [("node",t4,v1),("nodeinfo",t5,v2),("stat",t6,v3),("successor",t₀,nmV nt k)] 7)],0,1⟩) ⟨none,620,6200,ff⟩ (asT (teS dnI) (cc L) (nmV nt k)):=by kernel_rfl
noncomputable def jim:List Nat:=[1,1]
noncomputable def jin:List CH:=[]
theorem jil(ff:Option (List Env)):au 60 (wf w a b c) N t₀ ([(L,frD (wf w a b c).params f S tp D (("node",t4,v1)::("nodeinfo",t5,v2)::("stat",t6,v3)::("successor",t7,v4)::ext) ep)]) (.fin jim jin ⟨.ok (.done .next),[(0,frD (wf w a b c).params f S tp D (("node",t4,v1)::("nodeinfo",t5,v2)::("stat",t6,v3)::("successor",t7,nmV nt k)::ext) ep)],0,1⟩) ⟨none,620,6200,ff⟩ (asT (teS dnI) (cc L) (nmV nt k)):=by kernel_rfl
noncomputable def jij:List Nat:=dH 103 18615122016638091763088656322056005191026126316413237838551441487431664759217342400240209482968704976043686953269366568209995943321103086398271237708990814783838274736361428561523384385
noncomputable def jik(X0 X1:XSpec):List CH:=[.x X0,.p,.p,.p,.p,.p,.p,.p,.p,.p,.p,.p,.p,.p,.p,.p,.p,.p,.p,.x X1]
theorem jii(ff:Option (List Env)):au 400 (wf w a b c) N t₀ ([(L,frD (wf w a b c).params f S tp D [("node",t4,v1),("nodeinfo",t5,v2),("stat",t6,v3),("successor",t7,nmV nt k)] 7),(D,dO (wf w a b c).params nt (aq (ol og) nd) 8),(i,br (nmV nt k) ad 1 tn l),(S,sO Sd),(Sd,sD (wf w a b c).params q D (.ref r) po nf t1 t2),(r,lO xs re)]) (.fin jij (jik (dgX none (wf w a b c).params D nt k (aq (ol og) nd) 8 1 0 0 (.ref i)) (laX none r xs re (nmV nt k) 5 0 9)) ⟨.ok (.done .next),[(0,frD (wf w a b c).params f S tp D [("node",t4,v1),("nodeinfo",t5,v2),("stat",t6,v3),("successor",t7,nmV nt k),("successor_info",t₀+1,.ref i)] 8),(1,dO (wf w a b c).params nt (aq (ol og) nd) 8),(2,br (nmV nt k) ad 0 (t₀+4) l),(3,sO Sd),(4,sD (wf w a b c).params q D (.ref r) po nf t1 t2),(5,lO (xs++[nmV nt k]) (re+1))],0,9⟩) ⟨none,620,6200,ff⟩ (ar (inS dnI) (cc L)):=by cases c<;>kernel_rfl
noncomputable def jig:List Nat:=dH 103 18615122016638091763088656322056005191026126316413237838551441487431664759217342400240209482968704976043686953269366568209995943321103086398271237708990814783838274736361428561523384385
noncomputable def jih(X0 X1:XSpec):List CH:=[.x X0,.p,.p,.p,.p,.p,.p,.p,.p,.p,.p,.p,.p,.p,.p,.p,.p,.p,.p,.x X1]
theorem jif(ff:Option (List Env)):au 400 (wf w a b c) N t₀ ([(L,frD (wf w a b c).params f S tp D [("node",t4,v1),("nodeinfo",t5,v2),("stat",t6,v3),("successor",t7,nmV nt k),("successor_info",t8,v4)] 8),(D,dO (wf w a b c).params nt (aq (ol og) nd) 8),(i,br (nmV nt k) ad 1 tn l),(S,sO Sd),(Sd,sD (wf w a b c).params q D (.ref r) po nf t1 t2),(r,lO xs re)]) (.fin jig (jih (dgX none (wf w a b c).params D nt k (aq (ol og) nd) 8 1 0 0 (.ref i)) (laX none r xs re (nmV nt k) 5 0 9)) ⟨.ok (.done .next),[(0,frD (wf w a b c).params f S tp D [("node",t4,v1),("nodeinfo",t5,v2),("stat",t6,v3),("successor",t7,nmV nt k),("successor_info",t8,.ref i)] 8),(1,dO (wf w a b c).params nt (aq (ol og) nd) 8),(2,br (nmV nt k) ad 0 (t₀+4) l),(3,sO Sd),(4,sD (wf w a b c).params q D (.ref r) po nf t1 t2),(5,lO (xs++[nmV nt k]) (re+1))],0,9⟩) ⟨none,620,6200,ff⟩ (ar (inS dnI) (cc L)):=by cases c<;>kernel_rfl
noncomputable def jm0:List Nat:=dH 30 72975702609702200106398129726692193538337688548016257
noncomputable def jm1:List CH:=[.p,.p,.p,.p,.p]
theorem jmz(ff:Option (List Env)):au 200 (wf w a b c) N t₀ ([(L,frD (wf w a b c).params f S tp D ext ep),(S,sO Sd),(Sd,sD (wf w a b c).params q D (.ref r) po nf t1 t2)]) (.fin jm0 jm1 ⟨.ok (.done .next),[(0,frD (wf w a b c).params f S tp D ext ep),(1,sO Sd),(2,sD (wf w a b c).params q D (.ref r) po (nf+1) t1 (t₀+2))],0,5⟩) ⟨none,620,6200,ff⟩ (ar [ak (inS dnF) 5] (cc L)):=by cases c<;>kernel_rfl
end
theorem qd:dnS=dnS.take 2++[dnF]:=by kernel_rfl
theorem qt:dnF=.For (teS dnF) (fi dnF) (inS dnF) [] (gy dnF):=by kernel_rfl
theorem qm:inS dnF=(inS dnF).take 4++([dnI]++[ak (inS dnF) 5]):=by kernel_rfl
theorem qi:dnI=.For (teS dnI) (fi dnI) (inS dnI) [] (gy dnI):=by kernel_rfl
noncomputable def npD(np:Fin 8→Int)(A B:List (Fin 8)):Fin 8→Int:=fun k=>if k∈A then -2 else if k∈B then 0 else np k
section
variable{w:World}{a b c:Bool}{nt:Fin 8→Nat}{og:Fin 8→Fin 8}{nd nd':Fin 8→Nd}{np np':Fin 8→Int}{su:Fin 8→List (Fin 8)}{A:Around}{E:Value→Shared→Prop}{s:Shared}{R:Result→Shared→Prop}{S Sd D lo t1 t2 L tp r:Nat}{q f:Nat→Nat}{h h':Heap}{P:Params}{o:List (Fin 8)}{ep:Nat}{k:Fin 8}
theorem Reg.setF(H:Reg P nt lo D o np su nd ep h)(hnd:∀k,(nd' k).a=(nd k).a∧(nd' k).l=(nd k).l∧(nd' k).le=(nd k).le)(hs:h.objs.size≤h'.objs.size)
  (hi:∀k∈o,h'.get? (nd k).a=some (br (nmV nt k) (nd' k).ad (np' k) (nd' k).tn (nd k).l)) (hl:∀k∈o,∀ob,h.get? (nd k).l=some ob→h'.get? (nd k).l=some ob) (hD:∀ob,h.get? D=some ob→h'.get? D=some ob) (h0:∀k,k∉o→np' k=0) :
  Reg P nt lo D o np' su nd' ep h':=by
 have ekv:aq o nd'=aq o nd:=by
  unfold aq
  exact List.map_congr_left fun k _=>by rw[(hnd k).1]
 refine⟨by rw[ekv];exact hD _ H.d,H.nodup,fun k hk=>?_,fun k hk=>?_,fun i hi j hj e=>?_,fun k hk=>?_,H.offD,H.ltD,Nat.le_trans H.size hs,h0,H.su0,H.epl⟩
 ·rw[(hnd k).1,(hnd k).2.1];exact hi k hk
 ·rw[(hnd k).2.1,(hnd k).2.2];exact hl k hk _ (H.l k hk)
 ·rw[(hnd i).2.1,(hnd j).2.1] at e;exact H.inj i hi j hj e
 ·rw[(hnd k).1,(hnd k).2.1];exact H.off k hk
theorem Reg.set1{v:Int}{t:Nat}(H:Reg P nt lo D o np su nd ep h)(hk:k∈o)(hs:h.objs.size≤h'.objs.size)(K:∀y ob,h.get? y=some ob→InReg D o nd y→y≠(nd k).a→h'.get? y=some ob)
  (hi:h'.get? (nd k).a=some (br (nmV nt k) (nd k).ad v t (nd k).l)):Reg P nt lo D o (upd np k v) su (upd nd k { nd k with tn:=t }) ep h':=by
 have e:∀j,(upd nd k { nd k with tn:=t } j).a=(nd j).a∧(upd nd k { nd k with tn:=t } j).l=(nd j).l∧(upd nd k { nd k with tn:=t } j).le=(nd j).le:=fun j=>by
  by_cases e:j=k
  ·subst e;rw[a9];exact⟨rfl,rfl,rfl⟩
  ·rw[ba e];exact⟨rfl,rfl,rfl⟩
 refine H.setF e hs (fun j hj=>?_) (fun j hj ob hob=>K _ _ hob (.inr ⟨j,hj,.inr rfl⟩) fun q=>H.al hk hj q.symm) (fun ob hob=>K _ _ hob (.inl rfl) (H.ne hk hob (fun q=>?_))) (fun j hj=>?_)
 ·by_cases q:j=k
  ·subst q;rw[a9,a9];exact hi
  ·rw[ba q,ba q]
   exact K _ _ (H.i j hj) (.inr ⟨j,hj,.inl rfl⟩) fun e=>q (H.aa hj hk e)
 ·rw[H.d] at hob
  rw[←Option.some.inj hob] at q
  cases q
 ·by_cases q:j=k
  ·subst q;exact absurd hk hj
  ·rw[ba q];exact H.np0 j hj
structure DnZ where
 L:Nat
 S:Nat
 Sd:Nat
 D:Nat
 lo:Nat
 r:Nat
 tp:Nat
 t1:Nat
 f:Nat→Nat
 q:Nat→Nat
 N0:Nat
structure DnZ.Ok(z:DnZ)(og:Fin 8→Fin 8)(nd:Fin 8→Nd):Prop where
 so:SO z.S z.Sd z.D z.lo
 r:257≤z.r∧z.r<z.N0
 lt:z.S<z.N0∧z.Sd<z.N0
 reg:∀y:Nat,InReg z.D (ol og) nd y→y<z.N0∧y≠z.r
 ge:z.N0≤z.L∧z.N0≤z.tp∧257≤z.N0
 lo:z.lo≤z.N0
 ne:z.S≠z.Sd
inductive DExt:Ext→Nat→Prop where
 |none:DExt [] 3
 |node {t4 t5 t6 v4 v5 v6}:DExt [("node",t4,v4),("nodeinfo",t5,v5),("stat",t6,v6)] 6
 |full {t4 t5 t6 t7 t8 v4 v5 v6 v7 v8}:DExt [("node",t4,v4),("nodeinfo",t5,v5),("stat",t6,v6),("successor",t7,v7),("successor_info",t8,v8)] 8
structure DN(w:World)(nt:Fin 8→Nat)(og:Fin 8→Fin 8)(su:Fin 8→List (Fin 8))(z:DnZ)(h₀:Heap)(nd₀:Fin 8→Nd)(po:Int)(np:Fin 8→Int)(nf:Int)(xs:List (Fin 8))(ext:Ext)(ep:Nat)(h:Heap):Prop where
 based:Based w.params h
 reg:∃nd,(∀k,(nd k).a=(nd₀ k).a∧(nd k).l=(nd₀ k).l∧(nd k).le=(nd₀ k).le)∧Reg w.params nt z.lo z.D (ol og) np su nd 8 h
 fr:h.get? z.L=some (frD w.params z.f z.S z.tp z.D ext ep)
 s:h.get? z.S=some (sO z.Sd)
 sd:∃t2,h.get? z.Sd=some (sD w.params z.q z.D (.ref z.r) po nf z.t1 t2)
 r:∃e,h.get? z.r=some (lO (xs.map (nmV nt)) e)
 size:z.N0≤h.objs.size
 keep:∀y ob,h₀.get? y=some ob→¬InReg z.D (ol og) nd₀ y→y≠z.Sd→y≠z.r→h.get? y=some ob
end
theorem vh{α:Type}{P:Fin 8→α→Prop}{f:Fin 8→α}{k:Fin 8}{v:α}(h1:P k v)(h:∀i,P i (f i))(i:Fin 8):P i (upd f k v i):=by
 by_cases e:i=k
 ·rw[e,a9];exact h1
 ·rw[ba e];exact h i
theorem ax{a b:Nat}(h:@Eq Addr a b):@Eq Nat a b:=h
section
variable{w:World}{a b c:Bool}{nt:Fin 8→Nat}{og:Fin 8→Fin 8}{nd₀:Fin 8→Nd}{np:Fin 8→Int}{su:Fin 8→List (Fin 8)}{A:Around}{E:Value→Shared→Prop}{s:Shared}{z:DnZ}{h₀ h h':Heap}{po nf:Int}{xs:List (Fin 8)}{ext:Ext}{ep:Nat}{k:Fin 8}
noncomputable def npI(np:Fin 8→Int)(B:List (Fin 8)):Fin 8→Int:=fun k=>if k∈B then 0 else np k
noncomputable def DK(z:DnZ)(og:Fin 8→Fin 8)(nd₀:Fin 8→Nd)(h h':Heap):Prop:=∀y ob,h.get? y=some ob→y≠z.L→y≠z.Sd→y≠z.r→¬InReg z.D (ol og) nd₀ y→h'.get? y=some ob
theorem DK.of{chg:List Nat}(K:af chg h h')(hc:∀y∈chg,y=z.L∨y=z.Sd∨y=z.r∨InReg z.D (ol og) nd₀ y):DK z og nd₀ h h':=fun y ob e h1 h2 h3 h4=>K y ob e fun q=>by
 rcases hc y q with q|q|q|q
 ·exact h1 q
 ·exact h2 q
 ·exact h3 q
 ·exact h4 q
theorem be{D:Nat}{o:List (Fin 8)}{nd nd₀:Fin 8→Nd}(e:∀k,(nd k).a=(nd₀ k).a∧(nd k).l=(nd₀ k).l∧(nd k).le=(nd₀ k).le){y:Nat}:InReg D o nd y↔InReg D o nd₀ y:=by
 unfold InReg
 constructor
 ·rintro(h|⟨k,hk,h⟩)
  ·exact .inl h
  ·rw[(e k).1,(e k).2.1] at h;exact .inr ⟨k,hk,h⟩
 ·rintro(h|⟨k,hk,h⟩)
  ·exact .inl h
  ·rw[←(e k).1,←(e k).2.1] at h;exact .inr ⟨k,hk,h⟩
theorem DN.step(F:DN w nt og su z h₀ nd₀ po np nf xs ext ep h)(Z:z.Ok og nd₀)(hz:h₀.objs.size=z.N0){chg:List Nat}(K:af chg h h')(hc:∀y∈chg,y=z.L∨y=z.Sd∨y=z.r∨InReg z.D (ol og) nd₀ y)(hs:h.objs.size≤h'.objs.size)
  {np':Fin 8→Int} {nf':Int} {xs':List (Fin 8)} {ext':Ext} {ep':Nat} (hreg:∃nd,(∀k,(nd k).a=(nd₀ k).a∧(nd k).l=(nd₀ k).l∧(nd k).le=(nd₀ k).le)∧Reg w.params nt z.lo z.D (ol og) np' su nd 8 h') (hfr:h'.get? z.L=some (frD w.params z.f z.S z.tp z.D ext' ep'))
  (hsd:∃t2,h'.get? z.Sd=some (sD w.params z.q z.D (.ref z.r) po nf' z.t1 t2)) (hr:∃e,h'.get? z.r=some (lO (xs'.map (nmV nt)) e)):DN w nt og su z h₀ nd₀ po np' nf' xs' ext' ep' h':=by
 have hx:=DK.of K hc
 have h257:=Z.ge
 have o1:=Z.so.s
 have o2:=Z.so.d
 obtain⟨nd,hnd,H⟩:=F.reg
 have hb:∀y:Nat,y<257→y≠z.L∧y≠z.Sd∧y≠z.r∧¬InReg z.D (ol og) nd₀ y:=fun y hy=>⟨(qh (qc (qc hy h257.2.2) h257.1)),(qh (qc hy o2.1)),by have:=Z.r;exact(qh (qc hy this.1)),fun q=>by
  have:=(H.lt ((be hnd).mpr q)).2.1
  exact(qf (qc hy this))⟩
 refine⟨⟨fun y ob e=>?_⟩,hreg,hfr,?_,hsd,hr,Nat.le_trans F.size hs,fun y ob e h1 h2 h3=>?_⟩
 ·obtain⟨b1,b2,b3,b4⟩:=hb y (bm e)
  exact hx y ob (F.based.kt y ob e) b1 b2 b3 b4
 ·refine hx _ _ F.s (nne (by have:=Z.lt;exact(.inl (qc this.1 h257.1)))) Z.ne (fun q=>?_) (fun q=>?_)
  ·obtain⟨e,he⟩:=F.r
   have:=F.s
   rw[q] at this
   rw[this] at he
   cases he
  ·rcases(H.lt ((be hnd).mpr q)).2.2 with e|e
   ·exact o1.2.2 e
   ·exact(qf (qc o1.2.1 e))
 ·have hly:@LT.lt Nat _ y h₀.objs.size:=Heap.lt_size e
  exact hx y ob (F.keep y ob e h1 h2 h3) (fun q=>by have q':@Eq Nat y z.L:=q;have:=Z.ge;exact(qf (ql (qy (qo hz h257.1) q) hly))) h2 h3 h1
inductive DTail:Ext→Nat→Prop where
 |none:DTail [] 6
 |full {t7 t8 v7 v8}:DTail [("successor",t7,v7),("successor_info",t8,v8)] 8
noncomputable def gb(t4 t5 t6:Nat)(v1 v2 v3:Value)(tail:Ext):Ext:=("node",t4,v1)::("nodeinfo",t5,v2)::("stat",t6,v3)::tail
theorem jpj{h:Heap}{it l i:Nat}(e:h.get? it=some (liO l i)):h.IsListIter it l i:=⟨_,e,rfl,rfl⟩
theorem jmh{Q:Flow→Shared→Prop}{j:Fin 8}{t4 t5 t6 t7:Nat}{v1 v2 v3:Value}{tail:Ext}(hA:Room A 620 6200)(Z:z.Ok og nd₀)(hz:h₀.objs.size=z.N0)(F:DN (wf w a b c) nt og su z h₀ nd₀ po np nf xs (gb t4 t5 t6 v1 v2 v3 (("successor",t7,nmV nt j)::tail)) ep s.heap)(ht:(tail=[]∧ep=7)∨∃t8 v8,tail=[("successor_info",t8,v8)]∧ep=8)
  (hj:np j=1) (hx:xs.length<900) (h:∀s' t8 v8,DN (wf w a b c) nt og su z h₀ nd₀ po (upd np j 0) nf (xs++[j]) (gb t4 t5 t6 v1 v2 v3 [("successor",t7,nmV nt j),("successor_info",t8,v8)]) 8 s'.heap→DK z og nd₀ s.heap s'.heap→(∀y ob,s.heap.get? y=some ob→z.N0≤y→y≠z.L→s'.heap.get? y=some ob)→ae s'=ae s→Q .next s') :
  wpAny (model PG (wf w a b c)) A (execs (inS dnI) (cc z.L)) Q E s:=by
 obtain⟨nd,hnd,H⟩:=F.reg
 obtain⟨t2,hsd⟩:=F.sd
 obtain⟨re,hr⟩:=F.r
 have jm:=ec H.nodup j
 have hi:=H.i j jm
 rw[hj] at hi
 have hfr:=F.fr
 have o1:=Z.so.s
 have o2:=Z.so.d
 have o3:=Z.ge
 have o4:=Z.r
 have o5:=Z.lt
 have rD:=Z.reg z.D (.inl rfl)
 have rj0:InReg z.D (ol og) nd₀ (nd j).a:=(be hnd).mp (.inr ⟨j,jm,.inl rfl⟩)
 have rj:=Z.reg _ rj0
 have rl:=H.lt (.inr ⟨j,jm,.inl rfl⟩)
 have hD:=H.offD
 have hsz:=F.size
 have hDl:=H.ltD
 have ne1:z.D≠z.Sd:=fun e=>o2.2.2 e.symm
 have ne2:(nd j).a≠z.S:=fun e=>by rw[e] at hi;rw[F.s] at hi;cases hi
 have nj:(nd j).a=z.D∨z.lo≤(nd j).a:=rl.2.2
 have mem:∀t8 v8 (s':Shared),af [z.L,(nd j).a,z.r] s.heap s'.heap→s.heap.objs.size≤s'.heap.objs.size→ae s'=ae s→s'.heap.get? z.L=some (frD (wf w a b c).params z.f z.S z.tp z.D (gb t4 t5 t6 v1 v2 v3 [("successor",t7,nmV nt j),("successor_info",t8,v8)]) 8)→(∃t,s'.heap.get? (nd j).a=some (br (nmV nt j) (nd j).ad 0 t (nd j).l)) →
   s'.heap.get? z.r=some (lO (xs.map (nmV nt)++[nmV nt j]) (re+1))→Q .next s':=fun t8 v8 s' K hs rr x0 xi xr=>by
  obtain⟨t,xi⟩:=xi
  have hc:∀y∈[z.L,(nd j).a,z.r],y=z.L∨y=z.Sd∨y=z.r∨InReg z.D (ol og) nd₀ y:=fun y hy=>by
   replace hy:=mO3 hy
   rcases hy with q|q|q
   ·exact .inl q
   ·exact .inr (.inr (.inr (q ▸ rj0)))
   ·exact .inr (.inr (.inl q))
  have hn3:∀y,InReg z.D (ol og) nd y→y≠(nd j).a→y∉[z.L,(nd j).a,z.r]:=fun y hy hne q=>by
   have:=Z.reg y ((be hnd).mp hy)
   replace q:=mO3 q
   rcases q with q|q|q
   ·have:=ax q;omega
   ·exact hne q
   ·exact this.2 q
  refine h s' t8 v8 (F.step Z hz K hc hs ⟨upd nd j { nd j with tn:=t },fun i=>?_,H.set1 jm hs (fun y ob e hy hne=>K y ob e (hn3 y hy hne)) xi⟩ x0 ⟨t2,K _ _ hsd ?_⟩ ⟨re+1,?_⟩) (DK.of K hc) (fun y ob e h1 h2=>K y ob e fun q=>?_) rr
  ·exact vh (v:={ nd j with tn:=t }) (P:=fun i (n:Nd)=>n.a=(nd₀ i).a∧n.l=(nd₀ i).l∧n.le=(nd₀ i).le) (hnd j) hnd i
  ·refine nO3 ?_
   refine⟨fun q=>by have:=ax q;exact(qf (ql (qy o3.1 q) o5.2)),fun e=>ao hsd hi rfl e,fun e=>ao hsd hr rfl e⟩
  ·rw[List.map_append];exact xr
  ·replace q:=mO3 q
   rcases q with q|q|q
   ·exact h2 q
   ·have q':@Eq Nat y (nd j).a:=q;exact(qf (ql (qx h1 q) rj.1))
   ·have q':@Eq Nat y z.r:=q;exact(qf (ql (qx h1 q) o4.2))
 have hlk:(aq (ol og) nd).lookup j=some (.ref (nd j).a):=by rw[cg,if_pos jm]
 have hxl:(xs.map (nmV nt)).length<1000:=by rw[List.length_map];exact(qr (k:=100) hx)
 have hE:@Ne Nat z.L z.D:=(qj (qc rD.1 o3.1))
 have hE2:@Ne Nat z.L z.Sd:=(qj (qc o5.2 o3.1))
 rcases ht with⟨rfl,rfl⟩|⟨t8,v8,rfl,rfl⟩
 ·have P:=ag (w:=wf w a b c) (pre:=[(z.L,frD (wf w a b c).params z.f z.S z.tp z.D [("node",t4,v1),("nodeinfo",t5,v2),("stat",t6,v3),("successor",t7,nmV nt j)] 7),(z.D,dO (wf w a b c).params nt (aq (ol og) nd) 8),((nd j).a,br (nmV nt j) (nd j).ad 1 (nd j).tn (nd j).l),(z.S,sO z.Sd),(z.Sd,sD (wf w a b c).params z.q z.D (.ref z.r) po nf z.t1 t2),(z.r,lO (xs.map (nmV nt)) re)])
   F.based (qv (ql rl.2.1 rl.1)) ⟨hfr,H.d,hi,F.s,hsd,hr,zt⟩ (jn6 (qc o3.2.2 o3.1) (by omega) rl.2.1 o1.1 o2.1 o4.1)
   ⟨⟨hE,zt,zt,hE2,zt,zt⟩,⟨zt,zt,ne1,zt,zt⟩,⟨ne2,zt,zt,zt⟩,⟨zt,zt,zt⟩,⟨zt,zt⟩,zt,zt⟩
  refine ay (jii A.frames) P hA.cx hA.cx rfl ⟨ic rfl rfl hlk,fw rfl hxl,zt⟩ fun s' P' K r'=>?_
  exact mem _ _ s' (am P P'.has K ⟨.inr (.head _),.inl rfl,.inr (.tail _ (.head _)),.inl rfl,.inl rfl,.inr (.tail _ (.tail _ (.head _))),zt⟩) (ch P') r' (P'.has (z.L,_) (.head _)) ⟨_,P'.has ((nd j).a,_) (.tail _ (.tail _ (.head _)))⟩ (P'.has (z.r,_) (.tail _ (.tail _ (.tail _ (.tail _ (.tail _ (.head _)))))))
 ·have P:=ag (w:=wf w a b c) (pre:=[(z.L,frD (wf w a b c).params z.f z.S z.tp z.D [("node",t4,v1),("nodeinfo",t5,v2),("stat",t6,v3),("successor",t7,nmV nt j),("successor_info",t8,v8)] 8),(z.D,dO (wf w a b c).params nt (aq (ol og) nd) 8),((nd j).a,br (nmV nt j) (nd j).ad 1 (nd j).tn (nd j).l),(z.S,sO z.Sd),(z.Sd,sD (wf w a b c).params z.q z.D (.ref z.r) po nf z.t1 t2),(z.r,lO (xs.map (nmV nt)) re)])
   F.based (qv (ql rl.2.1 rl.1)) ⟨hfr,H.d,hi,F.s,hsd,hr,zt⟩ (jn6 (qc o3.2.2 o3.1) (by omega) rl.2.1 o1.1 o2.1 o4.1)
   ⟨⟨hE,zt,zt,hE2,zt,zt⟩,⟨zt,zt,ne1,zt,zt⟩,⟨ne2,zt,zt,zt⟩,⟨zt,zt,zt⟩,⟨zt,zt⟩,zt,zt⟩
  refine ay (jif A.frames) P hA.cx hA.cx rfl ⟨ic rfl rfl hlk,fw rfl hxl,zt⟩ fun s' P' K r'=>?_
  exact mem _ _ s' (am P P'.has K ⟨.inr (.head _),.inl rfl,.inr (.tail _ (.head _)),.inl rfl,.inl rfl,.inr (.tail _ (.tail _ (.head _))),zt⟩) (ch P') r' (P'.has (z.L,_) (.head _)) ⟨_,P'.has ((nd j).a,_) (.tail _ (.tail _ (.head _)))⟩ (P'.has (z.r,_) (.tail _ (.tail _ (.tail _ (.tail _ (.tail _ (.head _)))))))
end
section
variable{w:World}{a b c:Bool}{nt:Fin 8→Nat}{og:Fin 8→Fin 8}{nd₀:Fin 8→Nd}{np:Fin 8→Int}{su:Fin 8→List (Fin 8)}{A:Around}{E:Value→Shared→Prop}{s:Shared}{z:DnZ}{h₀ h h':Heap}{po nf:Int}{xs:List (Fin 8)}{ext:Ext}{ep:Nat}{k:Fin 8}{R:Result→Shared→Prop}
noncomputable def inF(it L:Nat):Code:=.forLoop (teS dnI) (.ref it) (inS dnI) [] (cc L)
theorem DN.same(F:DN w nt og su z h₀ nd₀ po np nf xs ext ep h)(Z:z.Ok og nd₀)(hz:h₀.objs.size=z.N0)(K:af [] h h')(hs:h.objs.size≤h'.objs.size):DN w nt og su z h₀ nd₀ po np nf xs ext ep h':=by
 obtain⟨nd,hnd,H⟩:=F.reg
 obtain⟨t2,hsd⟩:=F.sd
 obtain⟨re,hr⟩:=F.r
 have kt:∀{y:Nat} {o:Obj},h.get? y=some o→h'.get? y=some o:=fun{y o} e=>K y o e n0m
 exact F.step Z hz K (fun y hy=>nomatch hy) hs ⟨nd,hnd,H.mono (fun y ob e _=>kt e) hs⟩ (kt F.fr) ⟨t2,kt hsd⟩ ⟨re,kt hr⟩
theorem Reg.mono'{P:Params}{lo D:Nat}{o:List (Fin 8)}{nd:Fin 8→Nd}(H:Reg P nt lo D o np su nd ep h)
  (hk:∀b ob,h.get? b=some ob→InReg D o nd b→h'.get? b=some ob) (hs:lo≤h'.objs.size):Reg P nt lo D o np su nd ep h':=
 ⟨hk _ _ H.d (.inl rfl),H.nodup,fun k hk'=>hk _ _ (H.i k hk') (.inr ⟨k,hk',.inl rfl⟩),fun k hk'=>hk _ _ (H.l k hk') (.inr ⟨k,hk',.inr rfl⟩),H.inj,H.off,H.offD,H.ltD,hs,H.np0,H.su0,H.epl⟩
theorem DN.far{it:Nat}(F:DN w nt og su z h₀ nd₀ po np nf xs ext ep h)(Z:z.Ok og nd₀)(hz:h₀.objs.size=z.N0)(K:∀y ob,h.get? y=some ob→y≠it→h'.get? y=some ob)(hi:z.N0≤it∧it≠z.L):DN w nt og su z h₀ nd₀ po np nf xs ext ep h':=by
 obtain⟨nd,hnd,H⟩:=F.reg
 obtain⟨t2,hsd⟩:=F.sd
 obtain⟨re,hr⟩:=F.r
 have h257:=Z.ge
 have o1:=Z.so.s
 have o2:=Z.so.d
 have o4:=Z.r
 have o5:=Z.lt
 have kt:∀{y:Nat} {o:Obj},h.get? y=some o→y≠it→h'.get? y=some o:=fun{y o} e q=>K y o e q
 have xL:=kt F.fr (fun q=>hi.2 q.symm)
 have hlL:@LT.lt Nat _ z.L h'.objs.size:=Heap.lt_size xL
 refine⟨⟨fun y ob e=>?_⟩,⟨nd,hnd,H.mono' (fun y ob e hy=>kt e (fun q=>?_)) (by have:=Z.lo;exact(qv (ql (qc this h257.1) hlL)))⟩,xL,kt F.s (qh (qc o5.1 hi.1)),⟨t2,kt hsd (qh (qc o5.2 hi.1))⟩,⟨re,kt hr (qh (qc o4.2 hi.1))⟩,(qv (ql h257.1 hlL)),fun y ob e h1 h2 h3=>?_⟩
 ·exact kt (F.based.kt y ob e) (by have:=bm e;exact(qh (qc (qc this h257.2.2) hi.1)))
 ·have:=(Z.reg y ((be hnd).mp hy)).1
  have:=ax q
  omega
 ·have hly:@LT.lt Nat _ y h₀.objs.size:=Heap.lt_size e
  exact kt (F.keep y ob e h1 h2 h3) (fun q=>by have:=ax q;exact(qf (ql (qy (qo hz hi.1) q) hly)))
theorem jl2(hA:Room A 620 6200)(Z:z.Ok og nd₀)(hz:h₀.objs.size=z.N0){it:Nat}{t4 t5 t6:Nat}{v1 v2 v3:Value}{tail:Ext}(hk:k∈ol og)(h1:∀j∈su k,np j=1)(hn:(su k).Nodup)(hx:xs.length+(su k).length<900)
  (F₀:DN (wf w a b c) nt og su z h₀ nd₀ po np nf xs (gb t4 t5 t6 v1 v2 v3 tail) ep s.heap) (ht:DTail tail ep) (hit:s.heap.IsListIter it (nd₀ k).l 0) (hi:z.N0≤it∧it≠z.L)
  (h:∀s' tail' ep',DTail tail' ep'→DN (wf w a b c) nt og su z h₀ nd₀ po (npI np (su k)) nf (xs++su k) (gb t4 t5 t6 v1 v2 v3 tail') ep' s'.heap→(∀y ob,s.heap.get? y=some ob→z.N0≤y→y≠z.L→y≠it→s'.heap.get? y=some ob)→ae s'=ae s→R (.ok .next) s') :
  codeAny (model PG (wf w a b c)) A (inF it z.L) R s:=by
 have e0:npI np []=np:=by funext j;unfold npI;simp
 refine codeAny_forLoop (fun n s'=>∃ds rest tail ep,su k=ds++rest∧rest.length=n∧DTail tail ep∧DN (wf w a b c) nt og su z h₀ nd₀ po (npI np ds) nf (xs++ds) (gb t4 t5 t6 v1 v2 v3 tail) ep s'.heap∧(∀y ob,s.heap.get? y=some ob→z.N0≤y→y≠z.L→y≠it→s'.heap.get? y=some ob)∧ae s'=ae s∧s'.heap.IsListIter it (nd₀ k).l ds.length)
  (fun n s1 hI=>?_) (su k).length ⟨[],su k,tail,ep,rfl,rfl,ht,by rw[e0,List.append_nil];exact F₀,fun y ob e _ _ _=>e,rfl,hit⟩
 obtain⟨ds,rest,tail1,ep1,hsu,hl,ht1,F,K1,r1,hit1⟩:=hI
 obtain⟨nd,hnd,H⟩:=F.reg
 have hlist:s1.heap.IsList (nd₀ k).l ⟨(su k).map (nmV nt)⟩:=⟨_,by
  have:=H.l k hk
  rw[(hnd k).2.1,(hnd k).2.2] at this
  exact this,rfl,_,rfl⟩
 cases rest with
 |nil=>
  rw[List.append_nil] at hsu
  refine wpAny_pyNext_list_end hA.h hit1 hlist (by rw[List.getElem?_toArray,List.getElem?_map,hsu];simp) fun h2 hE=>?_
  refine wpAny_execs_nil ?_
  have F2:=F.far Z hz (h':=h2) (fun y ob e hy=>(hE y ob hy e)) hi
  rw[←hsu] at F2
  exact h { s1 with heap:=h2 } tail1 ep1 ht1 F2 (fun y ob e g1 g2 g3=>hE y ob g3 (K1 y ob e g1 g2 g3)) r1
 |cons j rest=>
  have hjm:j∈su k:=by rw[hsu];simp
  refine wpAny_pyNext_list_item hit1 hlist (x:=nmV nt j) (by rw[List.getElem?_toArray,List.getElem?_map,hsu];simp) fun h2 hit2 hb2=>?_
  have hs2:h2.objs.size=s1.heap.objs.size:=hb2.1
  have F2:=F.far Z hz (h':=h2) (fun y ob e hy=>(hb2.2 y hy).trans e) hi
  have h257:=Z.ge
  have hj1:npI np ds j=1:=by
   unfold npI
   first|refine itn (fun q=>?_) ?_|rw[if_neg (fun q=>?_)]
   ·exact h1 j hjm
   ·rw[hsu] at hn
    exact(List.nodup_append.mp hn).2.2 j q j (.head _) rfl
  have hxl:(xs++ds).length<900:=by
   have:=congrArg List.length hsu
   rw[List.length_append] at this
   rw[List.length_append];omega
  have fin:∀(s3:Shared) (t7:Nat) (tl:Ext) (ep3:Nat),((tl=[]∧ep3=7)∨∃t8 v8,tl=[("successor_info",t8,v8)]∧ep3=8)→DN (wf w a b c) nt og su z h₀ nd₀ po (npI np ds) nf (xs++ds) (gb t4 t5 t6 v1 v2 v3 (("successor",t7,nmV nt j)::tl)) ep3 s3.heap→(∀y ob,h2.get? y=some ob→z.N0≤y→y≠z.L→s3.heap.get? y=some ob)→ae s3=ae s →
    wpAny (model PG (wf w a b c)) A (execs (inS dnI) (cc z.L)) (fun f s₃=>match f with
     |.next|.cont=>∃m,m<n∧∃ds rest tail ep,su k=ds++rest∧rest.length=m∧DTail tail ep∧DN (wf w a b c) nt og su z h₀ nd₀ po (npI np ds) nf (xs++ds) (gb t4 t5 t6 v1 v2 v3 tail) ep s₃.heap∧(∀y ob,s.heap.get? y=some ob→z.N0≤y→y≠z.L→y≠it→s₃.heap.get? y=some ob)∧ae s₃=ae s∧s₃.heap.IsListIter it (nd₀ k).l ds.length
     |.brk=>R (.ok .next) s₃
     |.ret v=>R (.ok (.ret v)) s₃) (notedBy (model PG (wf w a b c)) A (cc z.L) fun e s'=>R (.error e) s') s3:=fun s3 t7 tl ep3 htl F3 K3 r3=>by
   refine jmh hA Z hz F3 htl hj1 hxl fun s4 t8 v8 F4 D4 K4 r4=>?_
   have e4:upd (npI np ds) j 0=npI np (ds++[j]):=by
    funext i
    unfold npI upd
    by_cases e:i=j
    ·subst e;simp
    ·simp[e]
   rw[e4,List.append_assoc] at F4
   refine⟨rest.length,by rw[←hl];exact Nat.lt_succ_self _,ds++[j],rest,_,_,by rw[hsu];simp,rfl,.full,F4,fun y ob e g1 g2 g3=>?_,r4.trans r3,?_⟩
   ·exact K4 y ob (K3 y ob ((hb2.2 y g3).trans (K1 y ob e g1 g2 g3)) g1 g2) g1 g2
   ·obtain⟨o,ho,hc,hd⟩:=hit2
    refine⟨o,K4 _ _ (K3 _ _ ho hi.1 hi.2) hi.1 hi.2,hc,?_⟩
    rw[List.length_append]
    exact hd
  cases ht1 with
  |none=>
   have P:=ag (w:=wf w a b c) (s:={ s1 with heap:=h2 }) (pre:=[(z.L,frD (wf w a b c).params z.f z.S z.tp z.D [("node",t4,v1),("nodeinfo",t5,v2),("stat",t6,v3)] 6)]) F2.based (by have:=F2.size;show 257≤h2.objs.size;exact(qc h257.2.2 this)) ⟨F2.fr,zt⟩ (b6 (qc h257.2.2 h257.1)) ⟨zt,zt⟩
   refine c0 (jio A.frames) P hA.cx hA.cx rfl zt fun s3 P3 K3 r3=>?_
   have K3':af [z.L] h2 s3.heap:=K3
   have hs3:h2.objs.size≤s3.heap.objs.size:=by rw[P3.size];exact Nat.le_add_right _ _
   obtain⟨nd2,hnd2,H2⟩:=F2.reg
   obtain⟨t2,hsd⟩:=F2.sd
   obtain⟨re,hr⟩:=F2.r
   have o2:=Z.so.d
   have o4:=Z.r
   have o5:=Z.lt
   refine fin s3 _ [] 7 (.inl ⟨rfl,rfl⟩) (F2.step Z hz K3' (fun y hy=>.inl (List.mem_singleton.mp hy)) hs3 ⟨nd2,hnd2,H2.mono (fun y ob e hy=>K3' y ob e (fun q=>?_)) hs3⟩ (P3.has (z.L,_) (.head _)) ⟨t2,K3' _ _ hsd (fun q=>?_)⟩ ⟨re,K3' _ _ hr (fun q=>?_)⟩) (fun y ob e g1 g2=>K3' y ob e (du g2)) (r3.trans r1)
   ·have:=(Z.reg y ((be hnd2).mp hy)).1
    have:=ax (List.mem_singleton.mp q)
    omega
   ·have:=ax (List.mem_singleton.mp q);exact(qf (ql (qy h257.1 this) o5.2))
   ·have:=ax (List.mem_singleton.mp q);exact(qf (ql (qy h257.1 this) o4.2))
  |full=>
   rename_i t7 t8 v7 v8
   have P:=ag (w:=wf w a b c) (s:={ s1 with heap:=h2 }) (pre:=[(z.L,frD (wf w a b c).params z.f z.S z.tp z.D (("node",t4,v1)::("nodeinfo",t5,v2)::("stat",t6,v3)::("successor",t7,v7)::[("successor_info",t8,v8)]) 8)]) F2.based (by have:=F2.size;show 257≤h2.objs.size;exact(qc h257.2.2 this)) ⟨F2.fr,zt⟩ (b6 (qc h257.2.2 h257.1)) ⟨zt,zt⟩
   refine c0 (jil A.frames) P hA.cx hA.cx rfl zt fun s3 P3 K3 r3=>?_
   have K3':af [z.L] h2 s3.heap:=K3
   have hs3:h2.objs.size≤s3.heap.objs.size:=by rw[P3.size];exact Nat.le_add_right _ _
   obtain⟨nd2,hnd2,H2⟩:=F2.reg
   obtain⟨t2,hsd⟩:=F2.sd
   obtain⟨re,hr⟩:=F2.r
   have o2:=Z.so.d
   have o4:=Z.r
   have o5:=Z.lt
   refine fin s3 _ [("successor_info",t8,v8)] 8 (.inr ⟨_,_,rfl,rfl⟩) (F2.step Z hz K3' (fun y hy=>.inl (List.mem_singleton.mp hy)) hs3 ⟨nd2,hnd2,H2.mono (fun y ob e hy=>K3' y ob e (fun q=>?_)) hs3⟩ (P3.has (z.L,_) (.head _)) ⟨t2,K3' _ _ hsd (fun q=>?_)⟩ ⟨re,K3' _ _ hr (fun q=>?_)⟩) (fun y ob e g1 g2=>K3' y ob e (du g2)) (r3.trans r1)
   ·have:=(Z.reg y ((be hnd2).mp hy)).1
    have:=ax (List.mem_singleton.mp q)
    omega
   ·have:=ax (List.mem_singleton.mp q);exact(qf (ql (qy h257.1 this) o5.2))
   ·have:=ax (List.mem_singleton.mp q);exact(qf (ql (qy h257.1 this) o4.2))
end
section
variable{w:World}{a b c:Bool}{nt:Fin 8→Nat}{og:Fin 8→Fin 8}{nd₀:Fin 8→Nd}{np:Fin 8→Int}{su:Fin 8→List (Fin 8)}{A:Around}{E E':Value→Shared→Prop}{s:Shared}{z:DnZ}{h₀ h h':Heap}{po nf:Int}{xs:List (Fin 8)}{ext:Ext}{ep:Nat}{k:Fin 8}{R:Result→Shared→Prop}
theorem DN.frame{ext':Ext}{ep':Nat}(F:DN w nt og su z h₀ nd₀ po np nf xs ext ep h)(Z:z.Ok og nd₀)(hz:h₀.objs.size=z.N0)(K:af [z.L] h h')(hs:h.objs.size≤h'.objs.size)(hf:h'.get? z.L=some (frD w.params z.f z.S z.tp z.D ext' ep')):DN w nt og su z h₀ nd₀ po np nf xs ext' ep' h':=by
 obtain⟨nd,hnd,H⟩:=F.reg
 obtain⟨t2,hsd⟩:=F.sd
 obtain⟨re,hr⟩:=F.r
 have o2:=Z.so.d
 have o3:=Z.ge
 have o4:=Z.r
 have o5:=Z.lt
 refine F.step Z hz K (fun y hy=>.inl (List.mem_singleton.mp hy)) hs ⟨nd,hnd,H.mono (fun y ob e hy=>K y ob e (fun q=>?_)) hs⟩ hf ⟨t2,K _ _ hsd (fun q=>?_)⟩ ⟨re,K _ _ hr (fun q=>?_)⟩
 ·have:=(Z.reg y ((be hnd).mp hy)).1
  have:=ax (List.mem_singleton.mp q)
  omega
 ·have:=ax (List.mem_singleton.mp q);exact(qf (ql (qy o3.1 this) o5.2))
 ·have:=ax (List.mem_singleton.mp q);exact(qf (ql (qy o3.1 this) o4.2))
theorem jdr{Q:Flow→Shared→Prop}(hA:Room A 620 6200)(Z:z.Ok og nd₀)(hz:h₀.objs.size=z.N0)(F₀:DN (wf w a b c) nt og su z h₀ nd₀ po np nf xs ext ep s.heap)(hx:DExt ext ep)(hk1:np k=-1)(h1:∀j∈su k,np j=1)(hn:(su k).Nodup)(hl:xs.length+(su k).length<900)
  (h:∀s' ext' ep',DExt ext' ep'→DN (wf w a b c) nt og su z h₀ nd₀ po (npI (upd np k (-2)) (su k)) (nf+1) (xs++su k) ext' ep' s'.heap→(∀y ob,s.heap.get? y=some ob→z.N0≤y→y≠z.L→s'.heap.get? y=some ob)→ae s'=ae s→Q .next s') :
  wpAny (model PG (wf w a b c)) A (assign (teS dnF) (cc z.L) (nmV nt k)) (fun _ s₂=>wpAny (model PG (wf w a b c)) A (execs (inS dnF) (cc z.L)) Q E s₂) E' s:=by
 have o1:=Z.so.s
 have o2:=Z.so.d
 have o3:=Z.ge
 have o4:=Z.r
 have o5:=Z.lt
 have km:k∈ol og:=ec (by obtain⟨nd,_,H⟩:=F₀.reg;exact H.nodup) k
 have hkk:np k≠1:=by rw[hk1];decide
 have rest:∀(s2:Shared) (t4 t5 t6:Nat) (v3:Value) (tail:Ext) (ep2:Nat) (nd:Fin 8→Nd),DTail tail ep2→(∀k,(nd k).a=(nd₀ k).a∧(nd k).l=(nd₀ k).l∧(nd k).le=(nd₀ k).le)→DN (wf w a b c) nt og su z h₀ nd₀ po (upd np k (-2)) nf xs (gb t4 t5 t6 (nmV nt k) (.ref (nd k).a) v3 tail) ep2 s2.heap→(∀y ob,s.heap.get? y=some ob→z.N0≤y→y≠z.L→s2.heap.get? y=some ob)→ae s2=ae s →
   wpAny (model PG (wf w a b c)) A (execs ([dnI]++[ak (inS dnF) 5]) (cc z.L)) Q E s2:=fun s2 t4 t5 t6 v3 tail ep2 nd ht hnd F2 K2 r2=>by
  refine ah _ _ (wpAny_execs_cons ?_)
  first|refine xq1 qi ?_|refine xq2 qi ?_|refine xq3 qi ?_|rw[qi]
  refine wpAny_For ?_ (fun x=>by kernel_rfl)
  obtain⟨nd2,hnd2,H2⟩:=F2.reg
  have hi:=H2.i k km
  have ea:(nd2 k).a=(nd k).a:=by rw[(hnd2 k).1,(hnd k).1]
  rw[ea] at hi
  have hfr2:s2.heap.get? z.L=some (frD (wf w a b c).params z.f z.S z.tp z.D (("node",t4,nmV nt k)::("nodeinfo",t5,.ref (nd k).a)::(("stat",t6,v3)::tail)) ep2):=F2.fr
  have rk:=Z.reg (nd k).a ((be hnd).mp (.inr ⟨k,km,.inl rfl⟩))
  have rk2:=(H2.lt (.inr ⟨k,km,.inl ea.symm⟩)).2.1
  refine c7 (jmn A.frames) (ag (w:=wf w a b c) (pre:=[(z.L,frD (wf w a b c).params z.f z.S z.tp z.D (("node",t4,nmV nt k)::("nodeinfo",t5,.ref (nd k).a)::(("stat",t6,v3)::tail)) ep2),((nd k).a,br (nmV nt k) (nd2 k).ad (upd np k (-2) k) (nd2 k).tn (nd2 k).l)]) F2.based (by have:=F2.size;exact(qv (qc (ql rk2 rk.1) this))) ⟨hfr2,hi,zt⟩ (gx (qc o3.2.2 o3.1) (by omega)) ⟨⟨zt,zt⟩,zt,zt⟩) hA.cx hA.cx rfl zt (chg:=[]) ⟨.inl rfl,.inl rfl,zt⟩ fun s3 P3b P3z K3' r3 P3x=>?_
  have hs3:s3.heap.objs.size=s2.heap.objs.size:=P3z
  have F3:=F2.same Z hz K3' (qg P3z)
  obtain⟨nd3,hnd3,H3⟩:=F3.reg
  have el:(nd2 k).l=(nd3 k).l:=by rw[(hnd2 k).2.1,(hnd3 k).2.1]
  have hl3:=H3.l k km
  rw[←el] at hl3
  have rl:=Z.reg (nd2 k).l ((be hnd2).mp (.inr ⟨k,km,.inr rfl⟩))
  have rl2:=(H2.lt (.inr ⟨k,km,.inr rfl⟩)).2.1
  refine d9 (jmt A.frames) (ag (w:=wf w a b c) (pre:=[((nd2 k).l,lO ((su k).map (nmV nt)) (nd3 k).le)]) F3.based (by have:=F3.size;exact(qv (qc (ql rk2 rk.1) this))) ⟨hl3,zt⟩ ⟨.inl rl2,zt⟩ ⟨zt,zt⟩) hA.cx hA.cx rfl zt (chg:=[]) ⟨.inl rfl,zt⟩ fun s4 P5b P5z K5' r5 P5x=>?_
  have hs4:s4.heap.objs.size=s3.heap.objs.size+1:=P5z
  have F4:=F3.same Z hz K5' (qv (qg P5z))
  have hit:s4.heap.get? s3.heap.objs.size=some (liO (nd2 k).l 0):=P5x 1 _ _ (s3.heap.objs.size) rfl rfl
  rw[(hnd2 k).2.1] at hit
  have hL3:@LT.lt Nat _ z.L s3.heap.objs.size:=Heap.lt_size F3.fr
  have K4:∀y ob,s.heap.get? y=some ob→z.N0≤y→y≠z.L→s4.heap.get? y=some ob:=fun y ob e g1 g2=>K5' _ _ (K3' _ _ (K2 y ob e g1 g2) n0m) n0m
  show codeAny _ A (inF s3.heap.objs.size z.L) _ s4
  refine jl2 hA Z hz km (fun j hj=>?_) hn hl F4 ht (jpj hit) ⟨by have:=F3.size;omega,(qj hL3)⟩ fun s5 tail5 ep5 ht5 F5 K6 r6=>?_
  ·rw[ba (fun(e:j=k)=>hkk (e ▸ h1 j hj))]
   exact h1 j hj
  refine wpAny_execs_nil ?_
  obtain⟨t2,hsd⟩:=F5.sd
  refine bc (jmz A.frames) (ag (w:=wf w a b c) (pre:=[(z.L,frD (wf w a b c).params z.f z.S z.tp z.D (gb t4 t5 t6 (nmV nt k) (.ref (nd k).a) v3 tail5) ep5),(z.S,sO z.Sd),(z.Sd,sD (wf w a b c).params z.q z.D (.ref z.r) po nf z.t1 t2)]) F5.based (by have:=F5.size;exact(qv (qc (ql rk2 rk.1) this))) ⟨F5.fr,F5.s,hsd,zt⟩ (f0 (qc o3.2.2 o3.1) o1.1 o2.1) ⟨⟨zt,(by show@Ne Nat _ _;exact(qj (qc o5.2 o3.1))),zt⟩,⟨zt,zt⟩,zt,zt⟩) hA.cx hA.cx rfl zt (chg:=[z.Sd]) ⟨.inl rfl,.inl rfl,.inr (.head _),zt⟩ fun s6 P7b P7z K8 r7 P7x=>?_
  have hs6:s5.heap.objs.size≤s6.heap.objs.size:=by rw[P7z];exact Nat.le_add_right _ _
  obtain⟨nd5,hnd5,H5⟩:=F5.reg
  obtain⟨re,hr⟩:=F5.r
  have F6:DN (wf w a b c) nt og su z h₀ nd₀ po (npI (upd np k (-2)) (su k)) (nf+1) (xs++su k) (gb t4 t5 t6 (nmV nt k) (.ref (nd k).a) v3 tail5) ep5 s6.heap:=by
   refine F5.step Z hz K8 (fun y hy=>.inr (.inl (List.mem_singleton.mp hy))) hs6 ⟨nd5,hnd5,H5.mono (fun y ob e hy=>K8 y ob e (fun q=>?_)) hs6⟩ (K8 _ _ F5.fr (fun q=>?_)) ⟨_,(P7x 2 _ _ (z.Sd) rfl rfl)⟩ ⟨re,K8 _ _ hr (fun q=>ao hr hsd rfl (List.mem_singleton.mp q))⟩
   ·have h9:=(H5.lt hy).2.2
    have:=ax (List.mem_singleton.mp q)
    rcases h9 with h9|h9
    ·exact o2.2.2 (this.symm.trans h9)
    ·exact(qf (qx (qc o2.2.1 h9) this))
   ·have:=ax (List.mem_singleton.mp q);exact(qf (ql (qx o3.1 this) o5.2))
  have hx':DExt (gb t4 t5 t6 (nmV nt k) (.ref (nd k).a) v3 tail5) ep5:=by
   cases ht5 with
   |none=>exact .node
   |full=>exact .full
  refine h s6 _ ep5 hx' F6 (fun y ob e g1 g2=>K8 _ _ (K6 y ob (K4 y ob e g1 g2) g1 g2 (fun q=>?_)) (fun q=>?_)) (r7.trans (r6.trans (r5.trans (r3.trans r2))))
  ·have hly:=K5' _ _ (K3' _ _ (K2 y ob e g1 g2) n0m) n0m
   have h8:@LT.lt Nat _ y s3.heap.objs.size:=by
    have:=K3' _ _ (K2 y ob e g1 g2) n0m
    exact Heap.lt_size this
   have:=ax q
   exact(qf (qy h8 q))
  ·have:=ax (List.mem_singleton.mp q);exact(qf (qx (qc o5.2 g1) this))
 have setR:∀(s1:Shared) (ext1:Ext) (ep1:Nat),DN (wf w a b c) nt og su z h₀ nd₀ po np nf xs ext1 ep1 s1.heap→(∀y ob,s.heap.get? y=some ob→z.N0≤y→y≠z.L→s1.heap.get? y=some ob)→ae s1=ae s →
   ((∃t4,ext1=[("node",t4,nmV nt k)]∧ep1=4)∨∃t4 t5 t6 x y tail,ext1=("node",t4,nmV nt k)::("nodeinfo",t5,x)::("stat",t6,y)::tail∧DTail tail ep1) →
   wpAny (model PG (wf w a b c)) A (execs (inS dnF) (cc z.L)) Q E s1:=fun s1 ext1 ep1 F1 K1 r1 he=>by
  first|refine xq1 qm ?_|refine xq2 qm ?_|refine xq3 qm ?_|rw[qm]
  refine ah _ _ ?_
  obtain⟨nd,hnd,H⟩:=F1.reg
  have hi:=H.i k km
  rw[hk1] at hi
  have rD:=Z.reg z.D (.inl rfl)
  have rk0:InReg z.D (ol og) nd₀ (nd k).a:=(be hnd).mp (.inr ⟨k,km,.inl rfl⟩)
  have rk:=Z.reg _ rk0
  have rk2:=(H.lt (.inr ⟨k,km,.inl rfl⟩)).2.1
  have hD:=H.offD
  have hlk:(aq (ol og) nd).lookup k=some (.ref (nd k).a):=by rw[cg,if_pos km]
  have hfr:=F1.fr
  have go:∀(s2:Shared) (t4 t5 t6:Nat) (v3:Value) (tail:Ext) (ep2:Nat),DTail tail ep2→af [z.L,(nd k).a] s1.heap s2.heap→s1.heap.objs.size≤s2.heap.objs.size→s2.heap.get? z.L=some (frD (wf w a b c).params z.f z.S z.tp z.D (gb t4 t5 t6 (nmV nt k) (.ref (nd k).a) v3 tail) ep2)→s2.heap.get? (nd k).a=some (br (nmV nt k) (nd k).ad (-2) 290 (nd k).l)→ae s2=ae s1 →
    wpAny (model PG (wf w a b c)) A (execs ([dnI]++[ak (inS dnF) 5]) (cc z.L)) Q E s2:=fun s2 t4 t5 t6 v3 tail ep2 ht K hs x0 xi r2=>by
   obtain⟨t2,hsd⟩:=F1.sd
   obtain⟨re,hr⟩:=F1.r
   have nn:∀{y:Nat},y≠z.L→y≠(nd k).a→y∉[z.L,(nd k).a]:=fun{y} g1 g2=>by refine nO2 ?_;exact⟨g1,g2⟩
   refine rest s2 t4 t5 t6 v3 tail ep2 nd ht hnd (F1.step Z hz K (fun y hy=>?_) hs ⟨upd nd k { nd k with tn:=290 },fun i=>?_,H.set1 km hs (fun y ob e hy hne=>K y ob e (nn (fun q=>?_) hne)) xi⟩ x0 ⟨t2,K _ _ hsd (nn (qh (qc o5.2 o3.1)) (fun q=>ao hsd hi rfl q))⟩ ⟨re,K _ _ hr (nn (qh (qc o4.2 o3.1)) (fun q=>ao hr hi rfl q))⟩) (fun y ob e g1 g2=>K _ _ (K1 y ob e g1 g2) (nn g2 (fun q=>?_))) (r2.trans r1)
   ·replace hy:=mO2 hy
    rcases hy with q|q
    ·exact .inl q
    ·exact .inr (.inr (.inr (q ▸ rk0)))
   ·exact vh (v:={ nd k with tn:=290 }) (P:=fun i (n:Nd)=>n.a=(nd₀ i).a∧n.l=(nd₀ i).l∧n.le=(nd₀ i).le) (hnd k) hnd i
   ·have:=(Z.reg y ((be hnd).mp hy)).1
    have:=ax q
    omega
   ·have:=ax q;exact(qf (qx (qc rk.1 g1) q))
  rcases he with⟨t4,rfl,rfl⟩|⟨t4,t5,t6,x,y,tail,rfl,ht⟩
  ·have P:=ag (w:=wf w a b c) (pre:=[(z.L,frD (wf w a b c).params z.f z.S z.tp z.D [("node",t4,nmV nt k)] 4),(z.D,dO (wf w a b c).params nt (aq (ol og) nd) 8),((nd k).a,br (nmV nt k) (nd k).ad (-1) (nd k).tn (nd k).l)]) F1.based (by have:=F1.size;exact(qv (qc (ql hD rD.1) this))) ⟨hfr,H.d,hi,zt⟩ (f0 (qc o3.2.2 o3.1) (by omega) (by omega)) ⟨⟨(by show@Ne Nat _ _;exact(qj (qc rD.1 o3.1))),zt,zt⟩,⟨zt,zt⟩,zt,zt⟩
   refine ay (ji0 A.frames) P hA.cx hA.cx rfl ⟨jav rfl rfl (ga hD) hlk,zt⟩ fun s2 P2 K2 r2=>?_
   exact go s2 t4 _ _ _ [] 6 .none (am P P2.has K2 ⟨.inr (.head _),.inl rfl,.inr (.tail _ (.head _)),zt⟩) (ch P2) (P2.has (z.L,_) (.head _)) (P2.has ((nd k).a,_) (.tail _ (.tail _ (.head _)))) r2
  ·have P:=ag (w:=wf w a b c) (pre:=[(z.L,frD (wf w a b c).params z.f z.S z.tp z.D (("node",t4,nmV nt k)::("nodeinfo",t5,x)::("stat",t6,y)::tail) ep1),(z.D,dO (wf w a b c).params nt (aq (ol og) nd) 8),((nd k).a,br (nmV nt k) (nd k).ad (-1) (nd k).tn (nd k).l)]) F1.based (by have:=F1.size;exact(qv (qc (ql hD rD.1) this))) ⟨hfr,H.d,hi,zt⟩ (f0 (qc o3.2.2 o3.1) (by omega) (by omega)) ⟨⟨(by show@Ne Nat _ _;exact(qj (qc rD.1 o3.1))),zt,zt⟩,⟨zt,zt⟩,zt,zt⟩
   refine ay (jix A.frames) P hA.cx hA.cx rfl ⟨jav rfl rfl (ga hD) hlk,zt⟩ fun s2 P2 K2 r2=>?_
   exact go s2 t4 t5 t6 _ tail ep1 ht (am P P2.has K2 ⟨.inr (.head _),.inl rfl,.inr (.tail _ (.head _)),zt⟩) (ch P2) (P2.has (z.L,_) (.head _)) (P2.has ((nd k).a,_) (.tail _ (.tail _ (.head _)))) r2
 have hfr:=F₀.fr
 cases hx with
 |none=>
  refine cp (jiu A.frames) (ag (w:=wf w a b c) (pre:=[(z.L,frD (wf w a b c).params z.f z.S z.tp z.D [] 3)]) F₀.based (by have:=F₀.size;exact(qv (qc (ql o2.1 o5.2) this))) ⟨hfr,zt⟩ (b6 (qc o3.2.2 o3.1)) ⟨zt,zt⟩) hA.cx hA.cx rfl zt (chg:=[z.L]) ⟨.inr (.head _),zt⟩ fun s1 P1b P1z K1' r1 P1x=>?_
  exact setR s1 _ 4 (F₀.frame Z hz K1' (zle P1z) ((P1x 0 _ _ (z.L) rfl rfl))) (fun y ob e _ g2=>K1' y ob e (du g2)) r1 (.inl ⟨_,rfl,rfl⟩)
 |node=>
  rename_i t4 t5 t6 v4 v5 v6
  refine cp (wa A.frames) (ag (w:=wf w a b c) (pre:=[(z.L,frD (wf w a b c).params z.f z.S z.tp z.D (("node",t4,v4)::[("nodeinfo",t5,v5),("stat",t6,v6)]) 6)]) F₀.based (by have:=F₀.size;exact(qv (qc (ql o2.1 o5.2) this))) ⟨hfr,zt⟩ (b6 (qc o3.2.2 o3.1)) ⟨zt,zt⟩) hA.cx hA.cx rfl zt (chg:=[z.L]) ⟨.inr (.head _),zt⟩ fun s1 P1b P1z K1' r1 P1x=>?_
  exact setR s1 _ 6 (F₀.frame Z hz K1' (zle P1z) ((P1x 0 _ _ (z.L) rfl rfl))) (fun y ob e _ g2=>K1' y ob e (du g2)) r1 (.inr ⟨_,_,_,_,_,_,rfl,.none⟩)
 |full=>
  rename_i t4 t5 t6 t7 t8 v4 v5 v6 v7 v8
  refine cp (wa A.frames) (ag (w:=wf w a b c) (pre:=[(z.L,frD (wf w a b c).params z.f z.S z.tp z.D (("node",t4,v4)::[("nodeinfo",t5,v5),("stat",t6,v6),("successor",t7,v7),("successor_info",t8,v8)]) 8)]) F₀.based (by have:=F₀.size;exact(qv (qc (ql o2.1 o5.2) this))) ⟨hfr,zt⟩ (b6 (qc o3.2.2 o3.1)) ⟨zt,zt⟩) hA.cx hA.cx rfl zt (chg:=[z.L]) ⟨.inr (.head _),zt⟩ fun s1 P1b P1z K1' r1 P1x=>?_
  exact setR s1 _ 8 (F₀.frame Z hz K1' (zle P1z) ((P1x 0 _ _ (z.L) rfl rfl))) (fun y ob e _ g2=>K1' y ob e (du g2)) r1 (.inr ⟨_,_,_,_,_,_,rfl,.full⟩)
end
section
variable{w:World}{a b c:Bool}{nt:Fin 8→Nat}{og:Fin 8→Fin 8}{nd₀:Fin 8→Nd}{np:Fin 8→Int}{su:Fin 8→List (Fin 8)}{A:Around}{s:Shared}{po nf:Int}{xs:List (Fin 8)}{R:Result→Shared→Prop}{S Sd D lo t1 t2 r re:Nat}{q:Nat→Nat}{nodes:List (Fin 8)}
noncomputable def tiO(l i:Nat):Obj:=⟨.type "tuple_iterator",none,.fields #[.ref l,.int i 0],#[]⟩
noncomputable def jqj(it L:Nat):Code:=.forLoop (teS dnF) (.ref it) (inS dnF) [] (cc L)
theorem A9{dn:List (Fin 8)}{k:Fin 8}{B:List (Fin 8)}(hk:k∉B)(hB:∀j∈su k,j∉dn∧j≠k):npI (upd (npD np dn B) k (-2)) (su k)=npD np (dn++[k]) (B++su k):=by
 funext i
 unfold npI npD upd
 by_cases e:i∈su k
 ·have:=hB i e
  simp[e,this.1,this.2]
 ·by_cases e2:i=k
  ·subst e2;simp[e]
  ·by_cases e3:i∈dn
   ·simp[e,e2,e3]
   ·by_cases e4:i∈B
    ·simp[e,e2,e3,e4]
    ·simp[e,e2,e3,e4]
theorem jp2(hA:Room A 600 6000)(B:Based (wf w a b c).params s.heap)(hS:s.heap.get? S=some (sO Sd))(hSd:s.heap.get? Sd=some (sD (wf w a b c).params q D (.ref r) po nf t1 t2))(O:SO S Sd D lo)(H:Reg (wf w a b c).params nt lo D (ol og) np su nd₀ 8 s.heap)
  (hr:s.heap.get? r=some (lO (xs.map (nmV nt)) re)) (or:257≤r) (hrr:∀y:Nat,InReg D (ol og) nd₀ y→y≠r) (hne:nodes≠[]) (hnn:nodes.Nodup) (h1:∀k∈nodes,np k=-1) (h2:∀k∈nodes,∀j∈su k,np j=1) (hfl:(nodes.flatMap su).Nodup) (hl:xs.length<100)
  (h:∀h' tk' nd' t2' re',(∀k,(nd' k).a=(nd₀ k).a∧(nd' k).l=(nd₀ k).l∧(nd' k).le=(nd₀ k).le)→Reg (wf w a b c).params nt lo D (ol og) (npD np nodes (nodes.flatMap su)) su nd' 8 h'→Based (wf w a b c).params h'→h'.get? Sd=some (sD (wf w a b c).params q D (.ref r) po (nf+(nodes.length:Int)) t1 t2')→h'.get? r=some (lO ((xs++nodes.flatMap su).map (nmV nt)) re') →
   (∀y ob,s.heap.get? y=some ob→¬InReg D (ol og) nd₀ y→y≠Sd→y≠r→h'.get? y=some ob)→s.heap.objs.size≤h'.objs.size→R (rv .none) { s with heap:=h',toks:=tk' }) :
  codeAny (model PG (wf w a b c)) A (.call (.ref 185) ⟨.ref S::nodes.map (nmV nt),[]⟩) R s:=by
 have hD:=H.offD
 have hDl:=H.ltD
 have hlo:=H.size
 have h257:257≤s.heap.objs.size:=(qv (qc (ql hD hDl) hlo))
 have n8:=fv hnn
 have ltS:@LT.lt Nat _ S s.heap.objs.size:=Heap.lt_size hS
 have ltSd:@LT.lt Nat _ Sd s.heap.objs.size:=Heap.lt_size hSd
 have ltr:@LT.lt Nat _ r s.heap.objs.size:=Heap.lt_size hr
 refine dg (jm2 A.frames (nodes.map (nmV nt)) (by simpa using hne) (by rw[List.length_map];exact n8)) (ag (w:=wf w a b c) (pre:=[]) B h257 zt zt zt) hA.cx  rfl zt (chg:=[]) zt fun s1 P1b P1z K1' r1 P1x=>?_
 have hs1:s1.heap.objs.size=s.heap.objs.size+2:=P1z
 generalize hN:s.heap.objs.size=N at *
 have xt:s1.heap.get? N=some (tuO (nodes.map (nmV nt))):=P1x 0 _ _ (N) rfl rfl
 have xL:s1.heap.get? (N+1)=some (frS (wf w a b c).params [("self",s.toks,.ref S),("nodes",s.toks+1,.ref N)] 2 #[]):=P1x 1 _ _ (N+1) rfl rfl
 show codeAny _ A (.func dnS (cc (N+1))) R s1
 refine codeAny_func ?_
 have hA2:Room (A.deeper (cc (N+1))) 620 6200:=(hA.deeper _).mono (qb rfl) (qb rfl)
 generalize A.deeper (cc (N+1))=A2 at hA2
 first|refine xq1 qd ?_|refine xq2 qd ?_|refine xq3 qd ?_|rw[qd]
 refine ah _ _ ?_
 have k1:∀{y:Nat} {o:Obj},s.heap.get? y=some o→s1.heap.get? y=some o:=fun{y o} e=>K1' y o e n0m
 have neS:S≠Sd:=fun e=>ao hS hSd rfl e
 refine bc (jm5 A2.frames) (ag (w:=wf w a b c) (pre:=[(N+1,frS (wf w a b c).params [("self",s.toks,.ref S),("nodes",s.toks+1,.ref N)] 2 #[]),(S,sO Sd),(Sd,sD (wf w a b c).params q D (.ref r) po nf t1 t2)]) P1b (qc (qb rfl) (qk (k:=2) (qc (ql hD hDl) hlo) (qg P1z))) ⟨xL,k1 hS,k1 hSd,zt⟩ ⟨(.inl (qr (k:=1) (qv (qc (ql hD hDl) hlo)))),by have:=O.s;exact(.inl this.1),by have:=O.d;exact(.inl this.1),zt⟩ ⟨⟨zt,(by show@Ne Nat _ _;exact(qj (qr (k:=1) ltSd))),zt⟩,⟨zt,zt⟩,zt,zt⟩) hA2.cx hA2.cx rfl zt (chg:=[N+1]) ⟨.inr (.head _),.inl rfl,.inl rfl,zt⟩ fun s2 P3b P3z K4 r3 P3x=>?_
 have hs2:s2.heap.objs.size=s1.heap.objs.size:=P3z
 have k2:∀{y:Nat} {o:Obj},s.heap.get? y=some o→s2.heap.get? y=some o:=fun{y o} e=>K4 _ _ (k1 e) (by
  have:@LT.lt Nat _ y s.heap.objs.size:=Heap.lt_size e
  rw[List.mem_singleton];intro q;have:=ax q;omega)
 let f:=jnq s.toks (s.toks+1) (s1.toks+2)
 have x0:s2.heap.get? (N+1)=some (frD (wf w a b c).params f S N D [] 3):=P3x 0 _ _ (N+1) rfl rfl
 have xt2:s2.heap.get? N=some (tuO (nodes.map (nmV nt))):=K4 _ _ xt (du (nne (.inl (Nat.le_refl _))))
 refine wpAny_execs_cons ?_
 first|refine xq1 qt ?_|refine xq2 qt ?_|refine xq3 qt ?_|rw[qt]
 refine wpAny_For ?_ (fun x=>by kernel_rfl)
 refine c7 (jmq A2.frames) (ag (w:=wf w a b c) (pre:=[(N+1,frD (wf w a b c).params f S N D [] 3)]) P3b (qc (qb rfl) (qy (qk (k:=2) (qc (ql hD hDl) hlo) (qg P1z)) P3z)) ⟨x0,zt⟩ (b6 (qr (k:=1) (qv (qc (ql hD hDl) hlo)))) ⟨zt,zt⟩) hA2.cx hA2.cx rfl zt (chg:=[]) ⟨.inl rfl,zt⟩ fun s3 P5b P5z K6 r5 P5x=>?_
 have hs3:s3.heap.objs.size=s2.heap.objs.size:=P5z
 refine d9 (jmw A2.frames) (ag (w:=wf w a b c) (pre:=[(N,tuO (nodes.map (nmV nt)))]) P5b (qc (qb rfl) (qy (qy (qk (k:=2) (qc (ql hD hDl) hlo) (qg P1z)) P3z) P5z)) ⟨K6 _ _ xt2 n0m,zt⟩ (b6 (by omega)) ⟨zt,zt⟩) hA2.cx hA2.cx rfl zt (chg:=[]) ⟨.inl rfl,zt⟩ fun s4 P7b P7z K8 r7 P7x=>?_
 have hs4:s4.heap.objs.size=s3.heap.objs.size+1:=P7z
 have k4:∀{y:Nat} {o:Obj},s2.heap.get? y=some o→s4.heap.get? y=some o:=fun{y o} e=>K8 _ _ (K6 _ _ e n0m) n0m
 have hit:s4.heap.get? (N+2)=some (tiO N 0):=by
  have:=(P7x 1 _ _ (s3.heap.objs.size) rfl rfl)
  rw[hs3,hs2,hs1] at this
  exact this
 have xt4:=k4 xt2
 let z:DnZ:=⟨N+1,S,Sd,D,lo,r,N,t1,f,q,N⟩
 have Z:z.Ok og nd₀:=⟨O,⟨or,ltr⟩,⟨ltS,ltSd⟩,fun y hy=>⟨by have:=(H.lt hy).1;show y<N;exact(qx this hN),hrr y hy⟩,⟨by show N≤N+1;exact(Nat.le_add_right _ _),by show N≤N;exact(Nat.le_refl _),h257⟩,hlo,neS⟩
 have H4:Reg (wf w a b c).params nt lo D (ol og) np su nd₀ 8 s4.heap:=H.mono (fun y ob e _=>k4 (k2 e)) (qw (k:=3) (qq (qy (qy (qk (k:=2) (qe hN) (qg P1z)) P3z) P5z) P7z))
 have F4:DN (wf w a b c) nt og su z s.heap nd₀ po np nf xs [] 3 s4.heap:=⟨P7b,⟨nd₀,fun _=>⟨rfl,rfl,rfl⟩,H4⟩,k4 x0,k4 (k2 hS),⟨t2,k4 (k2 hSd)⟩,⟨re,k4 (k2 hr)⟩,by show N≤s4.heap.objs.size;exact(qw (k:=3) (qq (qy (qy (qg P1z) P3z) P5z) P7z)),fun y ob e _ _ _=>k4 (k2 e)⟩
 have eit:s3.heap.objs.size=N+2:=(Nat.le_antisymm (qx (qx (qe P5z) P3z) P1z) (qy (qy (qg P1z) P3z) P5z))
 rw[eit]
 have e0:npD np [] []=np:=by funext i;unfold npD;simp
 have hz:s.heap.objs.size=z.N0:=hN
 show codeAny _ A2 (jqj (N+2) (N+1)) _ s4
 refine codeAny_forLoop (fun n s'=>∃dn rest ext ep,nodes=dn++rest∧rest.length=n∧DExt ext ep∧DN (wf w a b c) nt og su z s.heap nd₀ po (npD np dn (dn.flatMap su)) (nf+(dn.length:Int)) (xs++dn.flatMap su) ext ep s'.heap∧s'.heap.get? N=some (tuO (nodes.map (nmV nt)))∧ae s'=ae s4∧s'.heap.IsTupleIter (N+2) N dn.length)
  (fun n s5 hI=>?_) nodes.length ⟨[],nodes,[],3,rfl,rfl,.none,by rw[List.flatMap_nil,e0,List.append_nil,List.length_nil];simpa using F4,xt4,rfl,⟨_,hit,rfl,rfl⟩⟩
 obtain⟨dn,rest,ext,ep,hnd,hlen,hx,F,xt5,r5',hit5⟩:=hI
 have htup:s5.heap.IsTuple N ⟨nodes.map (nmV nt)⟩:=⟨_,xt5,rfl,_,rfl⟩
 cases rest with
 |nil=>
  rw[List.append_nil] at hnd
  subst hnd
  refine wpAny_pyNext_tuple_end hA2.h hit5 htup (by rw[List.getElem?_toArray,List.getElem?_map];simp) fun h6 hE=>?_
  refine wpAny_execs_nil ?_
  have F6:=F.far Z hz (h':=h6) (fun y ob e hy=>hE y ob hy e) (it:=N+2) ⟨by show N≤N+2;exact(Nat.le_add_right _ _),by show N+2≠N+1;exact(qj (Nat.le_refl _))⟩
  obtain⟨nd6,hnd6,H6⟩:=F6.reg
  obtain⟨t26,hsd6⟩:=F6.sd
  obtain⟨re6,hr6⟩:=F6.r
  have:=h h6 s5.toks nd6 t26 re6 hnd6 H6 F6.based hsd6 hr6 (fun y ob e g1 g2 g3=>F6.keep y ob e g1 g2 g3) F6.size
  have rr:ae s5=ae s:=r5'.trans (r7.trans (r5.trans (r3.trans r1)))
  have e1:({ s5 with heap:=h6 }:Shared)={ s with heap:=h6,toks:=s5.toks }:=by
   have:=cm rr
   rw[this]
  rw[←e1] at this
  exact wpAny_execs_nil this
 |cons k rest=>
  have hkm:k∈nodes:=by rw[hnd];simp
  refine wpAny_pyNext_tuple_item hit5 htup (x:=nmV nt k) (by rw[List.getElem?_toArray,List.getElem?_map,hnd];simp) fun h6 hit6 hb6=>?_
  have F6:=F.far Z hz (h':=h6) (fun y ob e hy=>(hb6.2 y hy).trans e) (it:=N+2) ⟨by show N≤N+2;exact(Nat.le_add_right _ _),by show N+2≠N+1;exact(qj (Nat.le_refl _))⟩
  have xt6:h6.get? N=some (tuO (nodes.map (nmV nt))):=(hb6.2 N (nne (by omega))).trans xt5
  rw[hnd] at hnn
  have hkd:k∉dn:=fun q=>(List.nodup_append.mp hnn).2.2 k q k (.head _) rfl
  have hfl2:(dn.flatMap su++su k).Nodup:=by
   have e1:nodes.flatMap su=(dn.flatMap su++su k)++rest.flatMap su:=by rw[hnd];simp
   rw[e1] at hfl
   exact(List.nodup_append.mp hfl).1
  have hfd:∀j,j∈dn.flatMap su→np j=1:=fun j hj=>by
   obtain⟨m,hm,hj⟩:=List.mem_flatMap.mp hj
   exact h2 m (by rw[hnd];exact List.mem_append_left _ hm) j hj
  have hkf:k∉dn.flatMap su:=fun q=>by
   have:=hfd k q
   rw[h1 k hkm] at this
   cases this
  have hsn:∀j∈su k,j∉dn∧j≠k:=fun j hj=>by
   have hj1:=h2 k hkm j hj
   refine⟨fun q=>?_,fun q=>?_⟩
   ·have:=h1 j (by rw[hnd];exact List.mem_append_left _ q)
    rw[hj1] at this;cases this
   ·have:=h1 k hkm
    rw[←q,hj1] at this;cases this
  have hlen8:=fv hfl2
  rw[List.length_append] at hlen8
  have hs6:s5.heap.objs.size=h6.objs.size:=hb6.1.symm
  refine jdr (s:={ s5 with heap:=h6 }) hA2 Z hz F6 hx ?_ (fun j hj=>?_) (List.nodup_append.mp hfl2).2.1 (by rw[List.length_append];omega) fun s7 ext' ep' hx' F7 K7 r7'=>?_
  ·unfold npD
   rw[if_neg hkd,if_neg hkf]
   exact h1 k hkm
  ·unfold npD
   rw[if_neg (hsn j hj).1,if_neg (fun q=>(List.nodup_append.mp hfl2).2.2 j q j hj rfl)]
   exact h2 k hkm j hj
  ·rw[A9 hkf hsn] at F7
   have ef:(dn++[k]).flatMap su=dn.flatMap su++su k:=by simp
   refine⟨rest.length,by rw[←hlen];exact Nat.lt_succ_self _,dn++[k],rest,ext',ep',by rw[hnd];simp,rfl,hx',?_,K7 N _ xt6 (by show N≤N;exact(Nat.le_refl _)) (by show@Ne Nat N (N+1);exact(qh (Nat.le_refl _))),r7'.trans r5',?_⟩
   ·rw[ef,←List.append_assoc,List.length_append]
    have en:nf+((dn.length+[k].length:Nat):Int)=nf+(dn.length:Int)+1:=by simp;omega
    rw[en]
    exact F7
   ·obtain⟨o,ho,hc,hd⟩:=hit6
    refine⟨o,K7 _ _ ho (by show N≤N+2;exact(Nat.le_add_right _ _)) (by show@Ne Nat (N+2) (N+1);exact(qj (Nat.le_refl _))),hc,?_⟩
    rw[List.length_append]
    exact hd
end
inductive EndR(p:Par):Fin 8→Int→Prop where
 |stay {k:Fin 8}:p.lk k=false→EndR p k (p.n k)
 |step {k:Fin 8} {m:Int}:p.lk k=true→EndR p (p.tg k) m→EndR p k m
noncomputable def RA(h:Heap)(M:Nat)(nt:Fin 8→Nat):List Nat→List (List (Fin 8))→Prop
 |[],[]=>True
 |a::as,r::rs=>M≤a∧h.get? a=some (lO (r.map (nmV nt)) 2)∧RA h M nt as rs
 |_,_=>False
noncomputable def EndV(p:Par)(M:Nat)(h:Heap)(x:Fin 8×Value):Prop:=∃(a:Nat) (m:Int) (t1 t2 t3:Nat),x.2=.ref a∧EndR p x.1 m∧M≤a∧h.get? a=some (A1 m t1 t2 t3)
structure WZ(p:Par)(z:LR)(rl N0 M:Nat)(nd₀:Fin 8→Nd):Prop where
 ge:N0≤z.L∧N0≤z.S∧N0≤z.Sd∧N0≤z.D∧N0≤z.rl∧N0≤z.ed∧257≤N0∧N0≤rl
 lt:z.L<M∧z.S<M∧z.Sd<M∧z.D<M∧z.rl<M∧z.ed<M∧rl<M
 neL:z.S≠z.L∧z.Sd≠z.L∧z.D≠z.L∧z.rl≠z.L∧z.ed≠z.L∧rl≠z.L
 neSd:z.S≠z.Sd∧z.D≠z.Sd∧z.rl≠z.Sd∧z.ed≠z.Sd∧rl≠z.Sd
 neR:z.S≠rl∧z.D≠rl∧z.rl≠rl∧z.ed≠rl
 neRl:z.S≠z.rl∧z.D≠z.rl∧z.ed≠z.rl
 neE:z.S≠z.ed∧z.D≠z.ed
 nm:257≤p.NM∧p.NM<N0∧257≤p.NL∧p.NL<N0∧p.NM≠p.NL
 so:SO z.S z.Sd z.D z.lo
 lo:z.lo≤M
 reg:∀y:Nat,InReg z.D (ol (ogB p)) nd₀ y→N0≤y∧y<M∧y≠z.L∧y≠z.S∧y≠z.Sd∧y≠z.rl∧y≠z.ed∧y≠rl
structure LX(w:World)(p:Par)(z:LR)(rl N0 M:Nat)(nd₀:Fin 8→Nd)(fs:List Nat)(h₀:Heap)(ring:Bool)(ext:Ext)(ep:Nat)(po nf:Int)(rd:List (Fin 8))(np:Fin 8→Int)(rs:List (List (Fin 8)))(ps:List (Fin 8))(tb:Option Nat)(h:Heap):Prop where
 based:Based w.params h
 size:M≤h.objs.size
 keep:SlotsBut 229 fs h₀ h
 nm:h.get? p.NM=some (lO (ai p.nt) p.e1)
 nl:h.get? p.NL=some (lO (a8 p.n p.tn) p.e2)
 s:h.get? z.S=some (sO z.Sd)
 fr:∃tk kv sl,h.get? z.L=some (frL w.params p z ring tk kv ext ep sl)
 sd:∃t1 t2,h.get? z.Sd=some (sD w.params z.q z.D (.ref rl) po nf t1 t2)
 r:∃e,h.get? rl=some (lO (rd.map (nmV p.nt)) e)
 reg:∃nd,(∀k,(nd k).a=(nd₀ k).a∧(nd k).l=(nd₀ k).l∧(nd k).le=(nd₀ k).le)∧Reg w.params p.nt z.lo z.D (ol (ogB p)) np (fBd p).su nd 8 h
 rounds:∃as e,h.get? z.rl=some (lO (as.map Value.ref) e)∧RA h M p.nt as rs
 ends:∃kv e,h.get? z.ed=some (dO w.params p.nt kv e)∧kv.map (·.1)=ps∧∀x∈kv,EndV p M h x
 tab:h.get? 229=some (d7 tb)
section
variable{w:World}{p:Par}{z:LR}{rl N0 M:Nat}{nd₀:Fin 8→Nd}{fs:List Nat}{h₀ h h':Heap}{ring:Bool}{ext:Ext}{ep:Nat}{po nf:Int}{rd:List (Fin 8)}{np:Fin 8→Int}{rs:List (List (Fin 8))}{ps:List (Fin 8)}{tb:Option Nat}
theorem RA.keep{chg:List Nat}(K:af chg h h')(hc:∀y∈chg,y<M){nt:Fin 8→Nat}:∀{as:List Nat} {rs:List (List (Fin 8))},RA h M nt as rs→RA h' M nt as rs
 |[],[],_=>trivial
 |a::as,r::rs,H=>⟨H.1,K _ _ H.2.1 (fun q=>by have:=hc a q;have:=H.1;omega),H.2.2.keep K hc⟩
 |[],_::_,H=>H.elim
 |_::_,[],H=>H.elim
theorem RA.snoc{nt:Fin 8→Nat}{a:Nat}{r:List (Fin 8)}(ha:M≤a)(hg:h.get? a=some (lO (r.map (nmV nt)) 2)):∀{as:List Nat} {rs:List (List (Fin 8))},RA h M nt as rs→RA h M nt (as++[a]) (rs++[r])
 |[],[],_=>⟨ha,hg,zt⟩
 |b::as,r'::rs,H=>⟨H.1,H.2.1,H.2.2.snoc ha hg⟩
 |[],_::_,H=>H.elim
 |_::_,[],H=>H.elim
theorem RA.len{nt:Fin 8→Nat}:∀{as:List Nat} {rs:List (List (Fin 8))},RA h M nt as rs→as.length=rs.length
 |[],[],_=>rfl
 |a::as,r::rs,H=>by rw[List.length_cons,List.length_cons,H.2.2.len]
 |[],_::_,H=>H.elim
 |_::_,[],H=>H.elim
theorem EndV.keep{chg:List Nat}(K:af chg h h')(hc:∀y∈chg,y<M){x:Fin 8×Value}(H:EndV p M h x):EndV p M h' x:=by
 obtain⟨a,m,t1,t2,t3,h1,h2,h3,h4⟩:=H
 exact⟨a,m,t1,t2,t3,h1,h2,h3,K _ _ h4 (fun q=>by have:=hc a q;exact(qf (ql h3 this)))⟩
theorem LX.step(F:LX w p z rl N0 M nd₀ fs h₀ ring ext ep po nf rd np rs ps tb h)(W:WZ p z rl N0 M nd₀)(hz:h₀.objs.size=N0){chg:List Nat}(K:af chg h h')(hc:∀y∈chg,y<M∧(N0≤y∨y=229)∧y≠z.S)(hs:h.objs.size≤h'.objs.size)
  {ring':Bool} {ext':Ext} {ep':Nat} {po' nf':Int} {rd':List (Fin 8)} {np':Fin 8→Int} {rs':List (List (Fin 8))} {ps':List (Fin 8)} {tb':Option Nat}
  (hfr:∃tk kv sl,h'.get? z.L=some (frL w.params p z ring' tk kv ext' ep' sl)) (hsd:∃t1 t2,h'.get? z.Sd=some (sD w.params z.q z.D (.ref rl) po' nf' t1 t2)) (hr:∃e,h'.get? rl=some (lO (rd'.map (nmV p.nt)) e))
  (hreg:∃nd,(∀k,(nd k).a=(nd₀ k).a∧(nd k).l=(nd₀ k).l∧(nd k).le=(nd₀ k).le)∧Reg w.params p.nt z.lo z.D (ol (ogB p)) np' (fBd p).su nd 8 h')
  (hro:∃as e,h'.get? z.rl=some (lO (as.map Value.ref) e)∧RA h' M p.nt as rs') (hen:∃kv e,h'.get? z.ed=some (dO w.params p.nt kv e)∧kv.map (·.1)=ps'∧∀x∈kv,EndV p M h' x) (htb:h'.get? 229=some (d7 tb')) :
  LX w p z rl N0 M nd₀ fs h₀ ring' ext' ep' po' nf' rd' np' rs' ps' tb' h':=by
 have g:=W.ge
 have gn:=W.nm
 have old:∀y:Nat,y<N0→y≠229→y∉chg:=fun y h1 h2 q=>by
  rcases(hc y q).2.1 with h|h<;>omega
 refine⟨⟨fun y ob e=>?_⟩,Nat.le_trans F.size hs,fun y ob e hy=>?_,K _ _ F.nm (old _ gn.2.1 (qj (qw (k:=27) gn.1))),K _ _ F.nl (old _ gn.2.2.2.1 (qj (qw (k:=27) gn.2.2.1))),K _ _ F.s (fun q=>(hc _ q).2.2 rfl),hfr,hsd,hr,hreg,hro,hen,htb⟩
 ·have hy:y<257:=bm e
  refine K _ _ (F.based.kt y ob e) (old y (qv (ql (qc hy gn.1) gn.2.1)) (fun q=>?_))
  rw[q,jg] at e
  cases e
 ·obtain⟨sl,h1,h2⟩:=F.keep y ob e hy
  have hly:@LT.lt Nat _ y h₀.objs.size:=Heap.lt_size e
  exact⟨sl,K _ _ h1 (old y (qx hly hz) hy),h2⟩
structure LXu(w:World)(p:Par)(z:LR)(rl M:Nat)(nd₀:Fin 8→Nd)(po nf:Int)(rd:List (Fin 8))(np:Fin 8→Int)(rs:List (List (Fin 8)))(ps:List (Fin 8))(tb:Option Nat)(chg:List Nat)(h':Heap):Prop where
 sd:z.Sd∉chg→∃t1 t2,h'.get? z.Sd=some (sD w.params z.q z.D (.ref rl) po nf t1 t2)
 r:rl∉chg→∃e,h'.get? rl=some (lO (rd.map (nmV p.nt)) e)
 reg:(∀y,InReg z.D (ol (ogB p)) nd₀ y→y∉chg)→∃nd,(∀k,(nd k).a=(nd₀ k).a∧(nd k).l=(nd₀ k).l∧(nd k).le=(nd₀ k).le)∧Reg w.params p.nt z.lo z.D (ol (ogB p)) np (fBd p).su nd 8 h'
 ro:z.rl∉chg→∃as e,h'.get? z.rl=some (lO (as.map Value.ref) e)∧RA h' M p.nt as rs
 en:z.ed∉chg→∃kv e,h'.get? z.ed=some (dO w.params p.nt kv e)∧kv.map (·.1)=ps∧∀x∈kv,EndV p M h' x
 tb:229∉chg→h'.get? 229=some (d7 tb)
theorem LX.un(F:LX w p z rl N0 M nd₀ fs h₀ ring ext ep po nf rd np rs ps tb h){chg:List Nat}(K:af chg h h')(hc:∀y∈chg,y<M)(hs:h.objs.size≤h'.objs.size):LXu w p z rl M nd₀ po nf rd np rs ps tb chg h':=by
 refine⟨fun q=>?_,fun q=>?_,fun q=>?_,fun q=>?_,fun q=>?_,fun q=>K _ _ F.tab q⟩
 ·obtain⟨t1,t2,e⟩:=F.sd;exact⟨t1,t2,K _ _ e q⟩
 ·obtain⟨e,he⟩:=F.r;exact⟨e,K _ _ he q⟩
 ·obtain⟨nd,hnd,H⟩:=F.reg
  exact⟨nd,hnd,H.mono (fun y ob e hy=>K _ _ e (q y ((be hnd).mp hy))) hs⟩
 ·obtain⟨as,e,h1,h2⟩:=F.rounds;exact⟨as,e,K _ _ h1 q,h2.keep K hc⟩
 ·obtain⟨kv,e,h1,h2,h3⟩:=F.ends;exact⟨kv,e,K _ _ h1 q,h2,fun x hx=>(h3 x hx).keep K hc⟩
theorem LX.frame(F:LX w p z rl N0 M nd₀ fs h₀ ring ext ep po nf rd np rs ps tb h)(W:WZ p z rl N0 M nd₀)(hz:h₀.objs.size=N0)(K:af [z.L] h h')(hs:h.objs.size≤h'.objs.size){ring':Bool}{ext':Ext}{ep':Nat}(hfr:∃tk kv sl,h'.get? z.L=some (frL w.params p z ring' tk kv ext' ep' sl)) :
  LX w p z rl N0 M nd₀ fs h₀ ring' ext' ep' po nf rd np rs ps tb h':=by
 have g:=W.ge
 have l:=W.lt
 have hc:∀y∈[z.L],y<M∧(N0≤y∨y=229)∧y≠z.S:=fun y hy=>by rw[List.mem_singleton.mp hy];exact⟨l.1,.inl g.1,fun q=>W.neL.1 q.symm⟩
 have U:=F.un K (fun y hy=>(hc y hy).1) hs
 have nn:∀{y:Nat},y≠z.L→y∉[z.L]:=fun{y} h=>by rw[List.mem_singleton];exact h
 exact F.step W hz K hc hs hfr (U.sd (nn W.neL.2.1)) (U.r (nn W.neL.2.2.2.2.2)) (U.reg fun y hy=>nn (W.reg y hy).2.2.1) (U.ro (nn W.neL.2.2.2.1)) (U.en (nn W.neL.2.2.2.2.1)) (U.tb (nn (qh (qc (qb rfl) (qc g.2.2.2.2.2.2.1 g.1)))))
theorem LX.same(F:LX w p z rl N0 M nd₀ fs h₀ ring ext ep po nf rd np rs ps tb h)(W:WZ p z rl N0 M nd₀)(hz:h₀.objs.size=N0)(K:af [] h h')(hs:h.objs.size≤h'.objs.size):LX w p z rl N0 M nd₀ fs h₀ ring ext ep po nf rd np rs ps tb h':=by
 obtain⟨tk,kv,sl,e⟩:=F.fr
 exact F.frame W hz (fun y ob e _=>K y ob e n0m) hs ⟨tk,kv,sl,K _ _ e n0m⟩
end
theorem jra(P:Params)(p:Par)(z:LR)(ring:Bool)(tk:Nat)(kv:Value)(ext:List (String×Nat×Value))(ep:Nat)(sl:Array (Option Value))(rl rle t2:Nat)(po:Int)(og:Fin 8→Fin 8)(nd:Fin 8→Nd)(t₀:Nat):∀(rd:List (Fin 8)) (_:rd.length≤8),ez ((gEx P p z ring tk kv ext ep sl rl rle t2 po og nd rd t₀++jgf p nd 5 rd).map (·.1))=true
 |[],_=>rfl
 |[k0],_=>rfl
 |[k0,k1],_=>rfl
 |[k0,k1,k2],_=>rfl
 |[k0,k1,k2,k3],_=>rfl
 |[k0,k1,k2,k3,k4],_=>rfl
 |[k0,k1,k2,k3,k4,k5],_=>rfl
 |[k0,k1,k2,k3,k4,k5,k6],_=>rfl
 |[k0,k1,k2,k3,k4,k5,k6,k7],_=>rfl
 |_::_::_::_::_::_::_::_::_::_,h=>absurd h (by simp)
theorem bj{V:SV}{h₀:Heap}{w:World}{p:Par}{z:LR}{og:Fin 8→Fin 8}{nd:Fin 8→Nd}{k:Fin 8}{tk:Nat}(hw:V.w=w)(hp:aj V.pre V.N 3=z.D)(hn:(ol og).Nodup):XOk V h₀ (gX w.params p z og nd k tk):=
 ic hw hp (by rw[cg,if_pos (ec hn k)])
theorem jrb{V:SV}{h₀:Heap}{w:World}{p:Par}{z:LR}{og:Fin 8→Fin 8}{nd:Fin 8→Nd}{rl rle N:Nat}(hw:V.w=w)(hp:aj V.pre V.N 3=z.D)(hp2:aj V.pre V.N 4=rl)(hn:(ol og).Nodup)(hN:N+1=V.N+1):∀(rd:List (Fin 8)) (_:rd≠[]) (_:rd.length≤8),dx V h₀ (gCs w.params p z og nd rl rle N rd).2
 |[k0],_,_=>⟨ft (.inl rfl) hp2 (by simp) (by simp) hN,bj hw hp hn,zt⟩
 |[k0,k1],_,_=>⟨ft (.inl rfl) hp2 (by simp) (by simp) hN,bj hw hp hn,bj hw hp hn,zt⟩
 |[k0,k1,k2],_,_=>⟨ft (.inl rfl) hp2 (by simp) (by simp) hN,bj hw hp hn,bj hw hp hn,bj hw hp hn,zt⟩
 |[k0,k1,k2,k3],_,_=>⟨ft (.inl rfl) hp2 (by simp) (by simp) hN,bj hw hp hn,bj hw hp hn,bj hw hp hn,bj hw hp hn,zt⟩
 |[k0,k1,k2,k3,k4],_,_=>⟨ft (.inl rfl) hp2 (by simp) (by simp) hN,bj hw hp hn,bj hw hp hn,bj hw hp hn,bj hw hp hn,bj hw hp hn,zt⟩
 |[k0,k1,k2,k3,k4,k5],_,_=>⟨ft (.inl rfl) hp2 (by simp) (by simp) hN,bj hw hp hn,bj hw hp hn,bj hw hp hn,bj hw hp hn,bj hw hp hn,bj hw hp hn,zt⟩
 |[k0,k1,k2,k3,k4,k5,k6],_,_=>⟨ft (.inl rfl) hp2 (by simp) (by simp) hN,bj hw hp hn,bj hw hp hn,bj hw hp hn,bj hw hp hn,bj hw hp hn,bj hw hp hn,bj hw hp hn,zt⟩
 |[k0,k1,k2,k3,k4,k5,k6,k7],_,_=>⟨ft (.inl rfl) hp2 (by simp) (by simp) hN,bj hw hp hn,bj hw hp hn,bj hw hp hn,bj hw hp hn,bj hw hp hn,bj hw hp hn,bj hw hp hn,bj hw hp hn,zt⟩
 |[],h,_=>absurd rfl h
 |_::_::_::_::_::_::_::_::_::_,_,h=>absurd h (by simp)
theorem sy{p:Par}{nd:Fin 8→Nd}{k:Fin 8}:∀{rd:List (Fin 8)} {n:Nat},k∈rd→∃i,rd[i]?=some k∧(n+i,br (nmV p.nt k) (nd k).ad (-1) 287 (nd k).l)∈jgf p nd n rd
 |j::rd,n,h=>by
  rcases List.mem_cons.mp h with e|h
  ·subst e;exact⟨0,rfl,.head _⟩
  ·obtain⟨i,h1,h2⟩:=sy (n:=n+1) h
   exact⟨i+1,h1,.tail _ (by rw[show n+(i+1)=n+1+i by omega];exact h2)⟩
section
variable{w:World}{a b c:Bool}{p:Par}{z:LR}{rl N0 M:Nat}{nd₀:Fin 8→Nd}{fs:List Nat}{h₀:Heap}{ring:Bool}{ext:Ext}{ep:Nat}{po nf:Int}{rd:List (Fin 8)}{np:Fin 8→Int}{rs:List (List (Fin 8))}{ps:List (Fin 8)}{tb:Option Nat}{A:Around}{E:Value→Shared→Prop}{s:Shared}
theorem LX.ge257{h:Heap}(F:LX w p z rl N0 M nd₀ fs h₀ ring ext ep po nf rd np rs ps tb h)(W:WZ p z rl N0 M nd₀):257≤h.objs.size:=by have:=W.ge;have:=W.lt;have:=F.size;omega
theorem jn0{Q:Bool→Shared→Prop}(hA:Room A 520 5200)(W:WZ p z rl N0 M nd₀)(hz:h₀.objs.size=N0)(F:LX (wf w a b c) p z rl N0 M nd₀ fs h₀ ring ext ep po po rd np rs ps tb s.heap)(hrd:rd.length≤8)(hrs:rs.length<9)
  (h:∀s' v,v=!rd.isEmpty→LX (wf w a b c) p z rl N0 M nd₀ fs h₀ ring ext ep po po rd np rs ps tb s'.heap→ae s'=ae s→Q v s') :
  wpAny (model PG (wf w a b c)) A (isTrue (teS lrW) (av z.L) (eval (teS lrW) (av z.L))) Q E s:=by
 obtain⟨tk,kv,sl,hfr⟩:=F.fr
 obtain⟨t1,t2,hsd⟩:=F.sd
 obtain⟨re,hr⟩:=F.r
 obtain⟨as,e,hro,hra⟩:=F.rounds
 have g:=W.ge
 have hlt:decide (po<po)=false:=by simp
 cases rd with
 |nil=>
  have P:=ag (w:=wf w a b c) (pre:=[(z.L,frL (wf w a b c).params p z ring tk kv ext ep sl),(z.S,sO z.Sd),(z.Sd,sD (wf w a b c).params z.q z.D (.ref rl) po po t1 t2),(rl,lO [] re)]) F.based (F.ge257 W) ⟨hfr,F.s,hsd,hr,zt⟩ (r0 (qc g.2.2.2.2.2.2.1 g.1) (qc g.2.2.2.2.2.2.1 g.2.1) (qc g.2.2.2.2.2.2.1 g.2.2.1) (qc g.2.2.2.2.2.2.1 g.2.2.2.2.2.2.2))
   ⟨⟨zt,W.neL.2.1.symm,zt,zt⟩,⟨zt,zt,zt⟩,⟨zt,zt⟩,zt,zt⟩
  refine cu (jbi A.frames) P hA.cx hA.cx rfl ⟨fu hlt,zt⟩ fun s' P' K r=>h s' false rfl ?_ r
  exact F.same W hz (am P P'.has K ⟨.inl rfl,.inl rfl,.inl rfl,.inl rfl,zt⟩) (ch P')
 |cons k l=>
  have hl:=hra.len
  have P:=ag (w:=wf w a b c) (pre:=[(z.L,frL (wf w a b c).params p z ring tk kv ext ep sl),(z.S,sO z.Sd),(z.Sd,sD (wf w a b c).params z.q z.D (.ref rl) po po t1 t2),(rl,lO ((k::l).map (nmV p.nt)) re),(z.rl,lO (as.map Value.ref) e)]) F.based (F.ge257 W) ⟨hfr,F.s,hsd,hr,hro,zt⟩ (jdq (qc g.2.2.2.2.2.2.1 g.1) (qc g.2.2.2.2.2.2.1 g.2.1) (qc g.2.2.2.2.2.2.1 g.2.2.1) (qc g.2.2.2.2.2.2.1 g.2.2.2.2.2.2.2) (qc g.2.2.2.2.2.2.1 g.2.2.2.2.1))
   ⟨⟨zt,W.neL.2.1.symm,zt,zt,zt⟩,⟨zt,zt,zt,zt⟩,⟨zt,zt,zt⟩,⟨W.neR.2.2.1.symm,zt⟩,zt,zt⟩
  refine cu (jkc A.frames ((k::l).map (nmV p.nt)) (by simp) (by rw[List.length_map];exact hrd)) P hA.cx hA.cx rfl ⟨fu hlt,gz rfl (by rw[List.length_map];omega) rfl,fu (by rw[List.length_map];simp;omega),zt⟩ fun s' P' K r=>h s' true rfl ?_ r
  exact F.same W hz (am P P'.has K ⟨.inl rfl,.inl rfl,.inl rfl,.inl rfl,.inl rfl,zt⟩) (ch P')
noncomputable def ndG(nd:Fin 8→Nd)(rd:List (Fin 8)):Fin 8→Nd:=fun k=>if k∈rd then{ nd k with tn:=287 } else nd k
theorem ju(nd:Fin 8→Nd)(rd:List (Fin 8))(k:Fin 8):(ndG nd rd k).a=(nd k).a∧(ndG nd rd k).l=(nd k).l∧(ndG nd rd k).le=(nd k).le∧(ndG nd rd k).ad=(nd k).ad:=by
 unfold ndG
 split<;>exact⟨rfl,rfl,rfl,rfl⟩
noncomputable def npG(np:Fin 8→Int)(rd:List (Fin 8)):Fin 8→Int:=fun k=>if k∈rd then -1 else np k
theorem jnz{Q:Value→Shared→Prop}(hA:Room A 520 5200)(W:WZ p z rl N0 M nd₀)(hz:h₀.objs.size=N0)(F:LX (wf w a b c) p z rl N0 M nd₀ fs h₀ ring ext ep po po rd np rs ps tb s.heap)(hrd:rd≠[])(hrn:rd.Nodup)
  (h:∀s' (tp:Nat),M≤tp→s'.heap.get? tp=some (tuO (rd.map (nmV p.nt)))→LX (wf w a b c) p z rl N0 M nd₀ fs h₀ ring ext ep (po+(rd.length:Int)) po [] (npG np rd) rs ps tb s'.heap→ae s'=ae s→Q (.ref tp) s') :
  wpAny (model PG (wf w a b c)) A (eval (jnk (ak (inS lrW) 0)) (av z.L)) Q E s:=by
 obtain⟨tk,kv,sl,hfr⟩:=F.fr
 obtain⟨t1,t2,hsd⟩:=F.sd
 obtain⟨re,hr⟩:=F.r
 obtain⟨nd,hnd,H⟩:=F.reg
 have g:=W.ge
 have l:=W.lt
 have h8:=fv hrn
 have mem:∀k,k∈ol (ogB p):=fun k=>ec H.nodup k
 have rin:∀k,InReg z.D (ol (ogB p)) nd₀ (nd k).a:=fun k=>(be hnd).mp (.inr ⟨k,mem k,.inl rfl⟩)
 have sub:∀y∈(fj (wf w a b c).params p z ring tk kv ext ep sl rl re t1 t2 po (ogB p) nd rd).map (·.1),y∈[z.L,z.S,z.Sd,z.D,rl]:=fun y hy=>hy
 have P:Pre (wf w a b c) (fj (wf w a b c).params p z ring tk kv ext ep sl rl re t1 t2 po (ogB p) nd rd++l8 p np nd rd) s.heap.objs.size s.toks s:=by
  refine⟨F.based,rfl,rfl,F.ge257 W,fun x hx=>?_,fun x hx=>?_,?_⟩
  ·rcases List.mem_append.mp hx with hx|hx
   ·exact HasL.mem (l:=fj (wf w a b c).params p z ring tk kv ext ep sl rl re t1 t2 po (ogB p) nd rd) ⟨hfr,F.s,hsd,H.d,hr,zt⟩ x hx
   ·obtain⟨k,hk,rfl⟩:=List.mem_map.mp hx
    exact H.i k (mem k)
  ·rcases List.mem_append.mp hx with hx|hx
   ·have:=sub x.1 (List.mem_map_of_mem hx)
    exact .inl (mA5 (P:=fun y=>257≤y) this (qc g.2.2.2.2.2.2.1 g.1) (qc g.2.2.2.2.2.2.1 g.2.1) (qc g.2.2.2.2.2.2.1 g.2.2.1) (qc g.2.2.2.2.2.2.1 g.2.2.2.1) (qc g.2.2.2.2.2.2.1 g.2.2.2.2.2.2.2))
   ·obtain⟨k,hk,rfl⟩:=List.mem_map.mp hx
    exact .inl (H.lt (.inr ⟨k,mem k,.inl rfl⟩)).2.1
  ·rw[List.map_append]
   refine List.nodup_append.mpr ⟨?_,?_,fun x hx y hy e=>?_⟩
   ·show [z.L,z.S,z.Sd,z.D,rl].Nodup
    exact dn5 ⟨⟨W.neL.1.symm,W.neL.2.1.symm,W.neL.2.2.1.symm,W.neL.2.2.2.2.2.symm⟩,⟨W.neSd.1,W.so.s.2.2,W.neR.1⟩,⟨W.neSd.2.1.symm,W.neSd.2.2.2.2.symm⟩,W.neR.2.1⟩
   ·show((rd.map fun k=>((nd k).a,br (nmV p.nt k) (nd k).ad (np k) (nd k).tn (nd k).l)).map (·.1)).Nodup
    rw[List.map_map]
    exact List.Pairwise.map _ (fun x y hxy e=>hxy (H.aa (mem x) (mem y) e)) hrn
   ·have hx':=sub x hx
    have hy':y∈(rd.map fun k=>((nd k).a,br (nmV p.nt k) (nd k).ad (np k) (nd k).tn (nd k).l)).map (·.1):=hy
    rw[List.map_map] at hy'
    obtain⟨k,hk,rfl⟩:=List.mem_map.mp hy'
    have e':x=(nd k).a:=e
    have r1:=W.reg _ (rin k)
    have hDa:(nd k).a≠z.D:=fun q=>by
     have h1:=H.i k (mem k)
     rw[q,H.d] at h1
     cases h1
    rw[e'] at hx'
    replace hx':=mO5 hx'
    rcases hx' with q|q|q|q|q
    ·exact r1.2.2.1 q
    ·exact r1.2.2.2.1 q
    ·exact r1.2.2.2.2.1 q
    ·exact hDa q
    ·exact r1.2.2.2.2.2.2.2 q
 refine bq (jkl A.frames rd hrd h8) P hA.cx hA.cx (jra _ _ _ _ _ _ _ _ _ _ _ _ _ _ _ _ rd h8) (jrb rfl rfl rfl H.nodup rfl rd hrd h8) fun s' P' K r=>?_
 have hz':s'.heap.objs.size=s.heap.objs.size+6:=P'.size
 have x0:s'.heap.get? z.L=some (frL (wf w a b c).params p z ring tk kv ext ep sl):=P'.has (z.L,_) (.head _)
 have x1:s'.heap.get? z.S=some (sO z.Sd):=P'.has (z.S,_) (.tail _ (.head _))
 have x2:s'.heap.get? z.Sd=some (sD (wf w a b c).params z.q z.D (.ref rl) (po+(rd.length:Int)) po (s.toks+(10+3*rd.length)) t2):=P'.has (z.Sd,_) (.tail _ (.tail _ (.head _)))
 have x3:s'.heap.get? z.D=some (dO (wf w a b c).params p.nt (aq (ol (ogB p)) nd) 8):=P'.has (z.D,_) (.tail _ (.tail _ (.tail _ (.head _))))
 have x4:s'.heap.get? rl=some (lO [] (re+1)):=P'.has (rl,_) (.tail _ (.tail _ (.tail _ (.tail _ (.head _)))))
 have plen:((fj (wf w a b c).params p z ring tk kv ext ep sl rl re t1 t2 po (ogB p) nd rd++l8 p np nd rd).map (·.1)).length=5+rd.length:=by simp[fj,l8];omega
 have xt:s'.heap.get? (s.heap.objs.size+2)=some (tuO (rd.map (nmV p.nt))):=by
  have:=P'.has (aj ((fj (wf w a b c).params p z ring tk kv ext ep sl rl re t1 t2 po (ogB p) nd rd++l8 p np nd rd).map (·.1)) s.heap.objs.size (7+rd.length),tuO (rd.map (nmV p.nt))) (by
   unfold dm
   rw[List.map_append]
   refine List.mem_append_left _ ?_
   exact .tail _ (.tail _ (.tail _ (.tail _ (.tail _ (.head _))))))
  rw[bz _ _ _ (by rw[plen];omega),plen,show 7+rd.length-(5+rd.length)=2 by omega] at this
  exact this
 have xr:∀k∈rd,s'.heap.get? (nd k).a=some (br (nmV p.nt k) (nd k).ad (-1) 287 (nd k).l):=fun k hk=>by
  obtain⟨i,hi,hm⟩:=sy (p:=p) (nd:=nd) (n:=5) hk
  have:=P'.has (aj ((fj (wf w a b c).params p z ring tk kv ext ep sl rl re t1 t2 po (ogB p) nd rd++l8 p np nd rd).map (·.1)) s.heap.objs.size (5+i),br (nmV p.nt k) (nd k).ad (-1) 287 (nd k).l) (by
   unfold dm
   rw[List.map_append]
   exact List.mem_append_right _ (List.mem_map_of_mem (f:=fun q:Nat×Obj=>(aj ((fj (wf w a b c).params p z ring tk kv ext ep sl rl re t1 t2 po (ogB p) nd rd++l8 p np nd rd).map (·.1)) s.heap.objs.size q.1,q.2)) hm))
  have hil:i<rd.length:=(List.getElem?_eq_some_iff.mp hi).1
  have ead:aj ((fj (wf w a b c).params p z ring tk kv ext ep sl rl re t1 t2 po (ogB p) nd rd++l8 p np nd rd).map (·.1)) s.heap.objs.size (5+i)=(nd k).a:=by
   rw[bh _ _ _ (by rw[plen];omega)]
   have e1:((fj (wf w a b c).params p z ring tk kv ext ep sl rl re t1 t2 po (ogB p) nd rd++l8 p np nd rd).map (·.1))[5+i]?=some (nd k).a:=by
    rw[List.map_append,List.getElem?_append_right (by simp[fj])]
    have e2:5+i-((fj (wf w a b c).params p z ring tk kv ext ep sl rl re t1 t2 po (ogB p) nd rd).map (·.1)).length=i:=by simp[fj]
    rw[e2]
    unfold l8
    rw[List.map_map,List.getElem?_map,hi];rfl
   exact(List.getElem?_eq_some_iff.mp e1).2
  rw[ead] at this
  exact this
 have K2:af (z.Sd::rl::rd.map fun k=>(nd k).a) s.heap s'.heap:=fun y o e hy=>by
  rw[List.mem_cons,List.mem_cons,not_or,not_or] at hy
  by_cases e1:y=z.L
  ·exact sg hfr x0 e e1
  by_cases e2:y=z.S
  ·exact sg F.s x1 e e2
  by_cases e3:y=z.D
  ·exact sg H.d x3 e e3
  refine K y o e fun q=>?_
  rw[List.map_append] at q
  rcases List.mem_append.mp q with q|q
  ·have:=sub y q
   replace this:=mO5 this
   rcases this with q|q|q|q|q
   ·exact e1 q
   ·exact e2 q
   ·exact hy.1 q
   ·exact e3 q
   ·exact hy.2.1 q
  ·have hy':y∈(rd.map fun k=>((nd k).a,br (nmV p.nt k) (nd k).ad (np k) (nd k).tn (nd k).l)).map (·.1):=q
   rw[List.map_map] at hy'
   exact hy.2.2 hy'
 have hc:∀y∈(z.Sd::rl::rd.map fun k=>(nd k).a),y<M∧(N0≤y∨y=229)∧y≠z.S:=fun y hy=>by
  rcases List.mem_cons.mp hy with rfl|hy
  ·exact⟨l.2.2.1,.inl g.2.2.1,fun q=>W.neSd.1 q.symm⟩
  rcases List.mem_cons.mp hy with rfl|hy
  ·exact⟨l.2.2.2.2.2.2,.inl g.2.2.2.2.2.2.2,fun q=>W.neR.1 q.symm⟩
  obtain⟨k,hk,rfl⟩:=List.mem_map.mp hy
  have r1:=W.reg _ (rin k)
  exact⟨r1.2.1,.inl r1.1,r1.2.2.2.1⟩
 have hs:s.heap.objs.size≤s'.heap.objs.size:=(qw (k:=6) (qg hz'))
 have U:=F.un K2 (fun y hy=>(hc y hy).1) hs
 have nin:∀{y:Nat},y≠z.Sd→y≠rl→(∀k,y≠(nd k).a)→y∉(z.Sd::rl::rd.map fun k=>(nd k).a):=fun{y} h1 h2 h3 q=>by
  rcases List.mem_cons.mp q with q|q
  ·exact h1 q
  rcases List.mem_cons.mp q with q|q
  ·exact h2 q
  obtain⟨k,hk,rfl⟩:=List.mem_map.mp q
  exact h3 k rfl
 have rin2:=fun k=>W.reg _ (rin k)
 refine h s' (s.heap.objs.size+2) (by have:=F.size;exact(qr (k:=2) this)) xt (F.step W hz K2 hc hs ⟨tk,kv,sl,x0⟩ ⟨_,_,x2⟩ ⟨_,x4⟩ ⟨ndG nd rd,fun k=>⟨(ju nd rd k).1.trans (hnd k).1,(ju nd rd k).2.1.trans (hnd k).2.1,(ju nd rd k).2.2.1.trans (hnd k).2.2⟩,H.setF (fun k=>⟨(ju nd rd k).1,(ju nd rd k).2.1,(ju nd rd k).2.2.1⟩) hs (fun k hk=>?_) (fun k hk ob e=>K2 _ _ e ?_) (fun ob e=>K2 _ _ e ?_) (fun k hk=>absurd (mem k) hk)⟩
  (U.ro (nin W.neSd.2.2.1 W.neR.2.2.1 (fun k q=>(rin2 k).2.2.2.2.2.1 q.symm))) (U.en (nin W.neSd.2.2.2.1 W.neR.2.2.2 (fun k q=>(rin2 k).2.2.2.2.2.2.1 q.symm))) (U.tb (nin (qh (qc (qb rfl) (qc g.2.2.2.2.2.2.1 g.2.2.1))) (qh (qc (qb rfl) (qc g.2.2.2.2.2.2.1 g.2.2.2.2.2.2.2))) (fun k q=>by have:=(rin2 k).1;exact(qz (qy (qc g.2.2.2.2.2.2.1 this) q) rfl))))) r
 ·show s'.heap.get? (nd k).a=some (br (nmV p.nt k) (ndG nd rd k).ad (npG np rd k) (ndG nd rd k).tn (nd k).l)
  unfold npG ndG
  by_cases q:k∈rd
  ·simp only[if_pos q];exact xr k q
  ·simp only[if_neg q]
   refine K2 _ _ (H.i k hk) fun q2=>?_
   rcases List.mem_cons.mp q2 with q2|q2
   ·exact(rin2 k).2.2.2.2.1 q2
   rcases List.mem_cons.mp q2 with q2|q2
   ·exact(rin2 k).2.2.2.2.2.2.2 q2
   obtain⟨j,hj,e⟩:=List.mem_map.mp q2
   exact q (H.aa (mem j) hk e ▸ hj)
 ·have r1:=W.reg (nd k).l ((be hnd).mp (.inr ⟨k,hk,.inr rfl⟩))
  exact nin r1.2.2.2.2.1 r1.2.2.2.2.2.2.2 (fun j q=>H.al (mem j) hk q.symm)
 ·refine nin W.neSd.2.1 W.neR.2.1 (fun k q=>?_)
  have h1:=H.i k (mem k)
  rw[←q,H.d] at h1
  cases h1
end
section
variable{w:World}{a b c:Bool}{p:Par}{z:LR}{rl N0 M:Nat}{nd₀:Fin 8→Nd}{fs:List Nat}{h₀:Heap}{ring:Bool}{ext:Ext}{ep:Nat}{po nf:Int}{rd:List (Fin 8)}{np:Fin 8→Int}{rs:List (List (Fin 8))}{ps:List (Fin 8)}{tb:Option Nat}{A:Around}{E E':Value→Shared→Prop}{s:Shared}
inductive WX:Ext→Nat→Prop where
 |none:WX [] 7
 |full {t3 t4 t5 x3 x4 x5}:WX [("ready",t3,x3),("name",t4,x4),("x",t5,x5)] 10
inductive WT:Ext→Nat→Prop where
 |none:WT [] 8
 |full {t4 t5 x4 x5}:WT [("name",t4,x4),("x",t5,x5)] 10
theorem jny{Q:Unit→Shared→Prop}{tp:Nat}(hA:Room A 520 5200)(W:WZ p z rl N0 M nd₀)(hz:h₀.objs.size=N0)(F:LX (wf w a b c) p z rl N0 M nd₀ fs h₀ ring ext ep po nf rd np rs ps tb s.heap)(hx:WX ext ep)
  (h:∀s' t tl ep',WT tl ep'→LX (wf w a b c) p z rl N0 M nd₀ fs h₀ ring (("ready",t,.ref tp)::tl) ep' po nf rd np rs ps tb s'.heap→af [z.L] s.heap s'.heap→ae s'=ae s→Q () s') :
  wpAny (model PG (wf w a b c)) A (storeName (av z.L) (nmE (ja3 (ak (inS lrW) 0))) (.ref tp)) Q E s:=by
 obtain⟨tk,kv,sl,hfr⟩:=F.fr
 have g:=W.ge
 cases hx with
 |none=>
  have P:=ag (w:=wf w a b c) (pre:=[(z.L,frL (wf w a b c).params p z ring tk kv [] 7 sl)]) F.based (F.ge257 W) ⟨hfr,zt⟩ (b6 (qc g.2.2.2.2.2.2.1 g.1)) ⟨zt,zt⟩
  refine md (jbo A.frames) P hA.cx hA.cx rfl zt fun s' P' K r=>?_
  have K':af [z.L] s.heap s'.heap:=K
  exact h s' _ [] 8 .none (F.frame W hz K' (ch P') ⟨tk,kv,sl,P'.has (z.L,_) (.head _)⟩) K' r
 |full=>
  rename_i t3 t4 t5 x3 x4 x5
  have P:=ag (w:=wf w a b c) (pre:=[(z.L,frL (wf w a b c).params p z ring tk kv [("ready",t3,x3),("name",t4,x4),("x",t5,x5)] 10 sl)]) F.based (F.ge257 W) ⟨hfr,zt⟩ (b6 (qc g.2.2.2.2.2.2.1 g.1)) ⟨zt,zt⟩
  refine md (jbl A.frames) P hA.cx hA.cx rfl zt fun s' P' K r=>?_
  have K':af [z.L] s.heap s'.heap:=K
  exact h s' _ _ 10 .full (F.frame W hz K' (ch P') ⟨tk,kv,sl,P'.has (z.L,_) (.head _)⟩) K' r
theorem jnx{Q:Flow→Shared→Prop}{t3 tp:Nat}{tl:Ext}{rdl:List (Fin 8)}(hA:Room A 520 5200)(W:WZ p z rl N0 M nd₀)(hz:h₀.objs.size=N0)(F:LX (wf w a b c) p z rl N0 M nd₀ fs h₀ ring (("ready",t3,.ref tp)::tl) ep po nf rdl np rs ps tb s.heap)
  (hrd:rd≠[]) (hrn:rd.Nodup) (hM:M≤tp) (htp:s.heap.get? tp=some (tuO (rd.map (nmV p.nt)))) (hrs:rs.length<100)
  (h:∀s' (aa:Nat) (as:List Nat) (e:Nat),M≤aa→s'.heap.get? aa=some (lO ((bg rd).map (nmV p.nt)) 2)→s'.heap.get? z.rl=some (lO (as.map Value.ref++[.ref aa]) e)→LX (wf w a b c) p z rl N0 M nd₀ fs h₀ ring (("ready",t3,.ref tp)::tl) ep po nf rdl np (rs++[bg rd]) ps tb s'.heap→s'.heap.get? tp=some (tuO (rd.map (nmV p.nt)))→ae s'=ae s→Q .next s') :
  wpAny (model PG (wf w a b c)) A (execs [ak (inS lrW) 1] (av z.L)) Q E s:=by
 obtain⟨tk,kv,sl,hfr⟩:=F.fr
 obtain⟨as,e,hro,hra⟩:=F.rounds
 have g:=W.ge
 have l:=W.lt
 have h8:=fv hrn
 have hl:=hra.len
 refine bc (jks A.frames (rd.map (nmV p.nt)) (by simpa using hrd) (by rw[List.length_map];exact h8)) (ag (w:=wf w a b c) (pre:=[(z.L,frL (wf w a b c).params p z ring tk kv (("ready",t3,.ref tp)::tl) ep sl),(tp,tuO (rd.map (nmV p.nt))),(z.rl,lO (as.map Value.ref) e)]) F.based (F.ge257 W) ⟨hfr,htp,hro,zt⟩ (f0 (qc g.2.2.2.2.2.2.1 g.1) (qv (qc (ql (qc g.2.2.2.2.2.2.1 g.1) l.1) hM)) (qc g.2.2.2.2.2.2.1 g.2.2.2.2.1)) ⟨⟨zt,zt,zt⟩,⟨(by show@Ne Nat _ _;exact(qj (qc l.2.2.2.2.1 hM))),zt⟩,zt,zt⟩) hA.cx hA.cx rfl ⟨ft (.inr rfl) rfl (by simpa using hrd) (by rw[List.length_map];exact(qr (k:=991) (qs 1 h8))) rfl,jk3 rfl hrd hrn,fw rfl (by rw[List.length_map];omega),zt⟩ (chg:=[z.rl]) ⟨.inl rfl,.inl rfl,.inr (.head _),zt⟩ fun s' P'b P'z K2 r P'x=>?_
 have hz':s'.heap.objs.size=s.heap.objs.size+4:=P'z
 have x2:s'.heap.get? z.rl=some (lO (as.map Value.ref++[.ref (s.heap.objs.size+1)]) (e+1)):=P'x 2 _ _ (z.rl) rfl rfl
 have x4:s'.heap.get? (s.heap.objs.size+1)=some (lO ((bg rd).map (nmV p.nt)) 2):=P'x 3 _ _ (s.heap.objs.size+1) rfl rfl
 have hsz:=F.size
 have hc:∀y∈[z.rl],y<M∧(N0≤y∨y=229)∧y≠z.S:=fun y hy=>by rw[List.mem_singleton.mp hy];exact⟨l.2.2.2.2.1,.inl g.2.2.2.2.1,fun q=>W.neRl.1 q.symm⟩
 have hs:s.heap.objs.size≤s'.heap.objs.size:=(qw (k:=4) (qg P'z))
 have U:=F.un K2 (fun y hy=>(hc y hy).1) hs
 have nn:∀{y:Nat},y≠z.rl→y∉[z.rl]:=fun{y} h=>by rw[List.mem_singleton];exact h
 refine h s' (s.heap.objs.size+1) as (e+1) (qr (k:=1) hsz) x4 x2 (F.step W hz K2 hc hs ⟨tk,kv,sl,K2 _ _ hfr (nn W.neL.2.2.2.1.symm)⟩ (U.sd (nn W.neSd.2.2.1.symm)) (U.r (nn W.neR.2.2.1.symm)) (U.reg fun y hy=>nn (W.reg y hy).2.2.2.2.2.1) ⟨as++[s.heap.objs.size+1],e+1,?_,(hra.keep K2 (fun y hy=>(hc y hy).1)).snoc (qr (k:=1) hsz) x4⟩ (U.en (nn W.neRl.2.2)) (U.tb (nn (qh (qc (qb rfl) (qc g.2.2.2.2.2.2.1 g.2.2.2.2.1)))))) (K2 _ _ htp (nn (qj (qc l.2.2.2.2.1 hM)))) r
 rw[List.map_append];exact x2
theorem jqg{Q:Flow→Shared→Prop}{k:Fin 8}{t3 t4:Nat}{x3:Value}{tl:Ext}(hA:Room A 520 5200)(W:WZ p z rl N0 M nd₀)(hz:h₀.objs.size=N0)(F:LX (wf w a b c) p z rl N0 M nd₀ fs h₀ ring (("ready",t3,x3)::("name",t4,nmV p.nt k)::tl) ep po nf rd np rs ps tb s.heap)(htl:(tl=[]∧ep=9)∨∃t5 x5,tl=[("x",t5,x5)]∧ep=10)
  (h:∀s' t5,LX (wf w a b c) p z rl N0 M nd₀ fs h₀ ring [("ready",t3,x3),("name",t4,nmV p.nt k),("x",t5,.int (p.n k) (p.tn k))] 10 po nf rd np rs ps tb s'.heap→af [z.L] s.heap s'.heap→ae s'=ae s→Q .next s') :
  wpAny (model PG (wf w a b c)) A (execs [ak (inS lrN) 0] (av z.L)) Q E s:=by
 obtain⟨tk,kv,sl,hfr⟩:=F.fr
 have g:=W.ge
 have gn:=W.nm
 rcases htl with⟨rfl,rfl⟩|⟨t5,x5,rfl,rfl⟩
 ·have P:=ag (w:=wf w a b c) (pre:=[(z.L,frL (wf w a b c).params p z ring tk kv [("ready",t3,x3),("name",t4,nmV p.nt k)] 9 sl),(p.NM,lO (ai p.nt) p.e1),(p.NL,lO (a8 p.n p.tn) p.e2)]) F.based (F.ge257 W) ⟨hfr,F.nm,F.nl,zt⟩ (f0 (qc g.2.2.2.2.2.2.1 g.1) gn.1 gn.2.2.1) ⟨⟨zt,zt,zt⟩,⟨gn.2.2.2.2,zt⟩,zt,zt⟩
  refine bc (jbf A.frames) P hA.cx hA.cx rfl ⟨M7 rfl rfl,iu rfl,zt⟩ (chg:=[z.L]) ⟨.inr (.head _),.inl rfl,.inl rfl,zt⟩ fun s' P'b P'z K' r P'x=>?_
  exact h s' _ (F.frame W hz K' (zle P'z) ⟨tk,kv,sl,(P'x 0 _ _ (z.L) rfl rfl)⟩) K' r
 ·have P:=ag (w:=wf w a b c) (pre:=[(z.L,frL (wf w a b c).params p z ring tk kv [("ready",t3,x3),("name",t4,nmV p.nt k),("x",t5,x5)] 10 sl),(p.NM,lO (ai p.nt) p.e1),(p.NL,lO (a8 p.n p.tn) p.e2)]) F.based (F.ge257 W) ⟨hfr,F.nm,F.nl,zt⟩ (f0 (qc g.2.2.2.2.2.2.1 g.1) gn.1 gn.2.2.1) ⟨⟨zt,zt,zt⟩,⟨gn.2.2.2.2,zt⟩,zt,zt⟩
  refine bc (jbc A.frames) P hA.cx hA.cx rfl ⟨M7 rfl rfl,iu rfl,zt⟩ (chg:=[z.L]) ⟨.inr (.head _),.inl rfl,.inl rfl,zt⟩ fun s' P'b P'z K' r P'x=>?_
  exact h s' _ (F.frame W hz K' (zle P'z) ⟨tk,kv,sl,(P'x 0 _ _ (z.L) rfl rfl)⟩) K' r
theorem sf(n:Int):decide (dq n<0)=false∧decide (dq n>18446744073709551615)=false∧decide (dq n>4294967295)=false:=by
 have h1:=Int.fmod_nonneg_of_pos (n.fdiv 3) (b:=512) (by omega)
 have h2:=Int.fmod_lt_of_pos (n.fdiv 3) (b:=512) (by omega)
 have h3:16384≤bp n (16384:Int) 32768 40960∧bp n (16384:Int) 32768 40960≤40960:=by
  unfold bp
  split
  ·omega
  ·split<;>omega
 unfold dq
 refine⟨?_,?_,?_⟩<;>(rw[decide_eq_false_iff_not];omega)
theorem jrd{Q:Flow→Shared→Prop}{k:Fin 8}{t3 t4 t5:Nat}{x3:Value}(hA:Room A 520 5200)(W:WZ p z rl N0 M nd₀)(hz:h₀.objs.size=N0)(F:LX (wf w a b c) p z rl N0 M nd₀ fs h₀ ring [("ready",t3,x3),("name",t4,nmV p.nt k),("x",t5,.int (p.n k) (p.tn k))] 10 po nf rd np rs ps tb s.heap)
  (hk:k∉ps) (hl:ps.length<100) (ht:p.lk k=true→p.tg k∈ps)
  (h:∀s' tb',LX (wf w a b c) p z rl N0 M nd₀ fs h₀ ring [("ready",t3,x3),("name",t4,nmV p.nt k),("x",t5,.int (p.n k) (p.tn k))] 10 po nf rd np rs (ps++[k]) tb' s'.heap→(∀y ob,s.heap.get? y=some ob→M≤y→s'.heap.get? y=some ob)→ae s'=ae s→Q .next s') :
  wpAny (model PG (wf w a b c)) A (execs [ak (inS lrN) 1] (av z.L)) Q E s:=by
 obtain⟨tk,kv,sl,hfr⟩:=F.fr
 obtain⟨en,ee,hen,hks,hev⟩:=F.ends
 have g:=W.ge
 have gn:=W.nm
 have l:=W.lt
 have hsz:=F.size
 have hnl:en.lookup k=none:=bk (by rw[hks];exact hk)
 have hll:en.length<1000:=by have:=congrArg List.length hks;rw[List.length_map] at this;exact(qr (k:=900) (ql (qe this) hl))
 cases hlk:p.lk k with
 |true=>
  have htg:=ht hlk
  rw[←hks] at htg
  obtain⟨v,hv,hvm⟩:=cq htg
  obtain⟨vv,m,q1,q2,q3,hvv,hm,hM,hg⟩:=hev _ hvm
  have hvv':v=.ref vv:=hvv
  subst hvv'
  refine bc (jcg A.frames) (ag (w:=wf w a b c) (pre:=[(z.L,frL (wf w a b c).params p z ring tk kv [("ready",t3,x3),("name",t4,nmV p.nt k),("x",t5,.int (p.n k) (p.tn k))] 10 sl),(p.NM,lO (ai p.nt) p.e1),(z.ed,dO (wf w a b c).params p.nt en ee)]) F.based (F.ge257 W) ⟨hfr,F.nm,hen,zt⟩ (f0 (qc g.2.2.2.2.2.2.1 g.1) gn.1 (qc g.2.2.2.2.2.2.1 g.2.2.2.2.2.1)) ⟨⟨zt,W.neL.2.2.2.2.1.symm,zt⟩,⟨zt,zt⟩,zt,zt⟩) hA.cx hA.cx rfl ⟨aw rfl,ia hlk,sb rfl,ic rfl rfl hv,ib rfl rfl hnl hll,zt⟩ (chg:=[z.ed]) ⟨.inl rfl,.inl rfl,.inr (.head _),zt⟩ fun s' P'b P'z K2 r P'x=>?_
  have hs:s.heap.objs.size≤s'.heap.objs.size:=by rw[P'z];exact Nat.le_add_right _ _
  have hc:∀y∈[z.ed],y<M∧(N0≤y∨y=229)∧y≠z.S:=fun y hy=>by rw[List.mem_singleton.mp hy];exact⟨l.2.2.2.2.2.1,.inl g.2.2.2.2.2.1,fun q=>W.neE.1 q.symm⟩
  have U:=F.un K2 (fun y hy=>(hc y hy).1) hs
  have nn:∀{y:Nat},y≠z.ed→y∉[z.ed]:=fun{y} h=>by rw[List.mem_singleton];exact h
  refine h s' tb (F.step W hz K2 hc hs ⟨tk,kv,sl,K2 _ _ hfr (nn W.neL.2.2.2.2.1.symm)⟩ (U.sd (nn W.neSd.2.2.2.1.symm)) (U.r (nn W.neR.2.2.2.symm)) (U.reg fun y hy=>nn (W.reg y hy).2.2.2.2.2.2.1) (U.ro (nn W.neRl.2.2.symm)) ⟨en++[(k,.ref vv)],ee+1,(P'x 2 _ _ (z.ed) rfl rfl),by simp[hks],fun x hx=>?_⟩ (U.tb (nn (qh (qc (qb rfl) (qc g.2.2.2.2.2.2.1 g.2.2.2.2.2.1)))))) (fun y ob e hy=>K2 y ob e (nn (qj (qc l.2.2.2.2.2.1 hy)))) r
  rcases List.mem_append.mp hx with hx|hx
  ·exact(hev x hx).keep K2 (fun y hy=>(hc y hy).1)
  ·rcases List.mem_singleton.mp hx with rfl
   exact⟨vv,m,q1,q2,q3,rfl,.step hlk hm,hM,K2 _ _ hg (nn (qj (qc l.2.2.2.2.2.1 hM)))⟩
 |false=>
  obtain⟨m1,m2,m3⟩:=sf (p.n k)
  have htab:=F.tab
  have fin:∀(s':Shared) (tb':Option Nat) (vv q1 q2 q3:Nat),af [z.ed,229] s.heap s'.heap→s.heap.objs.size≤s'.heap.objs.size→s'.heap.get? z.ed=some (dO (wf w a b c).params p.nt (en++[(k,.ref vv)]) (ee+1))→s'.heap.get? 229=some (d7 tb')→s.heap.objs.size≤vv→s'.heap.get? vv=some (A1 (p.n k) q1 q2 q3)→ae s'=ae s→Q .next s':=fun s' tb' vv q1 q2 q3 K2 hs x2 x3 hv xv r=>by
   have hc:∀y∈[z.ed,229],y<M∧(N0≤y∨y=229)∧y≠z.S:=fun y hy=>by
    replace hy:=mO2 hy
    rcases hy with rfl|rfl
    ·exact⟨l.2.2.2.2.2.1,.inl g.2.2.2.2.2.1,fun q=>W.neE.1 q.symm⟩
    ·exact⟨(qc (qb rfl) (ql (qc g.2.2.2.2.2.2.1 g.1) l.1)),.inr rfl,(qh (qc (qb rfl) (qc g.2.2.2.2.2.2.1 g.2.1)))⟩
   have U:=F.un K2 (fun y hy=>(hc y hy).1) hs
   have nn:∀{y:Nat},y≠z.ed→y≠229→y∉[z.ed,229]:=fun{y} h1 h2=>by refine nO2 ?_;exact⟨h1,h2⟩
   refine h s' tb' (F.step W hz K2 hc hs ⟨tk,kv,sl,K2 _ _ hfr (nn W.neL.2.2.2.2.1.symm (qj (qc (qb rfl) (qc g.2.2.2.2.2.2.1 g.1))))⟩ (U.sd (nn W.neSd.2.2.2.1.symm (qj (qc (qb rfl) (qc g.2.2.2.2.2.2.1 g.2.2.1))))) (U.r (nn W.neR.2.2.2.symm (qj (qc (qb rfl) (qc g.2.2.2.2.2.2.1 g.2.2.2.2.2.2.2))))) (U.reg fun y hy=>nn (W.reg y hy).2.2.2.2.2.2.1 (by have:=(W.reg y hy).1;exact nne (.inr (qc (qb rfl) (qc g.2.2.2.2.2.2.1 this))))) (U.ro (nn W.neRl.2.2.symm (qj (qc (qb rfl) (qc g.2.2.2.2.2.2.1 g.2.2.2.2.1))))) ⟨en++[(k,.ref vv)],ee+1,x2,by simp[hks],fun x hx=>?_⟩ x3) (fun y ob e hy=>K2 y ob e (nn (qj (qc l.2.2.2.2.2.1 hy)) (qj (qc (qb rfl) (qc (ql (qc g.2.2.2.2.2.2.1 g.1) l.1) hy))))) r
   rcases List.mem_append.mp hx with hx|hx
   ·exact(hev x hx).keep K2 (fun y hy=>(hc y hy).1)
   ·rcases List.mem_singleton.mp hx with rfl
    exact⟨vv,p.n k,q1,q2,q3,rfl,.stay hlk,(qc hsz hv),xv⟩
  cases tb with
  |none=>
   have P:=ag (w:=wf w a b c) (pre:=[(z.L,frL (wf w a b c).params p z ring tk kv [("ready",t3,x3),("name",t4,nmV p.nt k),("x",t5,.int (p.n k) (p.tn k))] 10 sl),(p.NM,lO (ai p.nt) p.e1),(z.ed,dO (wf w a b c).params p.nt en ee),(229,d7 none)]) F.based (F.ge257 W) ⟨hfr,F.nm,hen,htab,zt⟩ ⟨(.inl (qc g.2.2.2.2.2.2.1 g.1)),(.inl gn.1),(.inl (qc g.2.2.2.2.2.2.1 g.2.2.2.2.2.1)),.inr rfl,zt⟩ ⟨⟨zt,W.neL.2.2.2.2.1.symm,zt,zt⟩,⟨zt,zt,zt⟩,⟨zt,zt⟩,zt,zt⟩
   refine ay (jcj A.frames) P hA.cx hA.cx rfl ⟨aw rfl,ia hlk,aw rfl,fu m1,pg m2,pg m3,ib rfl rfl hnl hll,zt⟩ fun s' P' K r=>?_
   exact fin s' (some (s.heap.objs.size+10)) (s.heap.objs.size+18) (s.toks+58) (s.toks+38) (s.toks+44) (am P P'.has K ⟨.inl rfl,.inl rfl,.inr (.head _),.inr (.tail _ (.head _)),zt⟩) (ch P') (P'.has (z.ed,_) (.tail _ (.tail _ (.head _)))) (P'.has (229,_) (.tail _ (.tail _ (.tail _ (.head _))))) (Nat.le_add_right _ _) (P'.has (s.heap.objs.size+18,_) (.tail _ (.tail _ (.tail _ (.tail _ (.head _)))))) r
  |some cd=>
   have P:=ag (w:=wf w a b c) (pre:=[(z.L,frL (wf w a b c).params p z ring tk kv [("ready",t3,x3),("name",t4,nmV p.nt k),("x",t5,.int (p.n k) (p.tn k))] 10 sl),(p.NM,lO (ai p.nt) p.e1),(z.ed,dO (wf w a b c).params p.nt en ee),(229,d7 (some cd))]) F.based (F.ge257 W) ⟨hfr,F.nm,hen,htab,zt⟩ ⟨(.inl (qc g.2.2.2.2.2.2.1 g.1)),(.inl gn.1),(.inl (qc g.2.2.2.2.2.2.1 g.2.2.2.2.2.1)),.inr rfl,zt⟩ ⟨⟨zt,W.neL.2.2.2.2.1.symm,zt,zt⟩,⟨zt,zt,zt⟩,⟨zt,zt⟩,zt,zt⟩
   refine ay (jcd A.frames) P hA.cx hA.cx rfl ⟨aw rfl,ia hlk,aw rfl,fu m1,pg m2,pg m3,ib rfl rfl hnl hll,zt⟩ fun s' P' K r=>?_
   exact fin s' (some cd) (s.heap.objs.size+12) (s.toks+53) (s.toks+33) (s.toks+39) (am P P'.has K ⟨.inl rfl,.inl rfl,.inr (.head _),.inr (.tail _ (.head _)),zt⟩) (ch P') (P'.has (z.ed,_) (.tail _ (.tail _ (.head _)))) (P'.has (229,_) (.tail _ (.tail _ (.tail _ (.head _))))) (Nat.le_add_right _ _) (P'.has (s.heap.objs.size+12,_) (.tail _ (.tail _ (.tail _ (.tail _ (.head _)))))) r
end
noncomputable def jqh:Stmt→Pos
 |.Assign _ _ p=>p
 |_=>default
theorem oq:lrN=.For (teS lrN) (fi lrN) (inS lrN) [] (gy lrN):=by kernel_rfl
theorem oo:inS lrN=[ak (inS lrN) 0]++[ak (inS lrN) 1]:=by kernel_rfl
theorem oh:lrW=.While (teS lrW) (inS lrW) [] (gy lrW):=by kernel_rfl
theorem oa:inS lrW=[ak (inS lrW) 0]++([ak (inS lrW) 1]++([lrN]++[ak (inS lrW) 3])):=by kernel_rfl
theorem kb:ak (inS lrW) 0=.Assign [.Name (nmE (ja3 (ak (inS lrW) 0))) (poE (ja3 (ak (inS lrW) 0)))] (jnk (ak (inS lrW) 0)) (jqh (ak (inS lrW) 0)):=by kernel_rfl
structure DnO where
 t2:Nat
 size:Nat
 toks:Nat
noncomputable def dnC(w:World)(p:Par)(z:LR)(rl:Nat)(nd₀:Fin 8→Nd)(np:Fin 8→Int)(po nf:Int)(t1 t2:Nat)(rd:List (Fin 8))(h₀:Heap):CallSpec where
 Out:=DnO
 code:=.call (.ref 185) ⟨.ref z.S::rd.map (nmV p.nt),[]⟩
 d:=600
 u:=6000
 pre:=[(1,sO z.Sd),(2,sD w.params z.q z.D (.ref rl) po nf t1 t2)]
 i:=2
 tk:=1
 res _:=rv .none
 upd o:=[(2,sD w.params z.q z.D (.ref rl) po (nf+(rd.length:Int)) t1 o.t2)]
 new _:=[]
 size o:=o.size
 toks o:=o.toks
 rel _:=True
 mod y:=y=rl∨InReg z.D (ol (ogB p)) nd₀ y
 facts _ h':=(∃e,h'.get? rl=some (lO ((rd.flatMap (fBd p).su).map (nmV p.nt)) e))∧∃nd,(∀k,(nd k).a=(nd₀ k).a∧(nd k).l=(nd₀ k).l∧(nd k).le=(nd₀ k).le)∧Reg w.params p.nt z.lo z.D (ol (ogB p)) (npD np rd (rd.flatMap (fBd p).su)) (fBd p).su nd 8 h'
noncomputable def jkp:List Nat:=dH 26 7138013717967253940754668170977168157675880577
noncomputable def jkr(X0:XSpec):List CH:=[.p,.p,.p,.x X0,.p]
noncomputable def jko:List Nat:=[]
noncomputable def jkq:List CH:=[]
section
variable{w:World}{a b c:Bool}{p:Par}{z:LR}{rl N t₀ tk ep t1 t2 t3 tp:Nat}{nd₀:Fin 8→Nd}{h₀:Heap}{ring:Bool}{tl:Ext}{po nf:Int}{np:Fin 8→Int}{kv:Value}{sl:Array (Option Value)}
noncomputable def kw(P:Params)(p:Par)(z:LR)(ring:Bool)(tk:Nat)(kv:Value)(tl:Ext)(ep:Nat)(sl:Array (Option Value))(rl t1 t2 t3 tp:Nat)(po nf:Int)(rd:List (Fin 8)):List (Nat×Obj):=
 [(z.L,frL P p z ring tk kv (("ready",t3,.ref tp)::tl) ep sl),(z.S,sO z.Sd),(z.Sd,sD P z.q z.D (.ref rl) po nf t1 t2),(tp,tuO (rd.map (nmV p.nt)))]
noncomputable def jkm(w:World)(p:Par)(z:LR)(ring:Bool)(tk:Nat)(kv:Value)(tl:Ext)(ep:Nat)(sl:Array (Option Value))(rl t1 t2 t3 tp N:Nat)(po nf:Int)(nd₀:Fin 8→Nd)(np:Fin 8→Int)(rd:List (Fin 8))(h₀:Heap):Script:=
 .call jkp (jkr (pcX none tp (tuO (rd.map (nmV p.nt))) (rd.map (nmV p.nt)) (N+1) 1 3 1 1)) (dnC w p z rl nd₀ np po nf t1 t2 rd h₀) fun o=>
  .fin jko jkq ⟨.ok (.done .next),[(0,frL w.params p z ring tk kv (("ready",t3,.ref tp)::tl) ep sl),(1,sO z.Sd),(2,sD w.params z.q z.D (.ref rl) po (nf+(rd.length:Int)) t1 o.t2),(3,tuO (rd.map (nmV p.nt)))],0,0⟩
theorem jkn(ff:Option (List Env)):∀(rd:List (Fin 8)) (_:rd≠[]) (_:rd.length≤8),au 200 (wf w a b c) N t₀ (kw (wf w a b c).params p z ring tk kv tl ep sl rl t1 t2 t3 tp po nf rd) (jkm (wf w a b c) p z ring tk kv tl ep sl rl t1 t2 t3 tp N po nf nd₀ np rd h₀) ⟨none,520,5200,ff⟩ (ar [ak (inS lrW) 3] (av z.L))
 |[k0],_,_=>by cases c<;>kernel_rfl
 |[k0,k1],_,_=>by cases c<;>kernel_rfl
 |[k0,k1,k2],_,_=>by cases c<;>kernel_rfl
 |[k0,k1,k2,k3],_,_=>by cases c<;>kernel_rfl
 |[k0,k1,k2,k3,k4],_,_=>by cases c<;>kernel_rfl
 |[k0,k1,k2,k3,k4,k5],_,_=>by cases c<;>kernel_rfl
 |[k0,k1,k2,k3,k4,k5,k6],_,_=>by cases c<;>kernel_rfl
 |[k0,k1,k2,k3,k4,k5,k6,k7],_,_=>by cases c<;>kernel_rfl
 |[],h,_=>absurd rfl h
 |_::_::_::_::_::_::_::_::_::_,_,h=>absurd h (by simp)
end
theorem ua{p:Par}:∀(m:Nat) (_:m≤8) (x:AB) (k:Fin 8),(c6 p m x).np k=x.np k+(if k.val<m∧p.lk k=true then 1 else 0)
 |0,_,x,k=>by simp[c6]
 |m+1,hm,x,k=>by
  have hk:(Fin.ofNat 8 m).val=m:=Nat.mod_eq_of_lt (by omega)
  show(c6 p m (cw p (Fin.ofNat 8 m) x)).np k=_
  rw[ua m (qv hm)]
  unfold cw
  by_cases hl:p.lk (Fin.ofNat 8 m)=true
  ·first|refine itp hl ?_|rw[if_pos hl]
   show upd x.np (Fin.ofNat 8 m) (x.np (Fin.ofNat 8 m)+1) k+_=_
   by_cases e:k=Fin.ofNat 8 m
   ·subst e
    rw[a9,hk]
    simp[hl]
   ·rw[ba e]
    have:k.val≠m:=fun q=>e (Fin.ext (q.trans hk.symm))
    have e2:(k.val<m∧p.lk k=true)↔(k.val<m+1∧p.lk k=true):=by
     constructor<;>rintro⟨h1,h2⟩<;>exact⟨by omega,h2⟩
    simp only[e2]
  ·first|refine itn hl ?_|rw[if_neg hl]
   show x.np k+_=_
   by_cases e:k=Fin.ofNat 8 m
   ·subst e
    rw[hk]
    simp[hl]
   ·have:k.val≠m:=fun q=>e (Fin.ext (q.trans hk.symm))
    have e2:(k.val<m∧p.lk k=true)↔(k.val<m+1∧p.lk k=true):=by
     constructor<;>rintro⟨h1,h2⟩<;>exact⟨by omega,h2⟩
    simp only[e2]
theorem T8(p:Par)(k:Fin 8):(fBd p).np k=if p.lk k=true then 1 else 0:=by
 have:=ua (p:=p) 8 (Nat.le_refl _) ⟨[],fun _=>0,fun _=>[]⟩ k
 unfold fBd
 rw[this]
 simp[k.isLt]
theorem tz{p:Par}:∀(m:Nat) (_:m≤8) (x:AB) (j:Fin 8),(∀i∈x.su j,m≤i.val)→(x.su j).Nodup→((c6 p m x).su j).Nodup∧∀i,i∈(c6 p m x).su j↔i∈x.su j∨(i.val<m∧p.lk i=true∧p.tg i=j)
 |0,_,x,j,_,hn=>⟨hn,fun i=>by simp[c6]⟩
 |m+1,hm,x,j,hx,hn=>by
  have hk:(Fin.ofNat 8 m).val=m:=Nat.mod_eq_of_lt (by omega)
  have key:((cw p (Fin.ofNat 8 m) x).su j).Nodup∧(∀i∈(cw p (Fin.ofNat 8 m) x).su j,m≤i.val)∧∀i,i∈(cw p (Fin.ofNat 8 m) x).su j↔i∈x.su j∨(i.val=m∧p.lk i=true∧p.tg i=j):=by
   unfold cw
   by_cases hl:p.lk (Fin.ofNat 8 m)=true
   ·first|refine itp hl ?_|rw[if_pos hl]
    show(upd x.su (p.tg (Fin.ofNat 8 m)) _ j).Nodup∧(∀i∈upd x.su (p.tg (Fin.ofNat 8 m)) _ j,m≤i.val)∧∀i,i∈upd x.su (p.tg (Fin.ofNat 8 m)) _ j↔_
    by_cases e:j=p.tg (Fin.ofNat 8 m)
    ·subst e
     rw[a9]
     have hni:Fin.ofNat 8 m∉x.su (p.tg (Fin.ofNat 8 m)):=fun q=>by have:=hx _ q;exact(qf (qx this hk))
     refine⟨List.nodup_append.mpr ⟨hn,by simp,fun a ha b hb e=>hni (by rw[List.mem_singleton.mp hb] at e;exact e ▸ ha)⟩,fun i hi=>?_,fun i=>?_⟩
     ·rcases List.mem_append.mp hi with hi|hi
      ·have:=hx i hi;exact(qv this)
      ·rw[List.mem_singleton.mp hi,hk];exact Nat.le_refl _
     ·rw[List.mem_append,List.mem_singleton]
      constructor
      ·rintro(h|h)
       ·exact .inl h
       ·subst h;exact .inr ⟨hk,hl,rfl⟩
      ·rintro(h|⟨h,_,_⟩)
       ·exact .inl h
       ·exact .inr (Fin.ext (h.trans hk.symm))
    ·rw[ba e]
     refine⟨hn,fun i hi=>by have:=hx i hi;exact(qv this),fun i=>⟨.inl,?_⟩⟩
     rintro(h|⟨h,_,h3⟩)
     ·exact h
     ·have:i=Fin.ofNat 8 m:=Fin.ext (h.trans hk.symm)
      subst this
      exact absurd h3.symm e
   ·first|refine itn hl ?_|rw[if_neg hl]
    refine⟨hn,fun i hi=>by have:=hx i hi;exact(qv this),fun i=>⟨.inl,?_⟩⟩
    rintro(h|⟨h,h2,_⟩)
    ·exact h
    ·have:i=Fin.ofNat 8 m:=Fin.ext (h.trans hk.symm)
     subst this
     exact absurd h2 hl
  obtain⟨k1,k2,k3⟩:=key
  obtain⟨r1,r2⟩:=tz m (qv hm) (cw p (Fin.ofNat 8 m) x) j k2 k1
  refine⟨r1,fun i=>?_⟩
  show i∈(c6 p m (cw p (Fin.ofNat 8 m) x)).su j↔_
  rw[r2,k3]
  constructor
  ·rintro((h|⟨h1,h2⟩)|⟨h1,h2⟩)
   ·exact .inl h
   ·exact .inr ⟨(qs 1 (qe h1)),h2⟩
   ·exact .inr ⟨(qr (k:=1) h1),h2⟩
  ·rintro(h|⟨h1,h2⟩)
   ·exact .inl (.inl h)
   ·by_cases e:i.val=m
    ·exact .inl (.inr ⟨e,h2⟩)
    ·exact .inr ⟨by omega,h2⟩
theorem fy(p:Par)(j:Fin 8):((fBd p).su j).Nodup∧∀i,i∈(fBd p).su j↔p.lk i=true∧p.tg i=j:=by
 obtain⟨h1,h2⟩:=tz (p:=p) 8 (Nat.le_refl _) ⟨[],fun _=>0,fun _=>[]⟩ j (fun i hi=>nomatch hi) List.Pairwise.nil
 refine⟨h1,fun i=>(h2 i).trans ?_⟩
 simp[i.isLt]
inductive DepthR(p:Par):Fin 8→Nat→Prop where
 |stay {k:Fin 8}:p.lk k=false→DepthR p k 0
 |step {k:Fin 8} {d:Nat}:p.lk k=true→DepthR p (p.tg k) d→DepthR p k (d+1)
theorem DepthR.fn{p:Par}{k:Fin 8}{d:Nat}(h:DepthR p k d):∀{d'},DepthR p k d'→d=d':=by
 induction h with
 |stay hl=>
  intro d' h'
  cases h' with
  |stay _=>rfl
  |step hl' _=>rw[hl] at hl';cases hl'
 |step hl _ ih=>
  intro d' h'
  cases h' with
  |stay hl'=>rw[hl] at hl';cases hl'
  |step _ h2=>rw[ih h2]
theorem DepthR.zero{p:Par}{k:Fin 8}:DepthR p k 0↔p.lk k=false:=⟨fun h=>by cases h;assumption,.stay⟩
theorem DepthR.succ{p:Par}{k:Fin 8}{d:Nat}:DepthR p k (d+1)↔p.lk k=true∧DepthR p (p.tg k) d:=⟨fun h=>by cases h;exact⟨by assumption,by assumption⟩,fun h=>.step h.1 h.2⟩
structure PI(p:Par)(rd:List (Fin 8))(np:Fin 8→Int)(rs:List (List (Fin 8)))(ps:List (Fin 8)):Prop where
 rdn:rd.Nodup
 psn:ps.Nodup
 lev:∀(i:Nat) r,rs[i]?=some r→r.Pairwise (·<·)∧r≠[]∧∀k,k∈r↔DepthR p k i
 rdl:∀k,k∈rd↔DepthR p k rs.length
 psl:∀k,k∈ps↔∃i,i<rs.length∧DepthR p k i
 np:∀k,np k=if k∈ps then -2 else if k∈rd then 0 else 1
 len:rs.length≤ps.length
theorem jz(rd:List (Fin 8)):(bg rd).Nodup:=(List.nodup_finRange 8).sublist List.filter_sublist
theorem i9{rd:List (Fin 8)}(h:rd≠[]):bg rd≠[]:=fun e=>by
 cases rd with
 |nil=>exact h rfl
 |cons k l=>
  have:k∈bg (k::l):=sortN_mem.mpr (.head _)
  rw[e] at this
  cases this
section
variable{p:Par}{rd:List (Fin 8)}{np:Fin 8→Int}{rs:List (List (Fin 8))}{ps:List (Fin 8)}
theorem PI.dis(I:PI p rd np rs ps){k:Fin 8}(h1:k∈rd):k∉ps:=fun h2=>by
 obtain⟨i,hi,hd⟩:=(I.psl k).mp h2
 have:=((I.rdl k).mp h1).fn hd
 exact(qf (qx hi this))
theorem PI.tg(I:PI p rd np rs ps){k:Fin 8}(h1:k∈rd)(hl:p.lk k=true):p.tg k∈ps:=by
 have hd:=(I.rdl k).mp h1
 cases e:rs.length with
 |zero=>rw[e] at hd;rw[DepthR.zero.mp hd] at hl;cases hl
 |succ d=>
  rw[e] at hd
  exact(I.psl _).mpr ⟨d,(qg e),(DepthR.succ.mp hd).2⟩
theorem PI.su1(I:PI p rd np rs ps){k j:Fin 8}(h1:k∈rd)(hj:j∈(fBd p).su k):np j=1:=by
 obtain⟨hl,ht⟩:=((fy p k).2 j).mp hj
 have hd:DepthR p j (rs.length+1):=.step hl (ht ▸ (I.rdl k).mp h1)
 rw[I.np,if_neg,if_neg]
 ·intro h;have:=((I.rdl j).mp h).fn hd;exact(qf (qg this))
 ·intro h
  obtain⟨i,hi,h2⟩:=(I.psl j).mp h
  have:=h2.fn hd
  exact(qn (k:=1) (qq hi this))
theorem lh{rd:List (Fin 8)}(h:rd.Nodup):(rd.flatMap (fBd p).su).Nodup:=by
 induction rd with
 |nil=>exact List.Pairwise.nil
 |cons k l ih=>
  rw[List.nodup_cons] at h
  rw[List.flatMap_cons]
  refine List.nodup_append.mpr ⟨(fy p k).1,ih h.2,fun a ha b hb e=>?_⟩
  subst e
  obtain⟨m,hm,hb⟩:=List.mem_flatMap.mp hb
  have e1:=(((fy p k).2 a).mp ha).2
  have e2:=(((fy p m).2 a).mp hb).2
  exact h.1 (e1 ▸ e2 ▸ hm)
theorem PI.next(I:PI p rd np rs ps)(hr:rd≠[]):PI p (rd.flatMap (fBd p).su) (npD (npG np rd) rd (rd.flatMap (fBd p).su)) (rs++[bg rd]) (ps++bg rd):=by
 have hlen:(rs++[bg rd]).length=rs.length+1:=by simp
 have fl:∀k,k∈rd.flatMap (fBd p).su↔DepthR p k (rs.length+1):=fun k=>by
  rw[DepthR.succ,List.mem_flatMap]
  constructor
  ·rintro⟨m,hm,hk⟩
   obtain⟨h1,h2⟩:=((fy p m).2 k).mp hk
   exact⟨h1,h2 ▸ (I.rdl m).mp hm⟩
  ·rintro⟨h1,h2⟩
   exact⟨p.tg k,(I.rdl _).mpr h2,((fy p _).2 k).mpr ⟨h1,rfl⟩⟩
 refine⟨lh I.rdn,List.nodup_append.mpr ⟨I.psn,jz rd,fun a ha b hb e=>I.dis (sortN_mem.mp hb) (e ▸ ha)⟩,fun i r hi=>?_,fun k=>by rw[hlen];exact fl k,fun k=>?_,fun k=>?_,?_⟩
 ·by_cases h:i<rs.length
  ·rw[List.getElem?_append_left h] at hi
   exact I.lev i r hi
  ·rw[List.getElem?_append_right (Nat.le_of_not_lt h)] at hi
   have hi0:i-rs.length=0:=by
    have:=(List.getElem?_eq_some_iff.mp hi).1
    simpa using this
   rw[hi0] at hi
   have er:bg rd=r:=by simpa using hi
   have ei:i=rs.length:=by omega
   subst er ei
   exact⟨i8 rd,i9 hr,fun k=>sortN_mem.trans (I.rdl k)⟩
 ·rw[List.mem_append,sortN_mem,hlen]
  constructor
  ·rintro(h|h)
   ·obtain⟨i,hi,hd⟩:=(I.psl k).mp h
    exact⟨i,(qr (k:=1) hi),hd⟩
   ·exact⟨rs.length,(Nat.le_refl _),(I.rdl k).mp h⟩
  ·rintro⟨i,hi,hd⟩
   by_cases e:i=rs.length
   ·subst e;exact .inr ((I.rdl k).mpr hd)
   ·exact .inl ((I.psl k).mpr ⟨i,by omega,hd⟩)
 ·unfold npD npG
  by_cases h1:k∈rd
  ·rw[if_pos h1,if_pos (List.mem_append_right _ (sortN_mem.mpr h1))]
  ·first|refine itn h1 ?_|rw[if_neg h1]
   by_cases h2:k∈ps
   ·rw[if_pos (List.mem_append_left _ h2),if_neg,if_neg h1,I.np,if_pos h2]
    intro h
    obtain⟨i,hi,hd⟩:=(I.psl k).mp h2
    have:=hd.fn ((fl k).mp h)
    exact(qn (k:=1) (qq hi this))
   ·have h3:k∉ps++bg rd:=fun h=>by
     rcases List.mem_append.mp h with h|h
     ·exact h2 h
     ·exact h1 (sortN_mem.mp h)
    first|refine itn h3 ?_|rw[if_neg h3]
    by_cases h4:k∈rd.flatMap (fBd p).su
    ·rw[if_pos h4,if_pos h4]
    ·rw[if_neg h4,if_neg h4,if_neg h1,I.np,if_neg h2,if_neg h1]
 ·have:0<(bg rd).length:=List.length_pos_iff.mpr (i9 hr)
  rw[List.length_append,List.length_append]
  have:=I.len
  simp
  omega
theorem jcr{og:Fin 8→Fin 8}{k:Fin 8}(hk:k∈ol og):k∈rdy og np 8↔np k=0:=by
 unfold rdy
 rw[List.mem_filter]
 have:(ol og).take 8=ol og:=rfl
 rw[this]
 simp[hk]
theorem PI.start(p:Par)(hn:(ol (ogB p)).Nodup):PI p (rdy (ogB p) (fBd p).np 8) (fBd p).np [] []:=by
 have hm:∀k,k∈rdy (ogB p) (fBd p).np 8↔p.lk k=false:=fun k=>by
  rw[jcr (ec hn k),T8]
  cases p.lk k<;>simp
 refine⟨?_,List.Pairwise.nil,(fun i r h=>by simp at h),fun k=>(hm k).trans DepthR.zero.symm,fun k=>?_,fun k=>?_,Nat.le_refl _⟩
 ·unfold rdy
  exact(hn.sublist (List.take_sublist _ _)).sublist List.filter_sublist
 ·simp
 ·rw[T8]
  simp only[List.not_mem_nil,if_false]
  cases h:p.lk k with
  |true=>rw[if_pos rfl,if_neg (fun q=>by rw[(hm k).mp q] at h;cases h)]
  |false=>rw[if_neg (by simp),if_pos ((hm k).mpr h)]
end
section
variable{w:World}{a b c:Bool}{p:Par}{z:LR}{rl N0 M:Nat}{nd₀:Fin 8→Nd}{fs:List Nat}{h₀:Heap}{ring:Bool}{ext:Ext}{ep:Nat}{po nf:Int}{rd:List (Fin 8)}{np:Fin 8→Int}{rs:List (List (Fin 8))}{ps:List (Fin 8)}{tb:Option Nat}{A:Around}{E E':Value→Shared→Prop}{s:Shared}
theorem LX.far{it:Nat}{h h':Heap}(F:LX w p z rl N0 M nd₀ fs h₀ ring ext ep po nf rd np rs ps tb h)(W:WZ p z rl N0 M nd₀)(hz:h₀.objs.size=N0)(hit:M≤it)(ho:∃o vs,h.get? it=some o∧o.data=.fields vs)(K:∀y ob,h.get? y=some ob→y≠it→h'.get? y=some ob)(hs:M≤h'.objs.size) :
  LX w p z rl N0 M nd₀ fs h₀ ring ext ep po nf rd np rs ps tb h':=by
 obtain⟨o,vs,ho,hd⟩:=ho
 have hL:∀(a:Nat) (xs:List Value) (e:Nat),h.get? a=some (lO xs e)→h'.get? a=some (lO xs e):=fun a xs e q=>K _ _ q (fun e=>by rw[e,ho] at q;cases q;cases hd)
 have hE:∀(a:Nat) (xs:List Value),h.get? a=some (tuO xs)→h'.get? a=some (tuO xs):=fun a xs q=>K _ _ q (fun e=>by rw[e,ho] at q;cases q;cases hd)
 have g:=W.ge
 have l:=W.lt
 have gn:=W.nm
 have lt:∀{y:Nat} {ob:Obj},y<M→h.get? y=some ob→h'.get? y=some ob:=fun{y ob} h1 e=>K y ob e (nne (.inl (qc h1 hit)))
 obtain⟨tk,kv,sl,hfr⟩:=F.fr
 obtain⟨t1,t2,hsd⟩:=F.sd
 obtain⟨re,hr⟩:=F.r
 obtain⟨nd,hnd,H⟩:=F.reg
 obtain⟨as,e,hro,hra⟩:=F.rounds
 obtain⟨en,ee,hen,hks,hev⟩:=F.ends
 have hRA:∀{as:List Nat} {rs:List (List (Fin 8))},RA h M p.nt as rs→RA h' M p.nt as rs:=fun{as}=>by
  induction as with
  |nil=>intro rs H;cases rs with
   |nil=>trivial
   |cons _ _=>exact H
  |cons a as ih=>intro rs H;cases rs with
   |nil=>exact H
   |cons r rs=>exact⟨H.1,hL _ _ _ H.2.1,ih H.2.2⟩
 refine⟨⟨fun y ob e=>lt (by have:=bm e;exact(qv (ql (qc (qc this g.2.2.2.2.2.2.1) g.1) l.1))) (F.based.kt y ob e)⟩,hs,fun y ob e hy=>?_,lt (qv (ql (qc gn.2.1 g.1) l.1)) F.nm,lt (qv (ql (qc gn.2.2.2.1 g.1) l.1)) F.nl,lt l.2.1 F.s,⟨tk,kv,sl,lt l.1 hfr⟩,⟨t1,t2,lt l.2.2.1 hsd⟩,⟨re,lt l.2.2.2.2.2.2 hr⟩,⟨nd,hnd,H.mono' (fun y ob e hy=>?_) ?_⟩,⟨as,e,lt l.2.2.2.2.1 hro,hRA hra⟩,⟨en,ee,lt l.2.2.2.2.2.1 hen,hks,fun x hx=>?_⟩,lt (qc (qb rfl) (ql (qc g.2.2.2.2.2.2.1 g.1) l.1)) F.tab⟩
 ·obtain⟨sl',h1,h2⟩:=F.keep y ob e hy
  have hly:@LT.lt Nat _ y h₀.objs.size:=Heap.lt_size e
  exact⟨sl',lt (qv (ql (qc (qx hly hz) g.1) l.1)) h1,h2⟩
 ·exact lt (W.reg y ((be hnd).mp hy)).2.1 e
 ·have:=W.lo;exact(qc this hs)
 ·obtain⟨a,m,q1,q2,q3,h1,h2,h3,h4⟩:=hev x hx
  exact⟨a,m,q1,q2,q3,h1,h2,h3,hE _ _ h4⟩
end
section
variable{w:World}{a b c:Bool}{p:Par}{z:LR}{rl N0 M:Nat}{nd₀:Fin 8→Nd}{fs:List Nat}{h₀:Heap}{ring:Bool}{ext:Ext}{ep:Nat}{po nf:Int}{rd:List (Fin 8)}{np:Fin 8→Int}{rs:List (List (Fin 8))}{ps:List (Fin 8)}{tb:Option Nat}{A:Around}{E E':Value→Shared→Prop}{s:Shared}
noncomputable def nmF(it L:Nat):Code:=.forLoop (teS lrN) (.ref it) (inS lrN) [] (av L)
theorem jnw{Q:Flow→Shared→Prop}{t3 tp aa e₀:Nat}{as₀:List Nat}{tl:Ext}{rdl:List (Fin 8)}(hA:Room A 520 5200)(W:WZ p z rl N0 M nd₀)(hz:h₀.objs.size=N0)(F₀:LX (wf w a b c) p z rl N0 M nd₀ fs h₀ ring (("ready",t3,.ref tp)::tl) ep po nf rdl np rs ps tb s.heap)(hWT:WT tl ep)
  (hM:M≤aa) (haa:s.heap.get? aa=some (lO ((bg rd).map (nmV p.nt)) 2)) (hro:s.heap.get? z.rl=some (lO (as₀.map Value.ref++[.ref aa]) e₀)) (hMt:M≤tp) (htp:s.heap.get? tp=some (tuO (rd.map (nmV p.nt)))) (hrd:rd≠[]) (hdis:∀k∈rd,k∉ps) (htg:∀k∈rd,p.lk k=true→p.tg k∈ps) (hpl:ps.length≤8)
  (h:∀s' tl' tb',WT tl' 10→LX (wf w a b c) p z rl N0 M nd₀ fs h₀ ring (("ready",t3,.ref tp)::tl') 10 po nf rdl np rs (ps++bg rd) tb' s'.heap→s'.heap.get? tp=some (tuO (rd.map (nmV p.nt)))→ae s'=ae s→Q .next s') :
  wpAny (model PG (wf w a b c)) A (execs [lrN] (av z.L)) Q E s:=by
 have g:=W.ge
 have l:=W.lt
 refine wpAny_execs_cons ?_
 first|refine xq1 oq ?_|refine xq2 oq ?_|refine xq3 oq ?_|rw[oq]
 refine wpAny_For ?_ (fun x=>by kernel_rfl)
 obtain⟨tk,kv,sl,hfr⟩:=F₀.fr
 refine c7 (jki A.frames) (ag (w:=wf w a b c) (pre:=[(z.L,frL (wf w a b c).params p z ring tk kv (("ready",t3,.ref tp)::tl) ep sl),(z.rl,lO (as₀.map Value.ref++[.ref aa]) e₀)]) F₀.based (F₀.ge257 W) ⟨hfr,hro,zt⟩ (gx (qc g.2.2.2.2.2.2.1 g.1) (qc g.2.2.2.2.2.2.1 g.2.2.2.2.1)) ⟨⟨zt,zt⟩,zt,zt⟩) hA.cx hA.cx rfl ⟨g0 rfl,zt⟩ (chg:=[]) ⟨.inl rfl,.inl rfl,zt⟩ fun s1 P1b P1z K1' r1 P1x=>?_
 have hs1:s1.heap.objs.size=s.heap.objs.size:=P1z
 have F1:=F₀.same W hz K1' (qg P1z)
 have haa1:=K1' _ _ haa n0m
 refine d9 (jkf A.frames) (ag (w:=wf w a b c) (pre:=[(aa,lO ((bg rd).map (nmV p.nt)) 2)]) F1.based (F1.ge257 W) ⟨haa1,zt⟩ (b6 (qv (qc (ql (qc g.2.2.2.2.2.2.1 g.1) l.1) hM))) ⟨zt,zt⟩) hA.cx hA.cx rfl zt (chg:=[]) ⟨.inl rfl,zt⟩ fun s2 P3b P3z K3' r3 P3x=>?_
 have hs2:s2.heap.objs.size=s1.heap.objs.size+1:=P3z
 have F2:=F1.same W hz K3' (qv (qg P3z))
 have haa2:=K3' _ _ haa1 n0m
 have htp2:=K3' _ _ (K1' _ _ htp n0m) n0m
 have hit:s2.heap.get? s1.heap.objs.size=some (liO aa 0):=P3x 1 _ _ (s1.heap.objs.size) rfl rfl
 generalize hitN:s1.heap.objs.size=it at *
 have hMi:M≤it:=by have:=F1.size;exact(qx this hitN)
 show codeAny _ A (nmF it z.L) _ s2
 refine codeAny_forLoop (fun n s'=>∃dn rest tl ep tb,bg rd=dn++rest∧rest.length=n∧WT tl ep∧(dn=[]∨ep=10)∧LX (wf w a b c) p z rl N0 M nd₀ fs h₀ ring (("ready",t3,.ref tp)::tl) ep po nf rdl np rs (ps++dn) tb s'.heap∧s'.heap.get? aa=some (lO ((bg rd).map (nmV p.nt)) 2)∧s'.heap.get? tp=some (tuO (rd.map (nmV p.nt)))∧ae s'=ae s2∧s'.heap.IsListIter it aa dn.length)
  (fun n s3 hI=>?_) (bg rd).length ⟨[],bg rd,tl,ep,tb,rfl,rfl,hWT,.inl rfl,by rw[List.append_nil];exact F2,haa2,htp2,rfl,jpj hit⟩
 obtain⟨dn,rest,tl3,ep3,tb3,hsp,hlen,hW3,he3,F3,haa3,htp3,r3',hit3⟩:=hI
 have hlist:s3.heap.IsList aa ⟨(bg rd).map (nmV p.nt)⟩:=⟨_,haa3,rfl,_,rfl⟩
 obtain⟨oi3,hoi3,hci3,hdi3⟩:=id hit3
 have naa:aa≠it:=fun e=>by rw[e,hoi3] at haa3;cases haa3;cases hdi3
 have ntp:tp≠it:=fun e=>by rw[e,hoi3] at htp3;cases htp3;cases hdi3
 cases rest with
 |nil=>
  rw[List.append_nil] at hsp
  refine wpAny_pyNext_list_end hA.h hit3 hlist (by rw[List.getElem?_toArray,List.getElem?_map,hsp];simp) fun h4 hE=>?_
  refine wpAny_execs_nil (wpAny_execs_nil ?_)
  have haa4:=hE aa _ naa haa3
  have hlt:@LT.lt Nat _ aa h4.objs.size:=Heap.lt_size haa4
  have F4:=F3.far W hz hMi ⟨_,_,hoi3,hdi3⟩ (h':=h4) (fun y ob e hy=>hE y ob hy e) (qv (ql hM hlt))
  have hep:ep3=10:=by
   rcases he3 with e|e
   ·exact absurd (hsp.trans e) (i9 hrd)
   ·exact e
  subst hep
  rw[←hsp] at F4
  exact h { s3 with heap:=h4 } tl3 tb3 hW3 F4 (hE tp _ ntp htp3) (r3'.trans (r3.trans r1))
 |cons k rest=>
  have hkm:k∈bg rd:=by rw[hsp];simp
  have hkr:=sortN_mem.mp hkm
  have hnd:=jz rd
  rw[hsp] at hnd
  have hkd:k∉dn:=fun q=>(List.nodup_append.mp hnd).2.2 k q k (.head _) rfl
  have hdl:dn.length≤8:=fv (List.nodup_append.mp hnd).1
  refine wpAny_pyNext_list_item hit3 hlist (x:=nmV p.nt k) (by rw[List.getElem?_toArray,List.getElem?_map,hsp];simp) fun h4 hit4 hb4=>?_
  have hs4:h4.objs.size=s3.heap.objs.size:=hb4.1
  have F4:=F3.far W hz hMi ⟨_,_,hoi3,hdi3⟩ (h':=h4) (fun y ob e hy=>(hb4.2 y hy).trans e) (by rw[hs4];exact F3.size)
  have haa4:=(hb4.2 aa naa).trans haa3
  have htp4:=(hb4.2 tp ntp).trans htp3
  obtain⟨oi,hoi,hci,hdi⟩:=hit4
  obtain⟨tk4,kv4,sl4,hfr4⟩:=F4.fr
  have body:∀{Q':Flow→Shared→Prop} {E'':Value→Shared→Prop} (s5:Shared) (t4:Nat) (tlx:Ext) (ep5:Nat),((tlx=[]∧ep5=9)∨∃t5 x5,tlx=[("x",t5,x5)]∧ep5=10)→LX (wf w a b c) p z rl N0 M nd₀ fs h₀ ring (("ready",t3,.ref tp)::("name",t4,nmV p.nt k)::tlx) ep5 po nf rdl np rs (ps++dn) tb3 s5.heap→af [z.L] h4 s5.heap→ae s5=ae s2 →
    (∀s7,(∃m,m<n∧∃dn rest tl ep tb,bg rd=dn++rest∧rest.length=m∧WT tl ep∧(dn=[]∨ep=10)∧LX (wf w a b c) p z rl N0 M nd₀ fs h₀ ring (("ready",t3,.ref tp)::tl) ep po nf rdl np rs (ps++dn) tb s7.heap∧s7.heap.get? aa=some (lO ((bg rd).map (nmV p.nt)) 2)∧s7.heap.get? tp=some (tuO (rd.map (nmV p.nt)))∧ae s7=ae s2∧s7.heap.IsListIter it aa dn.length)→Q' .next s7) →
    wpAny (model PG (wf w a b c)) A (execs (inS lrN) (av z.L)) Q' E'' s5:=fun{Q' E''} s5 t4 tlx ep5 htx F5 K5 r5 hQ=>by
   first|refine xq1 oo ?_|refine xq2 oo ?_|refine xq3 oo ?_|rw[oo]
   refine ah _ _ ?_
   refine jqg hA W hz F5 htx fun s6 t5 F6 K6 r6=>?_
   refine jrd hA W hz F6 (fun q=>?_) (by rw[List.length_append];omega) (fun hl=>List.mem_append_left _ (htg k hkr hl)) fun s7 tb7 F7 K7 r7=>hQ s7 ?_
   ·rcases List.mem_append.mp q with q|q
    ·exact hdis k hkr q
    ·exact hkd q
   ·have up:∀y ob,h4.get? y=some ob→M≤y→s7.heap.get? y=some ob:=fun y ob e hy=>K7 y ob (K6 _ _ (K5 _ _ e (du (nne (.inr (qc l.1 hy))))) (du (nne (.inr (qc l.1 hy))))) hy
    refine⟨rest.length,by rw[←hlen];exact Nat.lt_succ_self _,dn++[k],rest,_,10,tb7,by rw[hsp];simp,rfl,.full,.inr rfl,by rw[←List.append_assoc];exact F7,up _ _ haa4 hM,up _ _ htp4 hMt,r7.trans (r6.trans r5),⟨oi,up _ _ hoi hMi,hci,?_⟩⟩
    rw[List.length_append]
    exact hdi
  show wpAny _ _ (assign (teS lrN) (av z.L) (nmV p.nt k)) _ _ { s3 with heap:=h4 }
  cases hW3 with
  |none=>
   have P5:=ag (w:=wf w a b c) (s:={ s3 with heap:=h4 }) (pre:=[(z.L,frL (wf w a b c).params p z ring tk4 kv4 [("ready",t3,.ref tp)] 8 sl4)]) F4.based (F4.ge257 W) ⟨hfr4,zt⟩ (b6 (qc g.2.2.2.2.2.2.1 g.1)) ⟨zt,zt⟩
   refine c0 (jbu A.frames) P5 hA.cx hA.cx rfl zt fun s5 P6 K5 r5=>?_
   have K5':af [z.L] h4 s5.heap:=K5
   exact body s5 _ [] 9 (.inl ⟨rfl,rfl⟩) (F4.frame W hz K5' (ch P6) ⟨tk4,kv4,sl4,P6.has (z.L,_) (.head _)⟩) K5' (r5.trans r3') fun s7 H=>H
  |full=>
   rename_i t4 t5 x4 x5
   have P5:=ag (w:=wf w a b c) (s:={ s3 with heap:=h4 }) (pre:=[(z.L,frL (wf w a b c).params p z ring tk4 kv4 [("ready",t3,.ref tp),("name",t4,x4),("x",t5,x5)] 10 sl4)]) F4.based (F4.ge257 W) ⟨hfr4,zt⟩ (b6 (qc g.2.2.2.2.2.2.1 g.1)) ⟨zt,zt⟩
   refine c0 (jbr A.frames) P5 hA.cx hA.cx rfl zt fun s5 P6 K5 r5=>?_
   have K5':af [z.L] h4 s5.heap:=K5
   exact body s5 _ [("x",t5,x5)] 10 (.inr ⟨_,_,rfl,rfl⟩) (F4.frame W hz K5' (ch P6) ⟨tk4,kv4,sl4,P6.has (z.L,_) (.head _)⟩) K5' (r5.trans r3') fun s7 H=>H
end
section
variable{w:World}{a b c:Bool}{p:Par}{z:LR}{rl N0 M:Nat}{nd₀:Fin 8→Nd}{fs:List Nat}{h₀:Heap}{ring:Bool}{ext:Ext}{ep:Nat}{po nf:Int}{rd:List (Fin 8)}{np:Fin 8→Int}{rs:List (List (Fin 8))}{ps:List (Fin 8)}{tb:Option Nat}{A:Around}{E E':Value→Shared→Prop}{s:Shared}{R:Result→Shared→Prop}
theorem jnv{Q:Flow→Shared→Prop}{t3 tp:Nat}{tl:Ext}(hA:Room A 520 5200)(W:WZ p z rl N0 M nd₀)(hz:h₀.objs.size=N0)(F:LX (wf w a b c) p z rl N0 M nd₀ fs h₀ ring (("ready",t3,.ref tp)::tl) ep po nf [] np rs ps tb s.heap)
  (hMt:M≤tp) (htp:s.heap.get? tp=some (tuO (rd.map (nmV p.nt)))) (hrd:rd≠[]) (hrn:rd.Nodup) (h1:∀k∈rd,np k=-1) (h2:∀k∈rd,∀j∈(fBd p).su k,np j=1)
  (h:∀s',LX (wf w a b c) p z rl N0 M nd₀ fs h₀ ring (("ready",t3,.ref tp)::tl) ep po (nf+(rd.length:Int)) (rd.flatMap (fBd p).su) (npD np rd (rd.flatMap (fBd p).su)) rs ps tb s'.heap→ae s'=ae s→Q .next s') :
  wpAny (model PG (wf w a b c)) A (execs [ak (inS lrW) 3] (av z.L)) Q E s:=by
 have g:=W.ge
 have l:=W.lt
 obtain⟨tk,kv,sl,hfr⟩:=F.fr
 obtain⟨t1,t2,hsd⟩:=F.sd
 obtain⟨re,hr⟩:=F.r
 obtain⟨nd,hnd,H⟩:=F.reg
 have h8:=fv hrn
 have hsz:=F.size
 have P:Pre (wf w a b c) (kw (wf w a b c).params p z ring tk kv tl ep sl rl t1 t2 t3 tp po nf rd) s.heap.objs.size s.toks s:=
  ag F.based (F.ge257 W) ⟨hfr,F.s,hsd,htp,zt⟩ (r0 (qc g.2.2.2.2.2.2.1 g.1) (qc g.2.2.2.2.2.2.1 g.2.1) (qc g.2.2.2.2.2.2.1 g.2.2.1) (qv (qc (ql (qc g.2.2.2.2.2.2.1 g.1) l.1) hMt))) ⟨⟨zt,W.neL.2.1.symm,zt,zt⟩,⟨zt,zt,zt⟩,⟨zt,zt⟩,zt,zt⟩
 have nreg:∀y,InReg z.D (ol (ogB p)) nd₀ y→y∉[z.L,z.S,z.Sd,tp]:=fun y hy q=>by
  have r1:=W.reg y hy
  replace q:=mO4 q
  rcases q with q|q|q|q
  ·exact r1.2.2.1 q
  ·exact r1.2.2.2.1 q
  ·exact r1.2.2.2.2.1 q
  ·have:=ax q;have:=r1.2.1;exact(qf (ql (qy hMt q) r1.2.1))
 have nrl:rl∉[z.L,z.S,z.Sd,tp]:=fun q=>by
  replace q:=mO4 q
  rcases q with q|q|q|q
  ·exact W.neL.2.2.2.2.2 q
  ·exact W.neR.1 q.symm
  ·exact W.neSd.2.2.2.2 q
  ·exact(qf (ql (qy hMt q) l.2.2.2.2.2.2))
 have hmod:∀y,(y=rl∨InReg z.D (ol (ogB p)) nd₀ y)→y∉[z.L,z.S,z.Sd,tp]∧y<s.heap.objs.size∧(ktB (wf w a b c).params).get y=none:=fun y hy=>by
  rcases hy with rfl|hy
  ·exact⟨nrl,by show@LT.lt Nat _ _ _;exact(qc l.2.2.2.2.2.2 hsz),bv (.inl (qc g.2.2.2.2.2.2.1 g.2.2.2.2.2.2.2))⟩
  ·have r1:=W.reg y hy
   have r2:@LT.lt Nat _ y M:=r1.2.1
   have r3:@LE.le Nat _ N0 y:=r1.1
   exact⟨nreg y hy,by show@LT.lt Nat _ _ _;exact(qc r1.2.1 hsz),bv (.inl (qc g.2.2.2.2.2.2.1 r1.1))⟩
 have hCall:b9 (mkV (wf w a b c) (kw (wf w a b c).params p z ring tk kv tl ep sl rl t1 t2 t3 tp po nf rd) s.heap.objs.size s.toks) s.heap (dnC (wf w a b c) p z rl nd₀ np po nf t1 t2 rd s.heap):=by
  intro A' s' hh' hf hd hu hs ht hb hkeep hpre
  have p1:s'.heap.get? z.S=some (sO z.Sd):=hpre (1,_) (.head _)
  have p2:s'.heap.get? z.Sd=some (sD (wf w a b c).params z.q z.D (.ref rl) po nf t1 t2):=hpre (2,_) (.tail _ (.head _))
  have hs':s'.heap.objs.size=s.heap.objs.size+2:=hs
  have hk:∀y ob,s.heap.get? y=some ob→y∉[z.L,z.S,z.Sd,tp]→s'.heap.get? y=some ob:=hkeep
  have H':Reg (wf w a b c).params p.nt z.lo z.D (ol (ogB p)) np (fBd p).su nd 8 s'.heap:=H.mono (fun y ob e hy=>hk y ob e (nreg y ((be hnd).mp hy))) (qw (k:=2) (qg hs'))
  refine jp2 (nt:=p.nt) (og:=ogB p) (xs:=[]) (nodes:=rd) (r:=rl) (re:=re) ⟨hh',hd,hu⟩ ⟨hb⟩ p1 p2 W.so H' (hk _ _ hr nrl) (qc g.2.2.2.2.2.2.1 g.2.2.2.2.2.2.2) (fun y hy=>(W.reg y ((be hnd).mp hy)).2.2.2.2.2.2.2) hrd hrn h1 h2 (lh hrn) (by simp) fun h' tk' nd' t2' re' e1 e2 e3 e4 e5 e6 e7=>?_
  refine⟨⟨t2',h'.objs.size,tk'⟩,zt,rfl,h',rfl,⟨⟨re',by rw[List.nil_append] at e5;exact e5⟩,nd',fun k=>⟨(e1 k).1.trans (hnd k).1,(e1 k).2.1.trans (hnd k).2.1,(e1 k).2.2.trans (hnd k).2.2⟩,e2⟩,rfl,e7,fun x hx=>?_,(fun x hx=>nomatch hx),List.Pairwise.nil,fun y ob e hne hm=>?_⟩
  ·rcases List.mem_singleton.mp hx with rfl
   exact e4
  ·exact e6 y ob e (fun q=>hm (.inr ((be hnd).mp q))) (fun q=>hne _ (.head _) q) (fun q=>hm (.inl q))
 refine dr (modA:=fun y=>y=rl∨InReg z.D (ol (ogB p)) nd₀ y) (jkn (nd₀:=nd₀) (np:=np) (h₀:=s.heap) A.frames rd hrd h8) P hA.cx hA.cx ⟨⟨ft (.inr rfl) rfl (by simpa using hrd) (by rw[List.length_map];exact(qr (k:=991) (qs 1 h8))) rfl,zt⟩,hCall,hmod,(fun y hy=>hy),fun o h1' _ hf1 hsz1 hle1 hupd1 _ _ _ _=>⟨zt,fun h2' hsz2 hex hkept hacc=>?_⟩⟩
 obtain⟨⟨re',hr'⟩,nd',hnd',Hd'⟩:=hf1
 have hle1':s.heap.objs.size+2≤o.size:=hle1
 have hsz1':h1'.objs.size=o.size:=hsz1
 have hsz2':h2'.objs.size=o.size+0:=hsz2
 have y0:h2'.get? z.L=some (frL (wf w a b c).params p z ring tk kv (("ready",t3,.ref tp)::tl) ep sl):=hex (0,_) (.head _)
 have y1:h2'.get? z.S=some (sO z.Sd):=hex (1,_) (.tail _ (.head _))
 have y2:h2'.get? z.Sd=some (sD (wf w a b c).params z.q z.D (.ref rl) po (nf+(rd.length:Int)) t1 o.t2):=hex (2,_) (.tail _ (.tail _ (.head _)))
 have y3:h2'.get? tp=some (tuO (rd.map (nmV p.nt))):=hex (3,_) (.tail _ (.tail _ (.tail _ (.head _))))
 have preM:∀y,y∈(d5 (mkV (wf w a b c) (kw (wf w a b c).params p z ring tk kv tl ep sl rl t1 t2 t3 tp po nf rd) s.heap.objs.size s.toks) (dnC (wf w a b c) p z rl nd₀ np po nf t1 t2 rd s.heap) o).pre→y∈[z.L,z.S,z.Sd,tp]∨s.heap.objs.size≤y:=fun y hy=>by
  have hy':y∈[z.L,z.S,z.Sd,tp,s.heap.objs.size+0,s.heap.objs.size+1]:=hy
  exact(List.mem_append.mp (show y∈[z.L,z.S,z.Sd,tp]++[s.heap.objs.size+0,s.heap.objs.size+1] from hy')).imp_right fun q=>mA2 q (Nat.le_add_right _ _) (Nat.le_add_right _ _)
 have ltO:∀{y:Nat},y<M→y∉[z.L,z.S,z.Sd,tp]→y∉(d5 (mkV (wf w a b c) (kw (wf w a b c).params p z ring tk kv tl ep sl rl t1 t2 t3 tp po nf rd) s.heap.objs.size s.toks) (dnC (wf w a b c) p z rl nd₀ np po nf t1 t2 rd s.heap) o).pre:=fun{y} h1 h2 q=>by
  rcases preM y q with q|q
  ·exact h2 q
  ·exact(qf (ql (qc hsz q) h1))
 have K:∀y ob,s.heap.get? y=some ob→y≠z.Sd→y≠rl→¬InReg z.D (ol (ogB p)) nd₀ y→h2'.get? y=some ob:=fun y ob e q1 q2 q3=>by
  by_cases e1:y=z.L
  ·exact sg hfr y0 e e1
  by_cases e2:y=z.S
  ·exact sg F.s y1 e e2
  by_cases e3:y=tp
  ·exact sg htp y3 e e3
  refine hacc y ob e (fun q=>?_) (fun q=>q.elim q2 q3)
  have hly:@LT.lt Nat _ y s.heap.objs.size:=Heap.lt_size e
  rcases preM y q with q|q
  ·replace q:=mO4 q
   rcases q with q|q|q|q
   ·exact e1 q
   ·exact e2 q
   ·exact q1 q
   ·exact e3 q
  ·exact(qf (ql q hly))
 have ltM:∀{y:Nat} {ob:Obj},s.heap.get? y=some ob→M≤y→h2'.get? y=some ob:=fun{y ob} e hy=>K y ob e (nne (.inr (qc l.2.2.1 hy))) (nne (.inr (qc l.2.2.2.2.2.2 hy))) (fun q=>by have:=(W.reg y q).2.1;exact(qf (ql hy this)))
 have rr:h2'.get? rl=some (lO ((rd.flatMap (fBd p).su).map (nmV p.nt)) re'):=hkept _ _ hr' (ltO l.2.2.2.2.2.2 nrl)
 have rg:Reg (wf w a b c).params p.nt z.lo z.D (ol (ogB p)) (npD np rd (rd.flatMap (fBd p).su)) (fBd p).su nd' 8 h2':=Hd'.mono (fun y ob e hy=>hkept y ob e (ltO (W.reg y ((be hnd').mp hy)).2.1 (nreg y ((be hnd').mp hy)))) (qy (qe hsz1') hsz2')
 have gn:=W.nm
 obtain⟨as,e,hro,hra⟩:=F.rounds
 obtain⟨en,ee,hen,hks,hev⟩:=F.ends
 have hRA:∀{as:List Nat} {rs:List (List (Fin 8))},RA s.heap M p.nt as rs→RA h2' M p.nt as rs:=fun{as}=>by
  induction as with
  |nil=>intro rs H;cases rs with
   |nil=>trivial
   |cons _ _=>exact H
  |cons a as ih=>intro rs H;cases rs with
   |nil=>exact H
   |cons r rs=>exact⟨H.1,ltM H.2.1 H.1,ih H.2.2⟩
 have nr:∀{y:Nat},y<N0→y≠z.Sd∧y≠rl∧¬InReg z.D (ol (ogB p)) nd₀ y:=fun{y} hy=>⟨(qh (qc hy g.2.2.1)),(qh (qc hy g.2.2.2.2.2.2.2)),fun q=>by have:=(W.reg y q).1;exact(qf (ql this hy))⟩
 have F2:LX (wf w a b c) p z rl N0 M nd₀ fs h₀ ring (("ready",t3,.ref tp)::tl) ep po (nf+(rd.length:Int)) (rd.flatMap (fBd p).su) (npD np rd (rd.flatMap (fBd p).su)) rs ps tb h2':=by
  refine⟨⟨fun y ob e=>?_⟩,(qw (k:=2) (qy (qk (k:=2) hsz hle1') hsz2')),fun y ob e hy=>?_,?_,?_,y1,⟨tk,kv,sl,y0⟩,⟨_,_,y2⟩,⟨re',rr⟩,⟨nd',hnd',rg⟩,⟨as,e,K _ _ hro W.neSd.2.2.1 W.neR.2.2.1 (fun q=>(W.reg _ q).2.2.2.2.2.1 rfl),hRA hra⟩,⟨en,ee,K _ _ hen W.neSd.2.2.2.1 W.neR.2.2.2 (fun q=>(W.reg _ q).2.2.2.2.2.2.1 rfl),hks,fun x hx=>?_⟩,?_⟩
  ·obtain⟨q1,q2,q3⟩:=nr (y:=y) (by have:=bm e;exact(qv (ql (qc this gn.1) gn.2.1)))
   exact K y ob (F.based.kt y ob e) q1 q2 q3
  ·obtain⟨sl',g1,g2⟩:=F.keep y ob e hy
   have hly:@LT.lt Nat _ y h₀.objs.size:=Heap.lt_size e
   obtain⟨q1,q2,q3⟩:=nr (y:=y) (qx hly hz)
   exact⟨sl',K _ _ g1 q1 q2 q3,g2⟩
  ·obtain⟨q1,q2,q3⟩:=nr gn.2.1
   exact K _ _ F.nm q1 q2 q3
  ·obtain⟨q1,q2,q3⟩:=nr gn.2.2.2.1
   exact K _ _ F.nl q1 q2 q3
  ·obtain⟨a,m,u1,u2,u3,h1,h2,h3,h4⟩:=hev x hx
   exact⟨a,m,u1,u2,u3,h1,h2,h3,ltM h4 h3⟩
  ·obtain⟨q1,q2,q3⟩:=nr (y:=229) (qw (k:=27) g.2.2.2.2.2.2.1)
   exact K _ _ F.tab q1 q2 q3
 exact h ((ae s).at h2' (o.toks+0)) F2 rfl
noncomputable def lwC(L:Nat):Code:=.whileLoop (teS lrW) (inS lrW) [] (av L)
theorem jpg(hA:Room A 520 5200)(W:WZ p z rl N0 M nd₀)(hz:h₀.objs.size=N0)(F₀:LX (wf w a b c) p z rl N0 M nd₀ fs h₀ ring [] 7 0 0 rd np rs ps tb s.heap)(I₀:PI p rd np rs ps)
  (h:∀s' ext ep po np rs ps tb,LX (wf w a b c) p z rl N0 M nd₀ fs h₀ ring ext ep po po [] np rs ps tb s'.heap→PI p [] np rs ps→ae s'=ae s→R (.ok .next) s') :
  codeAny (model PG (wf w a b c)) A (lwC z.L) R s:=by
 refine codeAny_whileLoop (fun n s'=>∃ext ep po rd np rs ps tb,LX (wf w a b c) p z rl N0 M nd₀ fs h₀ ring ext ep po po rd np rs ps tb s'.heap∧WX ext ep∧PI p rd np rs ps∧ae s'=ae s∧n=8-ps.length) (fun n s1 hI=>?_) (8-ps.length) ⟨[],7,0,rd,np,rs,ps,tb,F₀,.none,I₀,rfl,rfl⟩
 obtain⟨ext,ep,po,rd,np,rs,ps,tb,F,hX,I,r,hn⟩:=hI
 have hp8:=fv I.psn
 have hl:=I.len
 refine jn0 hA W hz F (fv I.rdn) (qs 1 (qc hl hp8)) fun s2 v hv F2 r2=>?_
 cases hrd:rd with
 |nil=>
  subst hrd
  subst hv
  first|refine itn (by simp) ?_|rw[if_neg (by simp)]
  exact wpAny_execs_nil (h s2 ext ep po np rs ps tb F2 I (r2.trans r))
 |cons k₀ l₀=>
  have hne:rd≠[]:=by rw[hrd];exact List.cons_ne_nil _ _
  have hvt:v=true:=by rw[hv,hrd];rfl
  first|refine itp hvt ?_|rw[if_pos hvt]
  clear hrd
  first|refine xq1 oa ?_|refine xq2 oa ?_|refine xq3 oa ?_|rw[oa]
  refine ah _ _ (wpAny_execs_cons ?_)
  first|refine xq1 kb ?_|refine xq2 kb ?_|refine xq3 kb ?_|rw[kb]
  refine wpAny_Assign_Name ?_ (by kernel_rfl)
  refine jnz hA W hz F2 hne I.rdn fun s3 tp hMt htp F3 r3=>?_
  refine jny hA W hz F3 hX fun s4 t3 tl ep4 hT F4 K4 r4=>?_
  have htp4:=K4 _ _ htp (by rw[List.mem_singleton];have:=W.lt;exact nne (.inr (qc this.1 hMt)))
  refine wpAny_execs_nil (ah _ _ ?_)
  refine jnx hA W hz F4 hne I.rdn hMt htp4 (qr (k:=91) (qs 1 (qc hl hp8))) fun s5 aa as e hMa haa hro F5 htp5 r5=>?_
  refine ah _ _ ?_
  refine jnw hA W hz F5 hT hMa haa hro hMt htp5 hne (fun k hk=>I.dis hk) (fun k hk hlk=>I.tg hk hlk) hp8 fun s6 tl' tb' hT' F6 htp6 r6=>?_
  refine jnv hA W hz F6 hMt htp6 hne I.rdn (fun k hk=>by unfold npG;rw[if_pos hk]) (fun k hk j hj=>?_) fun s7 F7 r7=>?_
  ·have h1:=I.su1 hk hj
   unfold npG
   first|refine itn (fun q=>?_) ?_|rw[if_neg (fun q=>?_)]
   ·exact h1
   ·have hd1:=(I.rdl j).mp q
    obtain⟨q1,q2⟩:=((fy p k).2 j).mp hj
    have hd2:DepthR p j (rs.length+1):=.step q1 (q2 ▸ (I.rdl k).mp hk)
    have:=hd1.fn hd2
    exact(qf (qg this))
  ·have I':=I.next hne
   have hpn:=fv I'.psn
   have hlt:ps.length<(ps++bg rd).length:=by
    rw[List.length_append]
    have:=List.length_pos_iff.mpr (i9 hne)
    omega
   refine⟨8-(ps++bg rd).length,by omega,_,10,po+(rd.length:Int),_,_,_,_,tb',F7,?_,I',r7.trans (r6.trans (r5.trans (r4.trans (r3.trans (r2.trans r))))),rfl⟩
   cases hT' with
   |full=>exact .full
end
noncomputable def eg:Stmt:=ak lrS 2
theorem jb:eg=.Try (inS eg) [.ExceptHandler (some (hdE (hdS eg))) none [ak (hdB (hdS eg)) 0] (jk6 (hdS eg))] [] [] (gy eg):=by kernel_rfl
theorem jei:hdB (hdS eg)=[ak (hdB (hdS eg)) 0]:=by kernel_rfl
structure PrX where
 sl:Array (Option Value)
 ru:Nat
 size:Nat
 toks:Nat
 e:Nat
noncomputable def vm:Bool→PrX→Result
 |true,o=>.error (.ref o.e)
 |false,_=>rv .none
noncomputable def prC(ring:Bool)(P:Params)(p:Par)(z:LR)(tk:Nat)(kv:Value)(outer:List Env)(fs:List Nat)(h₀:Heap):CallSpec where
 Out:=PrX
 code:=.call (.ref 157) ⟨[.ref z.S],[]⟩
 d:=600
 u:=6000
 fr:=some (some (av z.L::outer))
 pre:=[(0,frL P p z false tk kv [] 7 #[]),(1,sO z.Sd),(2,sD P z.q z.D .none 0 0 z.t1 z.t2)]
 i:=0
 tk:=0
 res:=vm ring
 upd o:=[(0,frL P p z false tk kv [] 7 o.sl),(2,sD P z.q z.D (.ref o.ru) 0 0 z.t1 z.t2)]
 new _:=[]
 size o:=o.size
 toks o:=o.toks
 rel _:=True
 mod y:=y∈fs
 facts o h':=h₀.objs.size≤o.ru∧h'.get? o.ru=some (lO ((rdy (ogB p) (fBd p).np 8).map (nmV p.nt)) (rdy (ogB p) (fBd p).np 8).length)∧(∀y ob,h₀.get? y=some ob→y∈fs→∃sl,h'.get? y=some { ob with slots:=sl })∧(ring=true→h₀.objs.size≤o.e∧TracedAt h₀.objs.size h' o.e (.ref 120))
noncomputable def jd9:List Nat:=dH 17 3752505744119837757454418049
noncomputable def jeb:List CH:=[]
noncomputable def jd8:List Nat:=[]
noncomputable def jea:List CH:=[]
noncomputable def E0:List Nat:=dH 17 3752505744119837757454418049
noncomputable def E3:List CH:=[]
noncomputable def D9:List Nat:=[]
noncomputable def E1:List CH:=[]
section
variable{w:World}{a b c:Bool}{p:Par}{z:LR}{N t₀ tk ep e:Nat}{kv:Value}{outer:List Env}{fs:List Nat}{h₀:Heap}{ring:Bool}{ext:Ext}{sl:Array (Option Value)}{d:Data}{dd:Option Addr}
noncomputable def om(P:Params)(p:Par)(z:LR)(tk:Nat)(kv:Value):List (Nat×Obj):=[(z.L,frL P p z false tk kv [] 7 #[]),(z.S,sO z.Sd),(z.Sd,sD P z.q z.D .none 0 0 z.t1 z.t2)]
noncomputable def jd7(P:Params)(p:Par)(z:LR)(tk:Nat)(kv:Value)(outer:List Env)(fs:List Nat)(h₀:Heap):Bool→Script
 |false=>.call jd9 jeb (prC false P p z tk kv outer fs h₀) fun o=>.fin jd8 jea ⟨.ok (.done .next),[(0,frL P p z false tk kv [] 7 o.sl),(1,sO z.Sd),(2,sD P z.q z.D (.ref o.ru) 0 0 z.t1 z.t2)],0,0⟩
 |true=>.call E0 E3 (prC true P p z tk kv outer fs h₀) fun o=>.fin D9 E1 ⟨.error (.ref o.e),[(0,frL P p z false tk kv [] 7 o.sl),(1,sO z.Sd),(2,sD P z.q z.D (.ref o.ru) 0 0 z.t1 z.t2)],0,0⟩
theorem vq:∀(ring:Bool),au 160 (wf w a b c) N t₀ (om (wf w a b c).params p z tk kv) (jd7 (wf w a b c).params p z tk kv outer fs h₀ ring) ⟨none,520,5200,some (av z.L::outer)⟩ (ar (inS eg) (av z.L))
 |false=>by kernel_rfl
 |true=>by kernel_rfl
noncomputable def mtT(e c:Value):Sem Fin:=PySem.W.R.bindR (PySem.W.Fast.tw17346088374725804007 e c) fun v=>.pure (.done (.ret (.bool v)))
noncomputable def jek:List Nat:=[0]
noncomputable def jel:List CH:=[]
theorem jej(hnd:Option Value)(ff:Option (List Env)):au 60 (wf w a b c) N t₀ ([]) (.fin jek jel ⟨.ok (.done (.ret (.ref 120))),[],0,0⟩) ⟨hnd,520,5200,ff⟩ (evT (hdE (hdS eg)) (av z.L)):=by kernel_rfl
noncomputable def jed:List Nat:=[0,0,0,1,0]
noncomputable def jee:List CH:=[]
theorem jec(hnd:Option Value)(ff:Option (List Env)):au 60 (wf w a b c) N t₀ ([(e,⟨.ref 120,dd,d,sl⟩)]) (.fin jed jee ⟨.ok (.done (.ret (.bool true))),[(0,⟨.ref 120,dd,d,sl⟩)],0,0⟩) ⟨hnd,520,5200,ff⟩ (mtT (.ref e) (.ref 120)):=by kernel_rfl
noncomputable def jen:List Nat:=[1,1]
noncomputable def jeo:List CH:=[]
theorem jem(hnd:Option Value)(ff:Option (List Env)):au 60 (wf w a b c) N t₀ ([(z.L,frL (wf w a b c).params p z false tk kv [] 7 sl)]) (.fin jen jeo ⟨.ok (.done .next),[(0,frL (wf w a b c).params p z true tk kv [] 7 sl)],0,1⟩) ⟨hnd,520,5200,ff⟩ (ar (hdB (hdS eg)) (av z.L)):=by kernel_rfl
noncomputable def wr:List Nat:=[1,1,1]
noncomputable def ws:List CH:=[]
theorem wo(hnd:Option Value)(ff:Option (List Env)):au 60 (wf w a b c) N t₀ ([(z.L,frL (wf w a b c).params p z ring tk kv ext ep sl)]) (.fin wr ws ⟨.ok (.done (.ret (.ref N))),[(0,frL (wf w a b c).params p z ring tk kv ext ep sl),(1,lO [.ref z.rl,.bool ring,.ref z.ed] 0)],1,0⟩) ⟨hnd,520,5200,ff⟩ (ar [ak lrS 4] (av z.L)):=by kernel_rfl
end
theorem E4(L:Nat):(av L).scope.kind=.function:=by kernel_rfl
section
variable{w:World}{a b c:Bool}{p:Par}{z:LR}{nd:Fin 8→Nd}{fs:List Nat}{h₀ h1:Heap}{A:Around}{E:Value→Shared→Prop}{s:Shared}{outer:List Env}{Q:Flow→Shared→Prop}
theorem jk5{V:SV}{hh:Heap}{rg:Bool}{tk:Nat}{kv:Value}(hrg:rg=true↔∃v,¬ck (fBd p).su v)(hw:V.w=wf w a b c)(hkt:V.kt=ktB (wf w a b c).params)(hV:V.pre=[z.L,z.S,z.Sd])(hsz:hh.objs.size=V.N)(oL:257≤z.L)(O:SO z.S z.Sd z.D z.lo)(H:Reg (wf w a b c).params p.nt z.lo z.D (ol (ogB p)) (fBd p).np (fBd p).su nd 8 hh)(hLr:∀y,InReg z.D (ol (ogB p)) nd y→y≠z.L)(nLS:z.L≠z.S∧z.L≠z.Sd)
  (hff:hh.FunFrames noBase outer) (hfs:fs=outer.filterMap (·.frame)) (hfo:∀x∈fs,257≤x∧¬InReg z.D (ol (ogB p)) nd x∧x∉V.pre) :
  b9 V hh (prC rg (wf w a b c).params p z tk kv outer fs hh):=by
 intro A s hh' hf hd hu hs ht hb hkeep hpre
 have hs':s.heap.objs.size=V.N:=hs
 have ad0:aj V.pre V.N 0=z.L:=by rw[hV];rfl
 have ad1:aj V.pre V.N 1=z.S:=by rw[hV];rfl
 have ad2:aj V.pre V.N 2=z.Sd:=by rw[hV];rfl
 have p0:=hpre (0,_) (.head _)
 have p1:=hpre (1,_) (.tail _ (.head _))
 have p2:=hpre (2,_) (.tail _ (.tail _ (.head _)))
 rw[ad0] at p0
 rw[ad1] at p1
 rw[ad2] at p2
 rw[hkt] at hb
 have nreg:∀y,InReg z.D (ol (ogB p)) nd y→y∉V.pre:=fun y hr=>by
  have q1:=O.reg H hr
  have q2:=hLr y hr
  rw[hV]
  refine nO3 ?_
  exact⟨q2,q1.1,q1.2⟩
 have nfs:∀y∈fs,y∉V.pre:=fun y hy=>(hfo y hy).2.2
 have nfs2:∀y∈fs,y≠z.L∧y≠z.S∧y≠z.Sd:=fun y hy=>by
  have:=nfs y hy
  rw[hV] at this
  simpa [not_or] using this
 have Hs:=H.mono (h':=s.heap) (fun y ob e hr=>hkeep y ob e (nreg y hr)) (qy (qe hsz) hs')
 have ffo:∀(l:List Env),hh.FunFrames noBase l→(∀y∈l.filterMap (·.frame),y∈fs)→s.heap.FunFrames noBase l:=fun l=>by
  induction l with
  |nil=>exact fun _ _=>trivial
  |cons e l ih=>
   intro hF hm
   obtain⟨h1,⟨L',o,h2,h3,h4,h5⟩,h6⟩:=hF
   have hm':(e::l).filterMap (·.frame)=L'::l.filterMap (·.frame):=by rw[List.filterMap_cons,h2]
   rw[hm'] at hm
   exact⟨h1,⟨L',o,h2,h3,hkeep _ _ h4 (nfs _ (hm _ (.head _))),h5⟩,ih h6 fun y hy=>hm y (.tail _ hy)⟩
 have ff2:s.heap.FunFrames noBase (av z.L::outer):=⟨by rw[E4];exact(fun e=>by cases e),⟨z.L,_,rfl,cf _,p0,(fun vs e=>by cases e)⟩,ffo outer hff (fun y hy=>by rw[hfs];exact hy)⟩
 rw[hw]
 have fin:∀(h':Heap) (tk' e:Nat),PrO (wf w a b c).params p.nt (ogB p) (fBd p).np z.q z.Sd z.D z.t1 z.t2 (z.L::fs) s.heap h'→(rg=true→s.heap.objs.size≤e∧TracedAt s.heap.objs.size h' e (.ref 120)) →
   ∃o:PrX,True∧(if rg=true then(.error (.ref e):Result) else rv .none)=vm rg o∧∃h'',({ s with heap:=h',toks:=tk' }:Shared)={ s with heap:=h'',toks:=o.toks }∧(prC rg (wf w a b c).params p z tk kv outer fs hh).facts o h''∧h''.objs.size=o.size∧s.heap.objs.size≤o.size ∧
    (∀q∈(prC rg (wf w a b c).params p z tk kv outer fs hh).upd o,h''.get? (aj V.pre V.N q.1)=some q.2)∧(∀q∈([]:List (Nat×Obj)),h''.get? q.1=some q.2∧(V.N+0≤q.1∨(q.1<V.N∧q.1∉V.pre∧V.kt.get q.1=none)))∧(([]:List (Nat×Obj)).map (·.1)).Nodup ∧
    (∀y o'',s.heap.get? y=some o''→(∀q∈(prC rg (wf w a b c).params p z tk kv outer fs hh).upd o,y≠aj V.pre V.N q.1)→¬y∈fs→h''.get? y=some o''):=fun h' tk' e F hT=>by
  obtain⟨ru,z1,z2,z3⟩:=F.rd
  obtain⟨sl',x0,_⟩:=F.keep z.L _ p0 nLS.2
  refine⟨⟨sl',ru,h'.objs.size,tk',e⟩,zt,?_,h',rfl,⟨by show hh.objs.size≤ru;exact(qc (qy (qe hsz) hs') z1),z3,fun y ob q hy=>?_,fun q=>?_⟩,rfl,F.size,fun q hq=>?_,(fun q hq=>nomatch hq),List.Pairwise.nil,fun y ob q hne hy=>?_⟩
  ·cases rg<;>rfl
  ·obtain⟨sl2,g1,_⟩:=F.keep y ob (hkeep y ob q (nfs y hy)) (nfs2 y hy).2.2
   exact⟨sl2,g1⟩
  ·have:=hT q
   have e1:s.heap.objs.size=hh.objs.size:=hs'.trans hsz.symm
   rw[e1] at this
   exact this
  ·have hq':q=(0,frL (wf w a b c).params p z false tk kv [] 7 sl')∨q=(2,sD (wf w a b c).params z.q z.D (.ref ru) 0 0 z.t1 z.t2):=by simpa [prC] using hq
   rcases hq' with rfl|rfl
   ·rw[ad0];exact x0
   ·rw[ad2];exact z2
  ·obtain⟨sl2,g1,g2⟩:=F.keep y ob q (fun e=>hne (2,_) (.tail _ (.head _)) (by rw[ad2];exact e))
   rw[g2 (by rw[List.mem_cons,not_or];exact⟨fun e=>hne (0,_) (.head _) (by rw[ad0];exact e),hy⟩)] at g1
   exact g1
 refine jn2 (fs:=z.L::fs) (np:=(fBd p).np) (su:=(fBd p).su) (lo:=z.lo) (q:=z.q) (nt:=p.nt) (og:=ogB p) ⟨hh',hd,hu⟩ (hf _ rfl) ff2 (by rw[hfs];rfl) ⟨hb⟩ p1 p2 O Hs (fun x hx=>?_) (fun h' tk' F he=>?_) (fun h' tk' e F he hT hv=>?_)
 ·rcases List.mem_cons.mp hx with rfl|hx
  ·exact⟨oL,fun hr=>hLr _ hr rfl,nLS⟩
  ·exact⟨(hfo x hx).1,(hfo x hx).2.1,(nfs2 x hx).2⟩
 ·have hr:rg=false:=by
   cases e:rg with
   |false=>rfl
   |true=>obtain⟨v,hv⟩:=hrg.mp e;exact absurd (he v) hv
  have:=fin h' tk' 0 F (fun q=>by rw[hr] at q;cases q)
  rw[if_neg (by rw[hr];exact Bool.false_ne_true)] at this
  exact this
 ·have hr:rg=true:=hrg.mpr hv
  have:=fin h' tk' e F (fun _=>⟨he,hT⟩)
  rw[if_pos hr] at this
  exact this
theorem jpf{h:Heap}{tk ru M:Nat}{kv:Value}{sl:Array (Option Value)}{N0:Nat}{v:Nat×Nat}(hN:h₀.objs.size=N0)(K0:af [] h₀ h1)(hz1:h1.objs.size=N0+1)(hzL:z.L=N0)(B:LB (wf w a b c).params p z nd h1 s.heap)(gn:257≤p.NM∧p.NM<N0∧257≤p.NL∧p.NL<N0∧p.NM≠p.NL)(h257:257≤N0)(htab:h₀.get? 229=some (d7 none))(hfs:∀x∈fs,257≤x∧x<N0∧x≠p.NM∧x≠p.NL)
  (hru:s.heap.objs.size≤ru) (hM:ru<M∧M≤h.objs.size) (x0:h.get? z.L=some (frL (wf w a b c).params p z false tk kv [] 7 sl)) (x1:h.get? z.S=some (sO z.Sd)) (x2:h.get? z.Sd=some (sD (wf w a b c).params z.q z.D (.ref ru) 0 0 z.t1 z.t2)) (xr:h.get? ru=some (lO ((rdy (ogB p) (fBd p).np 8).map (nmV p.nt)) (rdy (ogB p) (fBd p).np 8).length))
  (K:∀(y:Nat) (ob:Obj),s.heap.get? y=some ob→y≠z.L→y≠z.Sd→y∉fs→h.get? y=some ob) (KF:∀(y:Nat) (ob:Obj),s.heap.get? y=some ob→y∈fs→∃sl,h.get? y=some { ob with slots:=sl }) :
  WZ p z ru N0 M nd∧LX (wf w a b c) p z ru N0 M nd fs h₀ false [] 7 0 0 (rdy (ogB p) (fBd p).np 8) (fBd p).np [] [] none h:=by
 obtain⟨v,E⟩:=B.le
 have ap:=B.ap
 have nw:=B.new
 have off:=ap.ok.offS
 have lts:=ap.ok.ltS
 have bl:=B.lts
 have nS:=ap.ok.neS
 have nA:=ap.nodup
 have nE:=B.ne
 have hsz:=B.size
 have hlo:=B.reg.size
 replace nS:=nd3 nS
 replace nE:=nd5 nE
 have ltL:z.L<z.lo:=(ap.off z.L (.head _)).2.1
 have so:SO z.S z.Sd z.D z.lo:=⟨⟨off.1,lts.1,nS.1.2⟩,⟨off.2.1,lts.2.1,nS.2⟩⟩
 have rg:∀y:Nat,InReg z.D (ol (ogB p)) nd y→N0≤y∧y<s.heap.objs.size∧y≠z.L∧y≠z.S∧y≠z.Sd∧y≠z.rl∧y≠z.ed:=fun y hy=>by
  have q1:=(B.reg.lt hy).2.2
  have q2:=(B.reg.lt hy).1
  have q2':@LT.lt Nat _ y s.heap.objs.size:=q2
  rcases q1 with q|q
  ·have q':=ax q
   refine⟨(qv (qy (qp hz1 nw.2.2.1) q)),q2',?_,?_,?_,?_,?_⟩
   ·exact(qj (qy (qc (qq (qe hzL) hz1) nw.2.2.1) q))
   ·rw[q'];exact fun e=>nS.1.2 e.symm
   ·rw[q'];exact fun e=>nS.2 e.symm
   ·rw[q'];exact nE.2.2.1.1
   ·rw[q'];exact nE.2.2.1.2
  ·have q':z.lo≤y:=q
   clear nS nE
   exact⟨(qw (k:=2) (qc (ql (qp hz1 nw.1) lts.1) q)),q2',(qj (qv (qc (ql (qc (qq (qe hzL) hz1) nw.1) lts.1) q))),(qj (qc lts.1 q)),(qj (qc lts.2.1 q)),(qj (qc bl.1 q)),(qj (qc bl.2 q))⟩
 have W:WZ p z ru N0 M nd:=by
  refine⟨⟨(qg hzL),(qv (qp hz1 nw.1)),(qv (qp hz1 nw.2.1)),(qv (qp hz1 nw.2.2.1)),(qv (qp hz1 nw.2.2.2.1)),(qv (qp hz1 nw.2.2.2.2)),(qv (ql gn.1 gn.2.1)),(qv (qc (qp hz1 hsz) hru))⟩,⟨(qv (ql (qc (qc (qq (qe hzL) hz1) hsz) hru) hM.1)),(qv (ql (qc (qc lts.1 hlo) hru) hM.1)),(qv (ql (qc (qc lts.2.1 hlo) hru) hM.1)),(qv (ql (qc (qc lts.2.2 hlo) hru) hM.1)),(qv (ql (qc (qc bl.1 hlo) hru) hM.1)),(qv (ql (qc (qc bl.2 hlo) hru) hM.1)),hM.1⟩,⟨(qj (qc (qq (qe hzL) hz1) nw.1)),(qj (qc (qq (qe hzL) hz1) nw.2.1)),(qj (qc (qq (qe hzL) hz1) nw.2.2.1)),(qj (qc (qq (qe hzL) hz1) nw.2.2.2.1)),(qj (qc (qq (qe hzL) hz1) nw.2.2.2.2)),(qj (qc (qc (qq (qe hzL) hz1) hsz) hru))⟩,⟨nE.1.1,fun e=>nE.2.1.1 e.symm,fun e=>nE.2.1.2.1 e.symm,fun e=>nE.2.1.2.2 e.symm,(qj (qc (qc lts.2.1 hlo) hru))⟩,⟨(qh (qc (qc lts.1 hlo) hru)),(qh (qc (qc lts.2.2 hlo) hru)),(qh (qc (qc bl.1 hlo) hru)),(qh (qc (qc bl.2 hlo) hru))⟩,⟨nE.1.2.2.1,nE.2.2.1.1,fun e=>nE.2.2.2 e.symm⟩,⟨nE.1.2.2.2,nE.2.2.1.2⟩,gn,so,(qv (ql (qc hlo hru) hM.1)),fun y hy=>?_⟩
  obtain⟨q1,q2,q3,q4,q5,q6,q7⟩:=rg y hy
  exact⟨q1,(qv (ql (qc q2 hru) hM.1)),q3,q4,q5,q6,q7,(qh (qc q2 hru))⟩
 refine⟨W,?_⟩
 have lt0:∀{y:Nat} {ob:Obj},h₀.get? y=some ob→s.heap.get? y=some ob:=fun{y ob} e=>B.keep y ob (K0 y ob e n0m) (by
  have:@LT.lt Nat _ y h₀.objs.size:=Heap.lt_size e
  rw[List.mem_singleton];exact nne (.inl (qy (qx this hN) hzL)))
 have nfs:∀{y:Nat},N0≤y→y∉fs:=fun{y} hy q=>by have:=hfs y q;exact(qf (ql hy this.2.1))
 refine⟨⟨fun y ob e=>?_⟩,hM.2,fun y ob e hy=>?_,K _ _ E.nm (qh (qy gn.2.1 hzL)) (qh (qv (qc (qq gn.2.1 hz1) nw.2.1))) (fun q=>(hfs _ q).2.2.1 rfl),K _ _ E.nl (qh (qy gn.2.2.2.1 hzL)) (qh (qv (qc (qq gn.2.2.2.1 hz1) nw.2.1))) (fun q=>(hfs _ q).2.2.2 rfl),x1,⟨tk,kv,sl,x0⟩,⟨_,_,x2⟩,⟨_,xr⟩,⟨nd,fun _=>⟨rfl,rfl,rfl⟩,B.reg.mono (fun y ob e hy=>?_) (qv (qc (ql hru hM.1) hM.2))⟩,⟨[],0,K _ _ B.rl (qj (qc (qq (qe hzL) hz1) nw.2.2.2.1)) (fun e=>nE.2.1.2.1 e.symm) (nfs (qv (qp hz1 nw.2.2.2.1))),zt⟩,⟨[],0,K _ _ B.ed (qj (qc (qq (qe hzL) hz1) nw.2.2.2.2)) (fun e=>nE.2.1.2.2 e.symm) (nfs (qv (qp hz1 nw.2.2.2.2))),rfl,fun x hx=>nomatch hx⟩,?_⟩
 ·have hy:@LT.lt Nat _ y 257:=bm e
  exact K _ _ (E.based.kt y ob e) (qh (qy (qc hy h257) hzL)) (qh (qw (k:=2) (qc (qq (ql (qc hy gn.1) gn.2.1) hz1) nw.2.1))) (fun q=>by have:=(hfs y q).1;exact(qf (qc hy this)))
 ·have e1:=lt0 e
  have hly:@LT.lt Nat _ y h₀.objs.size:=Heap.lt_size e
  by_cases hm:y∈fs
  ·obtain⟨sl',g⟩:=KF y ob e1 hm
   exact⟨sl',g,fun q=>absurd hm q⟩
  ·exact⟨ob.slots,K y ob e1 (qh (qy (qx hly hN) hzL)) (qh (qv (qc (qq (qx hly hN) hz1) nw.2.1))) hm,fun _=>rfl⟩
 ·obtain⟨q1,q2,q3,q4,q5,q6,q7⟩:=rg y hy
  exact K y ob e q3 q5 (nfs q1)
 ·exact K _ _ (lt0 htab) (qh (qc (qb rfl) (qy h257 hzL))) (qh (qw (k:=27) off.2.1)) (fun q=>by have:=(hfs 229 q).1;exact(qz this rfl))
end
theorem i4{M:Model}{A:Around}{E:Value→Shared→Prop}{s:Shared}{env:Env}{outer:List Env}{L e:Addr}{cls:Value}{n:Nat}{Q:Unit→Shared→Prop}
  (hfr:A.frames=some (env::outer)) (hl:s.heap.FunFrames noBase (env::outer)) (hf:env.frame=some L) (ht:TracedAt n s.heap e cls) (hn:n≤s.heap.objs.size)
  (h:∀h',s.heap.objs.size≤h'.objs.size→(∀b o,s.heap.get? b=some o→((∀vs,o.data≠.fields vs)∨(@LT.lt Nat _ b n∧b≠e))→b∉(env::outer).filterMap (·.frame)→h'.get? b=some o) →
   (∀b o,s.heap.get? b=some o→b∈(env::outer).filterMap (·.frame)→∃sl,h'.get? b=some { o with slots:=sl })→TracedAt n h' e cls→h'.FunFrames noBase (env::outer)→Q () { s with heap:=h' }) :
  wpAny M A (noteFrame (.ref e) env) (fun _ s'=>wpAny M A (setFlight (.ref e) none) Q E s') E s:=by
 obtain⟨oe,vs,T,oT,ts,he,hcls,hd,h1,hTe,hnT,hT,hdT,h3⟩:=ht.ex
 subst hcls
 unfold noteFrame
 simp only[hf]
 refine wpAny_bind (wpAny_field he hd h1 ?_)
 refine wif (show(Value.ref T != Value.none)=true from by simp) ?_
 refine wpAny_bind (wpAny_field hT hdT h3 ?_)
 refine wie (show ¬((Value.none==rawInt L)=true) from by simp[rawInt]) ?_
 refine wpAny_bind (wpAny_setField hT hdT (Array.getElem?_eq_some_iff.mp h3).1 ?_)
 have other:∀b,b≠T→(s.heap.update T (Obj.mapFields (·.setIfInBounds 3 Value.none))).get? b=s.heap.get? b:=fun b hb=>Heap.get?_update_other _ _ (Ne.symm hb)
 have noRecord:∀b o,s.heap.get? b=some o→(∀vs,o.data≠.fields vs)→b≠T:=fun b o hb hnf q=>by
  rw[q,hT] at hb;injection hb with hb;subst hb;exact hnf ts hdT
 have noE:∀b o,s.heap.get? b=some o→(∀vs,o.data≠.fields vs)→b≠e:=fun b o hb hnf q=>by
  rw[q,he] at hb;injection hb with hb;subst hb;exact hnf vs hd
 have hl':(s.heap.update T (Obj.mapFields (·.setIfInBounds 3 Value.none))).FunFrames noBase (env::outer):=hl.of_keeps fun b o hb hnf=>⟨o,(other b (noRecord b o hb hnf)).trans hb,rfl⟩
 have hsz:(s.heap.update T (Obj.mapFields (·.setIfInBounds 3 Value.none))).objs.size=s.heap.objs.size:=Heap.size_after_update ..
 refine i5 (s:={ s with heap:=s.heap.update T (Obj.mapFields (·.setIfInBounds 3 Value.none)) }) hfr hl' hf ((other e (Ne.symm hTe)).trans he) hd (Array.getElem?_eq_some_iff.mp h1).1
  fun h' N Tr F=>h h' (by have:=N.size;rw[hsz] at this;exact this) (fun b o hb hlt hS=>?_) (fun b o hb hS=>?_) ⟨?_⟩ F
 ·rcases hlt with hnf|⟨hlt,hbe⟩
  ·exact N.keep b o ((other b (noRecord b o hb hnf)).trans hb) hS (noE b o hb hnf)
  ·have hbT:b≠T:=fun q=>by rw[q] at hlt;exact(qf (ql hnT hlt))
   exact N.keep b o ((other b hbT).trans hb) hS hbe
 ·obtain⟨_,o',ho',hnf⟩:=hl.mem hS
  rw[hb] at ho';cases ho'
  exact N.slots b o ((other b (noRecord b o hb hnf)).trans hb) hS
 ·obtain⟨oe',vs',T',oT',ts',g1,g2,g3,g4,g5,g6,g7,g8,g9⟩:=Tr.ex
  have g6':@LE.le Nat _ s.heap.objs.size T':=by rw[←hsz];exact g6
  exact⟨oe',vs',T',oT',ts',g1,g2,g3,g4,g5,Nat.le_trans hn g6',g7,g8,g9⟩
section
variable{w:World}{a b c:Bool}{p:Par}{z:LR}{nd:Fin 8→Nd}{fs:List Nat}{h₀ h1 h h':Heap}{A:Around}{E:Value→Shared→Prop}{s:Shared}{outer:List Env}{Q:Flow→Shared→Prop}{rl N0 M:Nat}{ring:Bool}{ext:Ext}{ep:Nat}{po nf:Int}{rd:List (Fin 8)}{np:Fin 8→Int}{tb:Option Nat}
theorem LX.rel2(F:LX w p z rl N0 M nd fs h₀ ring ext ep po nf rd np [] [] tb h)(W:WZ p z rl N0 M nd)(hz:h₀.objs.size=N0)(hfs:∀x∈fs,257≤x∧x<N0∧x≠p.NM∧x≠p.NL)(hs:h.objs.size≤h'.objs.size)
  (K:∀(y:Nat) (ob:Obj),h.get? y=some ob→((∀vs,ob.data≠.fields vs)∨y<N0)→y∉z.L::fs→h'.get? y=some ob) (KS:∀(y:Nat) (ob:Obj),h.get? y=some ob→y∈z.L::fs→∃sl,h'.get? y=some { ob with slots:=sl }) :
  LX w p z rl N0 M nd fs h₀ ring ext ep po nf rd np [] [] tb h':=by
 have g:=W.ge
 have gn:=W.nm
 have nf:∀{y:Nat},N0≤y→y≠z.L→y∉z.L::fs:=fun{y} h1 h2 q=>by
  rcases List.mem_cons.mp q with q|q
  ·exact h2 q
  ·have:=hfs y q;exact(qf (ql h1 this.2.1))
 have no:∀{y:Nat},y<N0→y∉fs→y∉z.L::fs:=fun{y} h1 h2 q=>by
  rcases List.mem_cons.mp q with q|q
  ·exact(qf (ql (qy g.1 q) h1))
  ·exact h2 q
 obtain⟨tk,kv,sl,hfr⟩:=F.fr
 obtain⟨t1,t2,hsd⟩:=F.sd
 obtain⟨re,hr⟩:=F.r
 obtain⟨nd',hnd,H⟩:=F.reg
 obtain⟨as,e,hro,hra⟩:=F.rounds
 obtain⟨en,ee,hen,hks,hev⟩:=F.ends
 refine⟨⟨fun y ob e=>?_⟩,Nat.le_trans F.size hs,fun y ob e hy=>?_,K _ _ F.nm (.inr gn.2.1) (no gn.2.1 (fun q=>(hfs _ q).2.2.1 rfl)),K _ _ F.nl (.inr gn.2.2.2.1) (no gn.2.2.2.1 (fun q=>(hfs _ q).2.2.2 rfl)),K _ _ F.s (.inl (fun vs e=>by cases e)) (nf g.2.1 W.neL.1),?_,⟨t1,t2,K _ _ hsd (.inl (fun vs e=>by cases e)) (nf g.2.2.1 W.neL.2.1)⟩,⟨re,K _ _ hr (.inl (fun vs e=>by cases e)) (nf g.2.2.2.2.2.2.2 W.neL.2.2.2.2.2)⟩,
  ⟨nd',hnd,?_⟩,⟨as,e,K _ _ hro (.inl (fun vs e=>by cases e)) (nf g.2.2.2.2.1 W.neL.2.2.2.1),?_⟩,⟨en,ee,K _ _ hen (.inl (fun vs e=>by cases e)) (nf g.2.2.2.2.2.1 W.neL.2.2.2.2.1),hks,fun x hx=>?_⟩,K _ _ F.tab (.inr (qw (k:=27) g.2.2.2.2.2.2.1)) (no (qw (k:=27) g.2.2.2.2.2.2.1) (fun q=>by have:=(hfs 229 q).1;exact(qz this rfl)))⟩
 ·have hy:@LT.lt Nat _ y 257:=bm e
  exact K _ _ (F.based.kt y ob e) (.inr (qv (ql (qc hy gn.1) gn.2.1))) (no (qv (ql (qc hy gn.1) gn.2.1)) (fun q=>by have:=(hfs y q).1;exact(qf (qc hy this))))
 ·obtain⟨sl',q1,q2⟩:=F.keep y ob e hy
  have hly:@LT.lt Nat _ y h₀.objs.size:=Heap.lt_size e
  by_cases hm:y∈fs
  ·obtain⟨sl2,q3⟩:=KS y _ q1 (.tail _ hm)
   exact⟨sl2,q3,fun q=>absurd hm q⟩
  ·exact⟨sl',K y _ q1 (.inr (qx hly hz)) (no (qx hly hz) hm),q2⟩
 ·obtain⟨sl',q⟩:=KS _ _ hfr (.head _)
  exact⟨tk,kv,sl',q⟩
 ·have nr:∀y,InReg z.D (ol (ogB p)) nd y→y∉z.L::fs:=fun y hy=>nf (W.reg y hy).1 (W.reg y hy).2.2.1
  have ekv:=H.d
  refine⟨K _ _ H.d (.inl (fun vs e=>by cases e)) (nr _ (.inl rfl)),H.nodup,fun k hk=>K _ _ (H.i k hk) (.inl (fun vs e=>by cases e)) (nr _ ((be hnd).mp (.inr ⟨k,hk,.inl rfl⟩))),fun k hk=>K _ _ (H.l k hk) (.inl (fun vs e=>by cases e)) (nr _ ((be hnd).mp (.inr ⟨k,hk,.inr rfl⟩))),H.inj,H.off,H.offD,H.ltD,Nat.le_trans H.size hs,H.np0,H.su0,H.epl⟩
 ·cases as with
  |nil=>trivial
  |cons _ _=>exact hra.elim
 ·have:en=[]:=List.map_eq_nil_iff.mp hks
  rw[this] at hx
  cases hx
theorem jky(hA:Room A 520 5200)(hfr:A.frames=some (av z.L::outer))(hff:h₀.FunFrames noBase outer)(hfs:fs=outer.filterMap (·.frame)){N0:Nat}(hN:h₀.objs.size=N0)(K0:af [] h₀ h1)(hz1:h1.objs.size=N0+1)(hzL:z.L=N0)(B:LB (wf w a b c).params p z nd h1 s.heap)(gn:257≤p.NM∧p.NM<N0∧257≤p.NL∧p.NL<N0∧p.NM≠p.NL)(h257:257≤N0)(htab:h₀.get? 229=some (d7 none))(hfo:∀x∈fs,257≤x∧x<N0∧x≠p.NM∧x≠p.NL)
  (hQ:∀s' ring rl M,(ring=true↔∃v,¬ck (fBd p).su v)→WZ p z rl N0 M nd→LX (wf w a b c) p z rl N0 M nd fs h₀ ring [] 7 0 0 (rdy (ogB p) (fBd p).np 8) (fBd p).np [] [] none s'.heap→ae s'=ae s→Q .next s') :
  wpAny (model PG (wf w a b c)) A (execs [eg] (av z.L)) Q E s:=by
 obtain⟨v,LEs⟩:=B.le
 have ap:=B.ap
 have nw:=B.new
 have off:=ap.ok.offS
 have lts:=ap.ok.ltS
 have nS:=ap.ok.neS
 have nA:=ap.nodup
 have hsz:=B.size
 have hlo:=B.reg.size
 replace nS:=nd3 nS
 have ltL:z.L<z.lo:=(ap.off z.L (.head _)).2.1
 have so:SO z.S z.Sd z.D z.lo:=⟨⟨off.1,lts.1,nS.1.2⟩,⟨off.2.1,lts.2.1,nS.2⟩⟩
 have nLS:z.L≠z.S∧z.L≠z.Sd:=⟨(qh (qc (qq (qe hzL) hz1) nw.1)),(qh (qc (qq (qe hzL) hz1) nw.2.1))⟩
 have hLr:∀y,InReg z.D (ol (ogB p)) nd y→y≠z.L:=fun y hy=>by
  rcases(B.reg.lt hy).2.2 with q|q
  ·have:=ax q;exact nne (.inr (qy (qc (qq (qe hzL) hz1) nw.2.2.1) q))
  ·have q':@LE.le Nat _ z.lo y:=q;exact nne (.inr (qv (qc (ql (qc (qq (qe hzL) hz1) nw.1) lts.1) q)))
 have rgN:∀x:Nat,x<N0→¬InReg z.D (ol (ogB p)) nd x:=fun x hx hy=>by
  rcases(B.reg.lt hy).2.2 with q|q
  ·have:=ax q;exact(qn (k:=1) (qq (ql (qy nw.2.2.1 q) hx) hz1))
  ·have q':@LE.le Nat _ z.lo x:=q;exact(qn (k:=2) (qq (ql (qc (ql nw.1 lts.1) q) hx) hz1))
 have hfo3:∀x∈fs,257≤x∧¬InReg z.D (ol (ogB p)) nd x∧x∉[z.L,z.S,z.Sd]:=fun x hx=>by
  have h1:=hfo x hx
  refine⟨h1.1,rgN x h1.2.1,?_⟩
  exact nO3 ⟨(qh (qy h1.2.1 hzL)),(qh (qv (qc (qq h1.2.1 hz1) nw.1))),(qh (qv (qc (qq h1.2.1 hz1) nw.2.1)))⟩
 have lt0:∀{y:Nat} {ob:Obj},h₀.get? y=some ob→s.heap.get? y=some ob:=fun{y ob} e=>B.keep y ob (K0 y ob e n0m) (by
  have:@LT.lt Nat _ y h₀.objs.size:=Heap.lt_size e
  rw[List.mem_singleton];exact nne (.inl (qy (qx this hN) hzL)))
 have ffs:s.heap.FunFrames noBase outer:=hff.of_keeps fun y ob e _=>⟨ob,lt0 e,rfl⟩
 have hfrL:s.heap.get? z.L=some (frL (wf w a b c).params p z false v.2 (.int 0 v.1) [] 7 #[]):=LEs.fr
 have P:Pre (wf w a b c) (om (wf w a b c).params p z v.2 (.int 0 v.1)) s.heap.objs.size s.toks s:=
  ag LEs.based (qc (qb rfl) (qc (ql (qc (qq (ql gn.1 gn.2.1) hz1) nw.1) lts.1) hlo)) ⟨hfrL,LEs.s,LEs.d,zt⟩ (f0 (qy h257 hzL) (qc (qb rfl) (qc (qq (ql gn.1 gn.2.1) hz1) nw.1)) (qc (qb rfl) (qc (qq (ql gn.1 gn.2.1) hz1) nw.2.1))) ⟨⟨zt,nLS.2,zt⟩,⟨zt,zt⟩,zt,zt⟩
 have hcx:Cx.Ok ⟨none,520,5200,some (av z.L::outer)⟩ A:=by rw[←hfr];exact hA.cx
 obtain⟨rg,hrg⟩:∃rg:Bool,rg=true↔∃v,¬ck (fBd p).su v:=by
  by_cases h:∃v,¬ck (fBd p).su v
  ·exact⟨true,⟨fun _=>h,fun _=>rfl⟩⟩
  ·exact⟨false,⟨(fun e=>by cases e),fun e=>absurd e h⟩⟩
 have hmod:∀y,y∈fs→y∉[z.L,z.S,z.Sd]∧y<s.heap.objs.size∧(ktB (wf w a b c).params).get y=none:=fun y hy=>⟨(hfo3 y hy).2.2,by
  have:=(hfo y hy).2.1
  show@LT.lt Nat _ _ _
  exact(qw (k:=2) (qc (ql (qc (qq this hz1) nw.1) lts.1) hlo)),bv (.inl (hfo3 y hy).1)⟩
 have callOk:=jk5 (V:=mkV (wf w a b c) (om (wf w a b c).params p z v.2 (.int 0 v.1)) s.heap.objs.size s.toks) (tk:=v.2) (kv:=.int 0 v.1) (rg:=rg) hrg rfl rfl rfl rfl (qy h257 hzL) so B.reg hLr nLS ffs hfs hfo3
 have behind:∀(o:PrX) (h6:Heap),s.heap.objs.size≤o.ru→h6.get? z.L=some (frL (wf w a b c).params p z false v.2 (.int 0 v.1) [] 7 o.sl)→h6.get? z.S=some (sO z.Sd)→h6.get? z.Sd=some (sD (wf w a b c).params z.q z.D (.ref o.ru) 0 0 z.t1 z.t2)→h6.get? o.ru=some (lO ((rdy (ogB p) (fBd p).np 8).map (nmV p.nt)) (rdy (ogB p) (fBd p).np 8).length) →
   (∀y ob,s.heap.get? y=some ob→y∉[z.L,z.S,z.Sd]→¬y∈fs→h6.get? y=some ob)→(∀y ob,s.heap.get? y=some ob→y∈fs→∃sl,h6.get? y=some { ob with slots:=sl })→s.heap.objs.size≤h6.objs.size →
   WZ p z o.ru N0 h6.objs.size nd∧LX (wf w a b c) p z o.ru N0 h6.objs.size nd fs h₀ false [] 7 0 0 (rdy (ogB p) (fBd p).np 8) (fBd p).np [] [] none h6:=fun o h6 hru x0 x1 x2 xr K KF hs6=>
  jpf (v:=v) hN K0 hz1 hzL B gn h257 htab hfo hru ⟨Heap.lt_size xr,Nat.le_refl _⟩ x0 x1 x2 xr (fun y ob e h1 h2 h3=>by
   by_cases e2:y=z.S
   ·exact sg LEs.s x1 e e2
   ·exact K y ob e (by refine nO3 ?_;exact⟨h1,e2,h2⟩) h3) KF
 refine wpAny_execs_cons ?_
 first|refine xq1 jb ?_|refine xq2 jb ?_|refine xq3 jb ?_|rw[jb]
 refine wpAny_Try_except ?_
 cases rg with
 |false=>
  refine dr (modA:=fun y=>y∈fs) (vq false) P hcx hcx ⟨zt,callOk,hmod,(fun y hy=>hy),fun o h5 _ hf5 hsz5 hle5 _ _ _ _ _=>⟨zt,fun h6 hsz6 hex6 hkept6 hacc6=>?_⟩⟩
  have hsz5':h5.objs.size=o.size:=hsz5
  have hle5':s.heap.objs.size+0≤o.size:=hle5
  have hsz6':h6.objs.size=o.size+0:=hsz6
  obtain⟨f1,f2,f3,f4⟩:=hf5
  have nru:o.ru∉[z.L,z.S,z.Sd]:=by
   exact nO3 ⟨(qj (qv (qc (qc (ql (qc (qq (qe hzL) hz1) nw.1) lts.1) hlo) f1))),(qj (qc (qc lts.1 hlo) f1)),(qj (qc (qc lts.2.1 hlo) f1))⟩
  have x0:h6.get? z.L=some (frL (wf w a b c).params p z false v.2 (.int 0 v.1) [] 7 o.sl):=hex6 (0,_) (.head _)
  have x1:h6.get? z.S=some (sO z.Sd):=hex6 (1,_) (.tail _ (.head _))
  have x2:h6.get? z.Sd=some (sD (wf w a b c).params z.q z.D (.ref o.ru) 0 0 z.t1 z.t2):=hex6 (2,_) (.tail _ (.tail _ (.head _)))
  obtain⟨W,F⟩:=behind o h6 f1 x0 x1 x2 (hkept6 _ _ f2 nru) (fun y ob e hy hm=>hacc6 y ob e hy hm) (fun y ob e hm=>by
   obtain⟨sl,q⟩:=f3 y ob e hm
   exact⟨sl,hkept6 _ _ q (hfo3 y hm).2.2⟩) (qy hle5' hsz6')
  exact wpAny_execs_nil (wpAny_execs_nil (hQ ((ae s).at h6 (o.toks+0)) false o.ru h6.objs.size hrg W F rfl))
 |true=>
  refine dr (modA:=fun y=>y∈fs) (vq true) P hcx hcx ⟨zt,callOk,hmod,(fun y hy=>hy),fun o h5 _ hf5 hsz5 hle5 _ _ _ _ _=>⟨zt,fun h6 hsz6 hex6 hkept6 hacc6=>?_⟩⟩
  have hsz5':h5.objs.size=o.size:=hsz5
  have hle5':s.heap.objs.size+0≤o.size:=hle5
  have hsz6':h6.objs.size=o.size+0:=hsz6
  obtain⟨f1,f2,f3,f4⟩:=hf5
  obtain⟨fe,fT⟩:=f4 rfl
  have nru:o.ru∉[z.L,z.S,z.Sd]:=by
   exact nO3 ⟨(qj (qv (qc (qc (ql (qc (qq (qe hzL) hz1) nw.1) lts.1) hlo) f1))),(qj (qc (qc lts.1 hlo) f1)),(qj (qc (qc lts.2.1 hlo) f1))⟩
  have x0:h6.get? z.L=some (frL (wf w a b c).params p z false v.2 (.int 0 v.1) [] 7 o.sl):=hex6 (0,_) (.head _)
  have x1:h6.get? z.S=some (sO z.Sd):=hex6 (1,_) (.tail _ (.head _))
  have x2:h6.get? z.Sd=some (sD (wf w a b c).params z.q z.D (.ref o.ru) 0 0 z.t1 z.t2):=hex6 (2,_) (.tail _ (.tail _ (.head _)))
  obtain⟨W,F⟩:=behind o h6 f1 x0 x1 x2 (hkept6 _ _ f2 nru) (fun y ob e hy hm=>hacc6 y ob e hy hm) (fun y ob e hm=>by
   obtain⟨sl,q⟩:=f3 y ob e hm
   exact⟨sl,hkept6 _ _ q (hfo3 y hm).2.2⟩) (qy hle5' hsz6')
  have hiL:∀y:Nat,s.heap.objs.size≤y→y∉[z.L,z.S,z.Sd]:=fun y hy=>by
   exact nO3 ⟨(qj (qv (qc (qc (ql (qc (qq (qe hzL) hz1) nw.1) lts.1) hlo) hy))),(qj (qc (qc lts.1 hlo) hy)),(qj (qc (qc lts.2.1 hlo) hy))⟩
  have T6:TracedAt s.heap.objs.size h6 o.e (.ref 120):=by
   obtain⟨oe,vs,TB,oT,ts,t1,t2,t3,t4,t5,t6,t7,t8,t9⟩:=fT.ex
   exact⟨oe,vs,TB,oT,ts,hkept6 _ _ t1 (hiL _ fe),t2,t3,t4,t5,t6,hkept6 _ _ t7 (hiL _ t6),t8,t9⟩
  have SB:SlotsBut z.Sd (z.L::fs) s.heap h6:=fun y ob e hy=>by
   by_cases hm:y∈fs
   ·obtain⟨sl,q⟩:=f3 y ob e hm
    exact⟨sl,hkept6 _ _ q (hfo3 y hm).2.2,fun q=>absurd (.tail _ hm) q⟩
   ·by_cases e1:y=z.L
    ·subst e1;rw[hfrL] at e;cases e;exact⟨_,x0,fun q=>absurd (.head _) q⟩
    ·by_cases e2:y=z.S
     ·subst e2;rw[LEs.s] at e;cases e;exact⟨_,x1,fun _=>rfl⟩
     ·exact⟨ob.slots,hacc6 y ob e (fun q=>by
       have q':y∈[z.L,z.S,z.Sd]:=q
       replace q':=mO3 q'
       rcases q' with q|q|q
       ·exact e1 q
       ·exact e2 q
       ·exact hy q) hm,fun _=>rfl⟩
  have ff6:h6.FunFrames noBase (av z.L::outer):=⟨by rw[E4];exact(fun e=>by cases e),⟨z.L,_,rfl,cf _,x0,(fun vs e=>by cases e)⟩,SB.funFrames (by rw[←hfs];exact fun q=>by have:=(hfo _ q).2.1;exact(qn (k:=1) (qq (ql nw.2.1 this) hz1))) ffs⟩
  have hfL:(av z.L::outer).filterMap (·.frame)=z.L::fs:=by rw[hfs];rfl
  show wpAny _ A (noteFrame (.ref o.e) (av z.L)) _ _ ((ae s).at h6 (o.toks+0))
  refine i4 (s:=(ae s).at h6 (o.toks+0)) hfr ff6 rfl T6 (by show s.heap.objs.size≤h6.objs.size;exact(qy hle5' hsz6')) fun h7 hs7 K7 KS7 T7 F7=>?_
  rw[hfL] at K7 KS7
  have hs7':h6.objs.size≤h7.objs.size:=hs7
  have FX7:=F.rel2 W hN hfo (h':=h7) hs7' (fun y ob e hy hm=>K7 y ob e (hy.imp id (fun hlt=>⟨by show@LT.lt Nat _ _ _;exact(qw (k:=2) (qc (ql (qc (qq hlt hz1) nw.1) lts.1) hlo)),nne (.inl (qw (k:=2) (qc (qc (ql (qc (qq hlt hz1) nw.1) lts.1) hlo) (f4 rfl).1)))⟩)) hm) (fun y ob e hm=>KS7 y ob e hm)
  refine wpAny_handleBy_cons ?_ (by intro q;cases q)
  refine codeAny_handlers_test ?_
  have hmk:Cx.Ok ⟨some (.ref o.e),520,5200,A.frames⟩ (A.mark (some (.ref o.e))):=by
   have:=(hA.cx).mark (some (.ref o.e))
   exact this
  have P7:=ag (w:=wf w a b c) (s:=({ (ae s).at h6 (o.toks+0) with heap:=h7 }:Shared)) (pre:=[]) FX7.based (FX7.ge257 W) zt zt zt
  refine bq (jej (z:=z) (some (.ref o.e)) A.frames) P7 hmk hmk rfl zt fun s8 P8 K8 r8=>?_
  have K8':∀y ob,h7.get? y=some ob→s8.heap.get? y=some ob:=fun y ob e=>K8 y ob e n0m
  have hs8:s8.heap.objs.size=h7.objs.size:=P8.size
  obtain⟨oe,vs,TB,oT,ts,t1,t2,t3,t4,t5,t6,t7,t8,t9⟩:=T7.ex
  obtain⟨oc,od,oda,osl⟩:=oe
  have t2':oc=.ref 120:=t2
  subst t2'
  have FX8:=FX7.same W hN (h':=s8.heap) (fun y ob e _=>K8' y ob e) (qg hs8)
  have P9:=ag (w:=wf w a b c) (pre:=[(o.e,⟨.ref 120,od,oda,osl⟩)]) FX8.based (FX8.ge257 W) ⟨K8' _ _ t1,zt⟩ (b6 (qc (qb rfl) (qc (qc (ql (qc (qq (ql gn.1 gn.2.1) hz1) nw.1) lts.1) hlo) (f4 rfl).1))) ⟨zt,zt⟩
  rw[show excMatches (.ref o.e) (.ref 120)=PySem.W.Fast.tw17346088374725804007 (.ref o.e) (.ref 120) from by rw[PySem.W.Fast.te17346088374725804007]]
  refine cy (inj:=fun v=>.ret (.bool v)) (jec (some (.ref o.e)) A.frames) P9 hmk hmk rfl zt fun s9 P10 K10 r10=>?_
  intro bb hbb
  have hbb':bb=true:=by
   injection hbb with e1
   injection e1
  subst hbb'
  first|refine itp rfl ?_|rw[if_pos rfl]
  have K10':af [] s8.heap s9.heap:=am P9 P10.has K10 ⟨.inl rfl,zt⟩
  have hs9:s9.heap.objs.size=s8.heap.objs.size:=P10.size
  have FX9:=FX8.same W hN K10' (qg hs9)
  have up:∀y ob,h7.get? y=some ob→s9.heap.get? y=some ob:=fun y ob e=>K10' _ _ (K8' _ _ e) n0m
  show codeAny _ (A.mark (some (.ref o.e))) (.handlers (.ref o.e) [.ExceptHandler none none [ak (hdB (hdS eg)) 0] (jk6 (hdS eg))] (av z.L)) _ s9
  refine codeAny_handlers_suite ?_
  refine wpAny_setFlight_none (up _ _ t1) t3 t4 (up _ _ t7) t8 (Array.getElem?_eq_some_iff.mp t9).1 ?_
  have hT9:=up _ _ t7
  have hTB:@LE.le Nat _ s.heap.objs.size TB:=t6
  have hzu:(s9.heap.update TB (Obj.mapFields (·.setIfInBounds 3 .none))).objs.size=s9.heap.objs.size:=Heap.size_after_update ..
  have FX10:=FX9.rel2 W hN hfo (h':=s9.heap.update TB (Obj.mapFields (·.setIfInBounds 3 .none))) (qg hzu) (fun y ob e hy hm=>?_) (fun y ob e hm=>?_)
  ·rw[←jei]
   generalize s9.heap.update TB (Obj.mapFields (·.setIfInBounds 3 .none))=h10 at FX10 hzu
   obtain⟨tk,kv,sl,hfr10⟩:=FX10.fr
   have P11:=ag (w:=wf w a b c) (s:={ s9 with heap:=h10 }) (pre:=[(z.L,frL (wf w a b c).params p z false tk kv [] 7 sl)]) FX10.based (FX10.ge257 W) ⟨hfr10,zt⟩ (b6 (qy h257 hzL)) ⟨zt,zt⟩
   refine ay (jem (some (.ref o.e)) A.frames) P11 hmk hmk rfl zt fun s12 P12 K12 r12=>?_
   have K12':af [z.L] h10 s12.heap:=K12
   have FX12:=FX10.frame W hN K12' (ch P12) (ring':=true) ⟨tk,kv,sl,P12.has (z.L,_) (.head _)⟩
   exact wpAny_execs_nil (hQ s12 true o.ru h6.objs.size hrg W FX12 (r12.trans (r10.trans r8)))
  ·refine(Heap.get?_update_other _ _ (fun q=>?_)).trans e
   rcases hy with hy|hy
   ·rw[←q,hT9] at e
    cases e
    exact hy ts t8
   ·have:=ax q;exact(qn (k:=2) (qq (ql (qx (qc (qc (ql nw.1 lts.1) hlo) t6) q) hy) hz1))
  ·refine⟨ob.slots,(Heap.get?_update_other _ _ (fun q=>?_)).trans e⟩
   have q':=ax q
   rcases List.mem_cons.mp hm with rfl|hm
   ·exact(qn (k:=1) (qq (qx (qx (qc (qc (ql nw.1 lts.1) hlo) t6) q) hzL) hz1))
   ·have:=(hfo y hm).2.1;exact(qn (k:=2) (qq (ql (qx (qc (qc (ql nw.1 lts.1) hlo) t6) q) this) hz1))
end
theorem RA.mono{h:Heap}{M N:Nat}(hM:N≤M){nt:Fin 8→Nat}:∀{as:List Nat} {rs:List (List (Fin 8))},RA h M nt as rs→RA h N nt as rs
 |[],[],_=>trivial
 |a::as,r::rs,H=>⟨Nat.le_trans hM H.1,H.2.1,H.2.2.mono hM⟩
 |[],_::_,H=>H.elim
 |_::_,[],H=>H.elim
theorem EndV.mono{p:Par}{h:Heap}{M N:Nat}(hM:N≤M){x:Fin 8×Value}(H:EndV p M h x):EndV p N h x:=by
 obtain⟨a,m,t1,t2,t3,h1,h2,h3,h4⟩:=H
 exact⟨a,m,t1,t2,t3,h1,h2,Nat.le_trans hM h3,h4⟩
structure LRes(w:World)(p:Par)(N0:Nat)(h':Heap)(ra:Nat)(rs:List (List (Fin 8)))(ps:List (Fin 8))(ring:Bool):Prop where
 ge:N0≤ra
 top:∃rr re:Nat,N0≤rr∧N0≤re∧h'.get? ra=some (lO [.ref rr,.bool ring,.ref re] 0)∧(∃as e,h'.get? rr=some (lO (as.map Value.ref) e)∧RA h' N0 p.nt as rs)∧∃kv e,h'.get? re=some (dO w.params p.nt kv e)∧kv.map (·.1)=ps∧∀x∈kv,EndV p N0 h' x
 tab:∃tb,h'.get? 229=some (d7 tb)
section
variable{w:World}{a b c:Bool}{p:Par}{fs:List Nat}{A:Around}{s:Shared}{outer:List Env}{R:Result→Shared→Prop}
theorem jpi(hA:Room A 500 1000)(hfr:A.frames=some outer)(hff:s.heap.FunFrames noBase outer)(hfs:fs=outer.filterMap (·.frame))(B:Based (wf w a b c).params s.heap)(h257:257≤s.heap.objs.size)(hNM:s.heap.get? p.NM=some (lO (ai p.nt) p.e1))(hNL:s.heap.get? p.NL=some (lO (a8 p.n p.tn) p.e2))
  (oNM:257≤p.NM) (oNL:257≤p.NL) (ne:p.NM≠p.NL) (htab:s.heap.get? 229=some (d7 none)) (hfo:∀x∈fs,257≤x∧x≠p.NM∧x≠p.NL)
  (hR:∀h' tk' ra np rs ps ring,LRes (wf w a b c) p s.heap.objs.size h' ra rs ps ring→PI p [] np rs ps→(ring=true↔∃v,¬ck (fBd p).su v)→SlotsBut 229 fs s.heap h'→Based (wf w a b c).params h'→s.heap.objs.size≤h'.objs.size→R (rv (.ref ra)) { s with heap:=h',toks:=tk' }) :
  codeAny (model PG (wf w a b c)) A (.call (.ref 241) ⟨[.ref p.NM,.ref p.NL],[]⟩) R s:=by
 have ltM:@LT.lt Nat _ p.NM s.heap.objs.size:=Heap.lt_size hNM
 have ltN:@LT.lt Nat _ p.NL s.heap.objs.size:=Heap.lt_size hNL
 refine dg (jep p.NM p.NL A.frames) (ag (w:=wf w a b c) (pre:=[]) B h257 zt zt zt) hA.cx  rfl zt (chg:=[]) zt fun s1 P1b P1z K1' r1 P1x=>?_
 have hs1:s1.heap.objs.size=s.heap.objs.size+1:=P1z
 have hL:s1.heap.get? s.heap.objs.size=some (frO (wf w a b c).params [("names",s.toks,.ref p.NM),("numbers",s.toks+1,.ref p.NL)] 2):=P1x 0 _ _ (s.heap.objs.size) rfl rfl
 have hfo2:∀x∈fs,257≤x∧x<s.heap.objs.size∧x≠p.NM∧x≠p.NL:=fun x hx=>by
  have h1:=hfo x hx
  rw[hfs] at hx
  exact⟨h1.1,bo hff x hx,h1.2⟩
 generalize hN0:s.heap.objs.size=N0 at *
 show codeAny _ A (.func lrS (av N0)) R s1
 refine codeAny_func ?_
 have hA2:Room (A.deeper (av N0)) 520 5200:=(hA.deeper _).mono (qb rfl) (qb rfl)
 have hfr2:(A.deeper (av N0)).frames=some (av N0::outer):=by
  show A.frames.map _=_
  rw[hfr];rfl
 generalize A.deeper (av N0)=A2 at hA2 hfr2
 first|refine xq1 oj ?_|refine xq2 oj ?_|refine xq3 oj ?_|rw[oj]
 refine jk2 hA2 P1b hL (K1' _ _ hNM n0m) (K1' _ _ hNL n0m) (by omega) oNM oNL ne fun s2 z nd hzL LBs r2=>?_
 subst hzL
 refine ah _ _ ?_
 show wpAny _ A2 (execs [eg] (av z.L)) _ _ s2
 refine jky hA2 hfr2 hff hfs hN0 K1' hs1 rfl LBs ⟨oNM,ltM,oNL,ltN,ne⟩ h257 htab hfo2 fun s3 ring rl M hrg W F r3=>?_
 show wpAny _ A2 (execs ([lrW]++[ak lrS 4]) (av z.L)) _ _ s3
 refine ah _ _ (wpAny_execs_cons ?_)
 first|refine xq1 oh ?_|refine xq2 oh ?_|refine xq3 oh ?_|rw[oh]
 refine wpAny_While ?_
 show codeAny _ A2 (lwC z.L) _ s3
 refine jpg hA2 W hN0 F (PI.start p LBs.reg.nodup) fun s4 ext ep po np rs ps tb F4 I4 r4=>wpAny_execs_nil ?_
 obtain⟨tk,kv,sl,hfr4⟩:=F4.fr
 obtain⟨as,e,hro,hra⟩:=F4.rounds
 obtain⟨en,ee,hen,hks,hev⟩:=F4.ends
 have g:=W.ge
 have l:=W.lt
 have hsz:=F4.size
 refine bc (wo none A2.frames) (ag (w:=wf w a b c) (pre:=[(z.L,frL (wf w a b c).params p z ring tk kv ext ep sl)]) F4.based (F4.ge257 W) ⟨hfr4,zt⟩ (b6 (by omega)) ⟨zt,zt⟩) hA2.cx hA2.cx rfl zt (chg:=[]) ⟨.inl rfl,zt⟩ fun s5 P6b P6z K6' r6 P6x=>?_
 have kt:∀{y:Nat} {ob:Obj},s4.heap.get? y=some ob→s5.heap.get? y=some ob:=fun{y ob} e=>K6' y ob e n0m
 have hs5:s5.heap.objs.size=s4.heap.objs.size+1:=P6z
 have:=hR s5.heap s5.toks s4.heap.objs.size np rs ps ring ⟨(qv (qc l.1 hsz)),⟨z.rl,z.ed,g.2.2.2.2.1,g.2.2.2.2.2.1,(P6x 1 _ _ (s4.heap.objs.size) rfl rfl),⟨as,e,kt hro,(hra.keep K6' (fun y hy=>nomatch hy)).mono (qv l.1)⟩,⟨en,ee,kt hen,hks,fun x hx=>((hev x hx).keep K6' (fun y hy=>nomatch hy)).mono (qv l.1)⟩⟩,⟨tb,kt F4.tab⟩⟩ I4 hrg (fun y ob q hy=>by
   obtain⟨sl',q1,q2⟩:=F4.keep y ob q hy
   exact⟨sl',kt q1,q2⟩) P6b (qw (k:=2) (qq (qc l.1 hsz) P6z))
 have rr:=r6.trans (r4.trans (r3.trans (r2.trans r1)))
 rw[←cm rr] at this
 exact this
end
noncomputable def duS:List Stmt:=d6 (st1 26)
noncomputable def co(L d m:Nat):Env:=⟨ky (st1 26),L,3,[(sn "many",m),(sn "deep",d)],sn "_law_due.<locals>.",some 246,.ref 245,some L,0⟩
noncomputable def ceO(v:Option Value):Obj:=⟨.type "cell",none,.cell v,#[]⟩
section
variable{w:World}{a b c:Bool}{N t₀:Nat}{p:Par}
noncomputable def jh8:List Nat:=[0,1,1,1,1]
noncomputable def jh9:List CH:=[.f,.stop]
theorem jh7(ff:Option (List Env)):c9 60 (wf w a b c) N t₀ ([]) (.fin jh8 jh9 ⟨.ok (.again (.func duS (co N (N+1) (N+2)))),[(0,frO (wf w a b c).params [("names",t₀,.ref p.NM),("numbers",t₀+1,.ref p.NL)] 2),(1,ceO none),(2,ceO none)],3,2⟩) ⟨none,500,5000,ff⟩ ((.call (.ref 246) ⟨[.ref p.NM,.ref p.NL],[]⟩)):=by kernel_rfl
end
noncomputable def duF:Stmt:=ak duS 1
noncomputable def duW:Stmt:=ak (inS duF) 1
noncomputable def duI:Stmt:=ak (inS duF) 2
noncomputable def duM:Stmt:=ak duS 2
noncomputable def frU(P:Params)(p:Par)(f:Nat→Nat)(ends rounds:Nat)(ext:Ext)(ep:Nat):Obj:=frS P (("names",f 0,.ref p.NM)::("numbers",f 1,.ref p.NL)::("ends",f 2,.ref ends)::("rounds",f 3,.ref rounds)::ext) ep #[]
noncomputable def fD(t1 t2 t:Nat):Nat→Nat
 |0=>t1
 |1=>t2
 |n+2=>t+n
noncomputable def rgU(n t:Nat):Obj:=⟨.type "range",none,.fields #[.int 0 (t+1),.int n t,.int 1 (t+2)],#[]⟩
noncomputable def nnX(hnd:Option Value)(p:Par)(k:Fin 8)(t j i tk:Nat):XSpec:=⟨.call (.builtin "list.__getitem__") ⟨[.ref p.NM,.int k.val t],[]⟩,980,9800,hnd,[(j,lO (ai p.nt) p.e1)],i,tk,rv (nmV p.nt k),[],[],0⟩
noncomputable def p2X(l:Nat)(n:Int)(t u ti j i tk:Nat):XSpec:=
 ⟨.call (.builtin "list.__getitem__") ⟨[.ref l,.int (n.fmod 3) ti],[]⟩,980,9800,none,[(j,lO [.int 16384 t,.int 32768 u] 0)],i,tk,rv (.int (bp n 16384 32768 40960) (bp n t u 0)),[],[],0⟩
section
variable{V:SV}{h₀:Heap}{hnd:Option Value}{p:Par}{k:Fin 8}{l t u ti j i tk:Nat}{n:Int}
theorem nq(hp:aj V.pre V.N j=p.NM):XOk V h₀ (nnX hnd p k t j i tk):=bn fun A s R _ _ _ hpre hR=>by
 have h1:=hpre (j,_) (.head _)
 rw[hp] at h1
 refine si h1 (Int.natCast_nonneg _) (by simp[ai]) ?_ hR
 rw[Int.toNat_natCast]
 exact gk p.nt k
theorem A7(hp:aj V.pre V.N j=l)(hn:(n.fmod 3==2)=false):XOk V h₀ (p2X l n t u ti j i tk):=
 bn fun A s R _ _ _ hpre hR=>by
  have h1:=hpre (j,_) (.head _)
  rw[hp] at h1
  have hm:=jd3 n
  have h2:n.fmod 3≠2:=fun e=>by rw[e] at hn;cases hn
  refine si h1 (by omega) (by simp) (x:=.int (bp n 16384 32768 40960) (bp n t u 0)) ?_ hR
  rw[←ry n 16384 32768 40960 t u 0]
  unfold bp
  rcases hm with h|h|h
  ·simp[h]
  ·simp[h]
  ·exact absurd h h2
end
noncomputable def A0(n:Int)(t1 t2 t3:Nat):Obj:=tuO [.int (bp n 16384 32768 40960) t1,.int ((n.fdiv 12288).fmod 3) t2,.int ((n.fdiv 36864).fmod 2) t3]
section
variable{w:World}{a b c:Bool}{N t₀ L d m en ro tv tk tw wy we t7 tn dp t9 de ee it rg t t3 t4 tx ep:Nat}{p:Par}{f:Nat→Nat}{kv wv xv:Value}{ext:Ext}{k j:Fin 8}{xs:List Value}{dv ev:KV}
noncomputable def jid:List Nat:=dH 40 28045193178886499897272103806522612701004516856401171460859054427496838
noncomputable def jie:List CH:=[.p,.p,.p,.p,.p,.p,.p,.p,.p,.p]
theorem jic(ff:Option (List Env)):au 400 (wf w a b c) N t₀ ([(L,frO (wf w a b c).params [("names",t3,.ref p.NM),("numbers",t4,.ref p.NL)] 2),(d,ceO none)]) (.fin jid jie ⟨.ok (.done .next),[(0,frU (wf w a b c).params p (fD t3 t4 t₀) (N+1) (N+2) [] 4),(1,ceO (some (.ref N))),(2,dO (wf w a b c).params p.nt [] 0),(3,dO (wf w a b c).params p.nt [] 0),(4,lO [] 0)],7,2⟩) ⟨none,520,5200,ff⟩ (ar [ak duS 0] (co L d m)):=by cases c<;>kernel_rfl
noncomputable def jhz:List Nat:=dH 6 1090785280
noncomputable def jh0:List CH:=[.p,.p,.p,.p,.p,.p]
theorem jhy(ff:Option (List Env)):au 100 (wf w a b c) N t₀ ([]) (.fin jhz jh0 ⟨.ok (.done (.ret (.ref N))),[(0,rgU 8 t₀)],1,3⟩) ⟨none,520,5200,ff⟩ (evT (fi duF) (co L d m)):=by kernel_rfl
noncomputable def jh5:List Nat:=dH 7 138529738817
noncomputable def jh6:List CH:=[.p,.p]
theorem jh4(ff:Option (List Env)):au 60 (wf w a b c) N t₀ ([(rg,rgU 8 t)]) (.fin jh5 jh6 ⟨.ok (.done (.ret (.ref N))),[(0,rgU 8 t),(1,bd 0 8 1)],1,0⟩) ⟨none,520,5200,ff⟩ (itT (.ref rg)):=by cases c<;>kernel_rfl
noncomputable def jhw:List Nat:=dH 9 285942833483841
noncomputable def jhx:List CH:=[.p,.p]
theorem jhv(ff:Option (List Env)):∀(i:Fin 8),au 60 (wf w a b c) N t₀ ([(it,bd (i.val:Int) ((8-i.val:Nat):Int) 1)]) (.fin jhw jhx ⟨.ok (.done (gw (some (.int (i.val:Int) t₀)))),[(0,bd ((i.val+1:Nat):Int) ((8-(i.val+1):Nat):Int) 1)],0,1⟩) ⟨none,520,5200,ff⟩ (nxT (.ref it))  := F8 (by kernel_rfl) (by kernel_rfl) (by kernel_rfl) (by kernel_rfl) (by kernel_rfl) (by kernel_rfl) (by kernel_rfl) (by kernel_rfl)
noncomputable def U7:List Nat:=dH 6 3238268993
noncomputable def U8:List CH:=[.p,.p]
theorem U6(ff:Option (List Env)):au 60 (wf w a b c) N t₀ ([(it,bd 8 0 1)]) (.fin U7 U8 ⟨.ok (.done (gw none)),[(0,bd 8 0 1)],2,0⟩) ⟨none,520,5200,ff⟩ (nxT (.ref it)):=by kernel_rfl
noncomputable def Y9:List Nat:=[1,1]
noncomputable def Z0:List CH:=[]
theorem Y8(ff:Option (List Env)):au 60 (wf w a b c) N t₀ ([(L,frU (wf w a b c).params p f en ro [] 4)]) (.fin Y9 Z0 ⟨.ok (.done .next),[(0,frU (wf w a b c).params p f en ro [("k",t₀,.int k.val tv)] 5)],0,1⟩) ⟨none,520,5200,ff⟩ (asT (teS duF) (co L d m) (.int k.val tv)):=by kernel_rfl
noncomputable def Y6:List Nat:=[1,1]
noncomputable def Y7:List CH:=[]
theorem te(ff:Option (List Env)):au 60 (wf w a b c) N t₀ ([(L,frU (wf w a b c).params p f en ro (("k",tk,kv)::("way",tw,wv)::ext) ep)]) (.fin Y6 Y7 ⟨.ok (.done .next),[(0,frU (wf w a b c).params p f en ro (("k",tk,.int k.val tv)::("way",tw,wv)::ext) ep)],0,1⟩) ⟨none,520,5200,ff⟩ (asT (teS duF) (co L d m) (.int k.val tv)):=by kernel_rfl
noncomputable def U4:List Nat:=[1,1,1]
noncomputable def U5:List CH:=[]
theorem U3(ff:Option (List Env)):au 60 (wf w a b c) N t₀ ([(L,frU (wf w a b c).params p f en ro [("k",tk,.int k.val tv)] 5)]) (.fin U4 U5 ⟨.ok (.done .next),[(0,frU (wf w a b c).params p f en ro [("k",tk,.int k.val tv),("way",t₀,.ref N)] 6),(1,lO [.int k.val tv] 0)],1,1⟩) ⟨none,520,5200,ff⟩ (ar [ak (inS duF) 0] (co L d m)):=by kernel_rfl
noncomputable def U1:List Nat:=[1,1,1]
noncomputable def U2:List CH:=[]
theorem U0(ff:Option (List Env)):au 60 (wf w a b c) N t₀ ([(L,frU (wf w a b c).params p f en ro (("k",tk,.int k.val tv)::("way",tw,wv)::ext) ep)]) (.fin U1 U2 ⟨.ok (.done .next),[(0,frU (wf w a b c).params p f en ro (("k",tk,.int k.val tv)::("way",tw,.ref N)::ext) ep),(1,lO [.int k.val tv] 0)],1,1⟩) ⟨none,520,5200,ff⟩ (ar [ak (inS duF) 0] (co L d m)):=by kernel_rfl
noncomputable def V0:List Nat:=dH 11 1152934908160122945
noncomputable def V1(X0 X1 X2 X3 X4:XSpec):List CH:=[.p,.p,.x X0,.x X1,.p,.p,.x X2,.x X3,.x X4]
theorem U9(ff:Option (List Env)):∀(r:Bool),au 100 (wf w a b c) N t₀ ([(L,frU (wf w a b c).params p f en ro (("k",tk,kv)::("way",tw,.ref wy)::ext) ep),(wy,lO (xs++[.int j.val t7]) we),(p.NL,lO (a8 p.n p.tn) p.e2)]) (.fin V0 (V1 (lgX none wy xs (.int j.val t7) we (t₀+1) 1 0 2) (nuX none p j t7 2 0 2) (lm ((p.n j).fmod 3) (t₀+3) 2 (t₀+4) 0 5 true) (lnX none wy (xs++[.int j.val t7]) we (t₀+6) 1 0 5) (ltX none ((xs++[Value.int j.val t7]).length:Int) (t₀+6) 10 (t₀+7) 0 8 r)) ⟨.ok (.done (.ret (.bool r))),[(0,frU (wf w a b c).params p f en ro (("k",tk,kv)::("way",tw,.ref wy)::ext) ep),(1,lO (xs++[.int j.val t7]) we),(2,lO (a8 p.n p.tn) p.e2)],0,8⟩) ⟨none,520,5200,ff⟩ (trT (teS duW) (co L d m))
 |true=>by cases c<;>kernel_rfl
 |false=>by cases c<;>kernel_rfl
noncomputable def V3:List Nat:=dH 8 13403553275969
noncomputable def V4(X0 X1 X2:XSpec):List CH:=[.p,.p,.x X0,.x X1,.p,.p,.x X2]
theorem V2(ff:Option (List Env)):au 100 (wf w a b c) N t₀ ([(L,frU (wf w a b c).params p f en ro (("k",tk,kv)::("way",tw,.ref wy)::ext) ep),(wy,lO (xs++[.int j.val t7]) we),(p.NL,lO (a8 p.n p.tn) p.e2)]) (.fin V3 (V4 (lgX none wy xs (.int j.val t7) we (t₀+1) 1 0 2) (nuX none p j t7 2 0 2) (lm ((p.n j).fmod 3) (t₀+3) 2 (t₀+4) 0 5 false)) ⟨.ok (.done (.ret (.bool false))),[(0,frU (wf w a b c).params p f en ro (("k",tk,kv)::("way",tw,.ref wy)::ext) ep),(1,lO (xs++[.int j.val t7]) we),(2,lO (a8 p.n p.tn) p.e2)],0,5⟩) ⟨none,520,5200,ff⟩ (trT (teS duW) (co L d m)):=by cases c<;>kernel_rfl
noncomputable def jh2:List Nat:=dH 13 14391955742620163514497
noncomputable def jh3(X0 X1 X2:XSpec):List CH:=[.p,.p,.x X0,.x X1,.p,.p,.p,.p,.x X2]
theorem jh1(ff:Option (List Env)):au 100 (wf w a b c) N t₀ ([(L,frU (wf w a b c).params p f en ro (("k",tk,kv)::("way",tw,.ref wy)::ext) ep),(wy,lO (xs++[.int j.val t7]) we),(p.NL,lO (a8 p.n p.tn) p.e2)]) (.fin jh2 (jh3 (lgX none wy xs (.int j.val t7) we (t₀+1) 1 0 2) (nuX none p j t7 2 0 2) (laX none wy (xs++[.int j.val t7]) we (.int (((p.n j).fdiv 1536).fmod 8) (t₀+5)) 1 0 6)) ⟨.ok (.done .next),[(0,frU (wf w a b c).params p f en ro (("k",tk,kv)::("way",tw,.ref wy)::ext) ep),(1,lO ((xs++[.int j.val t7])++[.int (((p.n j).fdiv 1536).fmod 8) (t₀+5)]) (we+1)),(2,lO (a8 p.n p.tn) p.e2)],0,6⟩) ⟨none,520,5200,ff⟩ (ar (inS duW) (co L d m)):=by kernel_rfl
noncomputable def jaa:List Nat:=[0,0,1]
noncomputable def jab(X0 X1:XSpec):List CH:=[.x X0,.x X1]
theorem Z9(ff:Option (List Env)):au 100 (wf w a b c) N t₀ ([(L,frU (wf w a b c).params p f en ro (("k",tk,kv)::("way",tw,.ref wy)::ext) ep),(wy,lO xs we)]) (.fin jaa (jab (lnX none wy xs we (t₀+1) 1 0 0) (ltX none (xs.length:Int) (t₀+1) 10 (t₀+2) 0 3 false)) ⟨.ok (.done .next),[(0,frU (wf w a b c).params p f en ro (("k",tk,kv)::("way",tw,.ref wy)::ext) ep),(1,lO xs we)],0,3⟩) ⟨none,520,5200,ff⟩ (ar [duI] (co L d m)):=by cases c<;>kernel_rfl
noncomputable def Z7:List Nat:=dH 38 47923779184772419918529687045438762495562142605051578407560751091712
noncomputable def Z8(X0 X1 X2 X3 X4 X5 X6 X7 X8 X9:XSpec):List CH:=[.x X0,.x X1,.p,.p,.x X2,.x X3,.x X4,.p,.p,.x X5,.x X6,.p,.p,.x X7,.p,.p,.p,.p,.p,.p,.p,.p,.p,.x X8,.x X9]
theorem Z6(ff:Option (List Env)):au 300 (wf w a b c) N t₀ ([(L,frU (wf w a b c).params p f en ro [("k",tk,.int k.val tv),("way",tw,.ref wy)] 6),(wy,lO (xs++[.int j.val t7]) we),(p.NL,lO (a8 p.n p.tn) p.e2),(p.NM,lO (ai p.nt) p.e1),(d,ceO (some (.ref dp))),(dp,dO (wf w a b c).params p.nt dv de),(en,dO (wf w a b c).params p.nt ev ee)]) (.fin Z7 (Z8 (lnX none wy (xs++[.int j.val t7]) we (t₀+1) 1 0 0) (ltX none ((xs++[Value.int j.val t7]).length:Int) (t₀+1) 10 (t₀+2) 0 3 true) (lgX none wy xs (.int j.val t7) we (t₀+4) 1 0 5) (nuX none p j t7 2 0 5) (lnX none wy (xs++[.int j.val t7]) we (t₀+7) 1 0 6) (nnX none p k tv 3 0 10) (dnX none (wf w a b c).params dp p.nt k dv de 5 0 10 (.int (((xs++[Value.int j.val t7]).length:Int)-1) (t₀+9))) (p2X N (p.n j) (t₀+11) (t₀+12) (t₀+14) 7 1 15) (nnX none p k tv 3 2 23) (dnX none (wf w a b c).params en p.nt k ev ee 6 2 23 (.ref (N+1)))) ⟨.ok (.done .next),[(0,frU (wf w a b c).params p f en ro [("k",tk,.int k.val tv),("way",tw,.ref wy),("x",t₀+5,.int (p.n j) (p.tn j))] 7),(1,lO (xs++[.int j.val t7]) we),(2,lO (a8 p.n p.tn) p.e2),(3,lO (ai p.nt) p.e1),(4,ceO (some (.ref dp))),(5,dO (wf w a b c).params p.nt (dv++[(k,.int (((xs++[Value.int j.val t7]).length:Int)-1) (t₀+9))]) (de+1)),(6,dO (wf w a b c).params p.nt (ev++[(k,.ref (N+1))]) (ee+1)),(8,A0 (p.n j) (bp (p.n j) (t₀+11) (t₀+12) 0) (t₀+18) (t₀+22))],2,24⟩) ⟨none,520,5200,ff⟩ (ar [duI] (co L d m)):=by cases c<;>kernel_rfl
noncomputable def yj:List Nat:=dH 38 47923779184772419918529687045438762495562142605051578407560751091712
noncomputable def yk(X0 X1 X2 X3 X4 X5 X6 X7 X8 X9:XSpec):List CH:=[.x X0,.x X1,.p,.p,.x X2,.x X3,.x X4,.p,.p,.x X5,.x X6,.p,.p,.x X7,.p,.p,.p,.p,.p,.p,.p,.p,.p,.x X8,.x X9]
theorem yi(ff:Option (List Env)):au 300 (wf w a b c) N t₀ ([(L,frU (wf w a b c).params p f en ro [("k",tk,.int k.val tv),("way",tw,.ref wy),("x",tx,xv)] 7),(wy,lO (xs++[.int j.val t7]) we),(p.NL,lO (a8 p.n p.tn) p.e2),(p.NM,lO (ai p.nt) p.e1),(d,ceO (some (.ref dp))),(dp,dO (wf w a b c).params p.nt dv de),(en,dO (wf w a b c).params p.nt ev ee)]) (.fin yj (yk (lnX none wy (xs++[.int j.val t7]) we (t₀+1) 1 0 0) (ltX none ((xs++[Value.int j.val t7]).length:Int) (t₀+1) 10 (t₀+2) 0 3 true) (lgX none wy xs (.int j.val t7) we (t₀+4) 1 0 5) (nuX none p j t7 2 0 5) (lnX none wy (xs++[.int j.val t7]) we (t₀+7) 1 0 6) (nnX none p k tv 3 0 10) (dnX none (wf w a b c).params dp p.nt k dv de 5 0 10 (.int (((xs++[Value.int j.val t7]).length:Int)-1) (t₀+9))) (p2X N (p.n j) (t₀+11) (t₀+12) (t₀+14) 7 1 15) (nnX none p k tv 3 2 23) (dnX none (wf w a b c).params en p.nt k ev ee 6 2 23 (.ref (N+1)))) ⟨.ok (.done .next),[(0,frU (wf w a b c).params p f en ro [("k",tk,.int k.val tv),("way",tw,.ref wy),("x",tx,.int (p.n j) (p.tn j))] 7),(1,lO (xs++[.int j.val t7]) we),(2,lO (a8 p.n p.tn) p.e2),(3,lO (ai p.nt) p.e1),(4,ceO (some (.ref dp))),(5,dO (wf w a b c).params p.nt (dv++[(k,.int (((xs++[Value.int j.val t7]).length:Int)-1) (t₀+9))]) (de+1)),(6,dO (wf w a b c).params p.nt (ev++[(k,.ref (N+1))]) (ee+1)),(8,A0 (p.n j) (bp (p.n j) (t₀+11) (t₀+12) 0) (t₀+18) (t₀+22))],2,24⟩) ⟨none,520,5200,ff⟩ (ar [duI] (co L d m)):=by cases c<;>kernel_rfl
end
inductive Way(p:Par)(k:Fin 8):Nat→Fin 8→Prop where
 |zero:Way p k 0 k
 |succ {i:Nat} {j:Fin 8}:Way p k i j→p.lk j=true→Way p k (i+1) (p.tg j)
theorem Way.depth{p:Par}{k:Fin 8}{i:Nat}{j:Fin 8}(W:Way p k i j):∀{d:Nat},DepthR p j d→DepthR p k (i+d):=by
 induction W with
 |zero=>intro d h;rw[Nat.zero_add];exact h
 |succ W hl ih=>
  intro d h
  have h2:=ih (.step hl h)
  rw[Nat.add_assoc,Nat.add_comm 1 d]
  exact h2
theorem Way.deep{p:Par}{k:Fin 8}{i:Nat}{j:Fin 8}(W:Way p k i j){d:Nat}(h:DepthR p k d):∃e,DepthR p j e∧d=i+e:=by
 induction W with
 |zero=>exact⟨d,h,(Nat.zero_add d).symm⟩
 |succ W hl ih=>
  obtain⟨e,h1,h2⟩:=ih
  cases h1 with
  |stay h=>rw[h] at hl;cases hl
  |step _ h1=>exact⟨_,h1,by omega⟩
theorem Way.ends{p:Par}{k:Fin 8}{i:Nat}{j:Fin 8}(W:Way p k i j):∀{m:Int},EndR p j m→EndR p k m:=by
 induction W with
 |zero=>intro m h;exact h
 |succ W hl ih=>intro m h;exact ih (.step hl h)
theorem u9{p:Par}{k:Fin 8}{d:Nat}(h:DepthR p k d):∃l:List (Fin 8),l.Nodup∧l.length=d+1∧∀v∈l,∃e,e≤d∧DepthR p v e:=by
 induction h with
 |@stay k hl=>exact⟨[k],by simp,rfl,fun v hv=>by rw[List.mem_singleton.mp hv];exact⟨0,Nat.le_refl _,.stay hl⟩⟩
 |@step k d hl h ih=>
  obtain⟨l,h1,h2,h3⟩:=ih
  refine⟨k::l,List.nodup_cons.mpr ⟨fun q=>?_,h1⟩,by rw[List.length_cons,h2],fun v hv=>?_⟩
  ·obtain⟨e,h4,h5⟩:=h3 k q
   have:=h5.fn (DepthR.step hl h)
   exact(qf (qq h4 this))
  ·rcases List.mem_cons.mp hv with rfl|hv
   ·exact⟨d+1,Nat.le_refl _,.step hl h⟩
   ·obtain⟨e,h4,h5⟩:=h3 v hv
    exact⟨e,(qr (k:=1) h4),h5⟩
theorem tq{p:Par}{k:Fin 8}{d:Nat}(h:DepthR p k d):d≤7:=by
 obtain⟨l,h1,h2,_⟩:=u9 h
 have:=fv h1
 exact(qu 1 (qp h2 this))
structure KsI(p:Par)(i:Nat)(ks:List (Fin 8)):Prop where
 nd:ks.Nodup
 mem:∀v,v∈ks↔v.val<i∧∃d,DepthR p v d
theorem KsI.zero(p:Par):KsI p 0 []:=⟨List.Pairwise.nil,fun v=>⟨(fun h=>nomatch h),fun h=>absurd h.1 (Nat.not_lt_zero _)⟩⟩
theorem KsI.yes{p:Par}{k:Fin 8}{ks:List (Fin 8)}(H:KsI p k.val ks){d:Nat}(h:DepthR p k d):KsI p (k.val+1) (ks++[k]):=by
 refine⟨List.nodup_append.mpr ⟨H.nd,by simp,fun a ha b hb e=>?_⟩,fun v=>?_⟩
 ·rw[List.mem_singleton.mp hb] at e
  have:=(H.mem a).mp ha
  rw[e] at this
  exact(qf this.1)
 ·rw[List.mem_append,List.mem_singleton,H.mem]
  constructor
  ·rintro(⟨h1,h2⟩|rfl)
   ·exact⟨(qr (k:=1) h1),h2⟩
   ·exact⟨(Nat.le_refl _),d,h⟩
  ·rintro⟨h1,h2⟩
   by_cases e:v=k
   ·exact .inr e
   ·exact .inl ⟨by have:v.val≠k.val:=fun q=>e (Fin.ext q);omega,h2⟩
theorem KsI.no{p:Par}{k:Fin 8}{ks:List (Fin 8)}(H:KsI p k.val ks)(h:∀d,¬DepthR p k d):KsI p (k.val+1) ks:=by
 refine⟨H.nd,fun v=>?_⟩
 rw[H.mem]
 constructor
 ·rintro⟨h1,h2⟩
  exact⟨(qr (k:=1) h1),h2⟩
 ·rintro⟨h1,d,h2⟩
  refine⟨?_,d,h2⟩
  have:v.val≠k.val:=fun q=>by rw[Fin.ext q] at h2;exact h d h2
  omega
noncomputable def jqe(p:Par)(x:Fin 8×Value):Prop:=∃(d:Nat) (t:Nat),x.2=.int (d:Int) t∧DepthR p x.1 d
noncomputable def EndU(p:Par)(M:Nat)(h:Heap)(x:Fin 8×Value):Prop:=∃(a:Nat) (m:Int) (t1 t2 t3:Nat),x.2=.ref a∧EndR p x.1 m∧M≤a∧h.get? a=some (A0 m t1 t2 t3)
noncomputable def RU(h:Heap)(M:Nat)(nt:Fin 8→Nat):List Nat→List (List (Fin 8))→Prop
 |[],[]=>True
 |a::as,r::rs=>M≤a∧(∃e,h.get? a=some (lO (r.map (nmV nt)) e))∧RU h M nt as rs
 |_,_=>False
noncomputable def DpP(P:Params)(p:Par)(a:Nat)(ks:List (Fin 8))(h:Heap):Prop:=∃dv de,h.get? a=some (dO P p.nt dv de)∧dv.map (·.1)=ks∧∀x∈dv,jqe p x
noncomputable def EnP(P:Params)(p:Par)(M a:Nat)(ks:List (Fin 8))(h:Heap):Prop:=∃ev ee,h.get? a=some (dO P p.nt ev ee)∧ev.map (·.1)=ks∧∀x∈ev,EndU p M h x
noncomputable def RoP(p:Par)(M a:Nat)(rs:List (List (Fin 8)))(h:Heap):Prop:=∃as e,h.get? a=some (lO (as.map Value.ref) e)∧RU h M p.nt as rs
section
variable{P:Params}{p:Par}{h h':Heap}{M a:Nat}{chg:List Nat}{ks:List (Fin 8)}{rs:List (List (Fin 8))}
theorem DpP.keep(H:DpP P p a ks h)(K:af chg h h')(ha:a∉chg):DpP P p a ks h':=by
 obtain⟨dv,de,h1,h2⟩:=H
 exact⟨dv,de,K _ _ h1 ha,h2⟩
theorem EndU.keep{x:Fin 8×Value}(H:EndU p M h x)(K:af chg h h')(hT:∀y∈chg,∀xs,h.get? y≠some (tuO xs)):EndU p M h' x:=by
 obtain⟨a,m,t1,t2,t3,h1,h2,h3,h4⟩:=H
 exact⟨a,m,t1,t2,t3,h1,h2,h3,K _ _ h4 fun q=>hT _ q _ h4⟩
theorem EnP.keep(H:EnP P p M a ks h)(K:af chg h h')(ha:a∉chg)(hT:∀y∈chg,∀xs,h.get? y≠some (tuO xs)):EnP P p M a ks h':=by
 obtain⟨ev,ee,h1,h2,h3⟩:=H
 exact⟨ev,ee,K _ _ h1 ha,h2,fun x hx=>(h3 x hx).keep K hT⟩
theorem RU.keep{nt:Fin 8→Nat}(K:af chg h h'):∀{as:List Nat} {rs:List (List (Fin 8))},(rs=[]∨∀y∈chg,M≤y→∀xs e,h.get? y≠some (lO xs e))→RU h M nt as rs→RU h' M nt as rs
 |[],[],_,_=>trivial
 |a::as,r::rs,hL,H=>by
  have hL':∀y∈chg,M≤y→∀xs e,h.get? y≠some (lO xs e):=hL.resolve_left fun e=>by cases e
  obtain⟨h1,⟨e,h2⟩,h3⟩:=H
  exact⟨h1,⟨e,K _ _ h2 fun q=>hL' _ q h1 _ _ h2⟩,RU.keep K (.inr hL') h3⟩
 |[],_::_,_,H=>H.elim
 |_::_,[],_,H=>H.elim
theorem RU.snoc{nt:Fin 8→Nat}{a e:Nat}{r:List (Fin 8)}(ha:M≤a)(hg:h.get? a=some (lO (r.map (nmV nt)) e)):∀{as:List Nat} {rs:List (List (Fin 8))},RU h M nt as rs→RU h M nt (as++[a]) (rs++[r])
 |[],[],_=>⟨ha,⟨e,hg⟩,zt⟩
 |b::as,r'::rs,H=>⟨H.1,H.2.1,H.2.2.snoc ha hg⟩
 |[],_::_,H=>H.elim
 |_::_,[],H=>H.elim
theorem RU.len{nt:Fin 8→Nat}:∀{as:List Nat} {rs:List (List (Fin 8))},RU h M nt as rs→as.length=rs.length
 |[],[],_=>rfl
 |a::as,r::rs,H=>by rw[List.length_cons,List.length_cons,H.2.2.len]
 |[],_::_,H=>H.elim
 |_::_,[],H=>H.elim
theorem RoP.keep(H:RoP p M a rs h)(K:af chg h h')(ha:a∉chg)(hL:rs=[]∨∀y∈chg,M≤y→∀xs e,h.get? y≠some (lO xs e)):RoP p M a rs h':=by
 obtain⟨as,e,h1,h2⟩:=H
 exact⟨as,e,K _ _ h1 ha,h2.keep K hL⟩
end
structure DB(w:World)(p:Par)(N0:Nat)(h₀ h:Heap):Prop where
 based:Based w.params h
 size:N0+6≤h.objs.size
 keep:af [] h₀ h
 nm:h.get? p.NM=some (lO (ai p.nt) p.e1)
 nl:h.get? p.NL=some (lO (a8 p.n p.tn) p.e2)
structure DZ(p:Par)(N0:Nat)(h₀:Heap):Prop where
 sz:h₀.objs.size=N0
 n0:257≤N0
 nm:257≤p.NM∧p.NM<N0
 nl:257≤p.NL∧p.NL<N0
 ne:p.NM≠p.NL
structure DL(w:World)(p:Par)(N0:Nat)(f:Nat→Nat)(h₀:Heap)(ext:Ext)(ep:Nat)(ks:List (Fin 8))(rs:List (List (Fin 8)))(h:Heap):Prop extends DB w p N0 h₀ h where
 fr:h.get? N0=some (frU w.params p f (N0+4) (N0+5) ext ep)
 dc:h.get? (N0+1)=some (ceO (some (.ref (N0+3))))
 dp:DpP w.params p (N0+3) ks h
 en:EnP w.params p (N0+6) (N0+4) ks h
 ro:RoP p (N0+6) (N0+5) rs h
section
variable{w:World}{p:Par}{N0:Nat}{f:Nat→Nat}{h₀ h h':Heap}{ext ext':Ext}{ep ep':Nat}{ks:List (Fin 8)}{rs:List (List (Fin 8))}
theorem DB.next(F:DB w p N0 h₀ h)(Z:DZ p N0 h₀){chg:List Nat}(K:af chg h h')(hc:∀y∈chg,N0≤y)(hs:h.objs.size≤h'.objs.size):DB w p N0 h₀ h':=by
 have:=Z.n0
 have n1:=Z.nm
 have n2:=Z.nl
 have up:∀{y:Nat} {ob:Obj},y<N0→h.get? y=some ob→h'.get? y=some ob:=fun{y ob} h1 e=>K y ob e (fun q=>by have:=hc y q;exact(qf (ql this h1)))
 refine⟨⟨fun y ob e=>up (by have:=bm e;exact(qv (ql (qc this n1.1) n1.2))) (F.based.kt y ob e)⟩,Nat.le_trans F.size hs,fun y ob e _=>?_,up n1.2 F.nm,up n2.2 F.nl⟩
 have hly:@LT.lt Nat _ y h₀.objs.size:=Heap.lt_size e
 have hz:=Z.sz
 exact up (qx hly hz) (F.keep y ob e n0m)
theorem DL.far(F:DL w p N0 f h₀ ext ep ks rs h)(Z:DZ p N0 h₀){chg:List Nat}(K:af chg h h')(hc:∀y∈chg,N0+6≤y)(hT:∀y∈chg,∀xs,h.get? y≠some (tuO xs))(hL:rs=[]∨∀y∈chg,∀xs e,h.get? y≠some (lO xs e))(hs:h.objs.size≤h'.objs.size) :
  DL w p N0 f h₀ ext ep ks rs h':=by
 have n:∀{y:Nat},y<N0+6→y∉chg:=fun{y} h q=>by have:=hc y q;exact(qf (qc h this))
 exact⟨F.toDB.next Z K (fun y hy=>by have:=hc y hy;exact(qw (k:=6) this)) hs,K _ _ F.fr (n (by omega)),K _ _ F.dc (n (by omega)),F.dp.keep K (n (by omega)),F.en.keep K (n (by omega)) hT,F.ro.keep K (n (Nat.le_refl _)) (hL.imp id fun H y hy _=>H y hy)⟩
theorem DL.same(F:DL w p N0 f h₀ ext ep ks rs h)(Z:DZ p N0 h₀)(K:af [] h h')(hs:h.objs.size≤h'.objs.size):DL w p N0 f h₀ ext ep ks rs h':=
 F.far Z K (fun y hy=>nomatch hy) (fun y hy=>nomatch hy) (.inr fun y hy=>nomatch hy) hs
theorem DL.frame(F:DL w p N0 f h₀ ext ep ks rs h)(Z:DZ p N0 h₀)(K:af [N0] h h')(hs:h.objs.size≤h'.objs.size)(hfr:h'.get? N0=some (frU w.params p f (N0+4) (N0+5) ext' ep')):DL w p N0 f h₀ ext' ep' ks rs h':=by
 have n:∀{y:Nat},N0<y→y∉[N0]:=fun{y} h q=>by have:=List.mem_singleton.mp q;exact(qf (qx h this))
 have hf:=F.fr
 refine⟨F.toDB.next Z K (fun y hy=>by rw[List.mem_singleton.mp hy];exact Nat.le_refl _) hs,hfr,K _ _ F.dc (n (Nat.le_refl _)),F.dp.keep K (n (by omega)),F.en.keep K (n (by omega)) (fun y hy xs e=>?_),F.ro.keep K (n (by omega)) (.inr fun y hy hm xs e q=>?_)⟩
 ·rw[List.mem_singleton.mp hy,hf] at e
  cases congrArg Obj.data (Option.some.inj e)
 ·rw[List.mem_singleton.mp hy] at hm
  exact(qn (k:=5) hm)
theorem DL.g257(F:DL w p N0 f h₀ ext ep ks rs h)(Z:DZ p N0 h₀):257≤h.objs.size:=by
 have:=F.size
 have:=Z.n0
 omega
end
theorem pv:duW=.While (teS duW) (inS duW) [] (gy duW):=by kernel_rfl
theorem p9:duF=.For (teS duF) (fi duF) (inS duF) [] (gy duF):=by kernel_rfl
theorem pz:inS duF=[ak (inS duF) 0]++([duW]++[duI]):=by kernel_rfl
noncomputable def duE(N0:Nat):Env:=co N0 (N0+1) (N0+2)
section
variable{w:World}{a b c:Bool}{p:Par}{N0:Nat}{f:Nat→Nat}{h₀:Heap}{ext:Ext}{ep:Nat}{ks:List (Fin 8)}{rs:List (List (Fin 8))}{A:Around}{E:Value→Shared→Prop}{s:Shared}{k:Fin 8}{tk tv tw wy:Nat}
noncomputable abbrev exW(tk tv tw wy:Nat)(k:Fin 8)(ext:Ext):Ext:=("k",tk,.int k.val tv)::("way",tw,.ref wy)::ext
theorem jnp{Q:Flow→Shared→Prop}{t7:Nat}(hA:Room A 520 5200)(Z:DZ p N0 h₀)(hwy:N0+6≤wy)(F₀:DL (wf w a b c) p N0 f h₀ (exW tk tv tw wy k ext) ep ks [] s.heap)(hw₀:s.heap.get? wy=some (lO [.int k.val t7] 0))
  (h:∀s' i j xs t7 we,Way p k i j→i≤9→(i<9→p.lk j=false)→xs.length=i→DL (wf w a b c) p N0 f h₀ (exW tk tv tw wy k ext) ep ks [] s'.heap→s'.heap.get? wy=some (lO (xs++[.int j.val t7]) we)→af [wy] s.heap s'.heap→ae s'=ae s→Q .next s') :
  wpAny (model PG (wf w a b c)) A (execs [duW] (duE N0)) Q E s:=by
 refine wpAny_execs_cons ?_
 first|refine xq1 pv ?_|refine xq2 pv ?_|refine xq3 pv ?_|rw[pv]
 refine wpAny_While ?_
 have n0:=Z.n0
 have znl:=Z.nl
 refine codeAny_whileLoop (fun n s'=>∃i j xs t7 we,Way p k i j∧i≤9∧xs.length=i∧n=9-i∧DL (wf w a b c) p N0 f h₀ (exW tk tv tw wy k ext) ep ks [] s'.heap∧s'.heap.get? wy=some (lO (xs++[.int j.val t7]) we)∧af [wy] s.heap s'.heap∧ae s'=ae s) (fun n s1 hI=>?_) 9 ⟨0,k,[],t7,0,.zero,Nat.zero_le _,rfl,rfl,F₀,hw₀,fun _ _ e _=>e,rfl⟩
 obtain⟨i,j,xs,t7,we,W,hi,hx,hn,F,hw,Kw,r⟩:=hI
 have P:=ag (w:=wf w a b c) (pre:=[(N0,frU (wf w a b c).params p f (N0+4) (N0+5) (exW tk tv tw wy k ext) ep),(wy,lO (xs++[.int j.val t7]) we),(p.NL,lO (a8 p.n p.tn) p.e2)]) F.based (F.g257 Z) ⟨F.fr,hw,F.nl,zt⟩ (f0 (by omega) (qw (k:=6) (qk (k:=6) n0 hwy)) znl.1) ⟨⟨zt,zt,zt⟩,⟨(by show@Ne Nat _ _;exact(qj (qw (k:=6) (qk (k:=6) znl.2 hwy)))),zt⟩,zt,zt⟩
 have hlen:(xs++[Value.int j.val t7]).length=i+1:=by rw[List.length_append,hx];rfl
 have after:∀{s2:Shared},HasL s2.heap [(N0,frU (wf w a b c).params p f (N0+4) (N0+5) (exW tk tv tw wy k ext) ep),(wy,lO (xs++[.int j.val t7]) we),(p.NL,lO (a8 p.n p.tn) p.e2)]→af [N0,wy,p.NL] s1.heap s2.heap→s2.heap.objs.size=s1.heap.objs.size+0→DL (wf w a b c) p N0 f h₀ (exW tk tv tw wy k ext) ep ks [] s2.heap∧s2.heap.get? wy=some (lO (xs++[.int j.val t7]) we)∧af [wy] s.heap s2.heap:=fun{s2} H K hs=>by
  have K':af [] s1.heap s2.heap:=fun y ob e _=>by
   by_cases e1:y=N0
   ·exact sg F.fr H.1 e e1
   by_cases e2:y=wy
   ·exact sg hw H.2.1 e e2
   by_cases e3:y=p.NL
   ·exact sg F.nl H.2.2.1 e e3
   exact K y ob e (by refine nO3 ?_;exact⟨e1,e2,e3⟩)
  exact⟨F.same Z K' (qg hs),H.2.1,fun y ob e hy=>K' y ob (Kw y ob e hy) n0m⟩
 cases hl:p.lk j with
 |false=>
  refine cu (V2 A.frames) P hA.cx hA.cx rfl ⟨g0 rfl,iu rfl,f9 hl,zt⟩ fun s2 P2 K2 r2=>?_
  obtain⟨F2,hw2,Kw2⟩:=after ⟨P2.has _ (.head _),P2.has _ (.tail _ (.head _)),P2.has _ (.tail _ (.tail _ (.head _))),zt⟩ K2 P2.size
  first|refine itn (by simp) ?_|rw[if_neg (by simp)]
  exact wpAny_execs_nil (wpAny_execs_nil (h s2 i j xs t7 we W hi (fun _=>hl) hx F2 hw2 Kw2 (r2.trans r)))
 |true=>
  refine cu (U9 A.frames (decide (i<9))) P hA.cx hA.cx rfl ⟨g0 rfl,iu rfl,f9 hl,gz rfl (by rw[hlen];exact(qr (k:=989) (qs 2 hi))) rfl,fu (by rw[hlen];exact decide_eq_decide.mpr (by omega)),zt⟩ fun s2 P2 K2 r2=>?_
  obtain⟨F2,hw2,Kw2⟩:=after ⟨P2.has _ (.head _),P2.has _ (.tail _ (.head _)),P2.has _ (.tail _ (.tail _ (.head _))),zt⟩ K2 P2.size
  by_cases h9:i<9
  ·first|refine itp (by simpa using h9) ?_|rw[if_pos (by simpa using h9)]
   refine bc (jh1 A.frames) (ag (w:=wf w a b c) (pre:=[(N0,frU (wf w a b c).params p f (N0+4) (N0+5) (exW tk tv tw wy k ext) ep),(wy,lO (xs++[.int j.val t7]) we),(p.NL,lO (a8 p.n p.tn) p.e2)]) F2.based (F2.g257 Z) ⟨F2.fr,hw2,F2.nl,zt⟩ (f0 (by omega) (qw (k:=6) (qk (k:=6) n0 hwy)) znl.1) ⟨⟨zt,zt,zt⟩,⟨(by show@Ne Nat _ _;exact(qj (qw (k:=6) (qk (k:=6) znl.2 hwy)))),zt⟩,zt,zt⟩) hA.cx hA.cx rfl ⟨g0 rfl,iu rfl,fw rfl (by rw[hlen];exact(qr (k:=990) (qs 1 h9))),zt⟩ (chg:=[wy]) ⟨.inl rfl,.inr (.head _),.inl rfl,zt⟩ fun s3 P4b P4z K4' r4 P4x=>?_
   have F3:=F2.far Z K4' (fun y hy=>by rw[List.mem_singleton.mp hy];exact hwy) (fun y hy vs e=>by
    rw[List.mem_singleton.mp hy,hw2] at e
    have:=congrArg Obj.cls (Option.some.inj e)
    simp[lO,tuO] at this) (.inl rfl) (zle P4z)
   have hw3:s3.heap.get? wy=some (lO ((xs++[.int j.val t7])++[.int (((p.n j).fdiv 1536).fmod 8) (s2.toks+5)]) (we+1)):=P4x 1 _ _ (wy) rfl rfl
   rw[←p.tg_val j] at hw3
   exact⟨9-(i+1),by omega,i+1,p.tg j,xs++[.int j.val t7],_,we+1,.succ W hl,by omega,hlen,rfl,F3,hw3,fun y ob e hy=>K4' y ob (Kw2 y ob e hy) hy,r4.trans (r2.trans r)⟩
  ·first|refine itn (by simpa using h9) ?_|rw[if_neg (by simpa using h9)]
   exact wpAny_execs_nil (wpAny_execs_nil (h s2 i j xs t7 we W hi (fun q=>absurd q h9) hx F2 hw2 Kw2 (r2.trans r)))
end
inductive WU:Ext→Nat→Prop where
 |two {tk tw:Nat} {kv wv:Value}:WU [("k",tk,kv),("way",tw,wv)] 6
 |three {tk tw tx:Nat} {kv wv xv:Value}:WU [("k",tk,kv),("way",tw,wv),("x",tx,xv)] 7
section
variable{w:World}{a b c:Bool}{p:Par}{N0:Nat}{f:Nat→Nat}{h₀:Heap}{ext:Ext}{ep:Nat}{ks:List (Fin 8)}{rs:List (List (Fin 8))}{A:Around}{E:Value→Shared→Prop}{s:Shared}{k:Fin 8}{tk tv tw wy:Nat}
theorem sm{α:Type}{kv:List (Fin 8×α)}{ks:List (Fin 8)}(h:kv.map (·.1)=ks)(hn:ks.Nodup):kv.length≤8:=by
 have:=fv hn
 rw[←h,List.length_map] at this
 exact this
theorem jpu{Q:Flow→Shared→Prop}{i:Nat}{j:Fin 8}{xs:List Value}{t7 we:Nat}(hA:Room A 520 5200)(Z:DZ p N0 h₀)(hwy:N0+6≤wy)(hx:(ext=[]∧ep=6)∨∃tx xv,ext=[("x",tx,xv)]∧ep=7)(F:DL (wf w a b c) p N0 f h₀ (exW tk tv tw wy k ext) ep ks [] s.heap)(hw:s.heap.get? wy=some (lO (xs++[.int j.val t7]) we))
  (W:Way p k i j) (hi:i≤9) (hij:i<9→p.lk j=false) (hlx:xs.length=i) (hks:KsI p k.val ks)
  (h:∀s' ext' ep' ks',WU ext' ep'→KsI p (k.val+1) ks'→DL (wf w a b c) p N0 f h₀ ext' ep' ks' [] s'.heap→af [N0,N0+3,N0+4] s.heap s'.heap→ae s'=ae s→Q .next s') :
  wpAny (model PG (wf w a b c)) A (execs [duI] (duE N0)) Q E s:=by
 have n0:=Z.n0
 have znl:=Z.nl
 have znm:=Z.nm
 have zne:=Z.ne
 have hlen:(xs++[Value.int j.val t7]).length=i+1:=by rw[List.length_append,hlx];rfl
 by_cases h9:i<9
 ·have hl:=hij h9
  have hd:DepthR p k i:=W.depth (.stay hl)
  have he:EndR p k (p.n j):=W.ends (.stay hl)
  have hkn:k∉ks:=fun q=>by have:=(hks.mem k).mp q;exact(qf this.1)
  obtain⟨dv,de,hdp,hdk,hdv⟩:=F.dp
  obtain⟨ev,ee,hen,hek,hev⟩:=F.en
  have dl:=sm hdk hks.nd
  have el:=sm hek hks.nd
  have dn:dv.lookup k=none:=bk (by rw[hdk];exact hkn)
  have en:ev.lookup k=none:=bk (by rw[hek];exact hkn)
  have sz:=F.size
  have fin:∀(s2:Shared) (ext':Ext) (ep' t8 u1 u2 u3:Nat),WU ext' ep'→s2.heap.objs.size=s.heap.objs.size+2→s2.heap.get? N0=some (frU (wf w a b c).params p f (N0+4) (N0+5) ext' ep')→s2.heap.get? (N0+3)=some (dO (wf w a b c).params p.nt (dv++[(k,.int (((xs++[Value.int j.val t7]).length:Int)-1) t8)]) (de+1)) →
    s2.heap.get? (N0+4)=some (dO (wf w a b c).params p.nt (ev++[(k,.ref (s.heap.objs.size+1))]) (ee+1))→s2.heap.get? (s.heap.objs.size+1)=some (A0 (p.n j) u1 u2 u3)→af [N0,N0+3,N0+4] s.heap s2.heap→ae s2=ae s→Q .next s2:=fun s2 ext' ep' t8 u1 u2 u3 hW hs x0 x3 x4 x6 K r=>by
   have hT:∀y∈[N0,N0+3,N0+4],∀vs,s.heap.get? y≠some (tuO vs):=fun y hy vs e=>by
    replace hy:=mO3 hy
    rcases hy with q|q|q
    ·rw[q,F.fr] at e;cases congrArg Obj.data (Option.some.inj e)
    ·rw[q,hdp] at e;cases congrArg Obj.data (Option.some.inj e)
    ·rw[q,hen] at e;cases congrArg Obj.data (Option.some.inj e)
   have nn:∀{y:Nat},y≠N0→y≠N0+3→y≠N0+4→y∉[N0,N0+3,N0+4]:=fun{y} h1 h2 h3=>by refine nO3 ?_;exact⟨h1,h2,h3⟩
   refine h s2 ext' ep' (ks++[k]) hW (hks.yes hd) ⟨F.toDB.next Z K (fun y hy=>?_) (qw (k:=2) (qg hs)),x0,K _ _ F.dc (nn (qj (Nat.le_refl _)) (by omega) (by omega)),⟨_,_,x3,by rw[List.map_append,hdk];rfl,fun x hx=>?_⟩,⟨_,_,x4,by rw[List.map_append,hek];rfl,fun x hx=>?_⟩,F.ro.keep K (nn (by omega) (by omega) (qj (Nat.le_refl _))) (.inl rfl)⟩ K r
   ·exact mA3 hy (Nat.le_refl _) (Nat.le_add_right ..) (Nat.le_add_right ..)
   ·rcases List.mem_append.mp hx with hx|hx
    ·exact hdv x hx
    ·rw[List.mem_singleton.mp hx]
     exact⟨i,t8,by rw[hlen];show Value.int _ _=Value.int _ _;rw[show(((i+1:Nat):Int)-1)=(i:Int) from by omega],hd⟩
   ·rcases List.mem_append.mp hx with hx|hx
    ·exact(hev x hx).keep K hT
    ·rw[List.mem_singleton.mp hx]
     exact⟨s.heap.objs.size+1,p.n j,u1,u2,u3,rfl,he,Nat.le_trans sz (Nat.le_add_right _ _),x6⟩
  rcases hx with⟨rfl,rfl⟩|⟨tx,xv,rfl,rfl⟩
  ·have P:=ag (w:=wf w a b c) (pre:=[(N0,frU (wf w a b c).params p f (N0+4) (N0+5) [("k",tk,.int k.val tv),("way",tw,.ref wy)] 6),(wy,lO (xs++[.int j.val t7]) we),(p.NL,lO (a8 p.n p.tn) p.e2),(p.NM,lO (ai p.nt) p.e1),(N0+1,ceO (some (.ref (N0+3)))),(N0+3,dO (wf w a b c).params p.nt dv de),(N0+4,dO (wf w a b c).params p.nt ev ee)]) F.based (F.g257 Z) ⟨F.fr,hw,F.nl,F.nm,F.dc,hdp,hen,zt⟩ (jn5 (by omega) (qw (k:=6) (qk (k:=6) n0 hwy)) znl.1 znm.1 (qr (k:=1) n0) (qr (k:=3) n0) (qr (k:=4) n0)) ⟨⟨zt,zt,zt,zt,(by show@Ne Nat _ _;omega),(by show@Ne Nat _ _;omega),zt⟩,⟨(by show@Ne Nat _ _;exact(qj (qw (k:=6) (qk (k:=6) znl.2 hwy)))),(by show@Ne Nat _ _;exact(qj (qw (k:=6) (qk (k:=6) znm.2 hwy)))),zt,zt,zt,zt⟩,⟨(by show@Ne Nat _ _;exact zne.symm),zt,zt,zt,zt⟩,⟨zt,zt,zt,zt⟩,⟨zt,zt,zt⟩,⟨(by show@Ne Nat _ _;exact(qh (Nat.le_refl _))),zt⟩,zt,zt⟩
   refine bc (Z6 A.frames) P hA.cx hA.cx rfl ⟨gz rfl (by rw[hlen];exact(qr (k:=990) (qs 1 h9))) rfl,fu (by rw[hlen];exact decide_eq_true (by omega)),g0 rfl,iu rfl,gz rfl (by rw[hlen];exact(qr (k:=990) (qs 1 h9))) rfl,nq rfl,ib rfl rfl dn (qr (k:=991) (qs 1 dl)),A7 rfl hl,nq rfl,ib rfl rfl en (qr (k:=991) (qs 1 el)),zt⟩ (chg:=[N0,N0+3,N0+4]) ⟨.inr (.head _),.inl rfl,.inl rfl,.inl rfl,.inl rfl,.inr (.tail _ (.head _)),.inr (.tail _ (.tail _ (.head _))),zt⟩ fun s2 P2b P2z K2' r2 P2x=>?_
   exact fin s2 _ 7 _ _ _ _ .three P2z ((P2x 0 _ _ (N0) rfl rfl)) ((P2x 5 _ _ (N0+3) rfl rfl)) ((P2x 6 _ _ (N0+4) rfl rfl)) ((P2x 7 _ _ (s.heap.objs.size+1) rfl rfl)) K2' r2
  ·have P:=ag (w:=wf w a b c) (pre:=[(N0,frU (wf w a b c).params p f (N0+4) (N0+5) [("k",tk,.int k.val tv),("way",tw,.ref wy),("x",tx,xv)] 7),(wy,lO (xs++[.int j.val t7]) we),(p.NL,lO (a8 p.n p.tn) p.e2),(p.NM,lO (ai p.nt) p.e1),(N0+1,ceO (some (.ref (N0+3)))),(N0+3,dO (wf w a b c).params p.nt dv de),(N0+4,dO (wf w a b c).params p.nt ev ee)]) F.based (F.g257 Z) ⟨F.fr,hw,F.nl,F.nm,F.dc,hdp,hen,zt⟩ (jn5 (by omega) (qw (k:=6) (qk (k:=6) n0 hwy)) znl.1 znm.1 (qr (k:=1) n0) (qr (k:=3) n0) (qr (k:=4) n0)) ⟨⟨zt,zt,zt,zt,(by show@Ne Nat _ _;omega),(by show@Ne Nat _ _;omega),zt⟩,⟨(by show@Ne Nat _ _;exact(qj (qw (k:=6) (qk (k:=6) znl.2 hwy)))),(by show@Ne Nat _ _;exact(qj (qw (k:=6) (qk (k:=6) znm.2 hwy)))),zt,zt,zt,zt⟩,⟨(by show@Ne Nat _ _;exact zne.symm),zt,zt,zt,zt⟩,⟨zt,zt,zt,zt⟩,⟨zt,zt,zt⟩,⟨(by show@Ne Nat _ _;exact(qh (Nat.le_refl _))),zt⟩,zt,zt⟩
   refine bc (yi A.frames) P hA.cx hA.cx rfl ⟨gz rfl (by rw[hlen];exact(qr (k:=990) (qs 1 h9))) rfl,fu (by rw[hlen];exact decide_eq_true (by omega)),g0 rfl,iu rfl,gz rfl (by rw[hlen];exact(qr (k:=990) (qs 1 h9))) rfl,nq rfl,ib rfl rfl dn (qr (k:=991) (qs 1 dl)),A7 rfl hl,nq rfl,ib rfl rfl en (qr (k:=991) (qs 1 el)),zt⟩ (chg:=[N0,N0+3,N0+4]) ⟨.inr (.head _),.inl rfl,.inl rfl,.inl rfl,.inl rfl,.inr (.tail _ (.head _)),.inr (.tail _ (.tail _ (.head _))),zt⟩ fun s2 P2b P2z K2' r2 P2x=>?_
   exact fin s2 _ 7 _ _ _ _ .three P2z ((P2x 0 _ _ (N0) rfl rfl)) ((P2x 5 _ _ (N0+3) rfl rfl)) ((P2x 6 _ _ (N0+4) rfl rfl)) ((P2x 7 _ _ (s.heap.objs.size+1) rfl rfl)) K2' r2
 ·have e9:i=9:=(Nat.le_antisymm hi (Nat.le_of_not_lt h9))
  have hno:∀d,¬DepthR p k d:=fun d hd=>by
   obtain⟨e,_,q⟩:=W.deep hd
   have:=tq hd
   omega
  refine bc (Z9 A.frames) (ag (w:=wf w a b c) (pre:=[(N0,frU (wf w a b c).params p f (N0+4) (N0+5) (exW tk tv tw wy k ext) ep),(wy,lO (xs++[.int j.val t7]) we)]) F.based (F.g257 Z) ⟨F.fr,hw,zt⟩ (gx (by omega) (qw (k:=6) (qk (k:=6) n0 hwy))) ⟨⟨zt,zt⟩,zt,zt⟩) hA.cx hA.cx rfl ⟨gz rfl (by rw[hlen];exact(qr (k:=989) (qs 2 hi))) rfl,fu (by rw[hlen];exact decide_eq_false (by omega)),zt⟩ (chg:=[]) ⟨.inl rfl,.inl rfl,zt⟩ fun s2 P2b P2z K2' r2 P2x=>?_
  have F2:=F.same Z K2' (zle P2z)
  have K3:af [N0,N0+3,N0+4] s.heap s2.heap:=fun y ob e _=>K2' y ob e n0m
  rcases hx with⟨rfl,rfl⟩|⟨tx,xv,rfl,rfl⟩
  ·exact h s2 _ 6 ks .two (hks.no hno) F2 K3 r2
  ·exact h s2 _ 7 ks .three (hks.no hno) F2 K3 r2
end
section
variable{w:World}{a b c:Bool}{p:Par}{N0:Nat}{f:Nat→Nat}{h₀:Heap}{ext:Ext}{ep:Nat}{ks:List (Fin 8)}{rs:List (List (Fin 8))}{A:Around}{E:Value→Shared→Prop}{s:Shared}{k:Fin 8}{tk tv tw wy:Nat}
inductive WV:Ext→Nat→Prop where
 |none:WV [] 4
 |some {ext:Ext} {ep:Nat}:WU ext ep→WV ext ep
theorem jnr{Q:Flow→Shared→Prop}{y:Ext}{yp:Nat}(hA:Room A 520 5200)(Z:DZ p N0 h₀)(hx:(∃tk,y=[("k",tk,.int k.val tv)]∧yp=5)∨∃tk tw wv ext,y=("k",tk,.int k.val tv)::("way",tw,wv)::ext∧((ext=[]∧yp=6)∨∃tx xv,ext=[("x",tx,xv)]∧yp=7))(F:DL (wf w a b c) p N0 f h₀ y yp ks [] s.heap)(hks:KsI p k.val ks)
  (h:∀s' ext' ep' ks',WU ext' ep'→KsI p (k.val+1) ks'→DL (wf w a b c) p N0 f h₀ ext' ep' ks' [] s'.heap→af [N0,N0+3,N0+4] s.heap s'.heap→ae s'=ae s→Q .next s') :
  wpAny (model PG (wf w a b c)) A (execs (inS duF) (duE N0)) Q E s:=by
 have n0:=Z.n0
 have sz:=F.size
 have rest:∀(s2:Shared) (tk tw:Nat) (ext:Ext) (ep:Nat),((ext=[]∧ep=6)∨∃tx xv,ext=[("x",tx,xv)]∧ep=7)→DL (wf w a b c) p N0 f h₀ (exW tk tv tw s.heap.objs.size k ext) ep ks [] s2.heap→s2.heap.get? s.heap.objs.size=some (lO [.int k.val tv] 0)→af [N0] s.heap s2.heap→ae s2=ae s →
   wpAny (model PG (wf w a b c)) A (execs ([duW]++[duI]) (duE N0)) Q E s2:=fun s2 tk tw ext ep hx F2 hw K2 r2=>by
  refine ah _ _ ?_
  refine jnp hA Z sz F2 hw fun s3 i j xs t7 we W hi hij hxl F3 hw3 K3 r3=>?_
  refine jpu hA Z sz hx F3 hw3 W hi hij hxl hks fun s4 ext' ep' ks' hW hk' F4 K4 r4=>?_
  refine h s4 ext' ep' ks' hW hk' F4 (fun y ob e hy=>K4 y ob (K3 y ob (K2 y ob e fun q=>hy (by rw[List.mem_singleton.mp q];exact .head _)) fun q=>?_) hy) (r4.trans (r3.trans r2))
  rw[List.mem_singleton.mp q] at e
  exact absurd (Heap.lt_size e) (Nat.lt_irrefl _)
 first|refine xq1 pz ?_|refine xq2 pz ?_|refine xq3 pz ?_|rw[pz]
 refine ah _ _ ?_
 rcases hx with⟨tk,rfl,rfl⟩|⟨tk,tw,wv,ext,rfl,hx⟩
 ·have P:=ag (w:=wf w a b c) (pre:=[(N0,frU (wf w a b c).params p f (N0+4) (N0+5) [("k",tk,.int k.val tv)] 5)]) F.based (F.g257 Z) ⟨F.fr,zt⟩ (b6 (by omega)) ⟨zt,zt⟩
  refine bc (U3 A.frames) P hA.cx hA.cx rfl zt (chg:=[N0]) ⟨.inr (.head _),zt⟩ fun s2 P2b P2z K2' r2 P2x=>?_
  have F2:=F.frame Z K2' (zle P2z) ((P2x 0 _ _ (N0) rfl rfl))
  exact rest s2 tk _ [] 6 (.inl ⟨rfl,rfl⟩) F2 ((P2x 1 _ _ (s.heap.objs.size) rfl rfl)) K2' r2
 ·have P:=ag (w:=wf w a b c) (pre:=[(N0,frU (wf w a b c).params p f (N0+4) (N0+5) (("k",tk,.int k.val tv)::("way",tw,wv)::ext) yp)]) F.based (F.g257 Z) ⟨F.fr,zt⟩ (b6 (by omega)) ⟨zt,zt⟩
  refine bc (U0 A.frames) P hA.cx hA.cx rfl zt (chg:=[N0]) ⟨.inr (.head _),zt⟩ fun s2 P2b P2z K2' r2 P2x=>?_
  have F2:=F.frame Z K2' (zle P2z) ((P2x 0 _ _ (N0) rfl rfl))
  exact rest s2 tk _ ext yp hx F2 ((P2x 1 _ _ (s.heap.objs.size) rfl rfl)) K2' r2
theorem jp4{Q:Flow→Shared→Prop}{mo:Obj}(hA:Room A 520 5200)(Z:DZ p N0 h₀)(F₀:DL (wf w a b c) p N0 f h₀ [] 4 [] [] s.heap)(hm₀:s.heap.get? (N0+2)=some mo)
  (h:∀s' ext ep ks,WU ext ep→KsI p 8 ks→DL (wf w a b c) p N0 f h₀ ext ep ks [] s'.heap→s'.heap.get? (N0+2)=some mo→ae s'=ae s→Q .next s') :
  wpAny (model PG (wf w a b c)) A (execs [duF] (duE N0)) Q E s:=by
 have n0:=Z.n0
 refine wpAny_execs_cons ?_
 first|refine xq1 p9 ?_|refine xq2 p9 ?_|refine xq3 p9 ?_|rw[p9]
 refine wpAny_For ?_ (fun x=>by kernel_rfl)
 have P:=ag (w:=wf w a b c) (pre:=[]) F₀.based (F₀.g257 Z) zt zt zt
 refine bq (jhy A.frames) P hA.cx hA.cx rfl zt fun s1 P1 K1 r1=>?_
 have F1:=F₀.same Z K1 (ch P1)
 have hs1:s1.heap.objs.size=s.heap.objs.size+1:=P1.size
 have sz:=F₀.size
 refine d9 (jh4 A.frames) (ag (w:=wf w a b c) (pre:=[(s.heap.objs.size,rgU 8 s.toks)]) F1.based (F1.g257 Z) ⟨P1.has (s.heap.objs.size,_) (.head _),zt⟩ (b6 (qw (k:=6) (qk (k:=6) n0 sz))) ⟨zt,zt⟩) hA.cx hA.cx rfl zt (chg:=[]) ⟨.inl rfl,zt⟩ fun s2 P3b P3z K3' r3 P3x=>?_
 have F2:=F1.same Z K3' (zle P3z)
 have hit:s2.heap.get? s1.heap.objs.size=some (bd 0 8 1):=P3x 1 _ _ (s1.heap.objs.size) rfl rfl
 have hm2:s2.heap.get? (N0+2)=some mo:=K3' _ _ (K1 _ _ hm₀ n0m) n0m
 generalize hitN:s1.heap.objs.size=it at *
 have hitG:N0+6≤it:=(qv (qq sz hs1))
 refine codeAny_forLoop (fun n s'=>∃i ext ep ks,i+n=8∧(i=0∨WU ext ep)∧WV ext ep∧KsI p i ks∧DL (wf w a b c) p N0 f h₀ ext ep ks [] s'.heap∧s'.heap.get? it=some (bd (i:Int) ((8-i:Nat):Int) 1)∧s'.heap.get? (N0+2)=some mo∧ae s'=ae s)
  (fun n s3 hI=>?_) 8 ⟨0,[],4,[],rfl,.inl rfl,.none,KsI.zero p,F2,hit,hm2,r3.trans r1⟩
 obtain⟨i,ext,ep,ks,hin,hi0,hV,hks,F3,hit3,hm3,r3'⟩:=hI
 have far:∀{s4:Shared} {cur size:Int},af [it] s3.heap s4.heap→s3.heap.objs.size≤s4.heap.objs.size→DL (wf w a b c) p N0 f h₀ ext ep ks [] s4.heap:=fun{s4 cur size} K hs=>by
  refine F3.far Z K (fun y hy=>by rw[List.mem_singleton.mp hy];exact hitG) (fun y hy vs e=>?_) (.inl rfl) hs
  rw[List.mem_singleton.mp hy,hit3] at e
  cases congrArg Obj.data (Option.some.inj e)
 by_cases h8:i<8
 ·have P4:=ag (w:=wf w a b c) (pre:=[(it,bd (i:Int) ((8-i:Nat):Int) 1)]) F3.based (F3.g257 Z) ⟨hit3,zt⟩ (b6 (qw (k:=7) (qq (qk (k:=6) n0 sz) hs1))) ⟨zt,zt⟩
  refine fz (jhv A.frames ⟨i,h8⟩) P4 hA.cx hA.cx rfl zt (chg:=[it]) ⟨.inr (.head _),zt⟩ fun s4 P5b P5z K5' r5 P5x=>?_
  have F4:=far (cur:=0) (size:=0) K5' (zle P5z)
  have hit4:s4.heap.get? it=some (bd ((i+1:Nat):Int) ((8-(i+1):Nat):Int) 1):=P5x 0 _ _ (it) rfl rfl
  have hm4:=K5' _ _ hm3 (fun q=>by have:=ax (List.mem_singleton.mp q);exact(qn (k:=4) (qq (qk (k:=4) (qg this) sz) hs1)))
  have body:∀{Q':Flow→Shared→Prop} {E':Value→Shared→Prop} (s5:Shared) (y:Ext) (yp tv:Nat),((∃tk,y=[("k",tk,.int i tv)]∧yp=5)∨∃tk tw wv ext,y=("k",tk,.int i tv)::("way",tw,wv)::ext∧((ext=[]∧yp=6)∨∃tx xv,ext=[("x",tx,xv)]∧yp=7))→DL (wf w a b c) p N0 f h₀ y yp ks [] s5.heap→af [N0] s4.heap s5.heap→ae s5=ae s →
    (∀s7,(∃m,m<n∧∃i ext ep ks,i+m=8∧(i=0∨WU ext ep)∧WV ext ep∧KsI p i ks∧DL (wf w a b c) p N0 f h₀ ext ep ks [] s7.heap∧s7.heap.get? it=some (bd (i:Int) ((8-i:Nat):Int) 1)∧s7.heap.get? (N0+2)=some mo∧ae s7=ae s)→Q' .next s7) →
    wpAny (model PG (wf w a b c)) A (execs (inS duF) (duE N0)) Q' E' s5:=fun{Q' E'} s5 y yp tv hy F5 K5 r5 hQ=>by
   refine jnr (k:=⟨i,h8⟩) hA Z hy F5 hks fun s6 ext' ep' ks' hW hk F6 K6 r6=>hQ s6 ⟨n-1,by omega,i+1,ext',ep',ks',by omega,.inr hW,.some hW,hk,F6,?_,?_,r6.trans r5⟩
   ·exact K6 _ _ (K5 _ _ hit4 (fun q=>by have:=ax (List.mem_singleton.mp q);exact(qn (k:=6) (qq (qk (k:=6) (qe this) sz) hs1)))) (fun q=>by replace q:=mO3 q;rcases q with q|q|q<;>(have:=ax q;omega))
   ·exact K6 _ _ (K5 _ _ hm4 (fun q=>by have:=ax (List.mem_singleton.mp q);exact(qn (k:=1) (qe this)))) (fun q=>by replace q:=mO3 q;rcases q with q|q|q<;>(have:=ax q;omega))
  show wpAny _ _ (assign (teS duF) (duE N0) (.int (i:Int) s3.toks)) _ _ s4
  cases hV with
  |none=>
   refine cp (Y8 (k:=⟨i,h8⟩) A.frames) (ag (w:=wf w a b c) (pre:=[(N0,frU (wf w a b c).params p f (N0+4) (N0+5) [] 4)]) F4.based (F4.g257 Z) ⟨F4.fr,zt⟩ (b6 (by omega)) ⟨zt,zt⟩) hA.cx hA.cx rfl zt (chg:=[N0]) ⟨.inr (.head _),zt⟩ fun s5 P7b P7z K7' r7 P7x=>?_
   exact body s5 _ 5 s3.toks (.inl ⟨_,rfl,rfl⟩) (F4.frame Z K7' (zle P7z) ((P7x 0 _ _ (N0) rfl rfl))) K7' (r7.trans (r5.trans r3')) fun s7 H=>H
  |some hW=>
   cases hW with
   |@two tk tw kv wv=>
    refine cp (te (k:=⟨i,h8⟩) A.frames) (ag (w:=wf w a b c) (pre:=[(N0,frU (wf w a b c).params p f (N0+4) (N0+5) [("k",tk,kv),("way",tw,wv)] 6)]) F4.based (F4.g257 Z) ⟨F4.fr,zt⟩ (b6 (by omega)) ⟨zt,zt⟩) hA.cx hA.cx rfl zt (chg:=[N0]) ⟨.inr (.head _),zt⟩ fun s5 P7b P7z K7' r7 P7x=>?_
    exact body s5 _ 6 s3.toks (.inr ⟨_,_,_,_,rfl,.inl ⟨rfl,rfl⟩⟩) (F4.frame Z K7' (zle P7z) ((P7x 0 _ _ (N0) rfl rfl))) K7' (r7.trans (r5.trans r3')) fun s7 H=>H
   |@three tk tw tx kv wv xv=>
    refine cp (te (k:=⟨i,h8⟩) A.frames) (ag (w:=wf w a b c) (pre:=[(N0,frU (wf w a b c).params p f (N0+4) (N0+5) [("k",tk,kv),("way",tw,wv),("x",tx,xv)] 7)]) F4.based (F4.g257 Z) ⟨F4.fr,zt⟩ (b6 (by omega)) ⟨zt,zt⟩) hA.cx hA.cx rfl zt (chg:=[N0]) ⟨.inr (.head _),zt⟩ fun s5 P7b P7z K7' r7 P7x=>?_
    exact body s5 _ 7 s3.toks (.inr ⟨_,_,_,_,rfl,.inr ⟨_,_,rfl,rfl⟩⟩) (F4.frame Z K7' (zle P7z) ((P7x 0 _ _ (N0) rfl rfl))) K7' (r7.trans (r5.trans r3')) fun s7 H=>H
 ·have e8:i=8:=by omega
  subst e8
  refine fz (U6 A.frames) (ag (w:=wf w a b c) (pre:=[(it,bd 8 0 1)]) F3.based (F3.g257 Z) ⟨hit3,zt⟩ (b6 (qw (k:=7) (qq (qk (k:=6) n0 sz) hs1))) ⟨zt,zt⟩) hA.cx hA.cx rfl zt (chg:=[it]) ⟨.inr (.head _),zt⟩ fun s4 P5b P5z K5' r5 P5x=>?_
  have F4:=far (cur:=0) (size:=0) K5' (zle P5z)
  have hW:WU ext ep:=hi0.resolve_left (qj (qb rfl))
  exact wpAny_execs_nil (wpAny_execs_nil (h s4 ext ep ks hW hks F4 (K5' _ _ hm3 (fun q=>by have:=ax (List.mem_singleton.mp q);exact(qn (k:=4) (qq (qk (k:=4) (qg this) sz) hs1)))) (r5.trans r3')))
end
noncomputable def ip:PySem.Expr→PySem.Expr
 |.Compare l _ _ _=>l
 |_=>default
noncomputable def jl:PySem.Expr→PySem.Expr
 |.Compare _ _ (r::_) _=>r
 |_=>default
noncomputable def yq:PySem.Expr→Pos
 |.Compare _ _ _ q=>q
 |_=>default
noncomputable def jk:Stmt:=ak (inS duM) 1
noncomputable def jib:PySem.Expr:=jjw (ak (inS duM) 0)
noncomputable def jaf(l L d m:Nat):Env:={ jnf jib "_law_due.<locals>." l L 245 with cells:=[(sn "many",m),(sn "deep",d)],scope:=relabel (ou jib) (co L d m) }
noncomputable def jx(it acc l L d m:Nat):Code:=.compLoop jib 0 (.ref it) (.ref acc) (jaf l L d m)
noncomputable def jia(it acc l L d m:Nat):Code:=.compStart jib 0 (.ref it) (.ref acc) (jaf l L d m)
structure CmO where
 lv:Nat×Value
 size:Nat
 toks:Nat
noncomputable def cmC(P:Params)(p:Par)(code:Code)(rl:List Value):CallSpec where
 Out:=CmO
 code:=code
 d:=600
 u:=6000
 pre:=[(1,lO (ai p.nt) p.e1),(2,liO p.NM 0),(3,lO [] 0),(4,ci P "name" none)]
 i:=3
 tk:=0
 res _:=.ok .next
 upd o:=[(2,liE 8),(3,lO rl rl.length),(4,ci P "name" (some o.lv))]
 new _:=[]
 size o:=o.size
 toks o:=o.toks
 rel _:=True
noncomputable def mt:List Nat:=[]
noncomputable def mu:List CH:=[.p,.stop]
noncomputable def mv:List Nat:=[1,1,1,1]
noncomputable def mx:List CH:=[.p,.p,.p,.stop]
section
variable{w:World}{a b c:Bool}{N t₀ L d m en ro tv tk tw wy we t7 tn dp t9 de ee it acc l rg t t3 t4 tx tt ts ep xe re:Nat}{p:Par}{f:Nat→Nat}{kv wv xv uv:Value}{ext:Ext}{xs rl:List Value}{dv:KV}{many dd:Int}{cv:Option Value}{v:Nat×Value}
noncomputable def V9:List Nat:=dH 6 1090785280
noncomputable def W0:List CH:=[.p,.p,.p,.p,.p,.p]
theorem V8(ff:Option (List Env)):au 100 (wf w a b c) N t₀ ([]) (.fin V9 W0 ⟨.ok (.done (.ret (.ref N))),[(0,rgU 9 t₀)],1,3⟩) ⟨none,520,5200,ff⟩ (evT (fi duM) (co L d m)):=by kernel_rfl
noncomputable def Y1:List Nat:=dH 7 138529738817
noncomputable def Y2:List CH:=[.p,.p]
theorem Y0(ff:Option (List Env)):au 60 (wf w a b c) N t₀ ([(rg,rgU 9 t)]) (.fin Y1 Y2 ⟨.ok (.done (.ret (.ref N))),[(0,rgU 9 t),(1,bd 0 9 1)],1,0⟩) ⟨none,520,5200,ff⟩ (itT (.ref rg)):=by cases c<;>kernel_rfl
noncomputable def V6:List Nat:=dH 9 285942833483841
noncomputable def V7:List CH:=[.p,.p]
theorem V5(ff:Option (List Env)):∀(i:Fin 9),au 60 (wf w a b c) N t₀ ([(it,bd (i.val:Int) ((9-i.val:Nat):Int) 1)]) (.fin V6 V7 ⟨.ok (.done (gw (some (.int (i.val:Int) t₀)))),[(0,bd ((i.val+1:Nat):Int) ((9-(i.val+1):Nat):Int) 1)],0,1⟩) ⟨none,520,5200,ff⟩ (nxT (.ref it))
 |0=>by kernel_rfl
 |1=>by kernel_rfl
 |2=>by kernel_rfl
 |3=>by kernel_rfl
 |4=>by kernel_rfl
 |5=>by kernel_rfl
 |6=>by kernel_rfl
 |7=>by kernel_rfl
 |8=>by kernel_rfl
noncomputable def ya:List Nat:=dH 6 3238268993
noncomputable def yb:List CH:=[.p,.p]
theorem xz(ff:Option (List Env)):au 60 (wf w a b c) N t₀ ([(it,bd 9 0 1)]) (.fin ya yb ⟨.ok (.done (gw none)),[(0,bd 9 0 1)],2,0⟩) ⟨none,520,5200,ff⟩ (nxT (.ref it)):=by kernel_rfl
noncomputable def W8:List Nat:=[2,2]
noncomputable def W9:List CH:=[]
theorem W7(ff:Option (List Env)):au 60 (wf w a b c) N t₀ ([(L,frU (wf w a b c).params p f en ro ext ep),(m,ceO cv)]) (.fin W8 W9 ⟨.ok (.done .next),[(0,frU (wf w a b c).params p f en ro ext ep),(1,ceO (some (.int many tv)))],0,0⟩) ⟨none,520,5200,ff⟩ (asT (teS duM) (co L d m) (.int many tv)):=by kernel_rfl
noncomputable def jmd(b:Bool)(NM it acc l L d m:Nat):Script:=match b with
 |true=>.fin mt mu ⟨.ok (.again (jx it acc l L d m)),[(0,liO NM 0)],0,0⟩
 |false=>.fin mv mx ⟨.ok (.again (jx it acc l L d m)),[(0,liO NM 0)],0,0⟩
theorem jme(f:Option (List Env)):∀(b c:Bool),c9 60 (wf w a b c) N t₀ [(it,liO p.NM 0)] (jmd b p.NM it acc l L d m) ⟨none,600,6000,f⟩ (jia it acc l L d m)
 |true,true=>by kernel_rfl
 |true,false=>by kernel_rfl
 |false,true=>by kernel_rfl
 |false,false=>by kernel_rfl
noncomputable def jan:List Nat:=dH 13 23985415582453753712705
noncomputable def jao(X0:XSpec):List CH:=[.p,.p,.p,.x X0,.stop]
theorem jam(ff:Option (List Env)):∀(i:Fin 8),c9 200 (wf w a b c) N t₀ ([(it,liO p.NM i.val),(l,ci (wf w a b c).params "name" (fb i v)),(p.NM,lO (ai p.nt) p.e1),(d,ceO (some (.ref dp))),(dp,dO (wf w a b c).params p.nt dv de)]) (.fin jan (jao (dcX none (wf w a b c).params dp p.nt i dv de 4 0 1 false)) ⟨.ok (.again (jx it acc l L d m)),[(0,liO p.NM (i.val+1)),(1,ci (wf w a b c).params "name" (lvN i v t₀ (nmV p.nt i))),(2,lO (ai p.nt) p.e1),(3,ceO (some (.ref dp))),(4,dO (wf w a b c).params p.nt dv de)],0,2⟩) ⟨none,600,6000,ff⟩ ((jx it acc l L d m))  := F8 (by cases c<;>kernel_rfl) (by cases c<;>kernel_rfl) (by cases c<;>kernel_rfl) (by cases c<;>kernel_rfl) (by cases c<;>kernel_rfl) (by cases c<;>kernel_rfl) (by cases c<;>kernel_rfl) (by cases c<;>kernel_rfl)
noncomputable def jak:List Nat:=dH 19 1972866704386430160183428921954369
noncomputable def jal(X0 X1 X2:XSpec):List CH:=[.p,.p,.p,.x X0,.x X1,.x X2,.stop]
theorem jaj(ff:Option (List Env)):∀(i:Fin 8),c9 200 (wf w a b c) N t₀ ([(it,liO p.NM i.val),(l,ci (wf w a b c).params "name" (fb i v)),(p.NM,lO (ai p.nt) p.e1),(d,ceO (some (.ref dp))),(dp,dO (wf w a b c).params p.nt dv de),(m,ceO (some (.int many tv)))]) (.fin jak (jal (dcX none (wf w a b c).params dp p.nt i dv de 4 0 1 true) (dgX none (wf w a b c).params dp p.nt i dv de 4 0 2 (.int dd tw)) (lm dd tw many tv 0 3 false)) ⟨.ok (.again (jx it acc l L d m)),[(0,liO p.NM (i.val+1)),(1,ci (wf w a b c).params "name" (lvN i v t₀ (nmV p.nt i))),(2,lO (ai p.nt) p.e1),(3,ceO (some (.ref dp))),(4,dO (wf w a b c).params p.nt dv de),(5,ceO (some (.int many tv)))],0,3⟩) ⟨none,600,6000,ff⟩ ((jx it acc l L d m))  := F8 (by cases c<;>kernel_rfl) (by cases c<;>kernel_rfl) (by cases c<;>kernel_rfl) (by cases c<;>kernel_rfl) (by cases c<;>kernel_rfl) (by cases c<;>kernel_rfl) (by cases c<;>kernel_rfl) (by cases c<;>kernel_rfl)
noncomputable def jah:List Nat:=dH 20 43511241572665051188427399555715137
noncomputable def jai(X0 X1 X2 X3:XSpec):List CH:=[.p,.p,.p,.x X0,.x X1,.x X2,.x X3,.stop]
theorem jag(ff:Option (List Env)):∀(i:Fin 8),c9 200 (wf w a b c) N t₀ ([(it,liO p.NM i.val),(l,ci (wf w a b c).params "name" (fb i v)),(p.NM,lO (ai p.nt) p.e1),(d,ceO (some (.ref dp))),(dp,dO (wf w a b c).params p.nt dv de),(m,ceO (some (.int many tv))),(acc,lO xs xe)]) (.fin jah (jai (dcX none (wf w a b c).params dp p.nt i dv de 4 0 1 true) (dgX none (wf w a b c).params dp p.nt i dv de 4 0 2 (.int dd tw)) (lm dd tw many tv 0 3 true) (laX none acc xs xe (nmV p.nt i) 6 0 3)) ⟨.ok (.again (jx it acc l L d m)),[(0,liO p.NM (i.val+1)),(1,ci (wf w a b c).params "name" (lvN i v t₀ (nmV p.nt i))),(2,lO (ai p.nt) p.e1),(3,ceO (some (.ref dp))),(4,dO (wf w a b c).params p.nt dv de),(5,ceO (some (.int many tv))),(6,lO (xs++[nmV p.nt i]) (xe+1))],0,3⟩) ⟨none,600,6000,ff⟩ ((jx it acc l L d m))  := F8 (by cases c<;>kernel_rfl) (by cases c<;>kernel_rfl) (by cases c<;>kernel_rfl) (by cases c<;>kernel_rfl) (by cases c<;>kernel_rfl) (by cases c<;>kernel_rfl) (by cases c<;>kernel_rfl) (by cases c<;>kernel_rfl)
noncomputable def jad:List Nat:=dH 8 17662013083713
noncomputable def jae:List CH:=[.p,.p,.p]
theorem jac(ff:Option (List Env)):c9 100 (wf w a b c) N t₀ ([(it,liO p.NM 8),(p.NM,lO (ai p.nt) p.e1)]) (.fin jad jae ⟨.ok (.done .next),[(0,liE 8),(1,lO (ai p.nt) p.e1)],2,0⟩) ⟨none,600,6000,ff⟩ ((jx it acc l L d m)):=by cases c<;>kernel_rfl
noncomputable def W5:List Nat:=[1]
noncomputable def W6:List CH:=[]
theorem W4(ff:Option (List Env)):au 60 (wf w a b c) N t₀ ([(L,frU (wf w a b c).params p f en ro [("k",tk,kv),("way",tw,wv),("told",tt,.ref ts)] 7)]) (.fin W5 W6 ⟨.ok (.done (.ret (.ref ts))),[(0,frU (wf w a b c).params p f en ro [("k",tk,kv),("way",tw,wv),("told",tt,.ref ts)] 7)],0,0⟩) ⟨none,520,5200,ff⟩ (evT (ip (teS jk)) (co L d m)):=by kernel_rfl
noncomputable def yd:List Nat:=[1]
noncomputable def ye:List CH:=[]
theorem yc(ff:Option (List Env)):au 60 (wf w a b c) N t₀ ([(L,frU (wf w a b c).params p f en ro [("k",tk,kv),("way",tw,wv),("x",tx,xv),("told",tt,.ref ts)] 8)]) (.fin yd ye ⟨.ok (.done (.ret (.ref ts))),[(0,frU (wf w a b c).params p f en ro [("k",tk,kv),("way",tw,wv),("x",tx,xv),("told",tt,.ref ts)] 8)],0,0⟩) ⟨none,520,5200,ff⟩ (evT (ip (teS jk)) (co L d m)):=by kernel_rfl
noncomputable def W2:List Nat:=[]
noncomputable def W3:List CH:=[]
theorem W1(ff:Option (List Env)):au 60 (wf w a b c) N t₀ ([]) (.fin W2 W3 ⟨.ok (.done (.ret (.ref N))),[(0,lO [] 0)],1,0⟩) ⟨none,520,5200,ff⟩ (evT (jl (teS jk)) (co L d m)):=by kernel_rfl
noncomputable def Y4:List Nat:=dH 6 1107828865
noncomputable def Y5(X0:XSpec):List CH:=[.x X0]
theorem Y3(ff:Option (List Env)):au 60 (wf w a b c) N t₀ ([(L,frU (wf w a b c).params p f en ro [("k",tk,kv),("way",tw,wv),("told",tt,.ref ts)] 7),(ro,lO rl re)]) (.fin Y4 (Y5 (laX none ro rl re (.ref ts) 1 0 0)) ⟨.ok (.done .next),[(0,frU (wf w a b c).params p f en ro [("k",tk,kv),("way",tw,wv),("told",tt,.ref ts)] 7),(1,lO (rl++[.ref ts]) (re+1))],0,0⟩) ⟨none,520,5200,ff⟩ (ar (inS jk) (co L d m)):=by kernel_rfl
noncomputable def yg:List Nat:=dH 6 1107828865
noncomputable def yh(X0:XSpec):List CH:=[.x X0]
theorem yf(ff:Option (List Env)):au 60 (wf w a b c) N t₀ ([(L,frU (wf w a b c).params p f en ro [("k",tk,kv),("way",tw,wv),("x",tx,xv),("told",tt,.ref ts)] 8),(ro,lO rl re)]) (.fin yg (yh (laX none ro rl re (.ref ts) 1 0 0)) ⟨.ok (.done .next),[(0,frU (wf w a b c).params p f en ro [("k",tk,kv),("way",tw,wv),("x",tx,xv),("told",tt,.ref ts)] 8),(1,lO (rl++[.ref ts]) (re+1))],0,0⟩) ⟨none,520,5200,ff⟩ (ar (inS jk) (co L d m)):=by kernel_rfl
noncomputable def ldX(hnd:Option Value)(P:Params)(D:Nat)(nt:Fin 8→Nat)(kv:KV)(ep t j i tk:Nat):XSpec:=⟨.call (.builtin "len") ⟨[.ref D],[]⟩,980,9800,hnd,[(j,dO P nt kv ep)],i,tk,rv (.int kv.length t),[],[],2⟩
noncomputable def xx:List Nat:=[1,0,0,2,1]
noncomputable def xy(X0 X1:XSpec):List CH:=[.x X0,.x X1]
theorem xw(ff:Option (List Env)):∀(r:Bool),au 100 (wf w a b c) N t₀ ([(L,frU (wf w a b c).params p f en ro ext ep),(d,ceO (some (.ref dp))),(dp,dO (wf w a b c).params p.nt dv de)]) (.fin xx (xy (ldX none (wf w a b c).params dp p.nt dv de (t₀+1) 2 0 0) (ltX none (dv.length:Int) (t₀+1) 8 (t₀+2) 0 3 r)) ⟨.ok (.done (.ret (.ref N))),[(0,frU (wf w a b c).params p f en ro ext ep),(1,ceO (some (.ref dp))),(2,dO (wf w a b c).params p.nt dv de),(3,lO [.ref ro,.bool r,.ref en] 0)],1,3⟩) ⟨none,520,5200,ff⟩ (ar [ak duS 3] (co L d m))
 |true=>by cases c<;>kernel_rfl
 |false=>by cases c<;>kernel_rfl
end
theorem mf{n:Nat}{w:World}{pre:List (Nat×Obj)}{N t₀:Nat}{scr:Script}{B X:Cx}{e:Expr}{env:Env}{A C:Around}{Q:Value→Shared→Prop}{E:Value→Shared→Prop}{s:Shared}{modA:Addr→Prop}
  (H:dh n (mkV w pre N t₀) pre scr B X (evT e env)=rhs scr (mkV w pre N t₀)) (P:Pre w pre N t₀ s) (hB:B.Ok A) (hX:X.Ok C) (G:Goal w A (fun r s'=>match r with|.ok f=>∀v,f=.ret v→Q v s'|.error e=>E e s') (ae s) s.heap modA scr (mkV w pre N t₀) s.heap) :
  wpAny (model PG w) C (eval e env) Q E s:=by
 rw[show eval e env=PySem.W.Fast.tw14044960220447912780 e env from by rw[PySem.W.Fast.te14044960220447912780]]
 exact ja (inj:=fun v=>.ret v) H P hB hX G (fun a s' h=>h a rfl) (fun _ _ h=>h)
theorem jt{n:Nat}{w:World}{pre:List (Nat×Obj)}{N t₀:Nat}{scr:Script}{B X:Cx}{e:Expr}{env:Env}{A C:Around}{Q:Value→Shared→Prop}{E:Value→Shared→Prop}{s:Shared}{modA:Addr→Prop}
  (H:dh n (mkV w pre N t₀) pre scr B X (evT e env)=rhs scr (mkV w pre N t₀)) (P:Pre w pre N t₀ s) (hB:B.Ok A) (hX:X.Ok C) (G:GoalS w A (fun r s'=>match r with|.ok f=>∀v,f=.ret v→Q v s'|.error e=>E e s') (ae s) s.heap modA scr (mkV w pre N t₀) s.heap) :
  wpAny (model PG w) C (eval e env) Q E s:=mf H P hB hX G.goal
noncomputable def fil(F:Fin 8→Bool)(i:Nat):List (Fin 8):=((List.finRange 8).take i).filter F
theorem N9(F:Fin 8→Bool)(i:Fin 8):fil F (i.val+1)=fil F i.val++if F i then [i] else []:=by
 unfold fil
 have:(List.finRange 8).take (i.val+1)=(List.finRange 8).take i.val++[i]:=by
  rw[List.take_add_one]
  congr 1
  rw[List.getElem?_eq_getElem (by rw[List.length_finRange];exact i.isLt)]
  simp
 rw[this,List.filter_append]
 congr 1
 cases h:F i<;>simp[h]
theorem ph(F:Fin 8→Bool)(i:Nat):(fil F i).length≤8:=by
 unfold fil
 refine Nat.le_trans (List.length_filter_le ..) ?_
 rw[List.length_take,List.length_finRange]
 omega
theorem jh(F:Fin 8→Bool):fil F 8=(List.finRange 8).filter F:=by
 unfold fil
 rw[List.take_of_length_le (by rw[List.length_finRange];exact Nat.le_refl _)]
structure CmZ(P:Params)(p:Par)(it acc l:Nat)(h₀:Heap):Prop where
 based:Based P h₀
 n0:257≤h₀.objs.size
 off:257≤it∧257≤acc∧257≤l∧257≤p.NM
 ne:it≠acc∧it≠l∧acc≠l
 nm:h₀.get? p.NM=some (lO (ai p.nt) p.e1)
 nmn:p.NM∉[it,acc,l]
structure CmS(P:Params)(p:Par)(it acc l:Nat)(F:Fin 8→Bool)(h₀:Heap)(i:Nat)(lv:Option (Nat×Value))(h:Heap):Prop where
 keep:af [it,acc,l] h₀ h
 size:h₀.objs.size≤h.objs.size
 itt:h.get? it=some (liO p.NM i)
 acc:h.get? acc=some (lO ((fil F i).map (nmV p.nt)) (fil F i).length)
 loc:h.get? l=some (ci P "name" lv)
section
variable{w:World}{a b c:Bool}{p:Par}{it acc l:Nat}{F:Fin 8→Bool}{h₀:Heap}{lv:Option (Nat×Value)}{A:Around}{R:Result→Shared→Prop}{C:Code}
theorem CmS.based{h:Heap}{i:Nat}(S:CmS (wf w a b c).params p it acc l F h₀ i lv h)(Z:CmZ (wf w a b c).params p it acc l h₀):Based (wf w a b c).params h:=by
 have o:=Z.off
 exact dw Z.based (pr:=[it,acc,l]) (m:=fun _=>False) (fun y hy=>by
  exact mA3 hy o.1 o.2.1 o.2.2.1) (fun _ q=>q.elim) (fun y o e hy _=>S.keep y o e hy)
theorem q9(Z:CmZ (wf w a b c).params p it acc l h₀)
  (turn:∀(i:Fin 8) (v:Nat×Value) (s:Shared),CmS (wf w a b c).params p it acc l F h₀ i.val (fb i v) s.heap→(∀s' v',CmS (wf w a b c).params p it acc l F h₀ (i.val+1) (some v') s'.heap→ae s'=ae s→codeAny (model PG (wf w a b c)) A C R s')→codeAny (model PG (wf w a b c)) A C R s) :
  ∀(m i:Nat) (_:i+m=8) {s:Shared} {v:Nat×Value} (S:CmS (wf w a b c).params p it acc l F h₀ i (if i=0 then none else some v) s.heap)
  (h:∀s' v',CmS (wf w a b c).params p it acc l F h₀ 8 (some v') s'.heap→ae s'=ae s→codeAny (model PG (wf w a b c)) A C R s'),codeAny (model PG (wf w a b c)) A C R s
 |0,i,e,s,v,S,h=>by
  have:i=8:=by omega
  subst this
  exact h s v S rfl
 |m+1,i,e,s,v,S,h=>by
  have hi:i<8:=by omega
  refine turn ⟨i,hi⟩ v s (by
   have:fb ⟨i,hi⟩ v=(if i=0 then none else some v):=by
    unfold fb
    by_cases q:i=0
    ·subst q;rfl
    ·rw[if_neg q,if_neg fun e=>q (congrArg Fin.val e)]
   rw[this];exact S) fun s' v' S' r=>?_
  exact q9 Z turn m (i+1) (by omega) (s:=s') (v:=v') (by rw[if_neg (Nat.succ_ne_zero i)];exact S') fun s2 v2 S2 r2=>h s2 v2 S2 (r2.trans r)
theorem D8(i:Fin 8)(v:Nat×Value)(t:Nat)(x:Value):∃v',lvN i v t x=some v':=by
 unfold lvN
 split<;>exact⟨_,rfl⟩
theorem CmS.next{h h':Heap}{i:Fin 8}{v:Nat×Value}{t:Nat}{x:Value}(S:CmS (wf w a b c).params p it acc l F h₀ i.val (fb i v) h)(K:af [it,acc,l] h h')(hs:h.objs.size≤h'.objs.size)(h1:h'.get? it=some (liO p.NM (i.val+1)))(h2:h'.get? acc=some (lO (((fil F i.val)++if F i then [i] else []).map (nmV p.nt)) ((fil F i.val)++if F i then [i] else []).length))(h3:h'.get? l=some (ci (wf w a b c).params "name" (lvN i v t x))) :
  ∃v',CmS (wf w a b c).params p it acc l F h₀ (i.val+1) (some v') h':=by
 obtain⟨v',hv⟩:=D8 i v t x
 rw[hv] at h3
 rw[←N9] at h2
 exact⟨v',fun y o e hy=>K y o (S.keep y o e hy) hy,Nat.le_trans S.size hs,h1,h2,h3⟩
end
noncomputable def dpB(p:Par)(many:Nat):Fin 8→Bool:=fun k=>@decide (DepthR p k many) (Classical.propDecidable _)
theorem jp1{p:Par}{many:Nat}{k:Fin 8}(h:DepthR p k many):dpB p many k=true:=@decide_eq_true _ (Classical.propDecidable _) h
theorem jj7{p:Par}{many:Nat}{k:Fin 8}(h:¬DepthR p k many):dpB p many k=false:=@decide_eq_false _ (Classical.propDecidable _) h
theorem dpB_iff{p:Par}{many:Nat}{k:Fin 8}:dpB p many k=true↔DepthR p k many:=@decide_eq_true_iff _ (Classical.propDecidable _)
section
variable{w:World}{a b c:Bool}{p:Par}{it acc l d m dp tv many L N:Nat}{F:Fin 8→Bool}{h₀:Heap}{ks:List (Fin 8)}{A:Around}{R:Result→Shared→Prop}{C:Code}{s:Shared}{rl:List Value}
structure CmD(P:Params)(p:Par)(it acc l d m dp many tv:Nat)(ks:List (Fin 8))(h₀:Heap):Prop where
 off:257≤d∧257≤m∧257≤dp∧d≠m
 dc:h₀.get? d=some (ceO (some (.ref dp)))
 mc:h₀.get? m=some (ceO (some (.int (many:Int) tv)))
 dpp:DpP P p dp ks h₀
 ne:d∉[it,acc,l]∧m∉[it,acc,l]∧dp∉[it,acc,l]
theorem jmj(hA:Room A 600 6000)(hks:KsI p 8 ks)(Z:CmZ (wf w a b c).params p it acc l h₀)(D:CmD (wf w a b c).params p it acc l d m dp many tv ks h₀)(i:Fin 8)(v:Nat×Value)(s:Shared)(S:CmS (wf w a b c).params p it acc l (dpB p many) h₀ i.val (fb i v) s.heap)
  (h:∀s' v',CmS (wf w a b c).params p it acc l (dpB p many) h₀ (i.val+1) (some v') s'.heap→ae s'=ae s→codeAny (model PG (wf w a b c)) A (jx it acc l L d m) R s'):codeAny (model PG (wf w a b c)) A (jx it acc l L d m) R s:=by
 have o:=Z.off
 have n:=Z.ne
 have od:=D.off
 have nd:=D.ne
 have B:=S.based Z
 have hn0:=Z.n0
 have hsz:=S.size
 have g257:257≤s.heap.objs.size:=(qc hn0 hsz)
 have xnm:=S.keep _ _ Z.nm Z.nmn
 have xd:=S.keep _ _ D.dc nd.1
 have xm:=S.keep _ _ D.mc nd.2.1
 obtain⟨dv,de,hdp,hdk,hdv⟩:=D.dpp
 have xdp:=S.keep _ _ hdp nd.2.2
 have hdl:@Ne Nat dp l:=(xO3 nd.2.2).2.2
 have hcl:(fil (dpB p many) i.val).length≤8:=ph _ _
 have hnmn:=Z.nmn
 replace hnmn:=xO3 hnmn
 have D1:dp≠1:=(qj (qw (k:=255) od.2.2.1))
 by_cases hk:i∈ks
 ·obtain⟨x,hlk,hmem⟩:=cq (kv:=dv) (k:=i) (by rw[hdk];exact hk)
  obtain⟨dd,tw,hx,hdd⟩:=hdv _ hmem
  have hx':x=.int (dd:Int) tw:=hx
  subst hx'
  by_cases hm:dd=many
  ·subst hm
   have hF:dpB p dd i=true:=jp1 hdd
   have P:=ag (w:=wf w a b c) (pre:=[(it,liO p.NM i.val),(l,ci (wf w a b c).params "name" (fb i v)),(p.NM,lO (ai p.nt) p.e1),(d,ceO (some (.ref dp))),(dp,dO (wf w a b c).params p.nt dv de),(m,ceO (some (.int (dd:Int) tv))),(acc,lO ((fil (dpB p dd) i.val).map (nmV p.nt)) (fil (dpB p dd) i.val).length)]) B g257 ⟨S.itt,S.loc,xnm,xd,xdp,xm,S.acc,zt⟩ ⟨.inl o.1,.inl o.2.2.1,.inl o.2.2.2,.inl od.1,.inl od.2.2.1,.inl od.2.1,.inl o.2.1,zt⟩
    (by cases i using Fin.cases<;>exact⟨⟨zt,zt,zt,zt,zt,zt,zt⟩,⟨zt,zt,hdl.symm,zt,zt,zt⟩,⟨zt,zt,zt,hnmn.2.1,zt⟩,⟨zt,od.2.2.2,zt,zt⟩,⟨zt,zt,zt⟩,⟨zt,zt⟩,zt,zt⟩)
   refine cz (jag A.frames i) P hA.cx rfl ⟨iz rfl rfl D1 (by rw[hlk];rfl),ic rfl rfl hlk,f9 (by simp),fw rfl (by rw[List.length_map];exact(qr (k:=991) (qs 1 hcl))),zt⟩ fun s' P' K r=>?_
   have K':af [it,acc,l] s.heap s'.heap:=fun y ob e hy=>am (chg:=[it,acc,l]) P P'.has K ⟨.inr (.head _),.inr (.tail _ (.tail _ (.head _))),.inl rfl,.inl rfl,.inl rfl,.inl rfl,.inr (.tail _ (.head _)),zt⟩ y ob e hy
   obtain⟨v',S'⟩:=S.next K' (ch P') (P'.has (it,_) (.head _)) (by
    have:=P'.has (acc,_) (.tail _ (.tail _ (.tail _ (.tail _ (.tail _ (.tail _ (.head _)))))))
    rw[hF,if_pos rfl,List.map_append,List.length_append]
    exact this) (P'.has (l,_) (.tail _ (.head _)))
   exact h s' v' S' r
  ·have hF:dpB p many i=false:=jj7 fun q=>hm (hdd.fn q)
   have P:=ag (w:=wf w a b c) (pre:=[(it,liO p.NM i.val),(l,ci (wf w a b c).params "name" (fb i v)),(p.NM,lO (ai p.nt) p.e1),(d,ceO (some (.ref dp))),(dp,dO (wf w a b c).params p.nt dv de),(m,ceO (some (.int (many:Int) tv)))]) B g257 ⟨S.itt,S.loc,xnm,xd,xdp,xm,zt⟩ ⟨.inl o.1,.inl o.2.2.1,.inl o.2.2.2,.inl od.1,.inl od.2.2.1,.inl od.2.1,zt⟩
    (by cases i using Fin.cases<;>exact⟨⟨zt,zt,zt,zt,zt,zt⟩,⟨zt,zt,hdl.symm,zt,zt⟩,⟨zt,zt,zt,zt⟩,⟨zt,od.2.2.2,zt⟩,⟨zt,zt⟩,zt,zt⟩)
   refine cz (jaj A.frames i) P hA.cx rfl ⟨iz rfl rfl D1 (by rw[hlk];rfl),ic rfl rfl hlk,f9 (by simpa using fun q=>hm (by omega)),zt⟩ fun s' P' K r=>?_
   have K':af [it,l] s.heap s'.heap:=am P P'.has K ⟨.inr (.head _),.inr (.tail _ (.head _)),.inl rfl,.inl rfl,.inl rfl,.inl rfl,zt⟩
   obtain⟨v',S'⟩:=S.next (fun y ob e hy=>K' y ob e fun q=>hy (iO3 ((mO2 q).imp_right .inr))) (ch P') (P'.has (it,_) (.head _)) (by
    rw[hF,if_neg (by simp),List.append_nil]
    exact K' _ _ S.acc (by refine nO2 ?_;exact⟨n.1.symm,n.2.2⟩)) (P'.has (l,_) (.tail _ (.head _)))
   exact h s' v' S' r
 ·have hF:dpB p many i=false:=jj7 fun q=>hk ((hks.mem i).mpr ⟨i.isLt,many,q⟩)
  have P:=ag (w:=wf w a b c) (pre:=[(it,liO p.NM i.val),(l,ci (wf w a b c).params "name" (fb i v)),(p.NM,lO (ai p.nt) p.e1),(d,ceO (some (.ref dp))),(dp,dO (wf w a b c).params p.nt dv de)]) B g257 ⟨S.itt,S.loc,xnm,xd,xdp,zt⟩ ⟨.inl o.1,.inl o.2.2.1,.inl o.2.2.2,.inl od.1,.inl od.2.2.1,zt⟩
   (by cases i using Fin.cases<;>exact⟨⟨zt,zt,zt,zt,zt⟩,⟨zt,zt,hdl.symm,zt⟩,⟨zt,zt,zt⟩,⟨zt,zt⟩,zt,zt⟩)
  refine cz (jam A.frames i) P hA.cx rfl ⟨iz rfl rfl D1 (by rw[bk (by rw[hdk];exact hk)];rfl),zt⟩ fun s' P' K r=>?_
  have K':af [it,l] s.heap s'.heap:=am P P'.has K ⟨.inr (.head _),.inr (.tail _ (.head _)),.inl rfl,.inl rfl,.inl rfl,zt⟩
  obtain⟨v',S'⟩:=S.next (fun y ob e hy=>K' y ob e fun q=>hy (iO3 ((mO2 q).imp_right .inr))) (ch P') (P'.has (it,_) (.head _)) (by
   rw[hF,if_neg (by simp),List.append_nil]
   exact K' _ _ S.acc (by refine nO2 ?_;exact⟨n.1.symm,n.2.2⟩)) (P'.has (l,_) (.tail _ (.head _)))
  exact h s' v' S' r
end
section
variable{w:World}{a b c:Bool}{p:Par}{it acc l d m dp tv many L N:Nat}{F:Fin 8→Bool}{h₀:Heap}{ks:List (Fin 8)}{A:Around}{R:Result→Shared→Prop}{C:Code}{s:Shared}{rl:List Value}
theorem jmk(hA:Room A 600 6000)(hks:KsI p 8 ks)(Z:CmZ (wf w a b c).params p it acc l s.heap)(D:CmD (wf w a b c).params p it acc l d m dp many tv ks s.heap)(h1:s.heap.get? it=some (liO p.NM 0))(h2:s.heap.get? acc=some (lO [] 0))(h3:s.heap.get? l=some (ci (wf w a b c).params "name" none))
  (h:∀s' v,s'.heap.get? it=some (liE 8)→s'.heap.get? acc=some (lO ((fil (dpB p many) 8).map (nmV p.nt)) (fil (dpB p many) 8).length)→s'.heap.get? l=some (ci (wf w a b c).params "name" (some v))→af [it,acc,l] s.heap s'.heap→s.heap.objs.size≤s'.heap.objs.size→ae s'=ae s→R (.ok .next) s') :
  codeAny (model PG (wf w a b c)) A (jia it acc l L d m) R s:=by
 have o:=Z.off
 have n:=Z.ne
 have hn0:=Z.n0
 have P:=ag (w:=wf w a b c) (pre:=[(it,liO p.NM 0)]) Z.based hn0 ⟨h1,zt⟩ ⟨.inl o.1,zt⟩ ⟨zt,zt⟩
 have go:∀s1,af [] s.heap s1.heap→s.heap.objs.size≤s1.heap.objs.size→ae s1=ae s→codeAny (model PG (wf w a b c)) A (jx it acc l L d m) R s1:=fun s1 K hs r=>by
  have k:∀{y:Nat} {ob:Obj},s.heap.get? y=some ob→s1.heap.get? y=some ob:=fun{y ob} e=>K y ob e n0m
  refine q9 (w:=w) (a:=a) (b:=b) (c:=c) (p:=p) (it:=it) (acc:=acc) (l:=l) (F:=dpB p many) (h₀:=s.heap) (C:=jx it acc l L d m) Z (fun i v s2 S h=>jmj hA hks Z D i v s2 S h) 8 0 rfl (v:=(0,.none)) ⟨fun y ob e _=>k e,hs,k h1,k h2,k h3⟩ fun s2 v S r2=>?_
  refine dg (jac A.frames) (ag (w:=wf w a b c) (pre:=[(it,liO p.NM 8),(p.NM,lO (ai p.nt) p.e1)]) (S.based Z) (Nat.le_trans hn0 S.size) ⟨S.itt,S.keep _ _ Z.nm Z.nmn,zt⟩ ⟨.inl o.1,.inl o.2.2.2,zt⟩ ⟨⟨zt,zt⟩,zt,zt⟩) hA.cx  rfl zt (chg:=[it]) ⟨.inr (.head _),.inl rfl,zt⟩ fun s3 P3b P3z K3' r3 P3x=>?_
  exact h s3 v ((P3x 0 _ _ (it) rfl rfl)) (K3' _ _ S.acc (du n.1.symm)) (K3' _ _ S.loc (du n.2.1.symm)) (fun y ob e hy=>K3' y ob (S.keep y ob e hy) (fun q=>hy (by rw[List.mem_singleton.mp q];exact .head _))) (Nat.le_trans S.size (zle P3z)) (r3.trans (r2.trans r))
 have run:=jme (w:=w) (a:=a) (p:=p) (it:=it) (acc:=acc) (l:=l) (L:=L) (d:=d) (m:=m) (N:=s.heap.objs.size) (t₀:=s.toks) A.frames b c
 cases b with
 |true=>
  refine cz run P hA.cx rfl zt fun s1 P1 K1 r1=>?_
  exact go s1 (am P P1.has K1 ⟨.inl rfl,zt⟩) (ch P1) r1
 |false=>
  refine cz run P hA.cx rfl zt fun s1 P1 K1 r1=>?_
  exact go s1 (am P P1.has K1 ⟨.inl rfl,zt⟩) (ch P1) r1
theorem jax{V:SV}{hh:Heap}(hw:V.w=wf w a b c)(hkt:V.kt=ktB (wf w a b c).params)(hN:V.N=N)(hV:V.pre=[L,p.NM])(hLN:hh.objs.size=N)(h257:257≤N)(hL:L<N)(hM:257≤p.NM∧p.NM<N)(hnm:hh.get? p.NM=some (lO (ai p.nt) p.e1))
  (body:∀(A:Around) (s:Shared) (R:Result→Shared→Prop),Room A 600 6000→CmZ (wf w a b c).params p N (N+1) (N+2) s.heap→(∀y ob,hh.get? y=some ob→y≠L→s.heap.get? y=some ob)→s.heap.get? N=some (liO p.NM 0)→s.heap.get? (N+1)=some (lO [] 0)→s.heap.get? (N+2)=some (ci (wf w a b c).params "name" none) →
   (∀s' v,s'.heap.get? N=some (liE 8)→s'.heap.get? (N+1)=some (lO rl rl.length)→s'.heap.get? (N+2)=some (ci (wf w a b c).params "name" (some v))→af [N,N+1,N+2] s.heap s'.heap→s.heap.objs.size≤s'.heap.objs.size→ae s'=ae s→R (.ok .next) s')→codeAny (model PG (wf w a b c)) A C R s) :
  b9 V hh (cmC (wf w a b c).params p C rl):=by
 intro A s hh' hf hd hu hs ht hb hkeep hpre
 have hs':s.heap.objs.size=N+3:=by rw[←hN];exact hs
 have ad:∀j,2≤j→aj V.pre V.N j=N+(j-2):=fun j hj=>by
  rw[bz _ _ _ (by rw[hV];exact hj),hV,hN];rfl
 have a1:aj V.pre V.N 1=p.NM:=by rw[hV];rfl
 have p1:=hpre (1,_) (.head _)
 have p2:=hpre (2,_) (.tail _ (.head _))
 have p3:=hpre (3,_) (.tail _ (.tail _ (.head _)))
 have p4:=hpre (4,_) (.tail _ (.tail _ (.tail _ (.head _))))
 rw[a1] at p1
 rw[ad 2 (qb rfl)] at p2
 rw[ad 3 (qb rfl)] at p3
 rw[ad 4 (qb rfl)] at p4
 rw[hkt] at hb
 rw[hw]
 refine body A s _ ⟨hh',hd,hu⟩ ⟨⟨hb⟩,(qw (k:=3) (qk (k:=3) h257 (qg hs'))),⟨h257,(qr (k:=1) h257),(qr (k:=2) h257),hM.1⟩,⟨by show@Ne Nat _ _;exact(qh (Nat.le_refl _)),by show@Ne Nat _ _;omega,by show@Ne Nat _ _;exact(qh (Nat.le_refl _))⟩,p1,by refine nO3 ?_;refine⟨?_,?_,?_⟩<;>(show ¬@Eq Nat _ _;omega)⟩ (fun y ob e hy=>?_) p2 p3 p4 fun s' v x1 x2 x3 K hs2 r=>?_
 ·by_cases e1:y=p.NM
  ·exact sg hnm p1 e e1
  ·exact hkeep y ob e (by rw[hV];refine nO2 ?_;exact⟨hy,e1⟩)
 ·refine⟨⟨v,s'.heap.objs.size,s'.toks⟩,zt,rfl,s'.heap,cm r,zt,rfl,hs2,fun q hq=>?_,(fun q hq=>nomatch hq),List.Pairwise.nil,fun y ob e hb _=>K y ob e fun q=>?_⟩
  ·simp only[cmC,List.mem_cons,List.not_mem_nil,or_false] at hq
   rcases hq with rfl|rfl|rfl
   ·rw[ad 2 (qb rfl)];exact x1
   ·rw[ad 3 (qb rfl)];exact x2
   ·rw[ad 4 (qb rfl)];exact x3
  ·have b2:=hb (2,liE 8) (.head _)
   have b3:=hb (3,lO rl rl.length) (.tail _ (.head _))
   have b4:=hb (4,ci (wf w a b c).params "name" (some v)) (.tail _ (.tail _ (.head _)))
   rw[ad 2 (qb rfl)] at b2
   rw[ad 3 (qb rfl)] at b3
   rw[ad 4 (qb rfl)] at b4
   replace q:=mO3 q
   rcases q with q|q|q
   ·exact b2 q
   ·exact b3 q
   ·exact b4 q
end
theorem py:duM=.For (teS duM) (fi duM) (inS duM) [] (gy duM):=by kernel_rfl
theorem px:inS duM=[ak (inS duM) 0]++[jk]:=by kernel_rfl
theorem kr:jk=.If (.Compare (ip (teS jk)) [.NotEq] [jl (teS jk)] (yq (teS jk))) (inS jk) [] (gy jk):=by kernel_rfl
noncomputable def xT(tk tw:Nat)(kv wv:Value)(ox ot:Option (Nat×Value)):Ext:=("k",tk,kv)::("way",tw,wv)::match ox,ot with
 |none,none=>[]
 |some x,none=>[("x",x.1,x.2)]
 |none,some y=>[("told",y.1,y.2)]
 |some x,some y=>[("x",x.1,x.2),("told",y.1,y.2)]
noncomputable def xE(ox ot:Option (Nat×Value)):Nat:=match ox,ot with
 |none,none=>6
 |some _,none=>7
 |none,some _=>7
 |some _,some _=>8
noncomputable def tN(ot:Option (Nat×Value))(t:Nat):Nat:=match ot with
 |none=>t
 |some y=>y.1
noncomputable def jas:List Nat:=[1,2,2,2,3]
noncomputable def jau:List CH:=[.p,.p]
noncomputable def jar:List Nat:=[1,1,5,5,5]
noncomputable def jat:List CH:=[]
section
variable{w:World}{a b c:Bool}{N t₀ L d m en ro tk tw ep:Nat}{p:Par}{f:Nat→Nat}{kv wv:Value}{rl:List Value}
noncomputable def lq(P:Params)(p:Par)(f:Nat→Nat)(en ro L tk tw:Nat)(kv wv:Value)(ox ot:Option (Nat×Value)):List (Nat×Obj):=[(L,frU P p f en ro (xT tk tw kv wv ox ot) (xE ox ot)),(p.NM,lO (ai p.nt) p.e1)]
noncomputable def jap(P:Params)(p:Par)(f:Nat→Nat)(en ro L d m N tk tw:Nat)(kv wv:Value)(ox ot:Option (Nat×Value))(rl:List Value):Script:=
 .call jas jau (cmC P p (jia N (N+1) (N+2) L d m) rl) fun o=>
  .fin jar jat ⟨.ok (.done .next),[(0,frU P p f en ro (xT tk tw kv wv ox (some (tN ot o.toks,.ref (N+1)))) (xE ox (some (0,.none)))),(1,lO (ai p.nt) p.e1),(3,lO rl rl.length)],0,1⟩
theorem jaq(ff:Option (List Env)):∀(ox ot:Option (Nat×Value)),au 160 (wf w a b c) N t₀ (lq (wf w a b c).params p f en ro L tk tw kv wv ox ot) (jap (wf w a b c).params p f en ro L d m N tk tw kv wv ox ot rl) ⟨none,520,5200,ff⟩ (ar [ak (inS duM) 0] (co L d m))
 |none,none=>by cases c<;>kernel_rfl
 |some _,none=>by cases c<;>kernel_rfl
 |none,some _=>by cases c<;>kernel_rfl
 |some _,some _=>by cases c<;>kernel_rfl
end
section
variable{w:World}{a b c:Bool}{p:Par}{N0:Nat}{f:Nat→Nat}{h₀:Heap}{ext:Ext}{ep:Nat}{ks:List (Fin 8)}{rs:List (List (Fin 8))}{A:Around}{E:Value→Shared→Prop}{s:Shared}{many tv:Nat}
theorem jns{Q:Flow→Shared→Prop}{tk tw:Nat}{kv wv:Value}{ox ot:Option (Nat×Value)}(hA:Room A 520 5200)(Z:DZ p N0 h₀)(hks:KsI p 8 ks)(F:DL (wf w a b c) p N0 f h₀ (xT tk tw kv wv ox ot) (xE ox ot) ks rs s.heap)(hm:s.heap.get? (N0+2)=some (ceO (some (.int (many:Int) tv))))
  (h:∀s' ts tt,N0+6≤ts→DL (wf w a b c) p N0 f h₀ (xT tk tw kv wv ox (some (tt,.ref ts))) (xE ox (some (0,.none))) ks rs s'.heap→s'.heap.get? ts=some (lO ((fil (dpB p many) 8).map (nmV p.nt)) (fil (dpB p many) 8).length)→af [N0] s.heap s'.heap→ae s'=ae s→Q .next s') :
  wpAny (model PG (wf w a b c)) A (execs [ak (inS duM) 0] (duE N0)) Q E s:=by
 have n0:=Z.n0
 have znm:=Z.nm
 have sz:=F.size
 have P:Pre (wf w a b c) (lq (wf w a b c).params p f (N0+4) (N0+5) N0 tk tw kv wv ox ot) s.heap.objs.size s.toks s:=ag F.based (F.g257 Z) ⟨F.fr,F.nm,zt⟩ (gx (by omega) znm.1) ⟨⟨zt,zt⟩,zt,zt⟩
 have call:b9 (mkV (wf w a b c) (lq (wf w a b c).params p f (N0+4) (N0+5) N0 tk tw kv wv ox ot) s.heap.objs.size s.toks) s.heap (cmC (wf w a b c).params p (jia s.heap.objs.size (s.heap.objs.size+1) (s.heap.objs.size+2) N0 (N0+1) (N0+2)) ((fil (dpB p many) 8).map (nmV p.nt))):=by
  refine jax (N:=s.heap.objs.size) (L:=N0) rfl rfl rfl rfl rfl (qw (k:=7) (qk (k:=6) (ql znm.1 znm.2) sz)) (qw (k:=5) sz) ⟨znm.1,(qw (k:=6) (qk (k:=6) znm.2 sz))⟩ F.nm fun A' s' R hA' Z' K x1 x2 x3 hR=>?_
  have nn:∀{y:Nat},N0<y→y<N0+6→y∉[s.heap.objs.size,s.heap.objs.size+1,s.heap.objs.size+2]:=fun{y} h1 h2 q=>by
   replace q:=mO3 q
   exact(q.elim (fun q=>(qf (qy (qc h2 sz) q))) fun q=>(q.elim (fun q=>(qn (k:=1) (qq (qc h2 sz) q))) fun q=>(qn (k:=2) (qk (k:=2) (qc h2 sz) (qg q)))))
  obtain⟨dv,de,q1,q2⟩:=F.dp
  refine jmk hA' hks Z' (D:=⟨⟨(qr (k:=1) n0),(qr (k:=2) n0),(qr (k:=3) n0),by show@Ne Nat _ _;exact(qh (Nat.le_refl _))⟩,K _ _ F.dc (nne (.inr (Nat.le_refl _))),K _ _ hm (nne (by omega)),⟨dv,de,K _ _ q1 (nne (by omega)),q2⟩,nn (Nat.le_refl _) (by omega),nn (by omega) (by omega),nn (by omega) (by omega)⟩) x1 x2 x3 fun s2 v g1 g2 g3 g4 g5 g6=>hR s2 v g1 (by rw[List.length_map];exact g2) g3 g4 g5 g6
 refine dr (modA:=fun _=>False) (jaq (d:=N0+1) (m:=N0+2) (rl:=(fil (dpB p many) 8).map (nmV p.nt)) A.frames ox ot) P hA.cx hA.cx ⟨zt,call,(fun b hb=>hb.elim),(fun b hb=>hb),fun o h3 _ _ hsz3 hle3 _ _ _ _ _=>⟨zt,fun h4 hsz4 hex hkept hacc=>?_⟩⟩
 have hle3':s.heap.objs.size+3≤o.size:=hle3
 have hsz4':h4.objs.size=o.size+0:=hsz4
 have y0:h4.get? N0=some (frU (wf w a b c).params p f (N0+4) (N0+5) (xT tk tw kv wv ox (some (tN ot o.toks,.ref (s.heap.objs.size+1)))) (xE ox (some (0,.none)))):=hex (0,_) (.head _)
 have y1:h4.get? p.NM=some (lO (ai p.nt) p.e1):=hex (1,_) (.tail _ (.head _))
 have y3:h4.get? (s.heap.objs.size+1)=some (lO ((fil (dpB p many) 8).map (nmV p.nt)) ((fil (dpB p many) 8).map (nmV p.nt)).length):=hex (3,_) (.tail _ (.tail _ (.head _)))
 rw[List.length_map] at y3
 have K4:af [N0] s.heap h4:=fun y ob e hy=>by
  rw[List.mem_singleton] at hy
  by_cases e2:y=p.NM
  ·exact sg F.nm y1 e e2
  have hly:@LT.lt Nat _ y s.heap.objs.size:=Heap.lt_size e
  refine hacc y ob e (fun hm=>?_) (fun q=>q)
  have hm':y∈[N0,p.NM,s.heap.objs.size+0,s.heap.objs.size+1,s.heap.objs.size+2]:=hm
  replace hm':=mO5 hm'
  rcases hm' with q|q|q|q|q
  ·exact hy q
  ·exact e2 q
  ·have:=ax q;exact(qf (qy hly q))
  ·have:=ax q;exact(qn (k:=1) (qq hly q))
  ·have:=ax q;exact(qn (k:=2) (ql (qg q) hly))
 have F4:=F.frame Z K4 (qw (k:=3) (qy hle3' hsz4')) y0
 exact h ((ae s).at h4 (o.toks+1)) (s.heap.objs.size+1) (tN ot o.toks) (qr (k:=1) sz) F4 y3 K4 rfl
end
theorem cj{h:Heap}{a:Nat}{xs:List Value}{e:Nat}(hg:h.get? a=some (lO xs e)):h.IsList a ⟨xs⟩:=⟨_,hg,rfl,_,rfl⟩
section
variable{w:World}{a b c:Bool}{p:Par}{N0:Nat}{f:Nat→Nat}{h₀:Heap}{ext:Ext}{ep:Nat}{ks:List (Fin 8)}{rs:List (List (Fin 8))}{A:Around}{E:Value→Shared→Prop}{s:Shared}{many tv:Nat}
theorem jpt{Q:Flow→Shared→Prop}{tk tw ts tt e:Nat}{kv wv:Value}{ox:Option (Nat×Value)}{r:List (Fin 8)}(hA:Room A 520 5200)(Z:DZ p N0 h₀)(F:DL (wf w a b c) p N0 f h₀ (xT tk tw kv wv ox (some (tt,.ref ts))) (xE ox (some (0,.none))) ks rs s.heap)(hts:N0+6≤ts)(hr:s.heap.get? ts=some (lO (r.map (nmV p.nt)) e))(hlen:rs.length≤20)
  (h:∀s',DL (wf w a b c) p N0 f h₀ (xT tk tw kv wv ox (some (tt,.ref ts))) (xE ox (some (0,.none))) ks (rs++if r=[] then [] else [r]) s'.heap→af [N0+5] s.heap s'.heap→ae s'=ae s→Q .next s') :
  wpAny (model PG (wf w a b c)) A (execs [jk] (duE N0)) Q E s:=by
 have n0:=Z.n0
 have sz:=F.size
 refine wpAny_execs_cons ?_
 first|refine xq1 kr ?_|refine xq2 kr ?_|refine xq3 kr ?_|rw[kr]
 refine wpAny_If (wpAny_isTrue_Compare1 ?_)
 have left:∀{Q':Value→Shared→Prop} {E':Value→Shared→Prop},(∀s1,af [] s.heap s1.heap→s1.heap.objs.size=s.heap.objs.size→ae s1=ae s→Q' (.ref ts) s1)→wpAny (model PG (wf w a b c)) A (eval (ip (teS jk)) (duE N0)) Q' E' s:=fun{Q' E'} hQ=>by
  cases ox with
  |none=>
   have P:=ag (w:=wf w a b c) (pre:=[(N0,frU (wf w a b c).params p f (N0+4) (N0+5) [("k",tk,kv),("way",tw,wv),("told",tt,.ref ts)] 7)]) F.based (F.g257 Z) ⟨F.fr,zt⟩ (b6 (by omega)) ⟨zt,zt⟩
   refine bq (W4 A.frames) P hA.cx hA.cx rfl zt fun s1 P1 K1 r1=>hQ s1 (am P P1.has K1 ⟨.inl rfl,zt⟩) P1.size r1
  |some x=>
   have P:=ag (w:=wf w a b c) (pre:=[(N0,frU (wf w a b c).params p f (N0+4) (N0+5) [("k",tk,kv),("way",tw,wv),("x",x.1,x.2),("told",tt,.ref ts)] 8)]) F.based (F.g257 Z) ⟨F.fr,zt⟩ (b6 (by omega)) ⟨zt,zt⟩
   refine bq (yc A.frames) P hA.cx hA.cx rfl zt fun s1 P1 K1 r1=>hQ s1 (am P P1.has K1 ⟨.inl rfl,zt⟩) P1.size r1
 refine left fun s1 K1 hs1 r1=>?_
 have F1:=F.same Z K1 (by rw[hs1];exact Nat.le_refl _)
 have P1:=ag (w:=wf w a b c) (pre:=[]) F1.based (F1.g257 Z) zt zt zt
 refine bq (W1 A.frames) P1 hA.cx hA.cx rfl zt fun s2 P2 K2 r2=>?_
 have F2:=F1.same Z K2 (ch P2)
 have hr2:=K2 _ _ (K1 _ _ hr n0m) n0m
 have hn2:s2.heap.get? s1.heap.objs.size=some (lO [] 0):=P2.has (s1.heap.objs.size,_) (.head _)
 have hu:A.units<cLine:=Nat.lt_of_le_of_lt hA.u (by decide)
 have K3:af [] s.heap s2.heap:=fun y ob e _=>K2 y ob (K1 y ob e n0m) n0m
 show wpAny _ A (richCompare .NotEq (.ref ts) (.ref s1.heap.objs.size)) _ _ s2
 cases r with
 |nil=>
  refine SeqAt.RcNeAt.lists (e:=fun _=>true) (cj hr2) (cj hn2) rfl hu (fun j h1 _=>absurd h1 (Nat.not_lt_zero _)) _ _ _ _ (wpAny_truthy_bool ?_)
  first|refine itn (by show ¬(false=true);decide) ?_|rw[if_neg (by show ¬(false=true);decide)]
  have:=h s2 (by rw[if_pos rfl,List.append_nil];exact F2) (fun y ob e _=>K3 y ob e n0m) (r2.trans r1)
  exact wpAny_execs_nil (wpAny_execs_nil this)
 |cons k r=>
  refine SeqAt.RcNeAt.lists_lengths (cj hr2) (cj hn2) rfl hu _ _ _ _ (wpAny_truthy_bool ?_)
  first|refine itp rfl ?_|rw[if_pos rfl]
  obtain⟨as,er,hro,hru⟩:=F2.ro
  have hasl:as.length≤20:=by rw[hru.len];exact hlen
  have fin:∀(s3:Shared),s3.heap.objs.size=s2.heap.objs.size→s3.heap.get? (N0+5)=some (lO (as.map Value.ref++[.ref ts]) (er+1))→af [N0+5] s2.heap s3.heap→ae s3=ae s2→Q .next s3:=fun s3 hs3 x5 K r3=>by
   have nn:∀{y:Nat},y≠N0+5→y∉[N0+5]:=fun{y} h=>by rw[List.mem_singleton];exact h
   have hT:∀y∈[N0+5],∀xs,s2.heap.get? y≠some (tuO xs):=fun y hy xs q=>by
    rw[List.mem_singleton.mp hy,hro] at q
    have:=congrArg Obj.cls (Option.some.inj q)
    simp[lO,tuO] at this
   have hru':=hru.keep K (.inr fun y hy hM=>by rw[List.mem_singleton.mp hy] at hM;omega)
   have hts5:ts≠N0+5:=(qj hts)
   refine h s3 ⟨F2.toDB.next Z K (fun y hy=>by rw[List.mem_singleton.mp hy];exact Nat.le_add_right _ _) (by rw[hs3];exact Nat.le_refl _),K _ _ F2.fr (nn (by omega)),K _ _ F2.dc (nn (by omega)),F2.dp.keep K (nn (by omega)),F2.en.keep K (nn (qh (Nat.le_refl _))) hT,⟨as++[ts],er+1,by rw[List.map_append];exact x5,?_⟩⟩ (fun y ob q hy=>K y ob (K3 y ob q n0m) hy) (r3.trans (r2.trans r1))
   first|refine itn (List.cons_ne_nil _ _) ?_|rw[if_neg (List.cons_ne_nil _ _)]
   exact hru'.snoc hts (K _ _ hr2 (nn hts5))
  cases ox with
  |none=>
   have P3:=ag (w:=wf w a b c) (pre:=[(N0,frU (wf w a b c).params p f (N0+4) (N0+5) [("k",tk,kv),("way",tw,wv),("told",tt,.ref ts)] 7),(N0+5,lO (as.map Value.ref) er)]) F2.based (F2.g257 Z) ⟨F2.fr,hro,zt⟩ (gx (by omega) (qr (k:=5) n0)) ⟨⟨zt,zt⟩,zt,zt⟩
   refine ay (Y3 A.frames) P3 hA.cx hA.cx rfl ⟨fw rfl (by rw[List.length_map];omega),zt⟩ fun s3 P4 K4 r4=>wpAny_execs_nil ?_
   exact fin s3 P4.size (P4.has (N0+5,_) (.tail _ (.head _))) (am P3 P4.has K4 ⟨.inl rfl,.inr (.head _),zt⟩) r4
  |some x=>
   have P3:=ag (w:=wf w a b c) (pre:=[(N0,frU (wf w a b c).params p f (N0+4) (N0+5) [("k",tk,kv),("way",tw,wv),("x",x.1,x.2),("told",tt,.ref ts)] 8),(N0+5,lO (as.map Value.ref) er)]) F2.based (F2.g257 Z) ⟨F2.fr,hro,zt⟩ (gx (by omega) (qr (k:=5) n0)) ⟨⟨zt,zt⟩,zt,zt⟩
   refine ay (yf A.frames) P3 hA.cx hA.cx rfl ⟨fw rfl (by rw[List.length_map];omega),zt⟩ fun s3 P4 K4 r4=>wpAny_execs_nil ?_
   exact fin s3 P4.size (P4.has (N0+5,_) (.tail _ (.head _))) (am P3 P4.has K4 ⟨.inl rfl,.inr (.head _),zt⟩) r4
end
noncomputable def rdU(p:Par)(n:Nat):List (List (Fin 8)):=((List.range n).map fun m=>fil (dpB p m) 8).filter fun r=>!r.isEmpty
theorem rx(p:Par)(n:Nat):rdU p (n+1)=rdU p n++if fil (dpB p n) 8=[] then [] else [fil (dpB p n) 8]:=by
 unfold rdU
 rw[List.range_succ,List.map_append,List.filter_append]
 congr 1
 cases h:fil (dpB p n) 8<;>simp[h]
theorem jct(p:Par)(n:Nat):(rdU p n).length≤n:=by
 unfold rdU
 refine Nat.le_trans (List.length_filter_le ..) ?_
 rw[List.length_map,List.length_range]
 exact Nat.le_refl _
section
variable{w:World}{a b c:Bool}{p:Par}{N0:Nat}{f:Nat→Nat}{h₀:Heap}{ext:Ext}{ep:Nat}{ks:List (Fin 8)}{rs:List (List (Fin 8))}{A:Around}{E:Value→Shared→Prop}{s:Shared}{many tv:Nat}
theorem jp3{Q:Flow→Shared→Prop}{tk tw:Nat}{kv wv:Value}{ox:Option (Nat×Value)}(hA:Room A 520 5200)(Z:DZ p N0 h₀)(hks:KsI p 8 ks)(F₀:DL (wf w a b c) p N0 f h₀ (xT tk tw kv wv ox none) (xE ox none) ks [] s.heap)(hc₀:∃cv,s.heap.get? (N0+2)=some (ceO cv))
  (h:∀s' ext ep,DL (wf w a b c) p N0 f h₀ ext ep ks (rdU p 9) s'.heap→ae s'=ae s→Q .next s') :
  wpAny (model PG (wf w a b c)) A (execs [duM] (duE N0)) Q E s:=by
 have n0:=Z.n0
 refine wpAny_execs_cons ?_
 first|refine xq1 py ?_|refine xq2 py ?_|refine xq3 py ?_|rw[py]
 refine wpAny_For ?_ (fun x=>by kernel_rfl)
 have P:=ag (w:=wf w a b c) (pre:=[]) F₀.based (F₀.g257 Z) zt zt zt
 refine bq (V8 A.frames) P hA.cx hA.cx rfl zt fun s1 P1 K1 r1=>?_
 have F1:=F₀.same Z K1 (ch P1)
 have hs1:s1.heap.objs.size=s.heap.objs.size+1:=P1.size
 have sz:=F₀.size
 refine d9 (Y0 A.frames) (ag (w:=wf w a b c) (pre:=[(s.heap.objs.size,rgU 9 s.toks)]) F1.based (F1.g257 Z) ⟨P1.has (s.heap.objs.size,_) (.head _),zt⟩ (b6 (qw (k:=6) (qk (k:=6) n0 sz))) ⟨zt,zt⟩) hA.cx hA.cx rfl zt (chg:=[]) ⟨.inl rfl,zt⟩ fun s2 P3b P3z K3' r3 P3x=>?_
 have F2:=F1.same Z K3' (zle P3z)
 have hit:s2.heap.get? s1.heap.objs.size=some (bd 0 9 1):=P3x 1 _ _ (s1.heap.objs.size) rfl rfl
 have hc2:∃cv,s2.heap.get? (N0+2)=some (ceO cv):=by
  obtain⟨cv,e⟩:=hc₀
  exact⟨cv,K3' _ _ (K1 _ _ e n0m) n0m⟩
 generalize hitN:s1.heap.objs.size=it at *
 have hitG:N0+6≤it:=(qv (qq sz hs1))
 refine codeAny_forLoop (fun n s'=>∃i ot,i+n=9∧DL (wf w a b c) p N0 f h₀ (xT tk tw kv wv ox ot) (xE ox ot) ks (rdU p i) s'.heap∧(∃cv,s'.heap.get? (N0+2)=some (ceO cv))∧s'.heap.get? it=some (bd (i:Int) ((9-i:Nat):Int) 1)∧ae s'=ae s)
  (fun n s3 hI=>?_) 9 ⟨0,none,rfl,F2,hc2,hit,r3.trans r1⟩
 obtain⟨i,ot,hin,F3,⟨cv,hc3⟩,hit3,r3'⟩:=hI
 have hitT:∀y∈[it],∀vs,s3.heap.get? y≠some (tuO vs):=fun y hy vs e=>by
  rw[List.mem_singleton.mp hy,hit3] at e
  cases congrArg Obj.data (Option.some.inj e)
 have hitL:∀y∈[it],∀vs e,s3.heap.get? y≠some (lO vs e):=fun y hy vs e q=>by
  rw[List.mem_singleton.mp hy,hit3] at q
  cases congrArg Obj.data (Option.some.inj q)
 have far:∀{s4:Shared},af [it] s3.heap s4.heap→s3.heap.objs.size≤s4.heap.objs.size→DL (wf w a b c) p N0 f h₀ (xT tk tw kv wv ox ot) (xE ox ot) ks (rdU p i) s4.heap:=fun{s4} K hs=>
  F3.far Z K (fun y hy=>by rw[List.mem_singleton.mp hy];exact hitG) hitT (.inr hitL) hs
 by_cases h9:i<9
 ·have P4:=ag (w:=wf w a b c) (pre:=[(it,bd (i:Int) ((9-i:Nat):Int) 1)]) F3.based (F3.g257 Z) ⟨hit3,zt⟩ (b6 (qw (k:=7) (qq (qk (k:=6) n0 sz) hs1))) ⟨zt,zt⟩
  refine fz (V5 A.frames ⟨i,h9⟩) P4 hA.cx hA.cx rfl zt (chg:=[it]) ⟨.inr (.head _),zt⟩ fun s4 P5b P5z K5' r5 P5x=>?_
  have F4:=far K5' (zle P5z)
  have hit4:s4.heap.get? it=some (bd ((i+1:Nat):Int) ((9-(i+1):Nat):Int) 1):=P5x 0 _ _ (it) rfl rfl
  have hc4:=K5' _ _ hc3 (fun q=>by have:=ax (List.mem_singleton.mp q);exact(qn (k:=4) (qq (qk (k:=4) (qg this) sz) hs1)))
  show wpAny _ _ (assign (teS duM) (duE N0) (.int (i:Int) s3.toks)) _ _ s4
  refine cp (W7 A.frames) (ag (w:=wf w a b c) (pre:=[(N0,frU (wf w a b c).params p f (N0+4) (N0+5) (xT tk tw kv wv ox ot) (xE ox ot)),(N0+2,ceO cv)]) F4.based (F4.g257 Z) ⟨F4.fr,hc4,zt⟩ (gx (by omega) (qr (k:=2) n0)) ⟨⟨zt,zt⟩,zt,zt⟩) hA.cx hA.cx rfl zt (chg:=[N0+2]) ⟨.inl rfl,.inr (.head _),zt⟩ fun s5 P7b P7z K7' r7 P7x=>?_
  have hc5:s5.heap.get? (N0+2)=some (ceO (some (.int (i:Int) s3.toks))):=P7x 1 _ _ (N0+2) rfl rfl
  have nn:∀{y:Nat},y≠N0+2→y∉[N0+2]:=fun{y} h=>by rw[List.mem_singleton];exact h
  have hT5:∀y∈[N0+2],∀vs,s4.heap.get? y≠some (tuO vs):=fun y hy vs e=>by
   rw[List.mem_singleton.mp hy,hc4] at e
   cases congrArg Obj.data (Option.some.inj e)
  have F5:DL (wf w a b c) p N0 f h₀ (xT tk tw kv wv ox ot) (xE ox ot) ks (rdU p i) s5.heap:=
   ⟨F4.toDB.next Z K7' (fun y hy=>by rw[List.mem_singleton.mp hy];exact Nat.le_add_right _ _) (zle P7z),K7' _ _ F4.fr (nn (by omega)),K7' _ _ F4.dc (nn (qh (Nat.le_refl _))),F4.dp.keep K7' (nn (qj (Nat.le_refl _))),F4.en.keep K7' (nn (by omega)) hT5,F4.ro.keep K7' (nn (by omega)) (.inr fun y hy hM=>by rw[List.mem_singleton.mp hy] at hM;omega)⟩
  first|refine xq1 px ?_|refine xq2 px ?_|refine xq3 px ?_|rw[px]
  refine ah _ _ ?_
  refine jns hA Z hks F5 hc5 fun s6 ts tt hts F6 hr6 K6 r6=>?_
  have hrl:=jct p i
  refine jpt hA Z F6 hts hr6 (qr (k:=11) (qv (ql hrl h9))) fun s7 F7 K8 r8=>?_
  rw[←rx] at F7
  have e1:xE ox (some (tt,.ref ts))=xE ox (some (0,.none)):=by cases ox<;>rfl
  refine⟨n-1,by omega,i+1,some (tt,.ref ts),by omega,by rw[e1];exact F7,⟨some (.int (i:Int) s3.toks),?_⟩,?_,r8.trans (r6.trans (r7.trans (r5.trans r3')))⟩
  ·exact K8 _ _ (K6 _ _ hc5 (fun q=>by have:=ax (List.mem_singleton.mp q);exact(qn (k:=1) (qe this)))) (fun q=>by have:=ax (List.mem_singleton.mp q);exact(qn (k:=2) (qu 2 (qg this))))
  ·exact K8 _ _ (K6 _ _ (K7' _ _ hit4 (nn (qj (qw (k:=4) (qq sz hs1))))) (fun q=>by have:=ax (List.mem_singleton.mp q);exact(qn (k:=6) (qq (qk (k:=6) (qe this) sz) hs1)))) (fun q=>by have:=ax (List.mem_singleton.mp q);exact(qn (k:=1) (qq (ql (qe this) sz) hs1)))
 ·have e9:i=9:=by omega
  subst e9
  refine fz (xz A.frames) (ag (w:=wf w a b c) (pre:=[(it,bd 9 0 1)]) F3.based (F3.g257 Z) ⟨hit3,zt⟩ (b6 (qw (k:=7) (qq (qk (k:=6) n0 sz) hs1))) ⟨zt,zt⟩) hA.cx hA.cx rfl zt (chg:=[it]) ⟨.inr (.head _),zt⟩ fun s4 P5b P5z K5' r5 P5x=>?_
  have F4:=far K5' (zle P5z)
  exact wpAny_execs_nil (wpAny_execs_nil (h s4 _ _ F4 (r5.trans r3')))
end
section
variable{w:World}{nt:Fin 8→Nat}{D:Addr}{kvs:KV}{ep:Nat}{A:Around}{R:Result→Shared→Prop}{s:Shared}
theorem ln:∀kvs:KV,Pairs (strKind PG w) (kvs.map (ent w.params nt)) (kvs.map fun x=>(nmS x.1,x.2))
 |[]=>.nil
 |p::l=>.cons gu rfl (ln l)
theorem jir(h:s.heap.get? D=some (dO w.params nt kvs ep))(hn:(kvs.map (·.1)).Nodup):s.heap.DictOf (strKind PG w) D (kvs.map fun x=>(nmS x.1,x.2)):=by
 refine⟨_,_,ep,h,⟨rfl,rfl,rfl⟩,rfl,im,ln kvs,?_⟩
 have:(kvs.map fun x=>(nmS x.1,x.2)).map (fun x=>x.1)=(kvs.map (·.1)).map nmS:=by
  rw[List.map_map,List.map_map];rfl
 rw[this]
 exact List.Pairwise.map _ (fun a b h e=>h (gj e)) hn
theorem jp6(hD:D≠1)(ho:s.heap.get? D=some (dO w.params nt kvs ep))(hn:(kvs.map (·.1)).Nodup)(hl:kvs.length<1000)(h:R (rv (.int kvs.length (s.toks+1))) { s with toks:=s.toks+1+1 }) :
  codeAny (model PG w) A (.call (.builtin "len") ⟨[.ref D],[]⟩) R s:=
 wb kind_len plain_len entry_len (args_len1 _) (wpAny_mono (wpAny_len_body_dict (beq_eq_false_iff_ne.mpr hD) (jir ho hn) (by rw[List.length_map];omega) (Q:=fun v s'=>R (rv v) s') (by rw[List.length_map];exact h)) (fun _ _ q=>q) fun _ _ q=>q)
theorem jll{V:SV}{h₀:Heap}{hnd:Option Value}{D t j i tk:Nat}(hw:V.w=w)(hp:aj V.pre V.N j=D)(hD:D≠1)(hn:(kvs.map (·.1)).Nodup)(hl:kvs.length<1000)(ht:t=V.t₀+tk+1):XOk V h₀ (ldX hnd w.params D nt kvs ep t j i tk):=fun A s hh hd hu hs htk hkt hk hpre=>by
 have h1:=hpre (j,_) (.head _)
 rw[hp] at h1
 have htk':s.toks=V.t₀+tk:=htk
 rw[hw]
 refine jp6 hD h1 hn hl ?_
 rw[htk',←ht]
 refine⟨rfl,s.heap,?_,rfl,(fun p hp=>nomatch hp),(fun k o e=>nomatch e),fun b o e _=>e⟩
 show({ s with toks:=t+1 }:Shared)={ s with heap:=s.heap,toks:=V.t₀+tk+2 }
 rw[ht]
end
theorem pw:duS=[ak duS 0]++([duF]++([duM]++[ak duS 3])):=by kernel_rfl
structure DRes(w:World)(p:Par)(N0:Nat)(h':Heap)(ra:Nat)(ks:List (Fin 8)):Prop where
 ge:N0≤ra
 top:∃rr re M:Nat,N0≤M∧N0≤rr∧N0≤re∧h'.get? ra=some (lO [.ref rr,.bool (decide (ks.length<8)),.ref re] 0)∧RoP p M rr (rdU p 9) h'∧EnP w.params p M re ks h'
section
variable{w:World}{a b c:Bool}{p:Par}{A:Around}{s:Shared}{R:Result→Shared→Prop}
theorem jp0(hA:Room A 500 1000)(B:Based (wf w a b c).params s.heap)(h257:257≤s.heap.objs.size)(hNM:s.heap.get? p.NM=some (lO (ai p.nt) p.e1))(hNL:s.heap.get? p.NL=some (lO (a8 p.n p.tn) p.e2))
  (oNM:257≤p.NM) (oNL:257≤p.NL) (ne:p.NM≠p.NL)
  (hR:∀s' ra ks,DRes (wf w a b c) p s.heap.objs.size s'.heap ra ks→KsI p 8 ks→af [] s.heap s'.heap→Based (wf w a b c).params s'.heap→s.heap.objs.size≤s'.heap.objs.size→ae s'=ae s→R (rv (.ref ra)) s') :
  codeAny (model PG (wf w a b c)) A (.call (.ref 246) ⟨[.ref p.NM,.ref p.NL],[]⟩) R s:=by
 have ltM:@LT.lt Nat _ p.NM s.heap.objs.size:=Heap.lt_size hNM
 have ltN:@LT.lt Nat _ p.NL s.heap.objs.size:=Heap.lt_size hNL
 refine dg (jh7 A.frames) (ag (w:=wf w a b c) (pre:=[]) B h257 zt zt zt) (hA.mono (d':=500) (u':=5000) (qb rfl) (qb rfl)).cx  rfl zt (chg:=[]) zt fun s1 P1b P1z K1' r1 P1x=>?_
 have hs1:s1.heap.objs.size=s.heap.objs.size+3:=P1z
 have x0:s1.heap.get? s.heap.objs.size=some (frO (wf w a b c).params [("names",s.toks,.ref p.NM),("numbers",s.toks+1,.ref p.NL)] 2):=P1x 0 _ _ (s.heap.objs.size) rfl rfl
 have x1:s1.heap.get? (s.heap.objs.size+1)=some (ceO none):=P1x 1 _ _ (s.heap.objs.size+1) rfl rfl
 have x2:s1.heap.get? (s.heap.objs.size+2)=some (ceO none):=P1x 2 _ _ (s.heap.objs.size+2) rfl rfl
 generalize hN0:s.heap.objs.size=N0 at *
 have Z:DZ p N0 s.heap:=⟨hN0,h257,⟨oNM,ltM⟩,⟨oNL,ltN⟩,ne⟩
 show codeAny _ A (.func duS (duE N0)) R s1
 refine codeAny_func ?_
 have hA2:Room (A.deeper (duE N0)) 520 5200:=(hA.deeper _).mono (qb rfl) (qb rfl)
 generalize A.deeper (duE N0)=A2 at hA2
 first|refine xq1 pw ?_|refine xq2 pw ?_|refine xq3 pw ?_|rw[pw]
 refine ah _ _ ?_
 refine bc (jic A2.frames) (ag (w:=wf w a b c) (pre:=[(N0,frO (wf w a b c).params [("names",s.toks,.ref p.NM),("numbers",s.toks+1,.ref p.NL)] 2),(N0+1,ceO none)]) P1b (qc (qb rfl) (qk (k:=3) (ql oNL ltN) (qg P1z))) ⟨x0,x1,zt⟩ (gx (by omega) (qr (k:=1) (qv (ql oNL ltN)))) ⟨⟨zt,zt⟩,zt,zt⟩) hA2.cx hA2.cx rfl zt (chg:=[N0,N0+1]) ⟨.inr (.head _),.inr (.tail _ (.head _)),zt⟩ fun s2 P3b P3z K3' r3 P3x=>?_
 have hs2:s2.heap.objs.size=s1.heap.objs.size+7:=P3z
 have Ks:af [] s.heap s2.heap:=fun y ob e _=>by
  have hly:@LT.lt Nat _ y s.heap.objs.size:=Heap.lt_size e
  exact K3' y ob (K1' y ob e n0m) (fun q=>by
   replace q:=mO2 q
   rcases q with q|q<;>(have:=ax q;omega))
 have y0:=(P3x 0 _ _ (N0) rfl rfl)
 have y1:=(P3x 1 _ _ (N0+1) rfl rfl)
 have y2:=(P3x 2 _ _ (s1.heap.objs.size) rfl rfl)
 have y3:=(P3x 3 _ _ (s1.heap.objs.size+1) rfl rfl)
 have y4:=(P3x 4 _ _ (s1.heap.objs.size+2) rfl rfl)
 rw[hs1] at y0 y1 y2 y3 y4 hs2
 have F2:DL (wf w a b c) p N0 (fD s.toks (s.toks+1) s1.toks) s.heap [] 4 [] [] s2.heap:=
  ⟨⟨P3b,(qw (k:=4) (qk (k:=7) (qg P1z) (qg P3z))),Ks,Ks _ _ hNM n0m,Ks _ _ hNL n0m⟩,y0,y1,⟨[],0,y2,rfl,fun x hx=>nomatch hx⟩,⟨[],0,y3,rfl,fun x hx=>nomatch hx⟩,⟨[],0,y4,zt⟩⟩
 have z2:s2.heap.get? (N0+2)=some (ceO none):=K3' _ _ x2 (fun q=>by
   replace q:=mO2 q
   rcases q with q|q<;>(have:=ax q;omega))
 refine ah _ _ ?_
 refine jp4 hA2 Z F2 z2 fun s3 ext ep ks hW hks F3 z3 r4=>?_
 refine ah _ _ ?_
 have hx:∃tk tw kv wv ox,ext=xT tk tw kv wv ox none∧ep=xE ox none:=by
  cases hW with
  |two=>exact⟨_,_,_,_,none,rfl,rfl⟩
  |three=>exact⟨_,_,_,_,some (_,_),rfl,rfl⟩
 obtain⟨tk,tw,kv,wv,ox,rfl,rfl⟩:=hx
 refine jp3 hA2 Z hks F3 ⟨_,z3⟩ fun s4 ext4 ep4 F4 r5=>?_
 obtain⟨dv,de,hdp,hdk,hdv⟩:=F4.dp
 have hdl:dv.length=ks.length:=by rw[←hdk,List.length_map]
 have h8:=fv hks.nd
 have sz4:=F4.size
 refine bc (xw A2.frames (decide (ks.length<8))) (ag (w:=wf w a b c) (pre:=[(N0,frU (wf w a b c).params p (fD s.toks (s.toks+1) s1.toks) (N0+4) (N0+5) ext4 ep4),(N0+1,ceO (some (.ref (N0+3)))),(N0+3,dO (wf w a b c).params p.nt dv de)]) F4.based (F4.g257 Z) ⟨F4.fr,F4.dc,hdp,zt⟩ (f0 (by omega) (qr (k:=1) (qv (ql oNL ltN))) (qr (k:=3) (qv (ql oNL ltN)))) ⟨⟨zt,(by show@Ne Nat _ _;omega),zt⟩,⟨zt,zt⟩,zt,zt⟩) hA2.cx hA2.cx rfl ⟨jll rfl rfl (qj (Nat.le_trans (qb rfl) (Nat.le_add_left _ _))) (by rw[hdk];exact hks.nd) (qr (k:=991) (qs 1 (qo hdl h8))) rfl,fu (by rw[hdl];exact decide_eq_decide.mpr (by omega)),zt⟩ (chg:=[]) ⟨.inl rfl,.inl rfl,.inl rfl,zt⟩ fun s5 P6b P6z K6' r6 P6x=>?_
 have F5:=F4.same Z K6' (zle P6z)
 have hs5:s5.heap.objs.size=s4.heap.objs.size+1:=P6z
 have top:s5.heap.get? s4.heap.objs.size=some (lO [.ref (N0+5),.bool (decide (ks.length<8)),.ref (N0+4)] 0):=P6x 3 _ _ (s4.heap.objs.size) rfl rfl
 exact hR s5 s4.heap.objs.size ks ⟨(qw (k:=6) sz4),N0+5,N0+4,N0+6,(Nat.le_add_right _ _),(Nat.le_add_right _ _),(Nat.le_add_right _ _),top,F5.ro,F5.en⟩ hks F5.keep P6b (qw (k:=7) (qq sz4 P6z)) (r6.trans (r5.trans (r4.trans (r3.trans r1))))
end
noncomputable def mwC(r:Nat):Obj:=⟨.type "method-wrapper",none,.fields #[.builtin "list.__contains__",.ref r],#[]⟩
noncomputable def ffO(dd mw it:Nat):Obj:=⟨.ref 75,some dd,.plain,#[some (.ref mw),some (.ref it)]⟩
noncomputable def nfS:List Stmt:=d6 (st2 8 3)
noncomputable def nfW:Stmt:=ak nfS 1
noncomputable def c8(L:Nat):Env:=vz 8 3 "filterfalse.__next__.<locals>." L 71 70
noncomputable def fiS:List Stmt:=d6 (st1 10)
noncomputable def fm(L:Nat):Env:=xq 10 "_filter.<locals>." L 86 85
noncomputable def hlT(v:Value):Sem PySem.Fin:=PySem.W.R.bindR (Builtin.List.listLengthHint v) fun b=>.pure (.done (.ret (.bool b)))
noncomputable def lcX(sk:Nat)(nt:Fin 8→Nat)(k:Fin 8)(rs:List (Fin 8))(se j i tk:Nat)(r:Bool):XSpec:=⟨.builtin "list.__contains__" ⟨[.ref sk,nmV nt k],[]⟩,980,9800,none,[(j,lO (rs.map (nmV nt)) se)],i,tk,rv (.bool r),[],[],0⟩
noncomputable def lwX(a e i tk:Nat):XSpec:=⟨.call (.builtin "list.__new__") ⟨[.type "list",.ref e],[]⟩,980,9800,none,[],i,tk,rv (.ref a),[],[lO [] 0],0⟩
theorem E7{V:SV}{h₀:Heap}{sk:Nat}{nt:Fin 8→Nat}{k:Fin 8}{rs:List (Fin 8)}{se j i tk:Nat}{r:Bool}(hp:aj V.pre V.N j=sk)(hr:decide (k∈rs)=r):XOk V h₀ (lcX sk nt k rs se j i tk r):=
 bn fun A s R _ _ _ hpre hR=>by
  have h1:=hpre (j,_) (.head _)
  rw[hp] at h1
  have h2:=(SeqAt.list_containsAt sk ⟨rs.map (nmV nt)⟩ se none #[] (nmV nt k) (fun v=>Value.isStrOf (nmS k) v)).inModel PG V.w
  refine codeAny_builtin F.entry_list_contains ?_
  rw[Around.under_plainId F.slot_list_contains.plain]
  refine h2 A R s ⟨h1,fun y hy=>?_,?_⟩
  ·obtain⟨m,_,rfl⟩:=List.mem_map.mp (show y∈rs.map (nmV nt) from by simpa using hy)
   exact(PyProof.Rows.eqGives_str (nmS m) (nmS k) (nt m) (nt k)).at _ _
  ·have:((⟨rs.map (nmV nt)⟩:Array Value).any fun v=>Value.isStrOf (nmS k) v)=decide (k∈rs):=by
    rw[List.any_toArray,List.any_map]
    rw[Bool.eq_iff_iff,List.any_eq_true,decide_eq_true_iff]
    constructor
    ·rintro⟨m,hm,e⟩
     have e':Value.isStrOf (nmS k) (nmV nt m)=true:=e
     rw[cr] at e'
     rw[←eq_of_beq e']
     exact hm
    ·intro h
     exact⟨k,h,by show Value.isStrOf (nmS k) (nmV nt k)=true;rw[cr];simp⟩
   rw[this,hr]
   exact hR
theorem jlh{V:SV}{h₀:Heap}{a e i tk:Nat}(ha:a=V.N+i):XOk V h₀ (lwX a e i tk):=
 ig rfl fun A s R _ _ _ hs hpre hR=>by
  subst ha
  have hs':s.heap.objs.size=V.N+i:=hs
  refine codeAny_mono (code_list_new (.ref e) (Q₁:=fun v s'=>v=.ref s.heap.objs.size∧s'={ s with heap:=s.heap.push (lO [] 0) }) (E:=fun _ _=>False) ⟨rfl,rfl⟩) fun r s' h=>?_
  rw[hs'] at h
  match r,h with
  |.ok (.ret v),h=>
   obtain⟨h1,h2⟩:=h
   subst h1 h2
   exact hR
structure LiO where
 se:Nat
 sl:Array (Option Value)
 ie:Nat
 size:Nat
 toks:Nat
noncomputable def liC(P:Params)(nt:Fin 8→Nat)(L fl sk N t1 t2:Nat)(ls rs out:List (Fin 8))(le se:Nat)(outer:List Env)(fs:List Nat)(h₀:Heap):CallSpec where
 Out:=LiO
 code:=.call (.builtin "list.__init__") ⟨[.ref (N+5),.ref (N+2)],[]⟩
 d:=640
 u:=6400
 fr:=some (some (fm L::outer))
 pre:=[(0,frS P [("flist",t1,.ref fl),("skip",t2,.ref sk)] 2 #[]),(1,lO (ls.map (nmV nt)) le),(2,lO (rs.map (nmV nt)) se),(3,mwC sk),(5,ffO (N+1) N (N+4)),(7,liO fl 0),(8,lO [] 0)]
 i:=6
 tk:=6
 res _:=rv .none
 upd o:=[(0,frS P [("flist",t1,.ref fl),("skip",t2,.ref sk)] 2 o.sl),(7,liE o.ie),(8,lO (out.map (nmV nt)) o.se)]
 new _:=[]
 size o:=o.size
 toks o:=o.toks
 rel _:=True
 mod b:=b∈fs
 facts o h':=∀b ob,h₀.get? b=some ob→b∈fs→∃sl,h'.get? b=some { ob with slots:=sl }
structure NxO where
 size:Nat
 toks:Nat
noncomputable def nxC(P:Params)(nt:Fin 8→Nat)(ff dd mw it fl sk i j:Nat)(ls rs:List (Fin 8))(le se:Nat)(k:Fin 8)(outer:List Env):CallSpec where
 Out:=NxO
 code:=.call (.ref 71) ⟨[.ref ff],[]⟩
 d:=700
 u:=7000
 fr:=some (some outer)
 pre:=[(0,ffO dd mw it),(1,mwC sk),(2,liO fl i),(3,lO (ls.map (nmV nt)) le),(4,lO (rs.map (nmV nt)) se)]
 i:=0
 tk:=0
 res _:=rv (nmV nt k)
 upd o:=[(2,liO fl j)]
 new _:=[]
 size o:=o.size
 toks o:=o.toks
 rel _:=True
structure NeO where
 e:Nat
 dd:Option Nat
 vs:Array Value
 sls:Array (Option Value)
 ie:Nat
 size:Nat
 toks:Nat
noncomputable def neC(P:Params)(nt:Fin 8→Nat)(ff dd mw it fl sk i N:Nat)(ls rs:List (Fin 8))(le se:Nat)(outer:List Env)(fs:List Nat)(h₀:Heap):CallSpec where
 Out:=NeO
 code:=.call (.ref 71) ⟨[.ref ff],[]⟩
 d:=700
 u:=7000
 fr:=some (some outer)
 pre:=[(0,ffO dd mw it),(1,mwC sk),(2,liO fl i),(3,lO (ls.map (nmV nt)) le),(4,lO (rs.map (nmV nt)) se)]
 i:=0
 tk:=0
 res o:=.error (.ref o.e)
 upd o:=[(2,liE o.ie)]
 new o:=[(o.e,⟨.type "StopIteration",o.dd,.fields o.vs,o.sls⟩)]
 size o:=o.size
 toks o:=o.toks
 rel _:=True
 mod b:=b∈fs
 facts o h':=(∀b ob,h₀.get? b=some ob→b∈fs→∃sl,h'.get? b=some { ob with slots:=sl })∧h₀.objs.size≤o.e
noncomputable def jgl:List Nat:=dH 117 3005539805216332916229597511605165827629169538409842265539570277556648068938013292230139262782373512510559827870014272472078731072746091795385563383859858098985083531561876895983039354724865938130924408548884480
noncomputable def jgn(X0:XSpec):List CH:=[.p,.p,.p,.p,.p,.p,.p,.p,.p,.f,.p,.p,.p,.p,.p,.p,.p,.p,.p,.p,.p,.p,.p,.p,.p,.p,.p,.x X0]
noncomputable def jgk:List Nat:=[]
noncomputable def jgm:List CH:=[]
noncomputable def jgr:List Nat:=[1,0,0,0,0]
noncomputable def jgt:List CH:=[]
noncomputable def jgq:List Nat:=[]
noncomputable def jgs:List CH:=[]
noncomputable def O3:List Nat:=[1,0,0,0,0]
noncomputable def O6:List CH:=[]
noncomputable def O5:List CH:=[]
section
variable{w:World}{a b c:Bool}{N t₀ L ff dd mw it ts tf fl sk le se ti i j t1 t2 m:Nat}{p:Par}{nt:Fin 8→Nat}{v:Value}{ext:Ext}{ep:Nat}{xs:List Value}{k:Fin 8}{ls rs out:List (Fin 8)}{outer:List Env}{fs:List Nat}{h₀:Heap}
noncomputable def jg1:List Nat:=[0,1,1,1,1]
noncomputable def jg2:List CH:=[.f,.stop]
theorem jg0(ff':Option (List Env)):c9 60 (wf w a b c) N t₀ ([]) (.fin jg1 jg2 ⟨.ok (.again (.func fiS (fm N))),[(0,frO (wf w a b c).params [("flist",t₀,.ref fl),("skip",t₀+1,.ref sk)] 2)],1,2⟩) ⟨none,560,5600,ff'⟩ ((.call (.ref 86) ⟨[.ref fl,.ref sk],[]⟩)):=by kernel_rfl
noncomputable def jdx:List Nat:=[0,1,1]
noncomputable def jdy:List CH:=[.f,.stop]
theorem jdw(ff':Option (List Env)):c9 60 (wf w a b c) N t₀ ([]) (.fin jdx jdy ⟨.ok (.again (.func nfS (c8 N))),[(0,frO (wf w a b c).params [("self",t₀,.ref ff)] 1)],1,1⟩) ⟨none,700,7000,ff'⟩ ((.call (.ref 71) ⟨[.ref ff],[]⟩)):=by kernel_rfl
noncomputable def jd0:List Nat:=dH 28 5940205593940492489187764179665829989862061637761
noncomputable def jd1:List CH:=[.p,.p,.p,.p]
theorem jdz(ff':Option (List Env)):au 100 (wf w a b c) N t₀ ([(L,frS (wf w a b c).params [("self",ts,.ref ff)] 1 #[]),(ff,ffO dd mw it)]) (.fin jd0 jd1 ⟨.ok (.done .next),[(0,frS (wf w a b c).params [("self",ts,.ref ff),("func",t₀+1,.ref mw)] 2 #[]),(1,ffO dd mw it)],0,2⟩) ⟨none,720,7200,ff'⟩ (ar [ak nfS 0] (c8 L)):=by cases c<;>kernel_rfl
noncomputable def jdu:List Nat:=[]
noncomputable def jdv:List CH:=[]
theorem jdt(ff':Option (List Env)):au 20 (wf w a b c) N t₀ ([]) (.fin jdu jdv ⟨.ok (.done (.ret (.bool true))),[],0,0⟩) ⟨none,720,7200,ff'⟩ (trT (teS nfW) (c8 L)):=by kernel_rfl
noncomputable def C7:List Nat:=dH 33 6379851906481298470052152205740049840543343590089834369024
noncomputable def C8(X0:XSpec):List CH:=[.p,.p,.p,.p,.p,.p,.p,.x X0]
theorem C6(ff':Option (List Env)):au 200 (wf w a b c) N t₀ ([(L,frS (wf w a b c).params [("self",ts,.ref ff),("func",tf,.ref mw)] 2 #[]),(ff,ffO dd mw it),(it,liO fl i),(fl,lO xs le)]) (.fin C7 (C8 (niX none it fl i xs le (nmV nt k) 2 3 0 1)) ⟨.ok (.done .next),[(0,frS (wf w a b c).params [("self",ts,.ref ff),("func",tf,.ref mw),("item",t₀+1,nmV nt k)] 3 #[]),(1,ffO dd mw it),(2,liO fl (i+1)),(3,lO xs le)],0,2⟩) ⟨none,720,7200,ff'⟩ (ar [ak (inS nfW) 0] (c8 L)):=by cases c<;>kernel_rfl
noncomputable def C1:List Nat:=dH 33 6379851906481298470052152205740049840543343590089834369024
noncomputable def C5(X0:XSpec):List CH:=[.p,.p,.p,.p,.p,.p,.p,.x X0]
theorem C0(ff':Option (List Env)):au 200 (wf w a b c) N t₀ ([(L,frS (wf w a b c).params [("self",ts,.ref ff),("func",tf,.ref mw),("item",ti,v)] 3 #[]),(ff,ffO dd mw it),(it,liO fl i),(fl,lO xs le)]) (.fin C1 (C5 (niX none it fl i xs le (nmV nt k) 2 3 0 1)) ⟨.ok (.done .next),[(0,frS (wf w a b c).params [("self",ts,.ref ff),("func",tf,.ref mw),("item",ti,nmV nt k)] 3 #[]),(1,ffO dd mw it),(2,liO fl (i+1)),(3,lO xs le)],0,2⟩) ⟨none,720,7200,ff'⟩ (ar [ak (inS nfW) 0] (c8 L)):=by cases c<;>kernel_rfl
noncomputable def B8:List Nat:=dH 31 4670456479200819281428572794763636689388841806049316864
noncomputable def B9(X0:XSpec):List CH:=[.p,.p,.p,.p,.p,.p,.p,.x X0]
theorem B7(ff':Option (List Env)):au 200 (wf w a b c) N t₀ ([(L,frS (wf w a b c).params (("self",ts,.ref ff)::("func",tf,.ref mw)::ext) ep #[]),(ff,ffO dd mw it),(it,liO fl i),(fl,lO xs le)]) (.fin B8 (B9 (neX it fl i xs le N 2 3 0 1)) ⟨.error (.ref (N+1)),[(0,frS (wf w a b c).params (("self",ts,.ref ff)::("func",tf,.ref mw)::ext) ep #[]),(1,ffO dd mw it),(2,liE i),(3,lO xs le),(4,m9),(5,i7 N)],2,1⟩) ⟨none,720,7200,ff'⟩ (ar [ak (inS nfW) 0] (c8 L)):=by cases c<;>kernel_rfl
noncomputable def D0:List Nat:=dH 8 8934622494785
noncomputable def D2(X0:XSpec):List CH:=[.p,.x X0]
theorem C9(ff':Option (List Env)):au 60 (wf w a b c) N t₀ ([(L,frS (wf w a b c).params [("self",ts,.ref ff),("func",tf,.ref mw),("item",ti,nmV nt k)] 3 #[]),(mw,mwC sk),(sk,lO (rs.map (nmV nt)) se)]) (.fin D0 (D2 (lcX sk nt k rs se 2 0 0 true)) ⟨.ok (.done .next),[(0,frS (wf w a b c).params [("self",ts,.ref ff),("func",tf,.ref mw),("item",ti,nmV nt k)] 3 #[]),(1,mwC sk),(2,lO (rs.map (nmV nt)) se)],0,0⟩) ⟨none,720,7200,ff'⟩ (ar [ak (inS nfW) 1] (c8 L)):=by kernel_rfl
noncomputable def D5:List Nat:=dH 9 290409599205441
noncomputable def D6(X0:XSpec):List CH:=[.p,.x X0]
theorem D3(ff':Option (List Env)):au 60 (wf w a b c) N t₀ ([(L,frS (wf w a b c).params [("self",ts,.ref ff),("func",tf,.ref mw),("item",ti,nmV nt k)] 3 #[]),(mw,mwC sk),(sk,lO (rs.map (nmV nt)) se)]) (.fin D5 (D6 (lcX sk nt k rs se 2 0 0 false)) ⟨.ok (.done (.ret (nmV nt k))),[(0,frS (wf w a b c).params [("self",ts,.ref ff),("func",tf,.ref mw),("item",ti,nmV nt k)] 3 #[]),(1,mwC sk),(2,lO (rs.map (nmV nt)) se)],0,0⟩) ⟨none,720,7200,ff'⟩ (ar [ak (inS nfW) 1] (c8 L)):=by kernel_rfl
noncomputable def jgv:List Nat:=dH 17 316623374045664581255169
noncomputable def jgw:List CH:=[.f,.p]
theorem jgu(ff':Option (List Env)):au 60 (wf w a b c) N t₀ ([(ff,ffO dd mw it),(it,liO fl i)]) (.fin jgv jgw ⟨.ok (.done (.ret (.ref ff))),[(0,ffO dd mw it),(1,liO fl i)],1,1⟩) ⟨none,660,6600,ff'⟩ (itT (.ref ff)):=by cases c<;>kernel_rfl
noncomputable def jgy:List Nat:=dH 8 16777217
noncomputable def jgz:List CH:=[]
theorem jgx(ff':Option (List Env)):au 60 (wf w a b c) N t₀ ([(ff,ffO dd mw it)]) (.fin jgy jgz ⟨.ok (.done (.ret (.bool true))),[(0,ffO dd mw it)],0,0⟩) ⟨none,660,6600,ff'⟩ (hlT (.ref ff)):=by cases c<;>kernel_rfl
noncomputable def pk(nt:Fin 8→Nat)(ff dd mw it fl sk i:Nat)(ls rs:List (Fin 8))(le se:Nat):List (Nat×Obj):=[(ff,ffO dd mw it),(mw,mwC sk),(it,liO fl i),(fl,lO (ls.map (nmV nt)) le),(sk,lO (rs.map (nmV nt)) se)]
noncomputable def jgo(P:Params)(nt:Fin 8→Nat)(ff dd mw it fl sk i j:Nat)(ls rs:List (Fin 8))(le se:Nat)(k:Fin 8)(outer:List Env):Script:=
 .call jgr jgt (nxC P nt ff dd mw it fl sk i j ls rs le se k outer) fun o=>.fin jgq jgs ⟨.ok (.done (gw (some (nmV nt k)))),[(0,ffO dd mw it),(1,mwC sk),(2,liO fl j),(3,lO (ls.map (nmV nt)) le),(4,lO (rs.map (nmV nt)) se)],0,0⟩
theorem jgp:au 60 (wf w a b c) N t₀ (pk nt ff dd mw it fl sk i ls rs le se) (jgo (wf w a b c).params nt ff dd mw it fl sk i j ls rs le se k outer) ⟨none,660,6600,some outer⟩ (nxT (.ref ff)):=by cases c<;>kernel_rfl
noncomputable def O0(P:Params)(nt:Fin 8→Nat)(ff dd mw it fl sk i N:Nat)(ls rs:List (Fin 8))(le se:Nat)(outer:List Env)(fs:List Nat)(h₀:Heap):Script:=
 .call O3 O6 (neC P nt ff dd mw it fl sk i N ls rs le se outer fs h₀) fun o=>.fin [6] O5 ⟨.ok (.done (gw none)),[(0,ffO dd mw it),(1,mwC sk),(2,liE o.ie),(3,lO (ls.map (nmV nt)) le),(4,lO (rs.map (nmV nt)) se)],0,0⟩
theorem O2:au 60 (wf w a b c) N t₀ (pk nt ff dd mw it fl sk i ls rs le se) (O0 (wf w a b c).params nt ff dd mw it fl sk i N ls rs le se outer fs h₀) ⟨none,660,6600,some outer⟩ (nxT (.ref ff)):=by cases c<;>kernel_rfl
noncomputable def pj(P:Params)(nt:Fin 8→Nat)(L fl sk t1 t2:Nat)(ls rs:List (Fin 8))(le se:Nat):List (Nat×Obj):=[(L,frS P [("flist",t1,.ref fl),("skip",t2,.ref sk)] 2 #[]),(fl,lO (ls.map (nmV nt)) le),(sk,lO (rs.map (nmV nt)) se)]
noncomputable def jgi(P:Params)(nt:Fin 8→Nat)(L fl sk N t1 t2:Nat)(ls rs out:List (Fin 8))(le se:Nat)(outer:List Env)(fs:List Nat)(h₀:Heap):Script:=
 .call jgl (jgn (lwX (N+5) (N+2) 5 6)) (liC P nt L fl sk N t1 t2 ls rs out le se outer fs h₀) fun o=>.fin jgk jgm ⟨.ok (.done (.ret (.ref (N+5)))),[(1,lO (ls.map (nmV nt)) le),(2,lO (rs.map (nmV nt)) se),(8,lO (out.map (nmV nt)) o.se)],0,0⟩
theorem jgj:au 500 (wf w a b c) N t₀ (pj (wf w a b c).params nt L fl sk t1 t2 ls rs le se) (jgi (wf w a b c).params nt L fl sk N t1 t2 ls rs out le se outer fs h₀) ⟨none,580,5800,some (fm L::outer)⟩ (ar fiS (fm L)):=by cases c<;>kernel_rfl
end
section
variable{M:Model}{A:Around}{E:Value→Shared→Prop}{s:Shared}
theorem ku{env:Env}{outer:List Env}{L e:Addr}{oe:Obj}{vs:Array Value}{Q:Value→Unit→Shared→Prop}{E':Value→Shared→Prop}
  (hfr:A.frames=some (env::outer)) (hl:s.heap.FunFrames noBase (env::outer)) (hf:env.frame=some L)
  (he:s.heap.get? e=some oe) (hd:oe.data=.fields vs) (h1:vs[1]?=some .none)
  (h:∀h',Noted ((env::outer).filterMap (·.frame)) e s.heap h'→TracedAt s.heap.objs.size h' e oe.cls→h'.FunFrames noBase (env::outer)→Q (.ref e) () { s with heap:=h' }) :
  notedBy M A env (fun x s'=>cameBackBy M A env (fun x s''=>wpAny M A (leaving env x) (Q x) E' s'') x s') (.ref e) s:=by
 unfold notedBy noteFrame
 simp only[hf]
 have hsz:1<vs.size:=(Array.getElem?_eq_some_iff.mp h1).1
 refine wpAny_bind (wpAny_field he hd h1 ?_)
 refine wie (by decide) ?_
 have hene:e∉(env::outer).filterMap (·.frame):=fun hm=>by
  obtain⟨_,o,ho,hnf⟩:=hl.mem hm
  rw[he] at ho;injection ho with ho;subst ho;exact hnf vs hd
 refine wpAny_bind (wpAny_frameOf_fun hfr hl hf fun h₁ hs₁=>?_)
 refine wpAny_bind (wpAny_entryPlaceOf fun pl hpl=>?_)
 unfold EntryCells.newEntry newFields
 refine wpAny_bind (wpAny_newObj_type ?_ (hpl.sizeOk5 _ _ _ _ _))
 have he₁:h₁.get? e=some oe:=(hs₁.2.1 e hene).trans he
 have he₂:=Heap.get?_push_of_some (h:=h₁) { cls:=.type "traceback",dict:=none,data:=.fields ([.none,.ref L,.none,rawInt L,.none]++(if pl.isEmpty then List.replicate 6 Value.none else pl)).toArray } he₁
 refine wpAny_setField he₂ hd hsz ?_
 have hTe:h₁.objs.size≠e:=Nat.ne_of_gt (Heap.lt_size he₁)
 have hd₃:=Obj.data_mapFields hd (·.setIfInBounds 1 (Value.ref h₁.objs.size))
 have he₃:=Heap.get?_update_self (Obj.mapFields (·.setIfInBounds 1 (Value.ref h₁.objs.size))) he₂ (Obj.isFreed_of_fields hd₃)
 have hT₃:=(Heap.get?_update_other (h₁.push { cls:=.type "traceback",dict:=none,data:=.fields ([.none,.ref L,.none,rawInt L,.none]++(if pl.isEmpty then List.replicate 6 Value.none else pl)).toArray })
  (Obj.mapFields (·.setIfInBounds 1 (Value.ref h₁.objs.size))) (Ne.symm hTe)).trans (Heap.get?_push_size h₁ rfl)
 have v1:(vs.setIfInBounds 1 (Value.ref h₁.objs.size))[1]?=some (.ref h₁.objs.size):=by simp[hsz]
 have hsizeT:∀x:Value,3<(([.none,.ref L,.none,rawInt L,.none]++(if pl.isEmpty then List.replicate 6 Value.none else pl)).toArray).size:=fun _=>by
  simp only[List.size_toArray,List.length_append,List.length_cons,List.length_nil];omega
 have hTne:(Value.ref h₁.objs.size != Value.none)=true:=by simp
 show wpAny M A _ _ _ _
 have keep:∀b o,b≠e→h₁.get? b=some o→∀f2:Obj→Obj,∀f3:Obj→Obj,
   ((((h₁.push { cls:=.type "traceback",dict:=none,data:=.fields ([.none,.ref L,.none,rawInt L,.none]++(if pl.isEmpty then List.replicate 6 Value.none else pl)).toArray }).update e (Obj.mapFields (·.setIfInBounds 1 (Value.ref h₁.objs.size)))).update h₁.objs.size f2).update h₁.objs.size f3).get? b=some o:=fun b o hbe hb f2 f3=>by
  have hbT:h₁.objs.size≠b:=Nat.ne_of_gt (Heap.lt_size hb)
  rw[Heap.get?_update_other _ _ hbT,Heap.get?_update_other _ _ hbT,Heap.get?_update_other _ _ (Ne.symm hbe)]
  exact Heap.get?_push_of_some _ hb
 have noRecord:∀b o,s.heap.get? b=some o→(∀vs,o.data≠.fields vs)→b≠e:=fun b o hb hnf q=>by
  rw[q,he] at hb;injection hb with hb;subst hb;exact hnf vs hd
 generalize hTB:(⟨.type "traceback",none,.fields ([.none,.ref L,.none,rawInt L,.none]++(if pl.isEmpty then List.replicate 6 Value.none else pl)).toArray,#[]⟩:Obj)=tb at *
 obtain⟨ts,hts,hts3⟩:∃ts,tb.data=.fields ts∧3<ts.size:=⟨_,by rw[←hTB],hsizeT .none⟩
 have htf:tb.isFreed=false:=Obj.isFreed_of_fields hts
 generalize hh3:(h₁.push tb).update e (Obj.mapFields (·.setIfInBounds 1 (Value.ref h₁.objs.size)))=h3 at *
 have hd4:=Obj.data_mapFields hts (·.setIfInBounds 3 (rawInt L))
 have hT4:=Heap.get?_update_self (Obj.mapFields (·.setIfInBounds 3 (rawInt L))) hT₃ (Obj.isFreed_of_fields hd4)
 have he4:=(Heap.get?_update_other h3 (Obj.mapFields (·.setIfInBounds 3 (rawInt L))) hTe).trans he₃
 have v3:(ts.setIfInBounds 3 (rawInt L))[3]?=some (rawInt L):=by simp[hts3]
 refine wpAny_bind (wpAny_field he₃ hd₃ v1 ?_)
 refine wie (show ¬((Value.ref h₁.objs.size==Value.none)=true) from Bool.false_ne_true) ?_
 unfold setFlight
 rw[hf]
 refine wpAny_bind (wpAny_field he₃ hd₃ v1 ?_)
 refine wif hTne ?_
 refine wpAny_setField hT₃ hts hts3 ?_
 show wpAny M A (leaving env (.ref e)) _ _ _
 unfold leaving noteFrame
 simp only[hf]
 refine wpAny_bind (wpAny_bind (wpAny_field he4 hd₃ v1 ?_))
 refine wif hTne ?_
 refine wpAny_bind (wpAny_field hT4 hd4 v3 ?_)
 refine wif (by simp) ?_
 refine wpAny_pure ?_
 unfold setFlight
 refine wpAny_bind (wpAny_field he4 hd₃ v1 ?_)
 refine wif hTne ?_
 refine wpAny_setField hT4 hd4 (by simpa using hts3) ?_
 subst hh3
 refine h _ ⟨?_,fun b o hb hS hbe=>keep b o hbe ((hs₁.2.1 b hS).trans hb) _ _,fun b o hb hS=>?_⟩ ⟨?_⟩ (hl.of_keeps fun b o hb hnf=>?_)
 ·rw[Heap.size_after_update,Heap.size_after_update,Heap.size_after_update,Heap.size_push,hs₁.1];exact Nat.le_succ _
 ·obtain⟨sl,hs⟩:=hs₁.2.2 b o hb
  obtain⟨_,o',ho',hnf⟩:=hl.mem hS
  rw[hb] at ho';cases ho'
  exact⟨sl,keep b _ (noRecord b o hb hnf) hs _ _⟩
 ·have hd5:=Obj.data_mapFields hd4 (·.setIfInBounds 3 ((none:Option Addr).elim Value.none fun f=>rawInt f))
  refine⟨_,_,h₁.objs.size,_,_,(Heap.get?_update_other _ _ hTe).trans he4,Obj.cls_mapFields _ _,hd₃,v1,hTe,by rw[hs₁.1];exact Nat.le_refl _,Heap.get?_update_self _ hT4 (Obj.isFreed_of_fields hd5),hd5,by simp[hts3]⟩
 ·obtain⟨sl,hs⟩:=hs₁.2.2 b o hb
  exact⟨_,keep b _ (noRecord b o hb hnf) hs _ _,rfl⟩
end
theorem ny:nfS=[ak nfS 0]++[nfW]:=by kernel_rfl
theorem nx:nfW=.While (teS nfW) (inS nfW) [] (gy nfW):=by kernel_rfl
theorem nu:inS nfW=[ak (inS nfW) 0]++[ak (inS nfW) 1]:=by kernel_rfl
theorem jld(L:Nat):(c8 L).scope.kind=.function:=by kernel_rfl
structure NextAt(ls rs:List (Fin 8))(i j:Nat)(k:Fin 8):Prop where
 le:i≤j
 get:ls[j]?=some k
 out:k∉rs
 skip:∀m,i≤m→m<j→∀k',ls[m]?=some k'→k'∈rs
theorem NextAt.uniq{ls rs:List (Fin 8)}{i j j':Nat}{k k':Fin 8}(h:NextAt ls rs i j k)(h':NextAt ls rs i j' k'):j=j'∧k=k':=by
 have e:j=j':=by
  rcases Nat.lt_trichotomy j j' with q|q|q
  ·exact absurd (h'.skip j h.le q k h.get) h.out
  ·exact q
  ·exact absurd (h.skip j' h'.le q k' h'.get) h'.out
 subst e
 have:=h.get.symm.trans h'.get
 exact⟨rfl,Option.some.inj this⟩
noncomputable def NoNext(ls rs:List (Fin 8))(i:Nat):Prop:=∀m,i≤m→∀k',ls[m]?=some k'→k'∈rs
theorem NextAt.not{ls rs:List (Fin 8)}{i j:Nat}{k:Fin 8}(h:NextAt ls rs i j k)(h':NoNext ls rs i):False:=h.out (h' j h.le k h.get)
section
variable{w:World}{a b c:Bool}{nt:Fin 8→Nat}{ff dd mw it fl sk i le se:Nat}{ls rs:List (Fin 8)}{A:Around}{s:Shared}{outer:List Env}{fs:List Nat}{R:Result→Shared→Prop}
structure NZ(nt:Fin 8→Nat)(ff dd mw it fl sk i le se:Nat)(ls rs:List (Fin 8))(h:Heap):Prop where
 ff:h.get? ff=some (ffO dd mw it)
 mw:h.get? mw=some (mwC sk)
 it:h.get? it=some (liO fl i)
 fl:h.get? fl=some (lO (ls.map (nmV nt)) le)
 sk:h.get? sk=some (lO (rs.map (nmV nt)) se)
structure NO(ff mw it fl sk:Nat):Prop where
 off:257≤ff∧257≤mw∧257≤it∧257≤fl∧257≤sk
 ne:fl≠sk
theorem NZ.keep{h h':Heap}{chg:List Nat}(Z:NZ nt ff dd mw it fl sk i le se ls rs h)(K:af chg h h')(hc:ff∉chg∧mw∉chg∧it∉chg∧fl∉chg∧sk∉chg):NZ nt ff dd mw it fl sk i le se ls rs h':=
 ⟨K _ _ Z.ff hc.1,K _ _ Z.mw hc.2.1,K _ _ Z.it hc.2.2.1,K _ _ Z.fl hc.2.2.2.1,K _ _ Z.sk hc.2.2.2.2⟩
theorem jj3(hA:Room A 700 7000)(hfr:A.frames=some outer)(hff:s.heap.FunFrames noBase outer)(hfs:fs=outer.filterMap (·.frame))(B:Based (wf w a b c).params s.heap)(h257:257≤s.heap.objs.size)(O:NO ff mw it fl sk)(Z:NZ nt ff dd mw it fl sk i le se ls rs s.heap)(hfs2:∀x∈fs,x∉[ff,mw,it,fl,sk])
  (hv:∀s' j k,NextAt ls rs i j k→s'.heap.get? it=some (liO fl (j+1))→af [it] s.heap s'.heap→s.heap.objs.size≤s'.heap.objs.size→ae s'=ae s→R (rv (nmV nt k)) s')
  (he:∀s' (e n:Nat) (oe:Obj) (vs:Array Value),NoNext ls rs i→s'.heap.get? it=some (liE n)→s.heap.objs.size≤e→s'.heap.get? e=some oe→oe.cls=.type "StopIteration" → oe.data=.fields vs→(∀y ob,s.heap.get? y=some ob→y≠it→y∉fs→s'.heap.get? y=some ob)→(∀y ob,s.heap.get? y=some ob→y∈fs→∃sl,s'.heap.get? y=some { ob with slots:=sl })→s.heap.objs.size≤s'.heap.objs.size→ae s'=ae s→R (.error (.ref e)) s') :
  codeAny (model PG (wf w a b c)) A (.call (.ref 71) ⟨[.ref ff],[]⟩) R s:=by
 have o:=O.off
 have one:=O.ne
 have P:=ag (w:=wf w a b c) (pre:=[]) B h257 zt zt zt
 refine cz (jdw (ff:=ff) A.frames) P hA.cx rfl zt fun s1 P1 K1 r1=>?_
 have K1':af [] s.heap s1.heap:=K1
 have hs1:s1.heap.objs.size=s.heap.objs.size+1:=P1.size
 have x0:s1.heap.get? s.heap.objs.size=some (frO (wf w a b c).params [("self",s.toks,.ref ff)] 1):=P1.has (s.heap.objs.size,_) (.head _)
 have lt:∀{y:Nat} {ob:Obj},s.heap.get? y=some ob→@LT.lt Nat _ y s.heap.objs.size:=fun{y ob} e=>Heap.lt_size e
 have l1:=lt Z.ff
 have l2:=lt Z.mw
 have l3:=lt Z.it
 have l4:=lt Z.fl
 have l5:=lt Z.sk
 generalize hN:s.heap.objs.size=L at *
 have Z1:=Z.keep K1' ⟨n0m,n0m,n0m,n0m,n0m⟩
 show codeAny _ A (.func nfS (c8 L)) R s1
 refine codeAny_func ?_
 have hA2:Room (A.deeper (c8 L)) 720 7200:=(hA.deeper _).mono (qb rfl) (qb rfl)
 have hfr2:(A.deeper (c8 L)).frames=some (c8 L::outer):=by
  show A.frames.map _=_
  rw[hfr];rfl
 generalize A.deeper (c8 L)=A2 at hA2 hfr2
 first|refine xq1 ny ?_|refine xq2 ny ?_|refine xq3 ny ?_|rw[ny]
 refine ah _ _ ?_
 have P2:=ag (w:=wf w a b c) (pre:=[(L,frS (wf w a b c).params [("self",s.toks,.ref ff)] 1 #[]),(ff,ffO dd mw it)]) P1.based (qc (qb rfl) (qq (ql o.2.2.2.1 l4) hs1)) ⟨x0,Z1.ff,zt⟩ (gx (by omega) o.1) ⟨⟨zt,zt⟩,zt,zt⟩
 refine ay (jdz A2.frames) P2 hA2.cx hA2.cx rfl zt fun s2 P3 K3 r3=>?_
 have K3':af [L] s1.heap s2.heap:=am P2 P3.has K3 ⟨.inr (.head _),.inl rfl,zt⟩
 have y0:=P3.has (L,_) (.head _)
 have nL:∀{y:Nat},y<L→y∉[L]:=fun{y} h q=>by have:=ax (List.mem_singleton.mp q);exact(qf (qy h this))
 have Z2:=Z1.keep K3' ⟨nL l1,nL l2,nL l3,nL l4,nL l5⟩
 have Ks:af [] s.heap s2.heap:=fun y ob e _=>K3' y ob (K1' y ob e n0m) (nL (by have:=lt e;omega))
 have hs2:s2.heap.objs.size=s1.heap.objs.size:=P3.size
 generalize htf:s1.toks+1=tf at *
 refine wpAny_execs_cons ?_
 first|refine xq1 nx ?_|refine xq2 nx ?_|refine xq3 nx ?_|rw[nx]
 refine wpAny_While ?_
 refine codeAny_whileLoop (fun n s'=>∃i' ext ep,n=ls.length-i'∧i≤i'∧(∀m,i≤m→m<i'→∀k',ls[m]?=some k'→k'∈rs)∧((ext=[]∧ep=2)∨∃ti v,ext=[("item",ti,v)]∧ep=3)∧s'.heap.get? L=some (frS (wf w a b c).params (("self",s.toks,.ref ff)::("func",tf,.ref mw)::ext) ep #[])∧NZ nt ff dd mw it fl sk i' le se ls rs s'.heap∧af [it] s.heap s'.heap∧Based (wf w a b c).params s'.heap∧L+1≤s'.heap.objs.size∧ae s'=ae s)
  (fun n s3 hI=>?_) (ls.length-i) ⟨i,[],2,rfl,Nat.le_refl _,(fun m h1 h2=>by omega),.inl ⟨rfl,rfl⟩,y0,Z2,(fun y ob e _=>Ks y ob e n0m),P3.based,(qy (qg hs1) hs2),r3.trans r1⟩
 obtain⟨i',ext,ep,hn,hi,hsk,hx,hfrm,Z3,K5,B3,hs3,rr3⟩:=hI
 have P4:=ag (w:=wf w a b c) (pre:=[]) B3 (qc (qb rfl) (ql (ql o.2.2.2.1 l4) hs3)) zt zt zt
 refine cu (jdt (L:=L) A2.frames) P4 hA2.cx hA2.cx rfl zt fun s4 P5 K6 r6=>?_
 first|refine itp rfl ?_|rw[if_pos rfl]
 have K6':af [] s3.heap s4.heap:=K6
 have hs4:s4.heap.objs.size=s3.heap.objs.size:=P5.size
 have Z4:=Z3.keep K6' ⟨n0m,n0m,n0m,n0m,n0m⟩
 have hfrm4:=K6' _ _ hfrm n0m
 have K7:af [it] s.heap s4.heap:=fun y ob e hy=>K6' y ob (K5 y ob e hy) n0m
 have rr4:=r6.trans rr3
 have B4:=P5.based
 clear P4 P5 K6 K6' hfrm Z3 K5 B3
 first|refine xq1 nu ?_|refine xq2 nu ?_|refine xq3 nu ?_|rw[nu]
 refine ah _ _ ?_
 cases hg:ls[i']? with
 |none=>
  have P6:=ag (w:=wf w a b c) (pre:=[(L,frS (wf w a b c).params (("self",s.toks,.ref ff)::("func",tf,.ref mw)::ext) ep #[]),(ff,ffO dd mw it),(it,liO fl i'),(fl,lO (ls.map (nmV nt)) le)]) B4 (qc (qb rfl) (qy (ql (ql o.2.2.2.1 l4) hs3) hs4)) ⟨hfrm4,Z4.ff,Z4.it,Z4.fl,zt⟩ (r0 (by omega) o.1 o.2.2.1 o.2.2.2.1) ⟨⟨zt,zt,zt,zt⟩,⟨zt,zt,zt⟩,⟨zt,zt⟩,zt,zt⟩
  refine jq (B7 A2.frames) P6 hA2.cx hA2.cx rfl ⟨D7 rfl rfl (by rw[List.getElem?_map,hg];rfl) rfl,zt⟩ fun s5 P7 K8 r8=>?_
  have K8':af [it] s4.heap s5.heap:=am P6 P7.has K8 ⟨.inl rfl,.inl rfl,.inr (.head _),.inl rfl,zt⟩
  have hs5:s5.heap.objs.size=s4.heap.objs.size+2:=P7.size
  have hE:s5.heap.get? (s4.heap.objs.size+1)=some (i7 s4.heap.objs.size):=P7.has (s4.heap.objs.size+1,_) (.tail _ (.tail _ (.tail _ (.tail _ (.tail _ (.head _))))))
  have hIt:s5.heap.get? it=some (liE i'):=P7.has (it,_) (.tail _ (.tail _ (.head _)))
  have Kall:af [it] s.heap s5.heap:=fun y ob e hy=>K8' y ob (K7 y ob e hy) hy
  have hit:it∉fs:=fun q=>hfs2 it q (by simp)
  have hfL:=K8' _ _ hfrm4 (du (nne (.inr l3)))
  have ff5:s5.heap.FunFrames noBase (c8 L::outer):=⟨by rw[jld];exact(fun e=>by cases e),⟨L,_,rfl,cf _,hfL,(fun vs e=>by cases e)⟩,hff.of_keeps fun y o' e hnf=>⟨o',Kall _ _ e (fun q=>by
   rw[List.mem_singleton.mp q,Z.it] at e
   cases e
   exact hnf _ rfl),rfl⟩⟩
  show notedBy _ A2 (c8 L) (fun x s'=>cameBackBy _ A2 (c8 L) (fun x s''=>wpAny _ A2 (leaving (c8 L) x) (fun _ s''=>R (.error x) s'') (fun e' s''=>R (.error e') s'') s'') x s') _ s5
  refine ku (Q:=fun x _ s''=>R (.error x) s'') (L:=L) hfr2 ff5 rfl hE rfl rfl fun h6 N6 T6 F6=>?_
  have hfL2:(c8 L::outer).filterMap (·.frame)=L::fs:=by rw[hfs];rfl
  rw[hfL2] at N6
  have hs6:=N6.size
  obtain⟨oe,vs,TB,oT,ts,t1,t2,t3,-⟩:=T6.ex
  refine he { s5 with heap:=h6 } (s4.heap.objs.size+1) i' oe vs (fun m h1 k' hk=>?_) ?_ (qr (k:=1) (qv (qy hs3 hs4))) t1 t2 t3 (fun y ob e h1 h2=>?_) (fun y ob e h1=>?_) (by show L≤h6.objs.size;exact(qw (k:=3) (qc (qk (k:=2) (qy hs3 hs4) (qg hs5)) hs6))) (r8.trans rr4)
  ·by_cases q:m<i'
   ·exact hsk m h1 q k' hk
   ·have:=List.getElem?_eq_none_iff.mp hg
    have h3:=(List.getElem?_eq_some_iff.mp hk).1
    omega
  ·exact N6.keep it _ hIt (fun q=>by
    rcases List.mem_cons.mp q with q|q
    ·have:=ax q;exact(qf (qy l3 q))
    ·exact hit q) (nne (.inl (qr (k:=1) (qv (qy (ql l3 hs3) hs4)))))
  ·have:=lt e
   exact N6.keep y ob (Kall y ob e (du h1)) (fun q=>by
    rcases List.mem_cons.mp q with q|q
    ·have:=ax q;omega
    ·exact h2 q) (nne (.inl (qr (k:=1) (qv (qy (ql this hs3) hs4)))))
  ·exact N6.slots y ob (Kall y ob e (fun q=>hit (by rw[List.mem_singleton.mp q] at h1;exact h1))) (.tail _ h1)
 |some k=>
  have hget:(ls.map (nmV nt))[i']?=some (nmV nt k):=by rw[List.getElem?_map,hg];rfl
  have hil:=(List.getElem?_eq_some_iff.mp hg).1
  have go:∀{Q':Flow→Shared→Prop} {E'':Value→Shared→Prop} (s5:Shared) (ti:Nat),s5.heap.objs.size=s4.heap.objs.size→s5.heap.get? L=some (frS (wf w a b c).params [("self",s.toks,.ref ff),("func",tf,.ref mw),("item",ti,nmV nt k)] 3 #[])→s5.heap.get? it=some (liO fl (i'+1))→af [L,it] s4.heap s5.heap→Based (wf w a b c).params s5.heap→ae s5=ae s4 →
    (∀s₃,(∃m,m<n∧∃i' ext ep,m=ls.length-i'∧i≤i'∧(∀m,i≤m→m<i'→∀k',ls[m]?=some k'→k'∈rs)∧((ext=[]∧ep=2)∨∃ti v,ext=[("item",ti,v)]∧ep=3)∧s₃.heap.get? L=some (frS (wf w a b c).params (("self",s.toks,.ref ff)::("func",tf,.ref mw)::ext) ep #[])∧NZ nt ff dd mw it fl sk i' le se ls rs s₃.heap∧af [it] s.heap s₃.heap∧Based (wf w a b c).params s₃.heap∧L+1≤s₃.heap.objs.size∧ae s₃=ae s)→Q' .next s₃) →
    (∀s₃,R (rv (nmV nt k)) s₃→Q' (.ret (nmV nt k)) s₃)→wpAny (model PG (wf w a b c)) A2 (execs [ak (inS nfW) 1] (c8 L)) Q' E'' s5:=fun{Q' E''} s5 ti hs5 hf5 hit5 K8 B5 r5 hQN hQR=>by
   have hne2:∀{y:Nat},y<L→y≠it→y∉[L,it]:=fun{y} h1 h2 q=>by
    replace q:=mO2 q
    rcases q with q|q
    ·have:=ax q;exact(qf (qy h1 q))
    ·exact h2 q
   have nit1:ff≠it:=ao Z.ff Z.it rfl
   have nit2:mw≠it:=ao Z.mw Z.it rfl
   have nit4:fl≠it:=ao Z.fl Z.it rfl
   have nit5:sk≠it:=ao Z.sk Z.it rfl
   have Z5:NZ nt ff dd mw it fl sk (i'+1) le se ls rs s5.heap:=⟨K8 _ _ Z4.ff (hne2 l1 nit1),K8 _ _ Z4.mw (hne2 l2 nit2),hit5,K8 _ _ Z4.fl (hne2 l4 nit4),K8 _ _ Z4.sk (hne2 l5 nit5)⟩
   have K9:af [it] s.heap s5.heap:=fun y ob e hy=>K8 y ob (K7 y ob e hy) (hne2 (by have:=lt e;omega) (fun q=>hy (by rw[q];exact .head _)))
   have P6:=ag (w:=wf w a b c) (pre:=[(L,frS (wf w a b c).params [("self",s.toks,.ref ff),("func",tf,.ref mw),("item",ti,nmV nt k)] 3 #[]),(mw,mwC sk),(sk,lO (rs.map (nmV nt)) se)]) B5 (qc (qb rfl) (qy (qy (ql (ql o.2.2.1 l3) hs3) hs4) hs5)) ⟨hf5,Z5.mw,Z5.sk,zt⟩ (f0 (by omega) o.2.1 o.2.2.2.2) ⟨⟨zt,zt,zt⟩,⟨zt,zt⟩,zt,zt⟩
   by_cases hk:k∈rs
   ·refine ay (C9 A2.frames) P6 hA2.cx hA2.cx rfl ⟨E7 rfl (decide_eq_true hk),zt⟩ fun s6 P7 K10 r7=>?_
    have K10':af [] s5.heap s6.heap:=am P6 P7.has K10 ⟨.inl rfl,.inl rfl,.inl rfl,zt⟩
    have hs6:s6.heap.objs.size=s5.heap.objs.size:=P7.size
    refine hQN s6 ⟨ls.length-(i'+1),by omega,i'+1,[("item",ti,nmV nt k)],3,rfl,(qr (k:=1) hi),fun m h1 h2 k' hk'=>?_,.inr ⟨_,_,rfl,rfl⟩,K10' _ _ hf5 n0m,Z5.keep K10' ⟨n0m,n0m,n0m,n0m,n0m⟩,fun y ob e hy=>K10' y ob (K9 y ob e hy) n0m,P7.based,(qy (qy (qy hs3 hs4) hs5) hs6),r7.trans (r5.trans rr4)⟩
    by_cases q:m<i'
    ·exact hsk m h1 q k' hk'
    ·have:m=i':=(Nat.le_antisymm (qu 1 h2) (Nat.le_of_not_lt q))
     subst this
     rw[hg] at hk'
     cases hk'
     exact hk
   ·refine ay (D3 A2.frames) P6 hA2.cx hA2.cx rfl ⟨E7 rfl (decide_eq_false hk),zt⟩ fun s6 P7 K10 r7=>?_
    have K10':af [] s5.heap s6.heap:=am P6 P7.has K10 ⟨.inl rfl,.inl rfl,.inl rfl,zt⟩
    have hs6:s6.heap.objs.size=s5.heap.objs.size:=P7.size
    exact hQR s6 (hv s6 i' k ⟨hi,hg,hk,hsk⟩ (K10' _ _ hit5 n0m) (fun y ob e hy=>K10' y ob (K9 y ob e hy) n0m) (qv (qy (qy (qy hs3 hs4) hs5) hs6)) (r7.trans (r5.trans rr4)))
  rcases hx with⟨rfl,rfl⟩|⟨ti,v,rfl,rfl⟩
  ·have P6:=ag (w:=wf w a b c) (pre:=[(L,frS (wf w a b c).params [("self",s.toks,.ref ff),("func",tf,.ref mw)] 2 #[]),(ff,ffO dd mw it),(it,liO fl i'),(fl,lO (ls.map (nmV nt)) le)]) B4 (qc (qb rfl) (qy (ql (ql o.2.2.2.1 l4) hs3) hs4)) ⟨hfrm4,Z4.ff,Z4.it,Z4.fl,zt⟩ (r0 (by omega) o.1 o.2.2.1 o.2.2.2.1) ⟨⟨zt,zt,zt,zt⟩,⟨zt,zt,zt⟩,⟨zt,zt⟩,zt,zt⟩
   refine ay (C6 A2.frames) P6 hA2.cx hA2.cx rfl ⟨ul rfl rfl hget,zt⟩ fun s5 P7 K8 r8=>?_
   exact go s5 _ P7.size (P7.has (L,_) (.head _)) (P7.has (it,_) (.tail _ (.tail _ (.head _)))) (am P6 P7.has K8 ⟨.inr (.head _),.inl rfl,.inr (.tail _ (.head _)),.inl rfl,zt⟩) P7.based r8 (fun _ h=>h) (fun _ h=>h)
  ·have P6:=ag (w:=wf w a b c) (pre:=[(L,frS (wf w a b c).params [("self",s.toks,.ref ff),("func",tf,.ref mw),("item",ti,v)] 3 #[]),(ff,ffO dd mw it),(it,liO fl i'),(fl,lO (ls.map (nmV nt)) le)]) B4 (qc (qb rfl) (qy (ql (ql o.2.2.2.1 l4) hs3) hs4)) ⟨hfrm4,Z4.ff,Z4.it,Z4.fl,zt⟩ (r0 (by omega) o.1 o.2.2.1 o.2.2.2.1) ⟨⟨zt,zt,zt,zt⟩,⟨zt,zt,zt⟩,⟨zt,zt⟩,zt,zt⟩
   refine ay (C0 A2.frames) P6 hA2.cx hA2.cx rfl ⟨ul rfl rfl hget,zt⟩ fun s5 P7 K8 r8=>?_
   exact go s5 _ P7.size (P7.has (L,_) (.head _)) (P7.has (it,_) (.tail _ (.tail _ (.head _)))) (am P6 P7.has K8 ⟨.inr (.head _),.inl rfl,.inr (.tail _ (.head _)),.inl rfl,zt⟩) P7.based r8 (fun _ h=>h) (fun _ h=>h)
end
theorem me{n:Nat}{w:World}{pre:List (Nat×Obj)}{N t₀:Nat}{scr:Script}{B X:Cx}{x:Value}{A C:Around}{Q:Option Value→Shared→Prop}{E:Value→Shared→Prop}{s:Shared}{modA:Addr→Prop}
  (H:dh n (mkV w pre N t₀) pre scr B X (nxT x)=rhs scr (mkV w pre N t₀)) (P:Pre w pre N t₀ s) (hB:B.Ok A) (hX:X.Ok C) (G:Goal w A (fun r s'=>match r with|.ok f=>∀v,f=gw v→Q v s'|.error e=>E e s') (ae s) s.heap modA scr (mkV w pre N t₀) s.heap) :
  wpAny (model PG w) C (pyNext x) Q E s:=by
 rw[show pyNext x=PySem.W.Fast.tw9404975358583537561 x from by rw[PySem.W.Fast.te9404975358583537561]]
 exact ja (inj:=gw) H P hB hX G (fun a s' h=>h a rfl) (fun _ _ h=>h)
theorem wj{n:Nat}{w:World}{pre:List (Nat×Obj)}{N t₀:Nat}{scr:Script}{B X:Cx}{x:Value}{A C:Around}{Q:Option Value→Shared→Prop}{E:Value→Shared→Prop}{s:Shared}{modA:Addr→Prop}
  (H:dh n (mkV w pre N t₀) pre scr B X (nxT x)=rhs scr (mkV w pre N t₀)) (P:Pre w pre N t₀ s) (hB:B.Ok A) (hX:X.Ok C) (G:GoalS w A (fun r s'=>match r with|.ok f=>∀v,f=gw v→Q v s'|.error e=>E e s') (ae s) s.heap modA scr (mkV w pre N t₀) s.heap) :
  wpAny (model PG w) C (pyNext x) Q E s:=me H P hB hX G.goal
theorem rz{a b:Option Value}(h:gw a=gw b):a=b:=by
 cases a<;>cases b<;>cases h<;>rfl
section
variable{w:World}{a b c:Bool}{nt:Fin 8→Nat}{ff dd mw it fl sk i j le se:Nat}{ls rs:List (Fin 8)}{k:Fin 8}{A:Around}{s:Shared}{outer:List Env}{fs:List Nat}{R:Result→Shared→Prop}{hh:Heap}{V:SV}
theorem NZ.full{h h':Heap}(Z:NZ nt ff dd mw it fl sk i le se ls rs h)(Z':NZ nt ff dd mw it fl sk i le se ls rs h')(K:∀y ob,h.get? y=some ob→y∉[ff,mw,it,fl,sk]→h'.get? y=some ob):af [] h h':=fun y ob e _=>by
 by_cases e1:y=ff
 ·exact sg Z.ff Z'.ff e e1
 by_cases e2:y=mw
 ·exact sg Z.mw Z'.mw e e2
 by_cases e3:y=it
 ·exact sg Z.it Z'.it e e3
 by_cases e4:y=fl
 ·exact sg Z.fl Z'.fl e e4
 by_cases e5:y=sk
 ·exact sg Z.sk Z'.sk e e5
 exact K y ob e (by refine nO5 ?_;exact⟨e1,e2,e3,e4,e5⟩)
theorem gp{h h':Heap}{l:List Env}(K:af [] h h')(H:h.FunFrames noBase l):h'.FunFrames noBase l:=H.of_keeps fun b o e _=>⟨o,K b o e n0m,rfl⟩
theorem jlb(hw:V.w=wf w a b c)(hkt:V.kt=ktB (wf w a b c).params)(hV:V.pre=[ff,mw,it,fl,sk])(hN:hh.objs.size=V.N)(h257:257≤V.N)(O:NO ff mw it fl sk)(Z:NZ nt ff dd mw it fl sk i le se ls rs hh)(hff:hh.FunFrames noBase outer)(hfs2:∀x∈outer.filterMap (·.frame),x∉[ff,mw,it,fl,sk])(hn:NextAt ls rs i j k) :
  b9 V hh (nxC (wf w a b c).params nt ff dd mw it fl sk i (j+1) ls rs le se k outer):=by
 intro A s hh' hf hd hu hs ht hb hkeep hpre
 have hs':s.heap.objs.size=V.N+0:=hs
 have ad:∀n a,[ff,mw,it,fl,sk][n]?=some a→aj V.pre V.N n=a:=fun n a e=>by
  rw[hV,bh _ _ _ (List.getElem?_eq_some_iff.mp e).1];exact(List.getElem?_eq_some_iff.mp e).2
 have p0:=hpre (0,_) (.head _)
 have p1:=hpre (1,_) (.tail _ (.head _))
 have p2:=hpre (2,_) (.tail _ (.tail _ (.head _)))
 have p3:=hpre (3,_) (.tail _ (.tail _ (.tail _ (.head _))))
 have p4:=hpre (4,_) (.tail _ (.tail _ (.tail _ (.tail _ (.head _)))))
 rw[ad 0 _ rfl] at p0
 rw[ad 1 _ rfl] at p1
 rw[ad 2 _ rfl] at p2
 rw[ad 3 _ rfl] at p3
 rw[ad 4 _ rfl] at p4
 have Z':NZ nt ff dd mw it fl sk i le se ls rs s.heap:=⟨p0,p1,p2,p3,p4⟩
 have K:=Z.full Z' (fun y ob e hy=>hkeep y ob e (by rw[hV];exact hy))
 rw[hkt] at hb
 rw[hw]
 refine jj3 ⟨hh',hd,hu⟩ (hf _ rfl) (gp K hff) rfl ⟨hb⟩ (qy h257 hs') O Z' hfs2 (fun s' j' k' hn' x1 K1 hs1 r1=>?_) (fun s' e n oe vs hno _ _ _ _ _ _ _ _ _=>(hn.not hno).elim)
 obtain⟨e1,e2⟩:=hn.uniq hn'
 subst e1 e2
 refine⟨⟨s'.heap.objs.size,s'.toks⟩,zt,rfl,s'.heap,cm r1,zt,rfl,hs1,fun q hq=>?_,(fun q hq=>nomatch hq),List.Pairwise.nil,fun y ob e hb _=>K1 y ob e fun q=>?_⟩
 ·rcases List.mem_singleton.mp hq with rfl
  rw[ad 2 _ rfl];exact x1
 ·have:=hb (2,liO fl (j+1)) (.head _)
  rw[ad 2 _ rfl] at this
  exact this (List.mem_singleton.mp q)
theorem jlf{N:Nat}(hw:V.w=wf w a b c)(hkt:V.kt=ktB (wf w a b c).params)(hV:V.pre=[ff,mw,it,fl,sk])(hN:hh.objs.size=V.N)(h257:257≤V.N)(O:NO ff mw it fl sk)(Z:NZ nt ff dd mw it fl sk i le se ls rs hh)(hff:hh.FunFrames noBase outer)(hfs:fs=outer.filterMap (·.frame))(hfs2:∀x∈fs,x∉[ff,mw,it,fl,sk])(hn:NoNext ls rs i) :
  b9 V hh (neC (wf w a b c).params nt ff dd mw it fl sk i N ls rs le se outer fs hh):=by
 intro A s hh' hf hd hu hs ht hb hkeep hpre
 have hs':s.heap.objs.size=V.N+0:=hs
 have ad:∀n a,[ff,mw,it,fl,sk][n]?=some a→aj V.pre V.N n=a:=fun n a e=>by
  rw[hV,bh _ _ _ (List.getElem?_eq_some_iff.mp e).1];exact(List.getElem?_eq_some_iff.mp e).2
 have p0:=hpre (0,_) (.head _)
 have p1:=hpre (1,_) (.tail _ (.head _))
 have p2:=hpre (2,_) (.tail _ (.tail _ (.head _)))
 have p3:=hpre (3,_) (.tail _ (.tail _ (.tail _ (.head _))))
 have p4:=hpre (4,_) (.tail _ (.tail _ (.tail _ (.tail _ (.head _)))))
 rw[ad 0 _ rfl] at p0
 rw[ad 1 _ rfl] at p1
 rw[ad 2 _ rfl] at p2
 rw[ad 3 _ rfl] at p3
 rw[ad 4 _ rfl] at p4
 have Z':NZ nt ff dd mw it fl sk i le se ls rs s.heap:=⟨p0,p1,p2,p3,p4⟩
 have K:=Z.full Z' (fun y ob e hy=>hkeep y ob e (by rw[hV];exact hy))
 rw[hkt] at hb
 rw[hw]
 refine jj3 ⟨hh',hd,hu⟩ (hf _ rfl) (gp K hff) hfs ⟨hb⟩ (qy h257 hs') O Z' hfs2 (fun s' j' k' hn' _ _ _ _=>(hn'.not hn).elim) (fun s' e n oe vs hno x1 he1 he2 hcl hda K1 KS hs1 r1=>?_)
 refine⟨⟨e,oe.dict,vs,oe.slots,n,s'.heap.objs.size,s'.toks⟩,zt,rfl,s'.heap,cm r1,⟨fun y ob e hy=>KS y ob (K y ob e n0m) hy,by show hh.objs.size≤e;exact(qc (qy (qe hN) hs') he1)⟩,rfl,hs1,fun q hq=>?_,fun q hq=>?_,List.pairwise_singleton ..,fun y ob e hb hm=>K1 y ob e (fun q=>?_) hm⟩
 ·rcases List.mem_singleton.mp hq with rfl
  rw[ad 2 _ rfl];exact x1
 ·rcases List.mem_singleton.mp hq with rfl
  refine⟨?_,.inl (by show V.N+0≤e;exact(qp hs' he1))⟩
  rw[he2]
  obtain⟨cl,di,da,sl⟩:=oe
  cases hcl
  cases hda
  rfl
 ·have:=hb (2,liE n) (.head _)
  rw[ad 2 _ rfl] at this
  exact this q
end
theorem xu:entryFor table "list.extend.loop" = some Builtin.«list.extend.loop»:=entryFor_of_tree (by kernel_rfl)
theorem mi:plainId "list.extend.loop" = true:=by decide +kernel
theorem mh(x:Args):(Code.builtin "list.extend.loop" x).quiet=true:=plainId_quiet mi _
noncomputable def fo(rs ls:List (Fin 8)):List (Fin 8):=ls.filter fun k=>decide (k∉rs)
theorem jo{ls rs:List (Fin 8)}{i:Nat}:∀{n:Nat},i≤n→(∀m,i≤m→m<n→∀k',ls[m]?=some k'→k'∈rs)→fo rs (ls.take n)=fo rs (ls.take i)
 |0,h,_=>by rw[Nat.le_zero.mp h]
 |n+1,h,H=>by
  by_cases e:i=n+1
  ·rw[e]
  ·rw[←jo (n:=n) (by omega) (fun m h1 h2=>H m h1 (qr (k:=1) h2)),List.take_add_one]
   unfold fo
   rw[List.filter_append]
   cases hg:ls[n]? with
   |none=>simp
   |some k=>
    have:=H n (by omega) (Nat.le_refl _) k hg
    simp[this]
theorem NextAt.take{ls rs:List (Fin 8)}{i j:Nat}{k:Fin 8}(h:NextAt ls rs i j k):fo rs (ls.take (j+1))=fo rs (ls.take i)++[k]:=by
 rw[←jo h.le h.skip,List.take_add_one,h.get]
 unfold fo
 rw[List.filter_append]
 have:=h.out
 simp[this]
theorem NoNext.take{ls rs:List (Fin 8)}{i:Nat}(h:NoNext ls rs i):fo rs ls=fo rs (ls.take i):=by
 by_cases e:i≤ls.length
 ·rw[←jo e (fun m h1 _=>h m h1),List.take_length]
 ·rw[List.take_of_length_le (qv (Nat.lt_of_not_le e))]
theorem jd2{ls rs:List (Fin 8)}{i:Nat}(h:¬∃j k,NextAt ls rs i j k):NoNext ls rs i:=by
 intro m
 induction m using Nat.strongRecOn with
 |_ m ih=>
  intro him k' hk
  refine Classical.byContradiction fun q=>h ⟨m,k',him,hk,q,fun m' h1 h2 k2 hk2=>ih m' h2 h1 k2 hk2⟩
section
variable{w:World}{a b c:Bool}{nt:Fin 8→Nat}{ff dd mw it fl sk i j le se S:Nat}{ls rs:List (Fin 8)}{k:Fin 8}{outer:List Env}{fs:List Nat}{A:Around}{R:Result→Shared→Prop}
structure ExO(it S:Nat)(fs:List Nat)(h h':Heap):Prop where
 keep:∀y ob,h.get? y=some ob→y≠it→y≠S→y∉fs→h'.get? y=some ob
 slots:∀y ob,h.get? y=some ob→y∈fs→∃sl,h'.get? y=some { ob with slots:=sl }
 size:h.objs.size≤h'.objs.size
structure XO(ff mw it fl sk S:Nat)(fs:List Nat):Prop extends NO ff mw it fl sk where
 s:257≤S∧S≠fl∧S≠sk
 fs:∀x∈fs,257≤x∧x∉[ff,mw,it,fl,sk,S]
theorem jpe(hA:Room A 650 6500)(hfr:A.frames=some outer)(hfs:fs=outer.filterMap (·.frame))(O:XO ff mw it fl sk S fs):∀(n i:Nat) (_:ls.length-i≤n) (e:Nat) {s:Shared} (_:s.heap.FunFrames noBase outer) (_:Based (wf w a b c).params s.heap) (_:257≤s.heap.objs.size) (_:NZ nt ff dd mw it fl sk i le se ls rs s.heap) (_:s.heap.get? S=some (lO ((fo rs (ls.take i)).map (nmV nt)) e)) (_:ls.length≤100)
  (hR:∀s' e n,s'.heap.get? S=some (lO ((fo rs ls).map (nmV nt)) e)→s'.heap.get? it=some (liE n)→ExO it S fs s.heap s'.heap→ae s'=ae s→R (rv .none) s'),
  codeAny (model PG (wf w a b c)) A (.builtin "list.extend.loop" ⟨[.ref S,.ref ff,.none],[]⟩) R s:=by
 intro n
 induction n using Nat.strongRecOn with
 |_ n ih=>
 intro i hn e s hff B h257 Z hS hl hR
 have o:=O.off
 have one:=O.ne
 have os:=O.s
 have hA1:Room A.in1 660 6600:=⟨hA.h,by have:=hA.d;show A.depth≤_;exact(qr (k:=10) this),by have:=hA.u;show A.units+1≤_;exact(qr (k:=99) (qs 1 this))⟩
 have hfs2:∀x∈fs,x∉[ff,mw,it,fl,sk]:=fun x hx q=>(O.fs x hx).2 (List.mem_append_left _ q)
 have hSf:S∉fs:=fun hx=>(O.fs S hx).2 (by simp)
 have hSff:ff≠S:=ao Z.ff hS rfl
 have hSmw:mw≠S:=ao Z.mw hS rfl
 have hSit:it≠S:=ao Z.it hS rfl
 have nit1:ff≠it:=ao Z.ff Z.it rfl
 have nit2:mw≠it:=ao Z.mw Z.it rfl
 have nit4:fl≠it:=ao Z.fl Z.it rfl
 have nit5:sk≠it:=ao Z.sk Z.it rfl
 have hcx:Cx.Ok ⟨none,660,6600,some outer⟩ A.in1:=by
  have:=hA1.cx
  rwa [show A.in1.frames=some outer from hfr] at this
 refine codeAny_builtin xu ?_
 rw[Around.under_plainId mi]
 have P:Pre (wf w a b c) (pk nt ff dd mw it fl sk i ls rs le se) s.heap.objs.size s.toks s:=ag B h257 ⟨Z.ff,Z.mw,Z.it,Z.fl,Z.sk,zt⟩ ⟨.inl o.1,.inl o.2.1,.inl o.2.2.1,.inl o.2.2.2.1,.inl o.2.2.2.2,zt⟩ ⟨⟨zt,zt,zt,zt,zt⟩,⟨zt,zt,zt,zt⟩,⟨zt,zt,zt⟩,⟨one,zt⟩,zt,zt⟩
 show wpAny _ A.in1 (pyNext (.ref ff)>>=_) _ _ s
 refine wpAny_bind ?_
 have fol:(fo rs (ls.take i)).length≤100:=by
  unfold fo
  refine Nat.le_trans (List.length_filter_le ..) ?_
  rw[List.length_take];omega
 by_cases hx:∃j k,NextAt ls rs i j k
 ·obtain⟨j,k,hj⟩:=hx
  have hjl:=(List.getElem?_eq_some_iff.mp hj.get).1
  have hij:=hj.le
  refine wj (modA:=fun _=>False) (jgp (j:=j+1) (k:=k)) P hcx hcx ⟨zt,jlb rfl rfl rfl rfl h257 O.toNO Z hff (fun x hx=>hfs2 x (by rw[hfs];exact hx)) hj,(fun b hb=>hb.elim),(fun b hb=>hb),fun o1 h3 _ _ hsz3 hle3 _ _ _ _ _=>⟨zt,fun s4 r4z hsz4 hex hkept hacc v hv=>?_⟩⟩
  have hv':=rz hv
  subst hv'
  have hle3':s.heap.objs.size+0≤o1.size:=hle3
  have hsz4':s4.heap.objs.size=o1.size+0:=hsz4
  have y0:s4.heap.get? ff=some (ffO dd mw it):=hex (0,_) (.head _)
  have y1:s4.heap.get? mw=some (mwC sk):=hex (1,_) (.tail _ (.head _))
  have y2:s4.heap.get? it=some (liO fl (j+1)):=hex (2,_) (.tail _ (.tail _ (.head _)))
  have y3:s4.heap.get? fl=some (lO (ls.map (nmV nt)) le):=hex (3,_) (.tail _ (.tail _ (.tail _ (.head _))))
  have y4:s4.heap.get? sk=some (lO (rs.map (nmV nt)) se):=hex (4,_) (.tail _ (.tail _ (.tail _ (.tail _ (.head _)))))
  have K:af [it] s.heap s4.heap:=fun y ob e hy=>by
   rw[List.mem_singleton] at hy
   by_cases e1:y=ff
   ·exact sg Z.ff y0 e e1
   by_cases e2:y=mw
   ·exact sg Z.mw y1 e e2
   by_cases e4:y=fl
   ·exact sg Z.fl y3 e e4
   by_cases e5:y=sk
   ·exact sg Z.sk y4 e e5
   refine hacc y ob e (fun q=>?_) (fun q=>q)
   have q':y∈[ff,mw,it,fl,sk]:=q
   replace q':=mO5 q'
   rcases q' with q|q|q|q|q
   ·exact e1 q
   ·exact e2 q
   ·exact hy q
   ·exact e4 q
   ·exact e5 q
  have r4:ae s4=ae s:=r4z
  show wpAny _ A.in1 (Builtin.List.listUpdate (.ref S) (fun xs=>xs.push (nmV nt k))>>=_) _ _ s4
  have hS4:=K _ _ hS (du hSit.symm)
  refine wpAny_bind (wpAny_updateSeq hS4 rfl ?_ (by show((fo rs (ls.take i)).map (nmV nt)).length≤_;rw[List.length_map];unfold sizeLine;omega) (by simp;unfold sizeLine;omega))
  have hB5:Heap.SameBut S s4.heap (s4.heap.update S (Obj.mapSeq fun xs=>xs.push (nmV nt k))):=Heap.SameBut.update ..
  have hS5:(s4.heap.update S (Obj.mapSeq fun xs=>xs.push (nmV nt k))).get? S=some (lO ((fo rs (ls.take (j+1))).map (nmV nt)) (e+1)):=by
   rw[Heap.get?_update_self _ hS4 rfl,hj.take,List.map_append]
   simp[lO,Obj.mapSeq]
  generalize hh5:s4.heap.update S (Obj.mapSeq fun xs=>xs.push (nmV nt k))=h5 at hB5 hS5
  have up:∀{y:Nat} {ob:Obj},y≠S→s4.heap.get? y=some ob→h5.get? y=some ob:=fun{y ob} h e=>(hB5.2 y h).trans e
  refine wpAny_pure ⟨mh _,?_⟩
  have Z5:NZ nt ff dd mw it fl sk (j+1) le se ls rs h5:=⟨up hSff y0,up hSmw y1,up hSit y2,up os.2.1.symm y3,up os.2.2.symm y4⟩
  have hff4:s4.heap.FunFrames noBase outer:=hff.of_keeps fun y o' e hnf=>⟨o',K _ _ e (fun q=>by
   rw[List.mem_singleton.mp q,Z.it] at e
   cases e
   exact hnf _ rfl),rfl⟩
  have hff5:h5.FunFrames noBase outer:=SlotsBut.funFrames (r:=S) (fs:=fs) (fun y ob e hy=>⟨ob.slots,up hy e,fun _=>rfl⟩) (by rw[←hfs];exact hSf) hff4
  have B5:Based (wf w a b c).params h5:=⟨fun y ob e=>up (fun q=>by have:=bm e;exact(qf (qy (qc this os.1) q))) (K _ _ (B.kt y ob e) (fun q=>by have:=bm e;have:=ax (List.mem_singleton.mp q);omega))⟩
  have hs5:h5.objs.size=s4.heap.objs.size:=hB5.1
  show codeAny _ A _ R { s4 with heap:=h5 }
  refine ih (n-1) (by omega) (j+1) (by omega) (e+1) (s:={ s4 with heap:=h5 }) hff5 B5 (by show 257≤h5.objs.size;exact(qy (qy (qc h257 hle3') hsz4') hs5)) Z5 hS5 hl fun s' e' n' g1 g2 g3 g4=>hR s' e' n' g1 g2 ⟨fun y ob q h1 h2 h3=>g3.keep y ob (up h2 (K y ob q (du h1))) h1 h2 h3,fun y ob q h1=>g3.slots y ob (up (fun e=>hSf (e ▸ h1)) (K y ob q (fun e=>hfs2 y h1 (by rw[List.mem_singleton.mp e];simp)))) h1,by have:=g3.size;have h6:({ s4 with heap:=h5 }:Shared).heap.objs.size=h5.objs.size:=rfl;omega⟩ (g4.trans r4)
 ·have hno:=jd2 hx
  refine me (modA:=fun y=>y∈fs) (O2 (N:=s.heap.objs.size) (fs:=fs) (h₀:=s.heap)) P hcx hcx ⟨zt,jlf rfl rfl rfl rfl h257 O.toNO Z hff hfs hfs2 hno,(fun y hy=>⟨hfs2 y hy,?_,bv (.inl (O.fs y hy).1)⟩),(fun y hy=>hy),fun o1 h3 _ hf3 hsz3 hle3 hupd3 _ hnew3 _ _=>⟨zt,fun h4 hsz4 hex hkept hacc v hv=>?_⟩⟩
  ·exact bo hff y (by rw[←hfs];exact hy)
  have hv':=rz hv
  subst hv'
  have hle3':s.heap.objs.size+0≤o1.size:=hle3
  have hsz4':h4.objs.size=o1.size+0:=hsz4
  have y0:h4.get? ff=some (ffO dd mw it):=hex (0,_) (.head _)
  have y1:h4.get? mw=some (mwC sk):=hex (1,_) (.tail _ (.head _))
  have y2:h4.get? it=some (liE o1.ie):=hex (2,_) (.tail _ (.tail _ (.head _)))
  have y3:h4.get? fl=some (lO (ls.map (nmV nt)) le):=hex (3,_) (.tail _ (.tail _ (.tail _ (.head _))))
  have y4:h4.get? sk=some (lO (rs.map (nmV nt)) se):=hex (4,_) (.tail _ (.tail _ (.tail _ (.tail _ (.head _)))))
  have preM:∀{y:Nat} {ob:Obj},s.heap.get? y=some ob→y∉[ff,mw,it,fl,sk]→y∉[ff,mw,it,fl,sk,o1.e]:=fun{y ob} e hy q=>by
   have hly:@LT.lt Nat _ y s.heap.objs.size:=Heap.lt_size e
   have:=hf3.2
   replace hy:=xO5 hy
   replace q:=mO6 q
   rcases q with q|q|q|q|q|q
   ·exact hy.1 q
   ·exact hy.2.1 q
   ·exact hy.2.2.1 q
   ·exact hy.2.2.2.1 q
   ·exact hy.2.2.2.2 q
   ·have:=ax q;omega
  have K:∀y ob,s.heap.get? y=some ob→y≠it→y∉fs→h4.get? y=some ob:=fun y ob e hy hyf=>by
   by_cases e1:y=ff
   ·exact sg Z.ff y0 e e1
   by_cases e2:y=mw
   ·exact sg Z.mw y1 e e2
   by_cases e4:y=fl
   ·exact sg Z.fl y3 e e4
   by_cases e5:y=sk
   ·exact sg Z.sk y4 e e5
   exact hacc y ob e (preM e (by refine nO5 ?_;exact⟨e1,e2,hy,e4,e5⟩)) hyf
  have KS:∀y ob,s.heap.get? y=some ob→y∈fs→∃sl,h4.get? y=some { ob with slots:=sl }:=fun y ob e hy=>by
   obtain⟨sl,h1⟩:=hf3.1 y ob e hy
   exact⟨sl,hkept y _ h1 (preM e (hfs2 y hy))⟩
  refine wpAny_pure ?_
  have:=hR ((ae s).at h4 (o1.toks+0)) e o1.ie (by rw[hno.take];exact K S _ hS hSit.symm hSf) y2 ⟨fun y ob q h1 h2 h3=>K y ob q h1 h3,KS,by show s.heap.objs.size≤h4.objs.size;exact(qy hle3' hsz4')⟩ rfl
  exact this
end
section
variable{w:World}{a b c:Bool}{nt:Fin 8→Nat}{ff dd mw it fl sk le se S:Nat}{ls rs:List (Fin 8)}{outer:List Env}{fs:List Nat}{A:Around}{R:Result→Shared→Prop}{s:Shared}
theorem m8{h:Heap}{a:Nat}{xs:List Value}{e:Nat}{f:Array Value→Array Value}{ys:List Value}(hg:h.get? a=some (lO xs e))(hf:f ⟨xs⟩=⟨ys⟩):∃e',(h.update a (Obj.mapSeq f)).get? a=some (lO ys e')∧Heap.SameBut a h (h.update a (Obj.mapSeq f)):=by
 refine⟨if ys.length==xs.length then e else e+1,?_,Heap.SameBut.update ..⟩
 rw[Heap.get?_update_self _ hg rfl]
 simp[lO,Obj.mapSeq,hf]
theorem jl1(hA:Room A 640 6400)(hfr:A.frames=some outer)(hfs:fs=outer.filterMap (·.frame))(O:XO ff mw it fl sk S fs)(hff:s.heap.FunFrames noBase outer)(B:Based (wf w a b c).params s.heap)(h257:257≤s.heap.objs.size)(Z:NZ nt ff dd mw it fl sk 0 le se ls rs s.heap)(hS:s.heap.get? S=some (lO [] 0))(hl:ls.length≤100)
  (hR:∀s' e n,s'.heap.get? S=some (lO ((fo rs ls).map (nmV nt)) e)→s'.heap.get? it=some (liE n)→ExO it S fs s.heap s'.heap→ae s'=ae s→R (rv .none) s') :
  codeAny (model PG (wf w a b c)) A (.call (.builtin "list.__init__") ⟨[.ref S,.ref ff],[]⟩) R s:=by
 refine codeAny_call_builtin F.slot_list_init.plain F.entry_list_init (F.slot_list_init.check _ _ _ _ _ _ _ _ (je hS) (F.args_list_init_2 _ _) ?_)
 have o:=O.off
 have os:=O.s
 have one:=O.ne
 have hA1:Room A.in1 660 6600:=⟨hA.h,by have:=hA.d;show A.depth≤_;exact(qr (k:=20) this),by have:=hA.u;show A.units+1≤_;exact(qr (k:=199) (qs 1 this))⟩
 have hSff:ff≠S:=ao Z.ff hS rfl
 have hSmw:mw≠S:=ao Z.mw hS rfl
 have hSit:it≠S:=ao Z.it hS rfl
 have hSf:S∉fs:=fun hx=>(O.fs S hx).2 (by simp)
 show wpAny _ A.in1 (Builtin.List.listItems (.ref S)>>=fun old=>Builtin.List.listUpdate (.ref S) (fun _=>#[])>>=fun _=>letGo old.toList.reverse>>=fun _=>Builtin.List.listExtendWith (.ref S) (.ref ff) .none) _ _ s
 refine wpAny_bind ?_
 unfold Builtin.List.listItems
 refine wpAny_bind (wpAny_seqItems hS rfl (wpAny_pure ?_))
 refine wpAny_bind (wpAny_updateSeq hS rfl ?_ (by show(0:Nat)≤_;exact Nat.zero_le _) (by show(0:Nat)≤_;exact Nat.zero_le _))
 obtain⟨ep1,hS1,B1⟩:=m8 (f:=fun _=>#[]) (ys:=[]) hS rfl
 generalize s.heap.update S (Obj.mapSeq fun _=>#[])=h1 at hS1 B1
 refine wpAny_bind (wpAny_pure ?_)
 have up1:∀{y:Nat} {ob:Obj},y≠S→s.heap.get? y=some ob→h1.get? y=some ob:=fun{y ob} h e=>(B1.2 y h).trans e
 have Z1:NZ nt ff dd mw it fl sk 0 le se ls rs h1:=⟨up1 hSff Z.ff,up1 hSmw Z.mw,up1 hSit Z.it,up1 os.2.1.symm Z.fl,up1 os.2.2.symm Z.sk⟩
 have hff1:h1.FunFrames noBase outer:=SlotsBut.funFrames (r:=S) (fs:=fs) (fun y ob e hy=>⟨ob.slots,up1 hy e,fun _=>rfl⟩) (by rw[←hfs];exact hSf) hff
 have Bs1:Based (wf w a b c).params h1:=⟨fun y ob e=>up1 (fun q=>by have:=bm e;exact(qf (qy (qc this os.1) q))) (B.kt y ob e)⟩
 have hs1:h1.objs.size=s.heap.objs.size:=B1.1
 unfold Builtin.List.listExtendWith
 show wpAny _ A.in1 (typeOf (.ref ff)>>=_) _ _ { s with heap:=h1 }
 refine wpAny_bind (wpAny_typeOf_ref (s:={ s with heap:=h1 }) Z1.ff ?_)
 have hne:Builtin.List.listSameRef (.ref S) (.ref ff)=false:=beq_eq_false_iff_ne.mpr hSff.symm
 show wpAny _ A.in1 (if(Builtin.List.listSameRef (.ref S) (.ref ff)||(Value.ref 75==Value.type "list")||(Value.ref 75==Value.type "tuple"))=true then _ else _) _ _ { s with heap:=h1 }
 refine wie (by rw[hne];exact Bool.false_ne_true) ?_
 have hcx:=hA1.cx
 have P1:=ag (w:=wf w a b c) (s:={ s with heap:=h1 }) (pre:=[(ff,ffO dd mw it),(it,liO fl 0)]) Bs1 (by show 257≤h1.objs.size;exact(qy h257 hs1)) ⟨Z1.ff,Z1.it,zt⟩ ⟨.inl o.1,.inl o.2.2.1,zt⟩ ⟨⟨zt,zt⟩,zt,zt⟩
 refine wpAny_bind (kx (jgu A.in1.frames) P1 hcx hcx rfl zt fun s2 P2 K2 r2=>?_)
 have K2':af [] h1 s2.heap:=am P1 P2.has K2 ⟨.inl rfl,.inl rfl,zt⟩
 have hs2:s2.heap.objs.size=h1.objs.size+1:=P2.size
 have P3:=ag (w:=wf w a b c) (pre:=[(ff,ffO dd mw it)]) P2.based (qv (qq (qy h257 hs1) hs2)) ⟨K2' _ _ Z1.ff n0m,zt⟩ ⟨.inl o.1,zt⟩ ⟨zt,zt⟩
 refine wpAny_bind (wpAny_holding ?_)
 refine cy (inj:=fun x=>.ret (.bool x)) (jgx (mw:=mw) (it:=it) (dd:=dd) A.in1.frames) P3 hcx hcx rfl zt fun s3 P4 K4 r4 x hx=>?_
 cases hx
 have K4':af [] s2.heap s3.heap:=am P3 P4.has K4 ⟨.inl rfl,zt⟩
 have hs3:s3.heap.objs.size=s2.heap.objs.size:=P4.size
 have K5:af [] h1 s3.heap:=fun y ob e _=>K4' y ob (K2' y ob e n0m) n0m
 show wpAny _ A.in1 (rule _>>=fun _=>Builtin.List.listTouch (.ref S)>>=fun _=>again (Code.builtin "list.extend.loop" ⟨[.ref S,.ref ff,.none],[]⟩)) _ _ s3
 refine wpAny_bind (wpAny_rule ?_)
 unfold Builtin.List.listTouch
 have hS3:=K5 _ _ hS1 n0m
 refine wpAny_bind (wpAny_bind (wpAny_updateSeq hS3 rfl ?_ (by show(0:Nat)≤_;exact Nat.zero_le _) (by show(1:Nat)≤_;unfold sizeLine;exact(Nat.le_trans (qb rfl) (Nat.le_add_left _ _)))))
 obtain⟨ep2,hS4,B4⟩:=m8 (f:=fun x=>x.push Value.none) (ys:=[.none]) hS3 rfl
 generalize s3.heap.update S (Obj.mapSeq fun x=>x.push Value.none)=h4 at hS4 B4
 refine wpAny_updateSeq hS4 rfl ?_ (by show(1:Nat)≤_;unfold sizeLine;omega) (by show(0:Nat)≤_;exact Nat.zero_le _)
 obtain⟨ep3,hS5,B5⟩:=m8 (f:=fun x=>x.pop) (ys:=[]) hS4 rfl
 generalize h4.update S (Obj.mapSeq fun x=>x.pop)=h5 at hS5 B5
 have up:∀{y:Nat} {ob:Obj},y≠S→s3.heap.get? y=some ob→h5.get? y=some ob:=fun{y ob} h e=>(B5.2 y h).trans ((B4.2 y h).trans e)
 have Z3:=Z1.keep K5 ⟨n0m,n0m,n0m,n0m,n0m⟩
 have Z5:NZ nt ff dd mw it fl sk 0 le se ls rs h5:=⟨up hSff Z3.ff,up hSmw Z3.mw,up hSit Z3.it,up os.2.1.symm Z3.fl,up os.2.2.symm Z3.sk⟩
 have hff5:h5.FunFrames noBase outer:=SlotsBut.funFrames (r:=S) (fs:=fs) (fun y ob e hy=>⟨ob.slots,up hy e,fun _=>rfl⟩) (by rw[←hfs];exact hSf) (gp K5 hff1)
 have Bs5:Based (wf w a b c).params h5:=⟨fun y ob e=>up (fun q=>by have:=bm e;exact(qf (qy (qc this os.1) q))) (P4.based.kt y ob e)⟩
 have hs5:h5.objs.size=s3.heap.objs.size:=B5.1.trans B4.1
 refine wpAny_pure ⟨mh _,?_⟩
 refine jpe (hA.mono (qb rfl) (qb rfl)) hfr hfs O ls.length 0 (by omega) ep3 (s:={ s3 with heap:=h5 }) hff5 Bs5 (by show 257≤h5.objs.size;exact(qv (qy (qy (qq (qy h257 hs1) hs2) hs3) hs5))) Z5 hS5 hl fun s6 e n g1 g2 g3 g4=>hR s6 e n g1 g2 ⟨fun y ob q h1' h2 h3=>g3.keep y ob (up h2 (K5 y ob (up1 h2 q) n0m)) h1' h2 h3,fun y ob q h1'=>g3.slots y ob (up (fun e=>hSf (e ▸ h1')) (K5 y ob (up1 (fun e=>hSf (e ▸ h1')) q) n0m)) h1',by have:=g3.size;have h6:({ s3 with heap:=h5 }:Shared).heap.objs.size=h5.objs.size:=rfl;omega⟩ (g4.trans (r4.trans r2))
end
theorem jl6(L:Nat):(fm L).scope.kind=.function:=by kernel_rfl
section
variable{w:World}{a b c:Bool}{nt:Fin 8→Nat}{fl sk le se L N t1 t2:Nat}{ls rs:List (Fin 8)}{outer:List Env}{fs:List Nat}{A:Around}{R:Result→Shared→Prop}{s:Shared}{V:SV}{hh:Heap}
theorem jlk(hw:V.w=wf w a b c)(hkt:V.kt=ktB (wf w a b c).params)(hV:V.pre=[L,fl,sk])(hN:V.N=N)(hLN:hh.objs.size=N)(h257:257≤N)(off:257≤L∧257≤fl∧257≤sk∧fl≠sk∧L≠fl∧L≠sk)(lt:L<N∧fl<N∧sk<N)
  (hL:hh.get? L=some (frS (wf w a b c).params [("flist",t1,.ref fl),("skip",t2,.ref sk)] 2 #[])) (hfl:hh.get? fl=some (lO (ls.map (nmV nt)) le)) (hsk:hh.get? sk=some (lO (rs.map (nmV nt)) se)) (hff:hh.FunFrames noBase (fm L::outer)) (hfs:fs=outer.filterMap (·.frame)) (hfo:∀x∈fs,257≤x∧x<N∧x≠L∧x≠fl∧x≠sk) (hl:ls.length≤100) :
  b9 V hh (liC (wf w a b c).params nt L fl sk N t1 t2 ls rs (fo rs ls) le se outer fs hh):=by
 intro A s hh' hf hd hu hs ht hb hkeep hpre
 have hs':s.heap.objs.size=N+6:=by rw[←hN];exact hs
 have ad:∀n a,[L,fl,sk][n]?=some a→aj V.pre V.N n=a:=fun n a e=>by
  rw[hV,bh _ _ _ (List.getElem?_eq_some_iff.mp e).1];exact(List.getElem?_eq_some_iff.mp e).2
 have ad':∀j,3≤j→aj V.pre V.N j=N+(j-3):=fun j hj=>by
  rw[bz _ _ _ (by rw[hV];exact hj),hV,hN];rfl
 have p0:=hpre (0,_) (.head _)
 have p1:=hpre (1,_) (.tail _ (.head _))
 have p2:=hpre (2,_) (.tail _ (.tail _ (.head _)))
 have p3:=hpre (3,_) (.tail _ (.tail _ (.tail _ (.head _))))
 have p5:=hpre (5,_) (.tail _ (.tail _ (.tail _ (.tail _ (.head _)))))
 have p7:=hpre (7,_) (.tail _ (.tail _ (.tail _ (.tail _ (.tail _ (.head _))))))
 have p8:=hpre (8,_) (.tail _ (.tail _ (.tail _ (.tail _ (.tail _ (.tail _ (.head _)))))))
 rw[ad 0 _ rfl] at p0
 rw[ad 1 _ rfl] at p1
 rw[ad 2 _ rfl] at p2
 rw[ad' 3 (qb rfl)] at p3
 rw[ad' 5 (qb rfl)] at p5
 rw[ad' 7 (qb rfl)] at p7
 rw[ad' 8 (qb rfl)] at p8
 have K:af [] hh s.heap:=fun y ob e _=>by
  by_cases e1:y=L
  ·exact sg hL p0 e e1
  by_cases e2:y=fl
  ·exact sg hfl p1 e e2
  by_cases e3:y=sk
  ·exact sg hsk p2 e e3
  exact hkeep y ob e (by rw[hV];refine nO3 ?_;exact⟨e1,e2,e3⟩)
 rw[hkt] at hb
 rw[hw]
 have hfs':L::fs=(fm L::outer).filterMap (·.frame):=by rw[hfs];rfl
 have O:XO (N+2) N (N+4) fl sk (N+5) (L::fs):=by
  refine⟨⟨⟨(qr (k:=2) (qv (ql off.1 lt.1))),(qv (ql off.1 lt.1)),(qr (k:=4) (qv (ql off.1 lt.1))),off.2.1,off.2.2.1⟩,off.2.2.2.1⟩,⟨(qr (k:=5) h257),(qj (qr (k:=5) lt.2.1)),(qj (qr (k:=5) lt.2.2))⟩,fun x hx=>?_⟩
  have hx':257≤x∧x<N∧x≠fl∧x≠sk:=by
   rcases List.mem_cons.mp hx with rfl|hx
   ·exact⟨off.1,lt.1,off.2.2.2.2.1,off.2.2.2.2.2⟩
   ·have:=hfo x hx;exact⟨this.1,this.2.1,this.2.2.2⟩
  refine⟨hx'.1,fun q=>?_⟩
  replace q:=mO6 q
  exact(q.elim (fun q=>(qn (k:=2) (qk (k:=2) hx'.2.1 (qg q)))) fun q=>(q.elim (fun q=>(qf (qy hx'.2.1 q))) fun q=>(q.elim (fun q=>(qn (k:=4) (qk (k:=4) hx'.2.1 (qg q)))) fun q=>(q.elim (fun q=>(hx'.2.2.1 q)) fun q=>(q.elim (fun q=>(hx'.2.2.2 q)) fun q=>(qn (k:=5) (qk (k:=5) hx'.2.1 (qg q))))))))
 have Z:NZ nt (N+2) (N+1) N (N+4) fl sk 0 le se ls rs s.heap:=⟨p5,p3,p7,p1,p2⟩
 refine jl1 ⟨hh',hd,hu⟩ (hf _ rfl) hfs' O (gp K hff) ⟨hb⟩ (qw (k:=6) (qk (k:=6) h257 (qg hs'))) Z p8 hl fun s' e n g1 g2 g3 g4=>?_
 obtain⟨sl,hsl⟩:=g3.slots L _ p0 (.head _)
 refine⟨⟨e,sl,n,s'.heap.objs.size,s'.toks⟩,zt,rfl,s'.heap,cm g4,fun y ob q hy=>g3.slots y ob (K y ob q n0m) (.tail _ hy),rfl,g3.size,fun q hq=>?_,(fun q hq=>nomatch hq),List.Pairwise.nil,fun y ob q hb hm=>?_⟩
 ·simp only[liC,List.mem_cons,List.not_mem_nil,or_false] at hq
  rcases hq with rfl|rfl|rfl
  ·rw[ad 0 _ rfl];exact hsl
  ·rw[ad' 7 (qb rfl)];exact g2
  ·rw[ad' 8 (qb rfl)];exact g1
 ·have b0:=hb (0,_) (.head _)
  have b7:=hb (7,_) (.tail _ (.head _))
  have b8:=hb (8,_) (.tail _ (.tail _ (.head _)))
  rw[ad 0 _ rfl] at b0
  rw[ad' 7 (qb rfl)] at b7
  rw[ad' 8 (qb rfl)] at b8
  exact g3.keep y ob q b7 b8 (fun q=>by
   rcases List.mem_cons.mp q with q|q
   ·exact b0 q
   ·exact hm q)
theorem jpy(hA:Room A 560 5600)(hfr:A.frames=some outer)(hff:s.heap.FunFrames noBase outer)(hfs:fs=outer.filterMap (·.frame))(B:Based (wf w a b c).params s.heap)(h257:257≤s.heap.objs.size)(hfl:s.heap.get? fl=some (lO (ls.map (nmV nt)) le))(hsk:s.heap.get? sk=some (lO (rs.map (nmV nt)) se))
  (off:257≤fl∧257≤sk∧fl≠sk) (hfo:∀x∈fs,257≤x∧x≠fl∧x≠sk) (hl:ls.length≤100)
  (hR:∀s' (ra e:Nat),s.heap.objs.size≤ra→s'.heap.get? ra=some (lO ((fo rs ls).map (nmV nt)) e)→OnlySlots fs s.heap s'.heap→s.heap.objs.size≤s'.heap.objs.size→ae s'=ae s→R (rv (.ref ra)) s') :
  codeAny (model PG (wf w a b c)) A (.call (.ref 86) ⟨[.ref fl,.ref sk],[]⟩) R s:=by
 have ltf:@LT.lt Nat _ fl s.heap.objs.size:=Heap.lt_size hfl
 have lts:@LT.lt Nat _ sk s.heap.objs.size:=Heap.lt_size hsk
 refine dg (jg0 (fl:=fl) (sk:=sk) A.frames) (ag (w:=wf w a b c) (pre:=[]) B h257 zt zt zt) hA.cx  rfl zt (chg:=[]) zt fun s1 P1b P1z K1' r1 P1x=>?_
 have hs1:s1.heap.objs.size=s.heap.objs.size+1:=P1z
 have x0:s1.heap.get? s.heap.objs.size=some (frO (wf w a b c).params [("flist",s.toks,.ref fl),("skip",s.toks+1,.ref sk)] 2):=P1x 0 _ _ (s.heap.objs.size) rfl rfl
 generalize hN:s.heap.objs.size=L at *
 have hfo2:∀x∈fs,x<L:=fun x hx=>by
  have:=bo hff x (by rw[←hfs];exact hx)
  have e:@LT.lt Nat _ x s.heap.objs.size:=this
  exact(qx this hN)
 have kp:∀{y:Nat} {ob:Obj},s.heap.get? y=some ob→s1.heap.get? y=some ob:=fun{y ob} e=>K1' _ _ e n0m
 show codeAny _ A (.func fiS (fm L)) R s1
 refine codeAny_func ?_
 have hA2:Room (A.deeper (fm L)) 580 5800:=(hA.deeper _).mono (qb rfl) (qb rfl)
 have hfr2:(A.deeper (fm L)).frames=some (fm L::outer):=by
  show A.frames.map _=_
  rw[hfr];rfl
 generalize A.deeper (fm L)=A2 at hA2 hfr2
 have hcx:Cx.Ok ⟨none,580,5800,some (fm L::outer)⟩ A2:=by rw[←hfr2];exact hA2.cx
 have P2:Pre (wf w a b c) (pj (wf w a b c).params nt L fl sk s.toks (s.toks+1) ls rs le se) s1.heap.objs.size s1.toks s1:=ag P1b (qc (qb rfl) (qq (ql off.1 ltf) P1z)) ⟨x0,kp hfl,kp hsk,zt⟩ ⟨(.inl (qv (ql off.1 ltf))),.inl off.1,.inl off.2.1,zt⟩ ⟨⟨zt,zt,zt⟩,⟨off.2.2,zt⟩,zt,zt⟩
 have ff1:s1.heap.FunFrames noBase (fm L::outer):=⟨by rw[jl6];exact(fun e=>by cases e),⟨L,_,rfl,cf _,x0,(fun vs e=>by cases e)⟩,gp K1' hff⟩
 have hcall:=jlk (nt:=nt) (L:=L) (fl:=fl) (sk:=sk) (le:=le) (se:=se) (ls:=ls) (rs:=rs) (outer:=outer) (fs:=fs) (hh:=s1.heap) (V:=mkV (wf w a b c) (pj (wf w a b c).params nt L fl sk s.toks (s.toks+1) ls rs le se) s1.heap.objs.size s1.toks) (N:=s1.heap.objs.size) (t1:=s.toks) (t2:=s.toks+1) rfl rfl rfl rfl rfl (qc (qb rfl) (qq (ql off.1 ltf) P1z)) ⟨by omega,off.1,off.2.1,off.2.2,(qj ltf),(qj lts)⟩ ⟨(qg P1z),(qv (qq ltf P1z)),(qv (qq lts P1z))⟩ x0 (kp hfl) (kp hsk) ff1 hfs (fun x hx=>⟨(hfo x hx).1,by have:=hfo2 x hx;exact(qv (qq this P1z)),by have:=hfo2 x hx;exact(qh this),(hfo x hx).2⟩) hl
 refine dr (modA:=fun y=>y∈fs) (jgj (out:=fo rs ls) (fs:=fs) (h₀:=s1.heap)) P2 hcx hcx ⟨⟨jlh rfl,zt⟩,hcall,(fun y hy=>⟨?_,?_,bv (.inl (hfo y hy).1)⟩),(fun y hy=>hy),fun o1 h3 _ hf3 hsz3 hle3 hupd3 _ _ _ _=>⟨zt,fun h4 hsz4 hex hkept hacc=>?_⟩⟩
 ·show y∉[L,fl,sk]
  have:=hfo2 y hy
  have h2:=(hfo y hy).2
  refine nO3 ?_
  exact⟨nne (.inl this),h2⟩
 ·have:=hfo2 y hy
  show@LT.lt Nat _ y s1.heap.objs.size
  exact(qv (qq this P1z))
 have hle3':s1.heap.objs.size+6≤o1.size:=hle3
 have hsz4':h4.objs.size=o1.size+0:=hsz4
 have y1:h4.get? fl=some (lO (ls.map (nmV nt)) le):=hex (1,_) (.head _)
 have y2:h4.get? sk=some (lO (rs.map (nmV nt)) se):=hex (2,_) (.tail _ (.head _))
 have y8:h4.get? (s1.heap.objs.size+5)=some (lO ((fo rs ls).map (nmV nt)) o1.se):=hex (8,_) (.tail _ (.tail _ (.head _)))
 have preM:∀{y:Nat} {ob:Obj},s.heap.get? y=some ob→y≠fl→y≠sk→y∉[L,fl,sk,s1.heap.objs.size+0,s1.heap.objs.size+1,s1.heap.objs.size+2,s1.heap.objs.size+3,s1.heap.objs.size+4,s1.heap.objs.size+5]:=fun{y ob} e h1 h2 q=>by
  have hly:@LT.lt Nat _ y s.heap.objs.size:=Heap.lt_size e
  replace q:=mO9 q
  rcases q with q|q|q|q|q|q|q|q|q
  ·have:=ax q;exact(qf (qy (qx hly hN) q))
  ·exact h1 q
  ·exact h2 q
  all_goals (have:=ax q;omega)
 have:=hR ((ae s1).at h4 (o1.toks+0)) (s1.heap.objs.size+5) o1.se (qr (k:=5) (qv (qg P1z))) y8 (fun y ob e=>?_) (by show L≤h4.objs.size;exact(qw (k:=7) (qy (qk (k:=6) (qg P1z) hle3') hsz4'))) r1
 ·exact this
 ·by_cases e2:y=fl
  ·exact⟨ob.slots,sg hfl y1 e e2,fun _=>rfl⟩
  by_cases e3:y=sk
  ·exact⟨ob.slots,sg hsk y2 e e3,fun _=>rfl⟩
  by_cases hm:y∈fs
  ·obtain⟨sl,h1⟩:=hf3 y ob (kp e) hm
   exact⟨sl,hkept y _ h1 (preM e e2 e3),fun q=>absurd hm q⟩
  ·exact⟨ob.slots,hacc y ob (kp e) (preM e e2 e3) hm,fun _=>rfl⟩
end
noncomputable def keS:List Stmt:=d6 (st1 27)
noncomputable def bw(L d:Nat):Env:=⟨ky (st1 27),L,3,[(sn "ends",d)],sn "_law_kept.<locals>.",some 251,.ref 250,some L,0⟩
noncomputable def A3:Stmt→PySem.Expr
 |.Return (some e) _=>e
 |_=>default
noncomputable def jng:PySem.Expr→List PySem.Expr
 |.BoolOp _ l _=>l
 |_=>[]
noncomputable def keK(i:Nat):PySem.Expr:=((jng (A3 (ak keS 2)))[i]?).getD default
noncomputable def jf0:Bool→PySem.Expr
 |false=>jjw (ak keS 0)
 |true=>jjw (ak keS 1)
noncomputable def L9(q:Bool)(l L d:Nat):Env:={ jnf (jf0 q) "_law_kept.<locals>." l L 250 with cells:=[(sn "ends",d)],scope:=relabel (ou (jf0 q)) (bw L d) }
noncomputable def lc(q:Bool)(it acc l L d:Nat):Code:=.compLoop (jf0 q) 0 (.ref it) (.ref acc) (L9 q l L d)
noncomputable def L8(q:Bool)(it acc l L d:Nat):Code:=.compStart (jf0 q) 0 (.ref it) (.ref acc) (L9 q l L d)
noncomputable def fx(P:Params)(p:Par)(tk tl tp lo ke:Nat)(sl:Array (Option Value)):Obj:=frS P [("names",tk,.ref p.NM),("lost",tl,.ref lo),("kept",tp,.ref ke)] 3 sl
structure FiO where
 ra:Nat
 e:Nat
 sl:Array (Option Value)
 size:Nat
 toks:Nat
noncomputable def fiC(fr0:Array (Option Value)→Obj)(sl:Array (Option Value))(nt:Fin 8→Nat)(fl sk:Nat)(jf:Nat)(flo:Obj)(i:Nat)(out:List (Fin 8))(outer:List Env)(fs:List Nat)(h₀:Heap)(more:List (Nat×Obj)):CallSpec where
 Out:=FiO
 code:=.call (.ref 86) ⟨[.ref fl,.ref sk],[]⟩
 d:=560
 u:=5600
 fr:=some (some outer)
 pre:=(0,fr0 sl)::(jf,flo)::more
 i:=i
 tk:=0
 res o:=rv (.ref o.ra)
 upd o:=[(0,fr0 o.sl)]
 new o:=[(o.ra,lO (out.map (nmV nt)) o.e)]
 size o:=o.size
 toks o:=o.toks
 rel _:=True
 mod b:=b∈fs
 facts o h':=(∀b ob,h₀.get? b=some ob→b∈fs→∃sl,h'.get? b=some { ob with slots:=sl })∧h₀.objs.size≤o.ra
noncomputable def jga:List Nat:=[1,2,2,2,3]
noncomputable def jgc:List CH:=[.p,.p]
noncomputable def jf9:List Nat:=[1,1,5,5,5]
noncomputable def jgb:List CH:=[]
noncomputable def jf4:List Nat:=[1,2,2,2,3]
noncomputable def jf6:List CH:=[.p,.p]
noncomputable def jf3:List Nat:=[1,1,5,5,5]
noncomputable def jf5:List CH:=[]
section
variable{w:World}{a b c:Bool}{N t₀ L d en tk tl tp lo ke it acc l dp de xe:Nat}{p:Par}{rl xs:List Value}{dv:KV}{v:Nat×Value}{sl:Array (Option Value)}{lv:Value}
noncomputable def jfy:List Nat:=[0,1,1,2,2]
noncomputable def jfz:List CH:=[.f,.stop]
theorem jfx(ff:Option (List Env)):c9 60 (wf w a b c) N t₀ ([]) (.fin jfy jfz ⟨.ok (.again (.func keS (bw N (N+1)))),[(0,frO (wf w a b c).params [("names",t₀,.ref p.NM)] 1),(1,ceO (some (.ref en)))],2,1⟩) ⟨none,500,5000,ff⟩ ((.call (.ref 251) ⟨[.ref p.NM,.ref en],[]⟩)):=by kernel_rfl
noncomputable def vu(P:Params)(p:Par)(L tk:Nat):List (Nat×Obj):=[(L,frS P [("names",tk,.ref p.NM)] 1 #[]),(p.NM,lO (ai p.nt) p.e1)]
noncomputable def jf7(P:Params)(p:Par)(L d N tk:Nat)(rl:List Value):Script:=
 .call jga jgc (cmC P p (L8 false N (N+1) (N+2) L d) rl) fun o=>
  .fin jf9 jgb ⟨.ok (.done .next),[(0,frS P [("names",tk,.ref p.NM),("lost",o.toks,.ref (N+1))] 2 #[]),(1,lO (ai p.nt) p.e1),(3,lO rl rl.length)],0,1⟩
theorem jf8(ff:Option (List Env)):au 160 (wf w a b c) N t₀ (vu (wf w a b c).params p L tk) (jf7 (wf w a b c).params p L d N tk rl) ⟨none,520,5200,ff⟩ (ar [ak keS 0] (bw L d)):=by cases c<;>kernel_rfl
noncomputable def vt(P:Params)(p:Par)(L tk tl:Nat)(lv:Value):List (Nat×Obj):=[(L,frS P [("names",tk,.ref p.NM),("lost",tl,lv)] 2 #[]),(p.NM,lO (ai p.nt) p.e1)]
noncomputable def jf1(P:Params)(p:Par)(L d N tk tl:Nat)(lv:Value)(rl:List Value):Script:=
 .call jf4 jf6 (cmC P p (L8 true N (N+1) (N+2) L d) rl) fun o=>
  .fin jf3 jf5 ⟨.ok (.done .next),[(0,frS P [("names",tk,.ref p.NM),("lost",tl,lv),("kept",o.toks,.ref (N+1))] 3 #[]),(1,lO (ai p.nt) p.e1),(3,lO rl rl.length)],0,1⟩
theorem jf2(ff:Option (List Env)):au 160 (wf w a b c) N t₀ (vt (wf w a b c).params p L tk tl lv) (jf1 (wf w a b c).params p L d N tk tl lv rl) ⟨none,520,5200,ff⟩ (ar [ak keS 1] (bw L d)):=by cases c<;>kernel_rfl
noncomputable def jlv(q b:Bool)(NM it acc l L d:Nat):Script:=match b with
 |true=>.fin mt mu ⟨.ok (.again (lc q it acc l L d)),[(0,liO NM 0)],0,0⟩
 |false=>.fin mv mx ⟨.ok (.again (lc q it acc l L d)),[(0,liO NM 0)],0,0⟩
theorem jlw(f:Option (List Env)):∀(q b c:Bool),c9 60 (wf w a b c) N t₀ [(it,liO p.NM 0)] (jlv q b p.NM it acc l L d) ⟨none,600,6000,f⟩ (L8 q it acc l L d)
 |q,true,true=>by cases q<;>kernel_rfl
 |q,true,false=>by cases q<;>kernel_rfl
 |q,false,true=>by cases q<;>kernel_rfl
 |q,false,false=>by cases q<;>kernel_rfl
noncomputable def M4:List Nat:=dH 14 628448325389768341065793
noncomputable def M5(X0 X1:XSpec):List CH:=[.p,.p,.p,.x X0,.x X1,.stop]
theorem M3(ff:Option (List Env)):∀(i:Fin 8) (q:Bool),c9 200 (wf w a b c) N t₀ ([(it,liO p.NM i.val),(l,ci (wf w a b c).params "name" (fb i v)),(p.NM,lO (ai p.nt) p.e1),(d,ceO (some (.ref dp))),(dp,dO (wf w a b c).params p.nt dv de),(acc,lO xs xe)]) (.fin M4 (M5 (dcX none (wf w a b c).params dp p.nt i dv de 4 0 1 q) (laX none acc xs xe (nmV p.nt i) 5 0 2)) ⟨.ok (.again (lc q it acc l L d)),[(0,liO p.NM (i.val+1)),(1,ci (wf w a b c).params "name" (lvN i v t₀ (nmV p.nt i))),(2,lO (ai p.nt) p.e1),(3,ceO (some (.ref dp))),(4,dO (wf w a b c).params p.nt dv de),(5,lO (xs++[nmV p.nt i]) (xe+1))],0,2⟩) ⟨none,600,6000,ff⟩ ((lc q it acc l L d))  := F8 (fun q=>by cases q<;>cases c<;>kernel_rfl) (fun q=>by cases q<;>cases c<;>kernel_rfl) (fun q=>by cases q<;>cases c<;>kernel_rfl) (fun q=>by cases q<;>cases c<;>kernel_rfl) (fun q=>by cases q<;>cases c<;>kernel_rfl) (fun q=>by cases q<;>cases c<;>kernel_rfl) (fun q=>by cases q<;>cases c<;>kernel_rfl) (fun q=>by cases q<;>cases c<;>kernel_rfl)
noncomputable def M1:List Nat:=dH 13 23985415582453753712705
noncomputable def M2(X0:XSpec):List CH:=[.p,.p,.p,.x X0,.stop]
theorem M0(ff:Option (List Env)):∀(i:Fin 8) (q:Bool),c9 200 (wf w a b c) N t₀ ([(it,liO p.NM i.val),(l,ci (wf w a b c).params "name" (fb i v)),(p.NM,lO (ai p.nt) p.e1),(d,ceO (some (.ref dp))),(dp,dO (wf w a b c).params p.nt dv de)]) (.fin M1 (M2 (dcX none (wf w a b c).params dp p.nt i dv de 4 0 1 (!q))) ⟨.ok (.again (lc q it acc l L d)),[(0,liO p.NM (i.val+1)),(1,ci (wf w a b c).params "name" (lvN i v t₀ (nmV p.nt i))),(2,lO (ai p.nt) p.e1),(3,ceO (some (.ref dp))),(4,dO (wf w a b c).params p.nt dv de)],0,2⟩) ⟨none,600,6000,ff⟩ ((lc q it acc l L d))  := F8 (fun q=>by cases q<;>cases c<;>kernel_rfl) (fun q=>by cases q<;>cases c<;>kernel_rfl) (fun q=>by cases q<;>cases c<;>kernel_rfl) (fun q=>by cases q<;>cases c<;>kernel_rfl) (fun q=>by cases q<;>cases c<;>kernel_rfl) (fun q=>by cases q<;>cases c<;>kernel_rfl) (fun q=>by cases q<;>cases c<;>kernel_rfl) (fun q=>by cases q<;>cases c<;>kernel_rfl)
noncomputable def L6:List Nat:=dH 8 17662013083713
noncomputable def L7:List CH:=[.p,.p,.p]
theorem L5(ff:Option (List Env)):∀(q:Bool),c9 100 (wf w a b c) N t₀ ([(it,liO p.NM 8),(p.NM,lO (ai p.nt) p.e1)]) (.fin L6 L7 ⟨.ok (.done .next),[(0,liE 8),(1,lO (ai p.nt) p.e1)],2,0⟩) ⟨none,600,6000,ff⟩ ((lc q it acc l L d))
 |true=>by cases c<;>kernel_rfl
 |false=>by cases c<;>kernel_rfl
noncomputable def I3:List Nat:=dH 9 571885666967617
noncomputable def I5:List CH:=[.p,.p]
theorem I2(ff:Option (List Env)):∀(xs:List Value) (_:xs.length≤8),au 100 (wf w a b c) N t₀ ([(L,fx (wf w a b c).params p tk tl tp lo ke sl),(ke,lO xs xe)]) (.fin I3 I5 ⟨.ok (.done (.ret (.ref N))),[(0,fx (wf w a b c).params p tk tl tp lo ke sl),(1,lO xs xe),(2,lO (xs++xs) 0)],1,0⟩) ⟨none,520,5200,ff⟩ (evT (jl (keK 0)) (bw L d))
 |[],_=>by cases c<;>kernel_rfl
 |[x0],_=>by cases c<;>kernel_rfl
 |[x0,x1],_=>by cases c<;>kernel_rfl
 |[x0,x1,x2],_=>by cases c<;>kernel_rfl
 |[x0,x1,x2,x3],_=>by cases c<;>kernel_rfl
 |[x0,x1,x2,x3,x4],_=>by cases c<;>kernel_rfl
 |[x0,x1,x2,x3,x4,x5],_=>by cases c<;>kernel_rfl
 |[x0,x1,x2,x3,x4,x5,x6],_=>by cases c<;>kernel_rfl
 |[x0,x1,x2,x3,x4,x5,x6,x7],_=>by cases c<;>kernel_rfl
 |_::_::_::_::_::_::_::_::_::_,h=>absurd h (by simp)
noncomputable def H9:List Nat:=[1]
noncomputable def I0:List CH:=[]
theorem H8(ff:Option (List Env)):au 60 (wf w a b c) N t₀ ([(L,fx (wf w a b c).params p tk tl tp lo ke sl)]) (.fin H9 I0 ⟨.ok (.done (.ret (.ref p.NM))),[(0,fx (wf w a b c).params p tk tl tp lo ke sl)],0,0⟩) ⟨none,520,5200,ff⟩ (evT (jl (keK 1)) (bw L d)):=by kernel_rfl
noncomputable def H1:List Nat:=[]
noncomputable def H7:List CH:=[]
theorem H0(ff:Option (List Env)):au 60 (wf w a b c) N t₀ ([]) (.fin H1 H7 ⟨.ok (.done (.ret (.ref N))),[(0,lO [] 0)],1,0⟩) ⟨none,520,5200,ff⟩ (evT (jl (keK 2)) (bw L d)):=by kernel_rfl
end
noncomputable def L2:List Nat:=dH 12 1189522187292774464
noncomputable def L4:List CH:=[.p,.p]
noncomputable def L1:List Nat:=[]
noncomputable def L3:List CH:=[]
noncomputable def J5:List Nat:=[0,1,0]
noncomputable def J7:List CH:=[]
noncomputable def J4:List Nat:=[]
noncomputable def J6:List CH:=[]
noncomputable def I9:List Nat:=[0,1,0]
noncomputable def J1:List CH:=[]
noncomputable def I8:List Nat:=[]
noncomputable def J0:List CH:=[]
theorem jlx(L d:Nat):(bw L d).scope.kind=.function:=by kernel_rfl
section
variable{w:World}{a b c:Bool}{N t₀ L d tk tl tp lo ke:Nat}{p:Par}{sl:Array (Option Value)}{out:List (Fin 8)}{outer:List Env}{fs:List Nat}{h₀:Heap}
noncomputable def lb(P:Params)(p:Par)(L tk tl tp lo ke:Nat)(sl:Array (Option Value)):List (Nat×Obj):=[(L,fx P p tk tl tp lo ke sl),(p.NM,lO (ai p.nt) p.e1)]
noncomputable def J8(P:Params)(p:Par)(tk tl tp lo ke N:Nat)(sl:Array (Option Value))(out:List (Fin 8))(outer:List Env)(fs:List Nat)(h₀:Heap):Script:=
 .call L2 L4 (fiC (fx P p tk tl tp lo ke) sl p.nt N lo 2 (lO (ai p.nt++ai p.nt) 0) 1 out outer fs h₀ [(1,lO (ai p.nt) p.e1)]) fun o=>
  .fin L1 L3 ⟨.ok (.done (.ret (.ref o.ra))),[(0,fx P p tk tl tp lo ke o.sl),(1,lO (ai p.nt) p.e1),(3,lO (out.map (nmV p.nt)) o.e)],0,0⟩
theorem J9:au 100 (wf w a b c) N t₀ (lb (wf w a b c).params p L tk tl tp lo ke sl) (J8 (wf w a b c).params p tk tl tp lo ke N sl out outer fs h₀) ⟨none,520,5200,some outer⟩ (evT (ip (keK 0)) (bw L d)):=by cases c<;>kernel_rfl
noncomputable def f8(P:Params)(p:Par)(L tk tl tp lo ke:Nat)(sl:Array (Option Value)):List (Nat×Obj):=[(L,fx P p tk tl tp lo ke sl)]
noncomputable def J2(P:Params)(p:Par)(tk tl tp lo ke N:Nat)(sl:Array (Option Value))(out:List (Fin 8))(outer:List Env)(fs:List Nat)(h₀:Heap):Script:=
 .call J5 J7 (fiC (fx P p tk tl tp lo ke) sl p.nt p.NM N 1 (lO [] 0) 1 out outer fs h₀ []) fun o=>
  .fin J4 J6 ⟨.ok (.done (.ret (.ref o.ra))),[(0,fx P p tk tl tp lo ke o.sl),(2,lO (out.map (nmV p.nt)) o.e)],0,0⟩
theorem J3:au 100 (wf w a b c) N t₀ (f8 (wf w a b c).params p L tk tl tp lo ke sl) (J2 (wf w a b c).params p tk tl tp lo ke N sl out outer fs h₀) ⟨none,520,5200,some outer⟩ (evT (ip (keK 1)) (bw L d)):=by cases c<;>kernel_rfl
noncomputable def I6(P:Params)(p:Par)(tk tl tp lo ke N:Nat)(sl:Array (Option Value))(out:List (Fin 8))(outer:List Env)(fs:List Nat)(h₀:Heap):Script:=
 .call I9 J1 (fiC (fx P p tk tl tp lo ke) sl p.nt N lo 1 (lO [] 0) 1 out outer fs h₀ []) fun o=>
  .fin I8 J0 ⟨.ok (.done (.ret (.ref o.ra))),[(0,fx P p tk tl tp lo ke o.sl),(2,lO (out.map (nmV p.nt)) o.e)],0,0⟩
theorem I7:au 100 (wf w a b c) N t₀ (f8 (wf w a b c).params p L tk tl tp lo ke sl) (I6 (wf w a b c).params p tk tl tp lo ke N sl out outer fs h₀) ⟨none,520,5200,some outer⟩ (evT (ip (keK 2)) (bw L d)):=by cases c<;>kernel_rfl
end
section
variable{w:World}{a b c:Bool}{nt:Fin 8→Nat}{fl sk L i jf:Nat}{ls rs:List (Fin 8)}{outer:List Env}{fs:List Nat}{V:SV}{hh:Heap}{fr0:Array (Option Value)→Obj}{sl:Array (Option Value)}{flo:Obj}{more:List (Nat×Obj)}
theorem u7(hw:V.w=wf w a b c)(hkt:V.kt=ktB (wf w a b c).params)(h0:aj V.pre V.N 0=L)(hLN:hh.objs.size=V.N)(h257:257≤V.N)(hi:1≤i)(hfr0:∀sl,fr0 sl={ fr0 #[] with slots:=sl })(hff:hh.FunFrames noBase outer)(hfs:L::fs=outer.filterMap (·.frame))
  (off:257≤fl∧257≤sk∧fl≠sk) (hfo:∀x∈L::fs,257≤x∧x≠fl∧x≠sk) (hl:ls.length≤100)
  (hcall:∀h:Heap,(∀b o,hh.get? b=some o→b∉V.pre→h.get? b=some o)→(∀q∈(0,fr0 sl)::(jf,flo)::more,h.get? (aj V.pre V.N q.1)=some q.2)→af [] hh h∧(∃le,h.get? fl=some (lO (ls.map (nmV nt)) le))∧∃se,h.get? sk=some (lO (rs.map (nmV nt)) se)) :
  b9 V hh (fiC fr0 sl nt fl sk jf flo i (fo rs ls) outer fs hh more):=by
 intro A s hh' hf hd hu hs ht hb hkeep hpre
 have hs':s.heap.objs.size=V.N+i:=hs
 obtain⟨K,⟨le,hfl⟩,se,hsk⟩:=hcall s.heap hkeep hpre
 have p0:=hpre (0,_) (.head _)
 rw[h0] at p0
 rw[hkt] at hb
 rw[hw]
 refine jpy (nt:=nt) (ls:=ls) (rs:=rs) ⟨hh',hd,hu⟩ (hf _ rfl) (gp K hff) hfs ⟨hb⟩ (by omega) hfl hsk off hfo hl fun s' ra e g1 g2 g3 g4 g5=>?_
 obtain⟨sl',hsl,-⟩:=g3 L _ p0
 refine⟨⟨ra,e,sl',s'.heap.objs.size,s'.toks⟩,zt,rfl,s'.heap,cm g5,⟨fun y ob q hy=>?_,by show hh.objs.size≤ra;omega⟩,rfl,g4,fun q hq=>?_,fun q hq=>?_,List.pairwise_singleton ..,fun y ob q hb hm=>?_⟩
 ·obtain⟨sl2,h1,-⟩:=g3 y ob (K y ob q n0m)
  exact⟨sl2,h1⟩
 ·rcases List.mem_singleton.mp hq with rfl
  rw[h0]
  show s'.heap.get? L=some (fr0 sl')
  rw[hfr0 sl']
  have:fr0 sl={ fr0 #[] with slots:=sl }:=hfr0 sl
  rw[this] at hsl
  exact hsl
 ·rcases List.mem_singleton.mp hq with rfl
  exact⟨g2,.inl (by show V.N+i≤ra;exact(qp hs' g1))⟩
 ·have b0:=hb (0,fr0 sl') (.head _)
  rw[h0] at b0
  obtain⟨sl2,h1,h2⟩:=g3 y ob q
  have:=h2 (fun q=>by
   rcases List.mem_cons.mp q with q|q
   ·exact b0 q
   ·exact hm q)
  subst this
  exact h1
end
section
variable{M:Model}{A:Around}{E:Value→Shared→Prop}{s:Shared}
theorem uc{env:Env}{x y z:Expr}{pos:Pos}{Q:Value→Shared→Prop}
  (h:wpAny M A (eval x env) (fun v s₁=>wpAny M A (truthy v) (fun t s₂=>if t=true then wpAny M A (eval y env) (fun v s₁=>wpAny M A (truthy v) (fun t s₂=>if t=true then wpAny M A (eval z env) Q E s₂ else Q v s₂) E s₁) E s₂ else Q v s₂) E s₁) E s) :
  wpAny M A (eval (.BoolOp .And [x,y,z] pos) env) Q E s:=by
 show wpAny M A (boolOp pos .And [eval x env,eval y env,eval z env]) Q E s
 rw[boolOp.eq_def]
 refine wpAny_bind (wpAny_mono h (fun v s1 h1=>wpAny_bind (wpAny_standAt (wpAny_bind (wpAny_holding (wpAny_mono h1 (fun t s2 h2=>?_) fun _ _ h=>h))))) fun _ _ h=>h)
 cases t with
 |false=>
  rw[if_neg (by decide)] at h2
  exact wpAny_pure h2
 |true=>
  rw[if_pos rfl] at h2
  show wpAny M A (boolOp pos .And [eval y env,eval z env]) Q E s2
  rw[boolOp.eq_def]
  refine wpAny_bind (wpAny_mono h2 (fun v s1 h1=>wpAny_bind (wpAny_standAt (wpAny_bind (wpAny_holding (wpAny_mono h1 (fun t s2 h2=>?_) fun _ _ h=>h))))) fun _ _ h=>h)
  cases t with
  |false=>
   rw[if_neg (by decide)] at h2
   exact wpAny_pure h2
  |true=>
   rw[if_pos rfl] at h2
   show wpAny M A (boolOp pos .And [eval z env]) Q E _
   rw[boolOp.eq_def]
   exact h2
end
noncomputable def kF(ks:List (Fin 8))(q:Bool):Fin 8→Bool:=fun k=>decide (k∈ks)==q
section
variable{w:World}{a b c:Bool}{p:Par}{it acc l d dp de L N:Nat}{q:Bool}{h₀:Heap}{dv:KV}{ks:List (Fin 8)}{A:Around}{R:Result→Shared→Prop}{s:Shared}
structure CmK(P:Params)(p:Par)(it acc l d dp de:Nat)(dv:KV)(ks:List (Fin 8))(h₀:Heap):Prop where
 off:257≤d∧257≤dp
 dc:h₀.get? d=some (ceO (some (.ref dp)))
 dpp:h₀.get? dp=some (dO P p.nt dv de)
 keys:dv.map (·.1)=ks
 ne:d∉[it,acc,l]∧dp∉[it,acc,l]
theorem jlz(hA:Room A 600 6000)(Z:CmZ (wf w a b c).params p it acc l h₀)(D:CmK (wf w a b c).params p it acc l d dp de dv ks h₀)(i:Fin 8)(v:Nat×Value)(s:Shared)(S:CmS (wf w a b c).params p it acc l (kF ks q) h₀ i.val (fb i v) s.heap)
  (h:∀s' v',CmS (wf w a b c).params p it acc l (kF ks q) h₀ (i.val+1) (some v') s'.heap→ae s'=ae s→codeAny (model PG (wf w a b c)) A (lc q it acc l L d) R s'):codeAny (model PG (wf w a b c)) A (lc q it acc l L d) R s:=by
 have o:=Z.off
 have n:=Z.ne
 have od:=D.off
 have nd:=D.ne
 have B:=S.based Z
 have hn0:=Z.n0
 have hsz:=S.size
 have g257:257≤s.heap.objs.size:=(qc hn0 hsz)
 have xnm:=S.keep _ _ Z.nm Z.nmn
 have xd:=S.keep _ _ D.dc nd.1
 have xdp:=S.keep _ _ D.dpp nd.2
 have hdl:@Ne Nat dp l:=(xO3 nd.2).2.2
 have hcl:(fil (kF ks q) i.val).length≤8:=ph _ _
 have hnmn:=Z.nmn
 replace hnmn:=xO3 hnmn
 have D1:dp≠1:=(qj (qw (k:=255) od.2))
 have hlk:(dv.lookup i).isSome=decide (i∈ks):=by
  by_cases hk:i∈ks
  ·obtain⟨x,h1,_⟩:=cq (kv:=dv) (k:=i) (by rw[D.keys];exact hk)
   rw[h1,decide_eq_true hk];rfl
  ·rw[bk (by rw[D.keys];exact hk),decide_eq_false hk];rfl
 by_cases hF:decide (i∈ks)=q
 ·have hF':kF ks q i=true:=by unfold kF;rw[hF];simp
  have P:=ag (w:=wf w a b c) (pre:=[(it,liO p.NM i.val),(l,ci (wf w a b c).params "name" (fb i v)),(p.NM,lO (ai p.nt) p.e1),(d,ceO (some (.ref dp))),(dp,dO (wf w a b c).params p.nt dv de),(acc,lO ((fil (kF ks q) i.val).map (nmV p.nt)) (fil (kF ks q) i.val).length)]) B g257 ⟨S.itt,S.loc,xnm,xd,xdp,S.acc,zt⟩ ⟨.inl o.1,.inl o.2.2.1,.inl o.2.2.2,.inl od.1,.inl od.2,.inl o.2.1,zt⟩
   (by cases i using Fin.cases<;>exact⟨⟨zt,zt,zt,zt,zt,zt⟩,⟨zt,zt,hdl.symm,zt,zt⟩,⟨zt,zt,hnmn.2.1,zt⟩,⟨zt,zt,zt⟩,⟨zt,zt⟩,zt,zt⟩)
  refine cz (M3 A.frames i q) P hA.cx rfl ⟨iz rfl rfl D1 (hlk.trans hF),fw rfl (by rw[List.length_map];exact(qr (k:=991) (qs 1 hcl))),zt⟩ fun s' P' K r=>?_
  have K':af [it,acc,l] s.heap s'.heap:=fun y ob e hy=>am (chg:=[it,acc,l]) P P'.has K ⟨.inr (.head _),.inr (.tail _ (.tail _ (.head _))),.inl rfl,.inl rfl,.inl rfl,.inr (.tail _ (.head _)),zt⟩ y ob e hy
  obtain⟨v',S'⟩:=S.next K' (ch P') (P'.has (it,_) (.head _)) (by
   have:=P'.has (acc,_) (.tail _ (.tail _ (.tail _ (.tail _ (.tail _ (.head _))))))
   rw[hF',if_pos rfl,List.map_append,List.length_append]
   exact this) (P'.has (l,_) (.tail _ (.head _)))
  exact h s' v' S' r
 ·have hF':kF ks q i=false:=by unfold kF;exact beq_eq_false_iff_ne.mpr hF
  have hF2:decide (i∈ks)=!q:=by cases hd:decide (i∈ks)<;>cases q<;>simp_all
  have P:=ag (w:=wf w a b c) (pre:=[(it,liO p.NM i.val),(l,ci (wf w a b c).params "name" (fb i v)),(p.NM,lO (ai p.nt) p.e1),(d,ceO (some (.ref dp))),(dp,dO (wf w a b c).params p.nt dv de)]) B g257 ⟨S.itt,S.loc,xnm,xd,xdp,zt⟩ ⟨.inl o.1,.inl o.2.2.1,.inl o.2.2.2,.inl od.1,.inl od.2,zt⟩
   (by cases i using Fin.cases<;>exact⟨⟨zt,zt,zt,zt,zt⟩,⟨zt,zt,hdl.symm,zt⟩,⟨zt,zt,zt⟩,⟨zt,zt⟩,zt,zt⟩)
  refine cz (M0 A.frames i q) P hA.cx rfl ⟨iz rfl rfl D1 (hlk.trans hF2),zt⟩ fun s' P' K r=>?_
  have K':af [it,l] s.heap s'.heap:=am P P'.has K ⟨.inr (.head _),.inr (.tail _ (.head _)),.inl rfl,.inl rfl,.inl rfl,zt⟩
  obtain⟨v',S'⟩:=S.next (fun y ob e hy=>K' y ob e fun q=>hy (iO3 ((mO2 q).imp_right .inr))) (ch P') (P'.has (it,_) (.head _)) (by
   rw[hF',if_neg (by simp),List.append_nil]
   exact K' _ _ S.acc (by refine nO2 ?_;exact⟨n.1.symm,n.2.2⟩)) (P'.has (l,_) (.tail _ (.head _)))
  exact h s' v' S' r
theorem jl0(hA:Room A 600 6000)(Z:CmZ (wf w a b c).params p it acc l s.heap)(D:CmK (wf w a b c).params p it acc l d dp de dv ks s.heap)(h1:s.heap.get? it=some (liO p.NM 0))(h2:s.heap.get? acc=some (lO [] 0))(h3:s.heap.get? l=some (ci (wf w a b c).params "name" none))
  (h:∀s' v,s'.heap.get? it=some (liE 8)→s'.heap.get? acc=some (lO ((fil (kF ks q) 8).map (nmV p.nt)) (fil (kF ks q) 8).length)→s'.heap.get? l=some (ci (wf w a b c).params "name" (some v))→af [it,acc,l] s.heap s'.heap→s.heap.objs.size≤s'.heap.objs.size→ae s'=ae s→R (.ok .next) s') :
  codeAny (model PG (wf w a b c)) A (L8 q it acc l L d) R s:=by
 have o:=Z.off
 have n:=Z.ne
 have hn0:=Z.n0
 have P:=ag (w:=wf w a b c) (pre:=[(it,liO p.NM 0)]) Z.based hn0 ⟨h1,zt⟩ ⟨.inl o.1,zt⟩ ⟨zt,zt⟩
 have go:∀s1,af [] s.heap s1.heap→s.heap.objs.size≤s1.heap.objs.size→ae s1=ae s→codeAny (model PG (wf w a b c)) A (lc q it acc l L d) R s1:=fun s1 K hs r=>by
  have k:∀{y:Nat} {ob:Obj},s.heap.get? y=some ob→s1.heap.get? y=some ob:=fun{y ob} e=>K y ob e n0m
  refine q9 (w:=w) (a:=a) (b:=b) (c:=c) (p:=p) (it:=it) (acc:=acc) (l:=l) (F:=kF ks q) (h₀:=s.heap) (C:=lc q it acc l L d) Z (fun i v s2 S h=>jlz hA Z D i v s2 S h) 8 0 rfl (v:=(0,.none)) ⟨fun y ob e _=>k e,hs,k h1,k h2,k h3⟩ fun s2 v S r2=>?_
  have P2:=ag (w:=wf w a b c) (pre:=[(it,liO p.NM 8),(p.NM,lO (ai p.nt) p.e1)]) (S.based Z) (Nat.le_trans hn0 S.size) ⟨S.itt,S.keep _ _ Z.nm Z.nmn,zt⟩ ⟨.inl o.1,.inl o.2.2.2,zt⟩ ⟨⟨zt,zt⟩,zt,zt⟩
  refine cz (L5 A.frames q) P2 hA.cx rfl zt fun s3 P3 K3 r3=>?_
  have K3':af [it] s2.heap s3.heap:=am P2 P3.has K3 ⟨.inr (.head _),.inl rfl,zt⟩
  exact h s3 v (P3.has (it,_) (.head _)) (K3' _ _ S.acc (du n.1.symm)) (K3' _ _ S.loc (du n.2.1.symm)) (fun y ob e hy=>K3' y ob (S.keep y ob e hy) (fun q=>hy (by rw[List.mem_singleton.mp q];exact .head _))) (Nat.le_trans S.size (ch P3)) (r3.trans (r2.trans r))
 have run:=jlw (w:=w) (a:=a) (p:=p) (it:=it) (acc:=acc) (l:=l) (L:=L) (d:=d) (N:=s.heap.objs.size) (t₀:=s.toks) A.frames q b c
 cases b with
 |true=>
  refine cz run P hA.cx rfl zt fun s1 P1 K1 r1=>?_
  exact go s1 (am P P1.has K1 ⟨.inl rfl,zt⟩) (ch P1) r1
 |false=>
  refine cz run P hA.cx rfl zt fun s1 P1 K1 r1=>?_
  exact go s1 (am P P1.has K1 ⟨.inl rfl,zt⟩) (ch P1) r1
end
noncomputable def jn3:Stmt→Pos
 |.Return _ q=>q
 |_=>default
noncomputable def jn4:PySem.Expr→Pos
 |.BoolOp _ _ q=>q
 |_=>default
theorem o9:keS=[ak keS 0]++([ak keS 1]++[ak keS 2]):=by kernel_rfl
theorem pf:ak keS 2=.Return (some (.BoolOp .And [keK 0,keK 1,keK 2] (jn4 (A3 (ak keS 2))))) (jn3 (ak keS 2)):=by kernel_rfl
theorem kl:keK 0=.Compare (ip (keK 0)) [.Eq] [jl (keK 0)] (yq (keK 0)):=by kernel_rfl
theorem kk:keK 1=.Compare (ip (keK 1)) [.Eq] [jl (keK 1)] (yq (keK 1)):=by kernel_rfl
theorem kh:keK 2=.Compare (ip (keK 2)) [.Eq] [jl (keK 2)] (yq (keK 2)):=by kernel_rfl
theorem jgg(ks ls:List (Fin 8)):fo (fil (kF ks false) 8) ls=ls.filter (kF ks true):=by
 unfold fo
 refine List.filter_congr fun k _=>?_
 rw[jh]
 unfold kF
 have:(k∈(List.finRange 8).filter fun k=>decide (k∈ks)==false)↔k∉ks:=by
  rw[List.mem_filter]
  simp
 by_cases h:k∈ks
 ·simp[h]
 ·simp[h]
theorem jl5(ls:List (Fin 8)):fo [] ls=ls:=by
 unfold fo
 simp
section
variable{w:World}{a b c:Bool}{p:Par}{A:Around}{s:Shared}{R:Result→Shared→Prop}{E:Value→Shared→Prop}{outer:List Env}{fs:List Nat}{en de:Nat}{dv:KV}{ks:List (Fin 8)}
theorem pu{x y e1 e2:Nat}{xs:List Value}{Q:Value→Shared→Prop}(h1:s.heap.get? x=some (lO xs e1))(h2:s.heap.get? y=some (lO xs e2))(hu:A.units≤9000)(hQ:Q (.bool true) s):wpAny (model PG w) A (compareOp .Eq (.ref x) (.ref y)) Q E s:=by
 refine SeqAt.eq_listAt (e:=fun _=>true) (cj h1) (cj h2) rfl (Nat.lt_of_le_of_lt hu (by decide)) (fun j h1 h2=>SeqAt.EqAt.same _) ?_
 have:(List.range (⟨xs⟩:Array Value).size).all (fun _=>true)=true:=by simp
 rw[this]
 exact hQ
structure KX(w:World)(p:Par)(L tk tl tp lo ke:Nat)(ks:List (Fin 8))(h₀:Heap)(outer:List Env)(fs:List Nat)(d:Nat)(h:Heap):Prop where
 based:Based w.params h
 size:h₀.objs.size+2≤h.objs.size
 fr:∃sl,h.get? L=some (fx w.params p tk tl tp lo ke sl)
 nm:h.get? p.NM=some (lO (ai p.nt) p.e1)
 lo:∃e,h.get? lo=some (lO ((fil (kF ks false) 8).map (nmV p.nt)) e)
 ke:∃e,h.get? ke=some (lO ((fil (kF ks true) 8).map (nmV p.nt)) e)
 old:OnlySlots fs h₀ h
 ff:h.FunFrames noBase (bw L d::outer)
structure KZ(p:Par)(L lo ke:Nat)(h₀:Heap)(outer:List Env)(fs:List Nat):Prop where
 n0:257≤h₀.objs.size
 l:L=h₀.objs.size
 lo:L+2≤lo∧L+2≤ke
 nm:257≤p.NM∧p.NM<h₀.objs.size
 fsE:fs=outer.filterMap (·.frame)
 foE:∀x∈fs,257≤x∧x<h₀.objs.size∧x≠p.NM
variable{L tk tl tp lo ke d:Nat}{h₀ h h':Heap}
theorem KX.next(X:KX w p L tk tl tp lo ke ks h₀ outer fs d h)(Z:KZ p L lo ke h₀ outer fs)(O:OnlySlots (L::fs) h h')(hs:h.objs.size≤h'.objs.size):KX w p L tk tl tp lo ke ks h₀ outer fs d h':=by
 have n0:=Z.n0
 have zl:=Z.l
 have zlo:=Z.lo
 have znm:=Z.nm
 have ex:∀{y:Nat} {ob:Obj},h.get? y=some ob→y≠L→y∉fs→h'.get? y=some ob:=fun{y ob} e h1 h2=>by
  obtain⟨sl,q1,q2⟩:=O y ob e
  have:=q2 (fun q=>by
   rcases List.mem_cons.mp q with q|q
   ·exact h1 q
   ·exact h2 q)
  subst this
  exact q1
 have nf:∀{y:Nat},h₀.objs.size≤y→y∉fs:=fun{y} h q=>by have:=Z.foE y q;exact(qf (qc this.2.1 h))
 refine⟨⟨fun y ob e=>ex (X.based.kt y ob e) (by have:=bm e;exact(qh (qy (qc this n0) zl))) (fun q=>by have:=bm e;have:=(Z.foE y q).1;omega)⟩,by have:=X.size;exact(qc this hs),?_,ex X.nm (qh (qy znm.2 zl)) (fun q=>(Z.foE _ q).2.2 rfl),?_,?_,fun y ob e=>?_,?_⟩
 ·obtain⟨sl,e⟩:=X.fr
  obtain⟨sl',q1,-⟩:=O L _ e
  exact⟨sl',q1⟩
 ·obtain⟨e,q⟩:=X.lo;exact⟨e,ex q (qj (qv zlo.1)) (nf (qw (k:=2) (qk (k:=2) (qg zl) zlo.1)))⟩
 ·obtain⟨e,q⟩:=X.ke;exact⟨e,ex q (qj (qv zlo.2)) (nf (qw (k:=2) (qk (k:=2) (qg zl) zlo.2)))⟩
 ·obtain⟨sl,q1,q2⟩:=X.old y ob e
  have hly:@LT.lt Nat _ y h₀.objs.size:=Heap.lt_size e
  obtain⟨sl',q3,q4⟩:=O y _ q1
  exact⟨sl',q3,fun hm=>(q4 (fun q=>by
   rcases List.mem_cons.mp q with q|q
   ·have:=ax q;exact(qf (qy (qy hly zl) q))
   ·exact hm q)).trans (q2 hm)⟩
 ·exact X.ff.of_keeps fun y o' e hnf=>by
   obtain⟨sl,q1,-⟩:=O y o' e
   exact⟨_,q1,rfl⟩
theorem KX.same(X:KX w p L tk tl tp lo ke ks h₀ outer fs d h)(Z:KZ p L lo ke h₀ outer fs)(K:af [] h h')(hs:h.objs.size≤h'.objs.size):KX w p L tk tl tp lo ke ks h₀ outer fs d h':=
 X.next Z (fun y ob e=>⟨ob.slots,K y ob e n0m,fun _=>rfl⟩) hs
theorem KX.g257(X:KX w p L tk tl tp lo ke ks h₀ outer fs d h)(Z:KZ p L lo ke h₀ outer fs):257≤h.objs.size:=by
 have:=X.size
 have:=Z.n0
 omega
end
section
variable{w:World}{a b c:Bool}{p:Par}{A:Around}{s:Shared}{R:Result→Shared→Prop}{E:Value→Shared→Prop}{outer:List Env}{fs:List Nat}{ks:List (Fin 8)}{L tk tl tp lo ke d:Nat}{h₀ h h':Heap}
theorem iv(P:Params)(sl:Array (Option Value)):fx P p tk tl tp lo ke sl={ fx P p tk tl tp lo ke #[] with slots:=sl }:=rfl
theorem lj(X:KX (wf w a b c) p L tk tl tp lo ke ks h₀ outer fs d h)(Z:KZ p L lo ke h₀ outer fs){pl:List Nat}(hp:∀y∈pl,y=L∨y=p.NM∨h.objs.size≤y){h3 h4:Heap}{ra:Nat}(hra:h.objs.size≤ra)(hn:∃sl,h4.get? L=some (fx (wf w a b c).params p tk tl tp lo ke sl))(hm:h4.get? p.NM=some (lO (ai p.nt) p.e1)∨p.NM∉pl)(hf3:∀y ob,h.get? y=some ob→y∈fs→∃sl,h3.get? y=some { ob with slots:=sl })(hk:∀y ob,h3.get? y=some ob→y∉pl++[ra]→h4.get? y=some ob)(hacc:∀y ob,h.get? y=some ob→y∉pl++[ra]→y∉fs→h4.get? y=some ob):OnlySlots (L::fs) h h4:=fun y ob e=>by
 have n0:=Z.n0
 have zl:=Z.l
 have znm:=Z.nm
 have hly:@LT.lt Nat _ y h.objs.size:=Heap.lt_size e
 have np:y≠L→(y≠p.NM∨p.NM∉pl)→y∉pl++[ra]:=fun h1 h2 q=>by
  rcases List.mem_append.mp q with q|q
  ·rcases hp y q with e1|e1|e1
   ·exact h1 e1
   ·rcases h2 with h2|h2
    ·exact h2 e1
    ·exact h2 (e1 ▸ q)
   ·exact(qf (ql e1 hly))
  ·have:=ax (List.mem_singleton.mp q);exact(qf (ql (qy hra this) hly))
 by_cases e1:y=L
 ·subst e1
  obtain⟨sl0,x0⟩:=X.fr
  rw[x0] at e;cases e
  obtain⟨sl,x⟩:=hn
  exact⟨sl,x,fun q=>absurd (.head _) q⟩
 by_cases e2:y∈fs
 ·obtain⟨sl,x⟩:=hf3 y ob e e2
  exact⟨sl,hk y _ x (np e1 (.inl fun q=>(Z.foE y e2).2.2 q)),fun q=>absurd (.tail _ e2) q⟩
 refine⟨ob.slots,?_,fun _=>rfl⟩
 by_cases e3:y=p.NM
 ·subst e3
  rcases hm with hm|hm
  ·rw[X.nm] at e;cases e;exact hm
  ·exact hacc _ ob e (np e1 (.inr hm)) e2
 ·exact hacc y ob e (np e1 (.inl e3)) e2
theorem jpr{Q:Value→Shared→Prop}(hA:Room A 520 5200)(hfr:A.frames=some (bw L d::outer))(Z:KZ p L lo ke h₀ outer fs)(X:KX (wf w a b c) p L tk tl tp lo ke ks h₀ outer fs d s.heap)
  (h:∀s',KX (wf w a b c) p L tk tl tp lo ke ks h₀ outer fs d s'.heap→ae s'=ae s→Q (.bool true) s') :
  wpAny (model PG (wf w a b c)) A (eval (keK 0) (bw L d)) Q E s:=by
 first|refine xq1 kl ?_|refine xq2 kl ?_|refine xq3 kl ?_|rw[kl]
 have n0:=Z.n0
 have zl:=Z.l
 have zlo:=Z.lo
 have znm:=Z.nm
 have xs0:=X.size
 refine wpAny_Compare1 ?_
 have hcx:Cx.Ok ⟨none,520,5200,some (bw L d::outer)⟩ A:=by rw[←hfr];exact hA.cx
 obtain⟨sl,hF⟩:=X.fr
 obtain⟨el,hlo⟩:=X.lo
 have P:Pre (wf w a b c) (lb (wf w a b c).params p L tk tl tp lo ke sl) s.heap.objs.size s.toks s:=ag X.based (X.g257 Z) ⟨hF,X.nm,zt⟩ (gx (qy n0 zl) znm.1) ⟨⟨zt,zt⟩,zt,zt⟩
 have ltlo:@LT.lt Nat _ lo s.heap.objs.size:=Heap.lt_size hlo
 have hcall:=u7 (w:=w) (a:=a) (b:=b) (c:=c) (nt:=p.nt) (fl:=s.heap.objs.size) (sk:=lo) (L:=L) (i:=1) (jf:=2) (ls:=List.finRange 8++List.finRange 8) (rs:=fil (kF ks false) 8) (outer:=bw L d::outer) (fs:=fs) (V:=mkV (wf w a b c) (lb (wf w a b c).params p L tk tl tp lo ke sl) s.heap.objs.size s.toks) (hh:=s.heap) (fr0:=fx (wf w a b c).params p tk tl tp lo ke) (sl:=sl) (flo:=lO (ai p.nt++ai p.nt) 0) (more:=[(1,lO (ai p.nt) p.e1)]) rfl rfl rfl rfl (X.g257 Z) (Nat.le_refl 1) (iv _) X.ff (by rw[Z.fsE];rfl) ⟨(qc (qb rfl) (ql (qk (k:=2) (qy (ql znm.1 znm.2) zl) zlo.1) ltlo)),(qw (k:=2) (qk (k:=2) (qy n0 zl) zlo.1)),by show@Ne Nat _ _;exact(qj ltlo)⟩ (fun x hx=>by
  rcases List.mem_cons.mp hx with rfl|hx
  ·exact⟨(qy n0 zl),nne (.inl (qv (qk (k:=2) (qe zl) xs0))),nne (.inl (qv zlo.1))⟩
  ·have:=Z.foE x hx;exact⟨this.1,nne (.inl (qw (k:=3) (ql (qk (k:=2) (qy this.2.1 zl) zlo.1) ltlo))),nne (.inl (qw (k:=2) (qk (k:=2) (qy this.2.1 zl) zlo.1)))⟩) (by simp) (fun h1 K1 hp=>by
  have q0:=hp (0,_) (.head _)
  have q2:=hp (2,_) (.tail _ (.head _))
  have q1:=hp (1,_) (.tail _ (.tail _ (.head _)))
  have hK:af [] s.heap h1:=fun y ob e _=>by
   by_cases e1:y=L
   ·exact sg hF q0 e e1
   by_cases e2:y=p.NM
   ·exact sg X.nm q1 e e2
   exact K1 y ob e (by show y∉[L,p.NM];refine nO2 ?_;exact⟨e1,e2⟩)
  exact⟨hK,⟨0,by rw[List.map_append];exact q2⟩,el,hK _ _ hlo n0m⟩)
 refine jt (modA:=fun y=>y∈fs) (J9 (fs:=fs) (h₀:=s.heap)) P hcx hcx ⟨zt,hcall,(fun y hy=>⟨?_,?_,bv (.inl (Z.foE y hy).1)⟩),(fun y hy=>hy),fun o h3 _ hf3 hsz3 hle3 hupd3 _ _ _ _=>⟨zt,fun s4 r4z hsz4 hex hkept hacc v hv=>?_⟩⟩
 ·show y∉[L,p.NM]
  have:=Z.foE y hy
  refine nO2 ?_
  exact⟨nne (.inl (qy this.2.1 zl)),this.2.2⟩
 ·show@LT.lt Nat _ y s.heap.objs.size
  have:=Z.foE y hy
  exact(qw (k:=3) (ql (qk (k:=2) (qy this.2.1 zl) zlo.1) ltlo))
 cases hv
 have hra:=hf3.2
 have y0:=hex (0,_) (.head _)
 have y1:=hex (1,_) (.tail _ (.head _))
 have y3:s4.heap.get? o.ra=some (lO ((fo (fil (kF ks false) 8) (List.finRange 8++List.finRange 8)).map (nmV p.nt)) o.e):=hex (3,_) (.tail _ (.tail _ (.head _)))
 have hle3':s.heap.objs.size+1≤o.size:=hle3
 have hsz4':s4.heap.objs.size=o.size+0:=hsz4
 have X4:=X.next Z (lj X Z (pl:=[L,p.NM,s.heap.objs.size+0]) (fun y hy=>by
  replace hy:=mO3 hy
  rcases hy with q|q|q
  ·exact .inl q
  ·exact .inr (.inl q)
  ·right;right;exact(qg q)) hra ⟨o.sl,y0⟩ (.inl y1) hf3.1 (fun y ob e hy=>hkept y ob e hy) (fun y ob e hy hm=>hacc y ob e hy hm)) (qv (qy hle3' hsz4'))
 have r4:ae s4=ae s:=r4z
 obtain⟨sl4,hF4⟩:=X4.fr
 obtain⟨ek,hke⟩:=X4.ke
 refine c7 (I2 A.frames _ (by rw[List.length_map];exact ph _ _)) (ag (w:=wf w a b c) (pre:=[(L,fx (wf w a b c).params p tk tl tp lo ke sl4),(ke,lO ((fil (kF ks true) 8).map (nmV p.nt)) ek)]) X4.based (X4.g257 Z) ⟨hF4,hke,zt⟩ (gx (qy n0 zl) (qw (k:=2) (qk (k:=2) (qy n0 zl) zlo.2))) ⟨⟨zt,zt⟩,zt,zt⟩) hA.cx hA.cx rfl zt (chg:=[]) ⟨.inl rfl,.inl rfl,zt⟩ fun s6 P6b P6z K6' r6 P6x=>?_
 have X6:=X4.same Z K6' (zle P6z)
 have hr:s6.heap.get? s4.heap.objs.size=some (lO ((fil (kF ks true) 8).map (nmV p.nt)++(fil (kF ks true) 8).map (nmV p.nt)) 0):=P6x 2 _ _ (s4.heap.objs.size) rfl rfl
 have hl:=K6' _ _ y3 n0m
 rw[jgg,List.filter_append,←jh,List.map_append] at hl
 exact pu hl hr (by have:=hA.u;exact(qr (k:=3800) this)) (h s6 X6 (r6.trans r4))
theorem jpq{Q:Value→Shared→Prop}(hA:Room A 520 5200)(hfr:A.frames=some (bw L d::outer))(Z:KZ p L lo ke h₀ outer fs)(X:KX (wf w a b c) p L tk tl tp lo ke ks h₀ outer fs d s.heap)
  (h:∀s',KX (wf w a b c) p L tk tl tp lo ke ks h₀ outer fs d s'.heap→ae s'=ae s→Q (.bool true) s') :
  wpAny (model PG (wf w a b c)) A (eval (keK 1) (bw L d)) Q E s:=by
 first|refine xq1 kk ?_|refine xq2 kk ?_|refine xq3 kk ?_|rw[kk]
 have n0:=Z.n0
 have zl:=Z.l
 have zlo:=Z.lo
 have znm:=Z.nm
 have xs0:=X.size
 refine wpAny_Compare1 ?_
 have hcx:Cx.Ok ⟨none,520,5200,some (bw L d::outer)⟩ A:=by rw[←hfr];exact hA.cx
 obtain⟨sl,hF⟩:=X.fr
 have P:Pre (wf w a b c) (f8 (wf w a b c).params p L tk tl tp lo ke sl) s.heap.objs.size s.toks s:=ag X.based (X.g257 Z) ⟨hF,zt⟩ (b6 (qy n0 zl)) ⟨zt,zt⟩
 have hcall:=u7 (w:=w) (a:=a) (b:=b) (c:=c) (nt:=p.nt) (fl:=p.NM) (sk:=s.heap.objs.size) (L:=L) (i:=1) (jf:=1) (ls:=List.finRange 8) (rs:=[]) (outer:=bw L d::outer) (fs:=fs) (V:=mkV (wf w a b c) (f8 (wf w a b c).params p L tk tl tp lo ke sl) s.heap.objs.size s.toks) (hh:=s.heap) (fr0:=fx (wf w a b c).params p tk tl tp lo ke) (sl:=sl) (flo:=lO [] 0) (more:=[]) rfl rfl rfl rfl (X.g257 Z) (Nat.le_refl 1) (iv _) X.ff (by rw[Z.fsE];rfl) ⟨znm.1,(qw (k:=3) (qk (k:=2) (ql znm.1 znm.2) xs0)),by show@Ne Nat _ _;exact(qh (qw (k:=2) (qk (k:=2) znm.2 xs0)))⟩ (fun x hx=>by
  rcases List.mem_cons.mp hx with rfl|hx
  ·exact⟨(qy n0 zl),nne (.inr (qy znm.2 zl)),nne (.inl (qv (qk (k:=2) (qe zl) xs0)))⟩
  ·have:=Z.foE x hx;exact⟨this.1,this.2.2,nne (.inl (qw (k:=2) (qk (k:=2) this.2.1 xs0)))⟩) (by simp) (fun h1 K1 hp=>by
  have q0:=hp (0,_) (.head _)
  have q2:=hp (1,_) (.tail _ (.head _))
  have hK:af [] s.heap h1:=fun y ob e _=>by
   by_cases e1:y=L
   ·exact sg hF q0 e e1
   exact K1 y ob e (by show y∉[L];rw[List.mem_singleton];exact e1)
  exact⟨hK,⟨p.e1,hK _ _ X.nm n0m⟩,0,q2⟩)
 refine jt (modA:=fun y=>y∈fs) (J3 (fs:=fs) (h₀:=s.heap)) P hcx hcx ⟨zt,hcall,(fun y hy=>⟨?_,?_,bv (.inl (Z.foE y hy).1)⟩),(fun y hy=>hy),fun o h3 _ hf3 hsz3 hle3 hupd3 _ _ _ _=>⟨zt,fun s4 r4z hsz4 hex hkept hacc v hv=>?_⟩⟩
 ·show y∉[L]
  have:=Z.foE y hy
  rw[List.mem_singleton]
  exact nne (.inl (qy this.2.1 zl))
 ·show@LT.lt Nat _ y s.heap.objs.size
  have:=Z.foE y hy
  exact(qw (k:=2) (qk (k:=2) this.2.1 xs0))
 cases hv
 have hra:=hf3.2
 have y0:=hex (0,_) (.head _)
 have y3:s4.heap.get? o.ra=some (lO ((fo [] (List.finRange 8)).map (nmV p.nt)) o.e):=hex (2,_) (.tail _ (.head _))
 have hle3':s.heap.objs.size+1≤o.size:=hle3
 have hsz4':s4.heap.objs.size=o.size+0:=hsz4
 have X4:=X.next Z (lj X Z (pl:=[L,s.heap.objs.size+0]) (fun y hy=>by
  replace hy:=mO2 hy
  rcases hy with q|q
  ·exact .inl q
  ·right;right;exact(qg q)) hra ⟨o.sl,y0⟩ (.inr (by refine nO2 ?_;exact⟨(qh (qy znm.2 zl)),(qh (qw (k:=2) (qk (k:=2) znm.2 xs0)))⟩)) hf3.1 (fun y ob e hy=>hkept y ob e hy) (fun y ob e hy hm=>hacc y ob e hy hm)) (qv (qy hle3' hsz4'))
 have r4:ae s4=ae s:=r4z
 obtain⟨sl4,hF4⟩:=X4.fr
 refine c7 (H8 A.frames) (ag (w:=wf w a b c) (pre:=[(L,fx (wf w a b c).params p tk tl tp lo ke sl4)]) X4.based (X4.g257 Z) ⟨hF4,zt⟩ (b6 (qy n0 zl)) ⟨zt,zt⟩) hA.cx hA.cx rfl zt (chg:=[]) ⟨.inl rfl,zt⟩ fun s6 P6b P6z K6' r6 P6x=>?_
 have X6:=X4.same Z K6' (zle P6z)
 have hl:=K6' _ _ y3 n0m
 rw[jl5] at hl
 exact pu hl X6.nm (by have:=hA.u;exact(qr (k:=3800) this)) (h s6 X6 (r6.trans r4))
theorem jpp{Q:Value→Shared→Prop}(hA:Room A 520 5200)(hfr:A.frames=some (bw L d::outer))(Z:KZ p L lo ke h₀ outer fs)(X:KX (wf w a b c) p L tk tl tp lo ke ks h₀ outer fs d s.heap)
  (h:∀s',KX (wf w a b c) p L tk tl tp lo ke ks h₀ outer fs d s'.heap→ae s'=ae s→Q (.bool true) s') :
  wpAny (model PG (wf w a b c)) A (eval (keK 2) (bw L d)) Q E s:=by
 first|refine xq1 kh ?_|refine xq2 kh ?_|refine xq3 kh ?_|rw[kh]
 have n0:=Z.n0
 have zl:=Z.l
 have zlo:=Z.lo
 have znm:=Z.nm
 have xs0:=X.size
 refine wpAny_Compare1 ?_
 have hcx:Cx.Ok ⟨none,520,5200,some (bw L d::outer)⟩ A:=by rw[←hfr];exact hA.cx
 obtain⟨sl,hF⟩:=X.fr
 obtain⟨el,hlo⟩:=X.lo
 have P:Pre (wf w a b c) (f8 (wf w a b c).params p L tk tl tp lo ke sl) s.heap.objs.size s.toks s:=ag X.based (X.g257 Z) ⟨hF,zt⟩ (b6 (qy n0 zl)) ⟨zt,zt⟩
 have ltlo:@LT.lt Nat _ lo s.heap.objs.size:=Heap.lt_size hlo
 have hcall:=u7 (w:=w) (a:=a) (b:=b) (c:=c) (nt:=p.nt) (fl:=s.heap.objs.size) (sk:=lo) (L:=L) (i:=1) (jf:=1) (ls:=[]) (rs:=fil (kF ks false) 8) (outer:=bw L d::outer) (fs:=fs) (V:=mkV (wf w a b c) (f8 (wf w a b c).params p L tk tl tp lo ke sl) s.heap.objs.size s.toks) (hh:=s.heap) (fr0:=fx (wf w a b c).params p tk tl tp lo ke) (sl:=sl) (flo:=lO [] 0) (more:=[]) rfl rfl rfl rfl (X.g257 Z) (Nat.le_refl 1) (iv _) X.ff (by rw[Z.fsE];rfl) ⟨(qc (qb rfl) (ql (qk (k:=2) (qy (ql znm.1 znm.2) zl) zlo.1) ltlo)),(qw (k:=2) (qk (k:=2) (qy n0 zl) zlo.1)),by show@Ne Nat _ _;exact(qj ltlo)⟩ (fun x hx=>by
  rcases List.mem_cons.mp hx with rfl|hx
  ·exact⟨(qy n0 zl),nne (.inl (qv (qk (k:=2) (qe zl) xs0))),nne (.inl (qv zlo.1))⟩
  ·have:=Z.foE x hx;exact⟨this.1,nne (.inl (qw (k:=3) (ql (qk (k:=2) (qy this.2.1 zl) zlo.1) ltlo))),nne (.inl (qw (k:=2) (qk (k:=2) (qy this.2.1 zl) zlo.1)))⟩) (by simp) (fun h1 K1 hp=>by
  have q0:=hp (0,_) (.head _)
  have q2:=hp (1,_) (.tail _ (.head _))
  have hK:af [] s.heap h1:=fun y ob e _=>by
   by_cases e1:y=L
   ·exact sg hF q0 e e1
   exact K1 y ob e (by show y∉[L];rw[List.mem_singleton];exact e1)
  exact⟨hK,⟨0,q2⟩,el,hK _ _ hlo n0m⟩)
 refine jt (modA:=fun y=>y∈fs) (I7 (fs:=fs) (h₀:=s.heap)) P hcx hcx ⟨zt,hcall,(fun y hy=>⟨?_,?_,bv (.inl (Z.foE y hy).1)⟩),(fun y hy=>hy),fun o h3 _ hf3 hsz3 hle3 hupd3 _ _ _ _=>⟨zt,fun s4 r4z hsz4 hex hkept hacc v hv=>?_⟩⟩
 ·show y∉[L]
  have:=Z.foE y hy
  rw[List.mem_singleton]
  exact nne (.inl (qy this.2.1 zl))
 ·show@LT.lt Nat _ y s.heap.objs.size
  have:=Z.foE y hy
  exact(qw (k:=3) (ql (qk (k:=2) (qy this.2.1 zl) zlo.1) ltlo))
 cases hv
 have hra:=hf3.2
 have y0:=hex (0,_) (.head _)
 have y3:s4.heap.get? o.ra=some (lO ((fo (fil (kF ks false) 8) []).map (nmV p.nt)) o.e):=hex (2,_) (.tail _ (.head _))
 have hle3':s.heap.objs.size+1≤o.size:=hle3
 have hsz4':s4.heap.objs.size=o.size+0:=hsz4
 have X4:=X.next Z (lj X Z (pl:=[L,s.heap.objs.size+0]) (fun y hy=>by
  replace hy:=mO2 hy
  rcases hy with q|q
  ·exact .inl q
  ·right;right;exact(qg q)) hra ⟨o.sl,y0⟩ (.inr (by refine nO2 ?_;exact⟨(qh (qy znm.2 zl)),(qh (qw (k:=3) (ql (qk (k:=2) (qy znm.2 zl) zlo.1) ltlo)))⟩)) hf3.1 (fun y ob e hy=>hkept y ob e hy) (fun y ob e hy hm=>hacc y ob e hy hm)) (qv (qy hle3' hsz4'))
 have r4:ae s4=ae s:=r4z
 have P5:=ag (w:=wf w a b c) (pre:=[]) X4.based (X4.g257 Z) zt zt zt
 refine bq (H0 A.frames) P5 hA.cx hA.cx rfl zt fun s6 P6 K6 r6=>?_
 have X6:=X4.same Z K6 (ch P6)
 have hr:s6.heap.get? s4.heap.objs.size=some (lO [] 0):=P6.has (s4.heap.objs.size,_) (.head _)
 have hl:=K6 _ _ y3 n0m
 exact pu hl hr (by have:=hA.u;exact(qr (k:=3800) this)) (h s6 X6 (r6.trans r4))
end
section
variable{w:World}{a b c:Bool}{p:Par}{A:Around}{s:Shared}{R:Result→Shared→Prop}{outer:List Env}{fs:List Nat}{ks:List (Fin 8)}{L N en de:Nat}{dv:KV}{q:Bool}{V:SV}{hh:Heap}
theorem M6(hw:V.w=wf w a b c)(hkt:V.kt=ktB (wf w a b c).params)(hN:V.N=N)(hV:V.pre=[L,p.NM])(hLN:hh.objs.size=N)(h257:257≤L)(hL:L+1<N)(hM:257≤p.NM∧p.NM<N)(hnm:hh.get? p.NM=some (lO (ai p.nt) p.e1))
  (hd:hh.get? (L+1)=some (ceO (some (.ref en)))) (hen:hh.get? en=some (dO (wf w a b c).params p.nt dv de)) (oen:257≤en∧en<L) (hks:dv.map (·.1)=ks) :
  b9 V hh (cmC (wf w a b c).params p (L8 q N (N+1) (N+2) L (L+1)) ((fil (kF ks q) 8).map (nmV p.nt))):=by
 refine jax (N:=N) (L:=L) hw hkt hN hV hLN (qw (k:=2) (qk (k:=2) h257 hL)) (qv hL) hM hnm fun A' s' R hA' Z' K x1 x2 x3 hR=>?_
 have nn:∀{y:Nat},y<N→y∉[N,N+1,N+2]:=fun{y} h1 q=>by
  replace q:=mO3 q
  exact(q.elim (fun q=>(qf (qy h1 q))) fun q=>(q.elim (fun q=>(qn (k:=1) (qq h1 q))) fun q=>(qn (k:=2) (qk (k:=2) h1 (qg q)))))
 refine jl0 (q:=q) hA' Z' (D:=⟨⟨(qr (k:=1) h257),oen.1⟩,K _ _ hd (nne (.inr (Nat.le_refl _))),K _ _ hen (nne (.inl oen.2)),hks,nn (by omega),nn (qw (k:=2) (qk (k:=2) oen.2 hL))⟩) x1 x2 x3 fun s2 v g1 g2 g3 g4 g5 g6=>hR s2 v g1 (by rw[List.length_map];exact g2) g3 g4 g5 g6
theorem jpo(hA:Room A 500 5000)(hfr:A.frames=some outer)(hff:s.heap.FunFrames noBase outer)(hfs:fs=outer.filterMap (·.frame))(B:Based (wf w a b c).params s.heap)(h257:257≤s.heap.objs.size)(hNM:s.heap.get? p.NM=some (lO (ai p.nt) p.e1))(hen:s.heap.get? en=some (dO (wf w a b c).params p.nt dv de))
  (oNM:257≤p.NM) (oen:257≤en) (hks:dv.map (·.1)=ks) (hfo:∀x∈fs,257≤x∧x≠p.NM)
  (hR:∀s',OnlySlots fs s.heap s'.heap→s.heap.objs.size≤s'.heap.objs.size→ae s'=ae s→R (rv (.bool true)) s') :
  codeAny (model PG (wf w a b c)) A (.call (.ref 251) ⟨[.ref p.NM,.ref en],[]⟩) R s:=by
 have ltM:@LT.lt Nat _ p.NM s.heap.objs.size:=Heap.lt_size hNM
 have ltE:@LT.lt Nat _ en s.heap.objs.size:=Heap.lt_size hen
 refine dg (jfx A.frames) (ag (w:=wf w a b c) (pre:=[]) B h257 zt zt zt) hA.cx  rfl zt (chg:=[]) zt fun s1 P1b P1z K1' r1 P1x=>?_
 have hs1:s1.heap.objs.size=s.heap.objs.size+2:=P1z
 have x0:s1.heap.get? s.heap.objs.size=some (frO (wf w a b c).params [("names",s.toks,.ref p.NM)] 1):=P1x 0 _ _ (s.heap.objs.size) rfl rfl
 have x1:s1.heap.get? (s.heap.objs.size+1)=some (ceO (some (.ref en))):=P1x 1 _ _ (s.heap.objs.size+1) rfl rfl
 have hfo2:∀x∈fs,257≤x∧x<s.heap.objs.size∧x≠p.NM:=fun x hx=>by
  have h1:=hfo x hx
  rw[hfs] at hx
  exact⟨h1.1,bo hff x hx,h1.2⟩
 generalize hN0:s.heap.objs.size=N0 at *
 show codeAny _ A (.func keS (bw N0 (N0+1))) R s1
 refine codeAny_func ?_
 have hA2:Room (A.deeper (bw N0 (N0+1))) 520 5200:=(hA.deeper _).mono (qb rfl) (qb rfl)
 have hfr2:(A.deeper (bw N0 (N0+1))).frames=some (bw N0 (N0+1)::outer):=by
  show A.frames.map _=_
  rw[hfr];rfl
 generalize A.deeper (bw N0 (N0+1))=A2 at hA2 hfr2
 first|refine xq1 o9 ?_|refine xq2 o9 ?_|refine xq3 o9 ?_|rw[o9]
 refine ah _ _ ?_
 have P2:Pre (wf w a b c) (vu (wf w a b c).params p N0 s.toks) s1.heap.objs.size s1.toks s1:=ag P1b (qc (qb rfl) (qk (k:=2) (ql oNM ltM) (qg P1z))) ⟨x0,K1' _ _ hNM n0m,zt⟩ (gx (by omega) (by omega)) ⟨⟨zt,zt⟩,zt,zt⟩
 refine eb (modA:=fun _=>False) (jf8 (d:=N0+1) (rl:=(fil (kF ks false) 8).map (nmV p.nt)) A2.frames) P2 hA2.cx hA2.cx ⟨zt,M6 (N:=s1.heap.objs.size) rfl rfl rfl rfl rfl (by omega) (qg P1z) ⟨oNM,(qw (k:=2) (qk (k:=2) ltM (qg P1z)))⟩ (K1' _ _ hNM n0m) x1 (K1' _ _ hen n0m) ⟨oen,by omega⟩ hks,(fun b hb=>hb.elim),(fun b hb=>hb),fun o h3 _ _ hsz3 hle3 _ _ _ _ _=>⟨zt,fun s4 r4z hsz4 hex hkept hacc=>?_⟩⟩
 have hle3':s1.heap.objs.size+3≤o.size:=hle3
 have hsz4':s4.heap.objs.size=o.size+0:=hsz4
 have y0:s4.heap.get? N0=some (frS (wf w a b c).params [("names",s.toks,.ref p.NM),("lost",o.toks,.ref (s1.heap.objs.size+1))] 2 #[]):=hex (0,_) (.head _)
 have y1:s4.heap.get? p.NM=some (lO (ai p.nt) p.e1):=hex (1,_) (.tail _ (.head _))
 have y3:s4.heap.get? (s1.heap.objs.size+1)=some (lO ((fil (kF ks false) 8).map (nmV p.nt)) ((fil (kF ks false) 8).map (nmV p.nt)).length):=hex (3,_) (.tail _ (.tail _ (.head _)))
 have K4:af [N0] s1.heap s4.heap:=fun y ob e hy=>by
  rw[List.mem_singleton] at hy
  by_cases e2:y=p.NM
  ·exact sg (K1' _ _ hNM n0m) y1 e e2
  have hly:@LT.lt Nat _ y s1.heap.objs.size:=Heap.lt_size e
  refine hacc y ob e (fun hm=>?_) (fun q=>q)
  have hm':y∈[N0,p.NM,s1.heap.objs.size+0,s1.heap.objs.size+1,s1.heap.objs.size+2]:=hm
  replace hm':=mO5 hm'
  rcases hm' with q|q|q|q|q
  ·exact hy q
  ·exact e2 q
  ·have:=ax q;exact(qf (qy hly q))
  ·have:=ax q;exact(qn (k:=1) (qq hly q))
  ·have:=ax q;exact(qn (k:=2) (ql (qg q) hly))
 have r4:ae s4=ae s:=r4z.trans (r1)
 have B4:Based (wf w a b c).params s4.heap:=⟨fun y ob e=>K4 y ob (P1b.kt y ob e) (fun q=>by have:=ax (List.mem_singleton.mp q);have:=bm e;omega)⟩
 refine ah _ _ ?_
 have n4:∀{y:Nat},y≠N0→y∉[N0]:=fun{y} h=>by rw[List.mem_singleton];exact h
 have z1:=K4 _ _ x1 (n4 (qj (Nat.le_refl _)))
 have zen:=K4 _ _ (K1' _ _ hen n0m) (n4 (qh ltE))
 have lo4:@LT.lt Nat _ (s1.heap.objs.size+1) s4.heap.objs.size:=Heap.lt_size y3
 generalize hlo:s1.heap.objs.size+1=lo at *
 have P5:Pre (wf w a b c) (vt (wf w a b c).params p N0 s.toks o.toks (.ref lo)) s4.heap.objs.size s4.toks s4:=ag B4 (qc (qb rfl) (qy (qk (k:=3) (qk (k:=2) (ql oNM ltM) (qg P1z)) hle3') hsz4')) ⟨y0,y1,zt⟩ (gx (by omega) (by omega)) ⟨⟨zt,zt⟩,zt,zt⟩
 refine eb (modA:=fun _=>False) (jf2 (d:=N0+1) (rl:=(fil (kF ks true) 8).map (nmV p.nt)) A2.frames) P5 hA2.cx hA2.cx ⟨zt,M6 (N:=s4.heap.objs.size) rfl rfl rfl rfl rfl (by omega) (qw (k:=3) (qy (qk (k:=3) (qg P1z) hle3') hsz4')) ⟨oNM,(qw (k:=5) (qy (qk (k:=3) (qk (k:=2) ltM (qg P1z)) hle3') hsz4'))⟩ y1 z1 zen ⟨oen,by omega⟩ hks,(fun b hb=>hb.elim),(fun b hb=>hb),fun o2 h5 _ _ hsz5 hle5 _ _ _ _ _=>⟨zt,fun s6 r6z hsz6 hex6 hkept6 hacc6=>?_⟩⟩
 have hle5':s4.heap.objs.size+3≤o2.size:=hle5
 have hsz6':s6.heap.objs.size=o2.size+0:=hsz6
 have u0:s6.heap.get? N0=some (frS (wf w a b c).params [("names",s.toks,.ref p.NM),("lost",o.toks,.ref lo),("kept",o2.toks,.ref (s4.heap.objs.size+1))] 3 #[]):=hex6 (0,_) (.head _)
 have u1:s6.heap.get? p.NM=some (lO (ai p.nt) p.e1):=hex6 (1,_) (.tail _ (.head _))
 have u3:s6.heap.get? (s4.heap.objs.size+1)=some (lO ((fil (kF ks true) 8).map (nmV p.nt)) ((fil (kF ks true) 8).map (nmV p.nt)).length):=hex6 (3,_) (.tail _ (.tail _ (.head _)))
 have K6:af [N0] s4.heap s6.heap:=fun y ob e hy=>by
  rw[List.mem_singleton] at hy
  by_cases e2:y=p.NM
  ·exact sg y1 u1 e e2
  have hly:@LT.lt Nat _ y s4.heap.objs.size:=Heap.lt_size e
  refine hacc6 y ob e (fun hm=>?_) (fun q=>q)
  have hm':y∈[N0,p.NM,s4.heap.objs.size+0,s4.heap.objs.size+1,s4.heap.objs.size+2]:=hm
  replace hm':=mO5 hm'
  rcases hm' with q|q|q|q|q
  ·exact hy q
  ·exact e2 q
  ·have:=ax q;exact(qf (qy hly q))
  ·have:=ax q;exact(qn (k:=1) (qq hly q))
  ·have:=ax q;exact(qn (k:=2) (ql (qg q) hly))
 have r6:ae s6=ae s:=r6z.trans (r4)
 have B6:Based (wf w a b c).params s6.heap:=⟨fun y ob e=>K6 y ob (B4.kt y ob e) (fun q=>by have:=ax (List.mem_singleton.mp q);have:=bm e;omega)⟩
 have lo6:@LT.lt Nat _ (s4.heap.objs.size+1) s6.heap.objs.size:=Heap.lt_size u3
 have K0:af [] s.heap s6.heap:=fun y ob e _=>by
  have hly:@LT.lt Nat _ y s.heap.objs.size:=Heap.lt_size e
  exact K6 _ _ (K4 _ _ (K1' _ _ e n0m) (n4 (qh (qx hly hN0)))) (n4 (qh (qx hly hN0)))
 have Z:KZ p N0 lo (s4.heap.objs.size+1) s.heap outer fs:=⟨(qv (qy (ql oNM ltM) hN0)),hN0.symm,⟨(qv (ql (qg P1z) (qe hlo))),(qr (k:=1) (qw (k:=3) (qy (qk (k:=3) (qg P1z) hle3') hsz4')))⟩,⟨oNM,(qy ltM hN0)⟩,hfs,fun x hx=>by rw[hN0];exact hfo2 x hx⟩
 have X:KX (wf w a b c) p N0 s.toks o.toks o2.toks lo (s4.heap.objs.size+1) ks s.heap outer fs (N0+1) s6.heap:=⟨B6,(qw (k:=6) (qy (qk (k:=3) (qy (qk (k:=3) (qk (k:=2) (qe hN0) (qg P1z)) hle3') hsz4') hle5') hsz6')),⟨_,u0⟩,u1,⟨_,K6 _ _ y3 (n4 (qj (qw (k:=2) (ql (qg P1z) (qe hlo)))))⟩,⟨_,u3⟩,fun y ob e=>⟨ob.slots,K0 y ob e n0m,fun _=>rfl⟩,⟨by rw[jlx];exact(fun e=>by cases e),⟨N0,_,rfl,cf _,u0,(fun vs e=>by cases e)⟩,gp K0 hff⟩⟩
 refine wpAny_execs_cons ?_
 first|refine xq1 pf ?_|refine xq2 pf ?_|refine xq3 pf ?_|rw[pf]
 refine wpAny_Return_some (uc ?_)
 refine jpr hA2 hfr2 Z X fun s7 X7 r7=>wpAny_truthy_bool ?_
 first|refine itp rfl ?_|rw[if_pos rfl]
 refine jpq hA2 hfr2 Z X7 fun s8 X8 r8=>wpAny_truthy_bool ?_
 first|refine itp rfl ?_|rw[if_pos rfl]
 refine jpp hA2 hfr2 Z X8 fun s9 X9 r9=>?_
 have sz:=X9.size
 exact hR s9 X9.old (qw (k:=2) (qk (k:=2) (qg hN0) sz)) (r9.trans (r8.trans (r7.trans r6)))
end
theorem mr(P:Params)(nt:Fin 8→Nat)(k:Fin 8)(v:Value):∀(kvs:KV),kvs.lookup k=some v→∃i:Nat,(kvs.map (ent P nt)).findIdx? (fun e=>e.key.isStr (nmS k))=some i∧(kvs.map (ent P nt))[i]?=some (ent P nt (k,v))
 |[],h=>by cases h
 |(k',v')::l,h=>by
  rw[List.map_cons,List.findIdx?_cons]
  rw[List.lookup_cons] at h
  have e1:(ent P nt (k',v')).key.isStr (nmS k)=(k'==k):=by
   show(nmS k'==nmS k)=(k'==k)
   by_cases h:k'=k
   ·subst h;simp
   ·rw[beq_eq_false_iff_ne.mpr h]
    exact beq_eq_false_iff_ne.mpr fun e=>h (gj e)
  rw[e1]
  by_cases hk:k'=k
  ·subst hk
   rw[beq_self_eq_true] at h ⊢
   cases h
   exact⟨0,rfl,rfl⟩
  ·rw[beq_eq_false_iff_ne.mpr hk]
   rw[beq_eq_false_iff_ne.mpr (fun e=>hk e.symm)] at h
   obtain⟨i,h1,h2⟩:=mr P nt k v l h
   refine⟨i+1,?_,h2⟩
   rw[h1];rfl
theorem th(x y:Addr):Builtin.«dict.__eq__» ⟨[.ref x,.ref y],[]⟩=(do
  let(self,other) ←Builtin.Dict.dictSlotArgs "__eq__" ⟨[.ref x,.ref y],[]⟩
  if !(←isInstance other (.type "dict")) then rule s!"dict.{"__eq__"}.not-a-dict";return ←ret .notImplemented
  ret (.bool ((←Builtin.Dict.samePairs s!"dict.{"__eq__"}" (←Builtin.Dict.addrOf self) (←Builtin.Dict.addrOf other))==true))):=rfl
section
variable{prog:Program}{w:World}{A:Around}{E:Value→Shared→Prop}{s:Shared}{P:Params}{nt:Fin 8→Nat}
theorem i6{d:Addr}{kvs:KV}{ep t:Nat}{h:Int}{k:Fin 8}{v:Value}{Q:Option Nat→Shared→Prop}(ho:s.heap.get? d=some (dO P nt kvs ep))(hk:kvs.lookup k=some v)
  (hQ:∀i:Nat,(⟨kvs.map (ent P nt)⟩:Array DictEntry)[i]?=some (ent P nt (k,v))→Q (some i) s):wpAny (model prog w) A (dictFind d (.str (nmS k) t) h) Q E s:=by
 unfold dictFind
 refine wpAny_holding (wpAny_bind (wpAny_dictEntries ho rfl ?_))
 have hall:((⟨kvs.map (ent P nt)⟩:Array DictEntry).all fun e=>isExactStrKey e.key)=true:=by
  rw[Array.all_eq_true']
  intro e he
  have he':e∈kvs.map (ent P nt):=by simpa using he
  obtain⟨q,_,rfl⟩:=List.mem_map.mp he'
  rfl
 dsimp only
 refine wif hall ?_
 unfold foundByValue
 obtain⟨i,h1,h2⟩:=mr P nt k v kvs hk
 have h1':(⟨kvs.map (ent P nt)⟩:Array DictEntry).findIdx? (fun e=>e.key.isStr (nmS k))=some i:=by rw[List.findIdx?_toArray];exact h1
 have h2':(⟨kvs.map (ent P nt)⟩:Array DictEntry)[i]?=some (ent P nt (k,v)):=by rw[List.getElem?_toArray];exact h2
 rw[h1']
 dsimp only
 rw[h2']
 dsimp only
 refine wpAny_bind (wpAny_dictEpoch ho rfl ?_)
 refine wpAny_bind (SeqAt.EqAt.str_str _ _ _ _ prog w _ _ ?_)
 refine wpAny_bind (wpAny_dictEpoch ho rfl ?_)
 rw[if_neg (by simp),if_pos (by simp)]
 exact wpAny_bind (wpAny_rule (wpAny_pure (hQ i h2')))
theorem yl{kvs kvs2:KV}{ep ep2:Nat}(x y:Addr)(hx:(x==sysModules)=false)(hy:(y==sysModules)=false)(hn:kvs.length=kvs2.length) :
  Meets (Builtin.«dict.__eq__» ⟨[.ref x,.ref y],[]⟩) (fun A R s=>s.heap.get? x=some (dO P nt kvs ep)∧s.heap.get? y=some (dO P nt kvs2 ep2) ∧
   (∀q∈kvs,∃v2,kvs2.lookup q.1=some v2∧SeqAt.EqAt A.in1 s q.2 v2 true)∧R (.ok (.ret (.bool true))) s):=by
 rintro prog w A R s ⟨h1,h2,hv,hR⟩
 have tx:s.TypeIs (.ref x) "dict" := ⟨_,h1,rfl⟩
 have ty:s.TypeIs (.ref y) "dict" := ⟨_,h2,rfl⟩
 rw[th]
 refine wpAny_bind ?_
 ·unfold Builtin.Dict.dictSlotArgs
  refine wpAny_bind (wpAny_notOrdered_dict tx ?_)
  refine wpAny_bind (wpAny_pure (wpAny_pure ?_))
  refine wpAny_bind (wpAny_isInstance ty F.sub_dict_dict ?_)
  refine wie (by simp) ?_
  refine wpAny_bind (wpAny_pure ?_)
  refine wpAny_bind (wpAny_pure ?_)
  refine wpAny_bind ?_
  unfold Builtin.Dict.samePairs Builtin.Dict.showsAll
  rw[if_neg (by rw[hx];exact Bool.false_ne_true)]
  refine wpAny_bind (wpAny_pure ?_)
  rw[if_neg (by rw[hy];exact Bool.false_ne_true)]
  refine wpAny_bind (wpAny_pure ?_)
  refine wpAny_bind (wpAny_dictEntries h1 rfl ?_)
  refine wpAny_bind (wpAny_dictEntries h2 rfl ?_)
  have sz1:(⟨kvs.map (ent P nt)⟩:Array DictEntry).size=kvs.length:=by simp
  have sz2:(⟨kvs2.map (ent P nt)⟩:Array DictEntry).size=kvs2.length:=by simp
  rw[sz1,sz2,if_neg (by rw[hn];simp)]
  refine wpAny_bind (wpAny_dictEpoch h1 rfl ?_)
  refine wpAny_bind ?_
  rw[Std.Legacy.Range.forIn_eq_forIn_range']
  simp only[Std.Legacy.Range.size,Nat.sub_zero,Nat.add_sub_cancel,Nat.div_one]
  refine wpAny_forIn_list _ (fun rest r s'=>s'=s∧r=(none,())∧∃i,rest=List.range' i (kvs.length-i)∧i≤kvs.length) _ ?_ ?_ _ _ ⟨rfl,rfl,0,by simp,Nat.zero_le _⟩
  ·rintro j rest r s' ⟨rfl,rfl,i,hr,hi⟩
   have hlt:i<kvs.length:=by
    rcases Nat.lt_or_ge i kvs.length with h|h
    ·exact h
    ·rw[Nat.sub_eq_zero_of_le h] at hr;simp at hr
   obtain⟨rfl,hrest⟩:j=i∧rest=List.range' (i+1) (kvs.length-(i+1)):=by
    have e:kvs.length-i=(kvs.length-(i+1))+1:=by omega
    rw[e,List.range'_succ] at hr
    injection hr with h1 h2
    exact⟨h1,h2⟩
   refine wpAny_bind (wpAny_dictEntries h1 rfl ?_)
   have hj:(⟨kvs.map (ent P nt)⟩:Array DictEntry)[j]?=some (ent P nt kvs[j]):=by rw[List.getElem?_toArray,List.getElem?_map,List.getElem?_eq_getElem hlt];rfl
   rw[hj]
   dsimp only
   obtain⟨v2,hv1,hv2⟩:=hv kvs[j] (List.getElem_mem hlt)
   refine wpAny_bind (wpAny_holding ?_)
   refine wpAny_bind (i6 h2 hv1 fun m hm=>?_)
   dsimp only
   refine wpAny_bind (wpAny_dictEntries h2 rfl ?_)
   rw[hm]
   dsimp only
   refine wpAny_holding (hv2 prog w _ _ ?_)
   refine wie (by simp) ?_
   refine wpAny_bind (wpAny_dictEpoch h1 rfl ?_)
   refine wie (by simp) ?_
   exact wpAny_pure ⟨rfl,rfl,j+1,hrest,hlt⟩
  ·rintro r s' ⟨rfl,rfl,i,hr,hi⟩
   exact wpAny_pure (wpAny_pure hR)
end
section
variable{A:Around}{s:Shared}{P:Params}{nt:Fin 8→Nat}
theorem vf{x y:Addr}{kvs kvs2:KV}{ep ep2:Nat}(h1:s.heap.get? x=some (dO P nt kvs ep))(h2:s.heap.get? y=some (dO P nt kvs2 ep2))(hx:x≠1)(hy:y≠1)(hn:kvs.length=kvs2.length)(hu:A.units<cLine)
  (hv:∀q∈kvs,∃v2,kvs2.lookup q.1=some v2∧SeqAt.EqAt A.in1 s q.2 v2 true):SeqAt.RcAt A s (.ref x) (.ref y) true:=fun prog w E Q h=>
 richCompare_meets_room (op:=.Eq) ⟨_,h1,rfl⟩ ⟨_,h2,rfl⟩ F.slot_dict_eq F.entry_dict_eq (F.args_dict_eq_2 _ _) (yl (P:=P) (nt:=nt) x y (beq_eq_false_iff_ne.mpr hx) (beq_eq_false_iff_ne.mpr hy) hn)
  ⟨h1,h2,hv,show Value.bool true≠Value.notImplemented∧Q (.bool true) s from⟨(fun x=>nomatch x),h⟩⟩ hu
end
noncomputable def laS:List Stmt:=d6 (st1 28)
noncomputable def ca(L:Nat):Env:=xq 28 "law.<locals>." L 256 255
noncomputable def lgO(dd:Option Nat)(xs:List Value)(e:Nat)(sl:Array (Option Value)):Obj:=⟨.type "list",dd,.seq ⟨xs⟩ e,sl⟩
noncomputable def spO(lo hi:Value):Obj:=⟨.type "slice",none,.fields #[lo,hi,.none],#[]⟩
noncomputable def sV(f:Nat→Int)(u:Nat→Nat)(m:Nat):List Value:=(List.range m).map fun k=>.int (f k) (u k)
noncomputable def cs8(k:Fin 8):Int:=(([62701,13823,3071,7679,6143,6143,62593,1479]:List Int)[k.val]?).getD 0
noncomputable def nU(m:Nat)(f:Nat→Int)(k:Fin 8):Int:=if k.val<m then f k.val else cs8 k
noncomputable def tU(m:Nat)(u:Nat→Nat)(t:Nat)(k:Fin 8):Nat:=if k.val<m then u k.val else t+(1+k.val)
noncomputable def slX(l sa:Nat)(dd:Option Nat)(xs:List Value)(e:Nat)(sl:Array (Option Value))(t:Nat)(out:List Value)(na j j2 i tk:Nat):XSpec:=
 ⟨.call (.builtin "list.__getitem__") ⟨[.ref l,.ref sa],[]⟩,980,9800,none,[(j,lgO dd xs e sl),(j2,spO .none (.int 8 t))],i,tk,rv (.ref na),[],[lO out 0],0⟩
section
variable{w:World}{A:Around}{R:Result→Shared→Prop}{s:Shared}{l sa t:Nat}{dd:Option Nat}{xs:List Value}{e:Nat}{sl:Array (Option Value)}
theorem jfs(ho:s.heap.get? l=some (lgO dd xs e sl))(hs:s.heap.get? sa=some (spO .none (.int 8 t)))(hl:xs.length≤1000)(h:R (rv (.ref s.heap.objs.size)) { s with heap:=s.heap.push (lO (xs.take 8) 0) }) :
  codeAny (model PG w) A (.call (.builtin "list.__getitem__") ⟨[.ref l,.ref sa],[]⟩) R s:=by
 have hT:s.TypeIs (.ref l) "list" := ⟨_,ho,rfl⟩
 have hTs:s.TypeIs (.ref sa) "slice" := ⟨_,hs,rfl⟩
 refine bf (S:=fun _ R s'=>s'=s∧R (rv (.ref s.heap.objs.size)) { s with heap:=s.heap.push (lO (xs.take 8) 0) }) F.slot_list_getitem hT F.entry_list_getitem (F.args_list_getitem_2 _ _) (.of_wp fun A R s' ⟨e1,h⟩=>?_) ⟨rfl,h⟩
 subst e1
 show wpAny _ _ (Builtin.List.listSubscript? (.ref sa)>>=_) _ _ s'
 refine wpAny_bind ?_
 unfold Builtin.List.listSubscript?
 refine wpAny_bind (wpAny_specialOf hTs slice_no_index ?_)
 simp only[Option.isNone_none,if_true]
 refine wpAny_pure ?_
 show wpAny _ _ (typeOf (.ref sa)>>=_) _ _ s'
 refine wpAny_bind (wpAny_typeOf hTs ?_)
 refine wie (by decide) ?_
 first|refine xq1 listSliceParts_eq ?_|refine xq2 listSliceParts_eq ?_|refine xq3 listSliceParts_eq ?_|rw[listSliceParts_eq]
 refine wpAny_bind (wpAny_bind (wpAny_field hs rfl (x:=.none) rfl (wpAny_bind (wpAny_listPart (k:=none) .none ?_))))
 refine wie (show ¬((rawPart none==rawInt 0)=true) from Bool.false_ne_true) ?_
 refine wpAny_bind (wpAny_field hs rfl (x:=.none) rfl (wpAny_bind (wpAny_listPart (k:=none) .none ?_)))
 refine wpAny_bind (wpAny_field hs rfl (x:=.int 8 t) rfl (wpAny_bind (wpAny_listPart (k:=some 8) (.int _ _) (wpAny_pure ?_))))
 refine wpAny_bind (m:=Builtin.List.listItems (.ref l)) ?_
 unfold Builtin.List.listItems
 refine wpAny_bind (wpAny_seqItems ho rfl (wpAny_pure ?_))
 refine wpAny_bind (wpAny_of_eq (sliceIndices_raw none (some 8) none (⟨xs⟩:Array Value).size (by simp)) ?_)
 have e3:=slicePick_upto' (⟨xs⟩:Array Value) 8
 refine wpAny_bind (wpAny_newObj_type (wpAny_pure ⟨_,rfl,?_⟩) ?_)
 ·show R _ { s' with heap:=s'.heap.push { cls:=.type "list",data:=.seq (slicePick ⟨xs⟩ none (some ((8:Nat):Int)) none) } }
  rw[e3]
  exact h
 ·refine Nat.le_trans (slicePick_size_le (⟨xs⟩:Array Value) none (some 8) none) ?_
  show xs.length≤2 ^ 24
  omega
theorem zx{V:SV}{h₀:Heap}{out:List Value}{na j j2 i tk:Nat}(hp1:aj V.pre V.N j=l)(hp2:aj V.pre V.N j2=sa)(hna:na=V.N+i)(hout:out=xs.take 8)(hl:xs.length≤1000):XOk V h₀ (slX l sa dd xs e sl t out na j j2 i tk):=
 ig rfl fun A s R _ _ _ hsz hpre hR=>by
  have h1:=hpre (j,_) (.head _)
  have h2:=hpre (j2,_) (.tail _ (.head _))
  rw[hp1] at h1
  rw[hp2] at h2
  refine jfs h1 h2 hl ?_
  rw[hsz,←hout,←hna]
  exact hR
end
section
variable{w:World}{a b c:Bool}{N t₀ L sc ts nl tn:Nat}{dd:Option Nat}{xs:List Value}{f:Nat→Int}{u:Nat→Nat}{e:Nat}{sl:Array (Option Value)}
noncomputable def jfq:List Nat:=dH 32 99829266904739140691960450167143999680869772825664692353
noncomputable def jfr(X0 X1:XSpec):List CH:=[.x X0,.x X1,.p,.p,.p,.p,.p,.p,.p,.p,.p]
theorem jfp(ff:Option (List Env)):∀(m:Fin 9),au 200 (wf w a b c) N t₀ ([(L,frO (wf w a b c).params [("script",ts,.ref sc)] 1),(sc,lgO dd xs e sl)]) (.fin jfq (jfr (slX sc N dd xs e sl t₀ (sV f u m.val) (N+1) 1 2 1 1) (slX sc (N+3) dd xs e sl (t₀+9) (sV f u m.val) (N+4) 1 5 4 10)) ⟨.ok (.done .next),[(0,frO (wf w a b c).params [("script",ts,.ref sc),("numbers",t₀+12,.ref (N+7))] 2),(1,lgO dd xs e sl),(9,lO (a8 (nU m.val f) (tU m.val u t₀)) 0)],8,13⟩) ⟨none,420,4200,ff⟩ (ar [ak laS 0] (ca L))
 |0=>by cases c<;>kernel_rfl
 |1=>by cases c<;>kernel_rfl
 |2=>by cases c<;>kernel_rfl
 |3=>by cases c<;>kernel_rfl
 |4=>by cases c<;>kernel_rfl
 |5=>by cases c<;>kernel_rfl
 |6=>by cases c<;>kernel_rfl
 |7=>by cases c<;>kernel_rfl
 |8=>by cases c<;>kernel_rfl
noncomputable def jfn:List Nat:=[1,1]
noncomputable def jfo:List CH:=[]
theorem jfm(ff:Option (List Env)):au 60 (wf w a b c) N t₀ ([(L,frO (wf w a b c).params [("script",ts,.ref sc),("numbers",tn,.ref nl)] 2)]) (.fin jfn jfo ⟨.ok (.done .next),[(0,frO (wf w a b c).params [("script",ts,.ref sc),("numbers",tn,.ref nl),("names",t₀+8,.ref N)] 3),(1,lO (ai fun k=>t₀+k.val) 0)],1,9⟩) ⟨none,420,4200,ff⟩ (ar [ak laS 1] (ca L)):=by kernel_rfl
end
noncomputable def vF(g:Fin 8→Value):List Value:=[g 0,g 1,g 2,g 3,g 4,g 5,g 6,g 7]
noncomputable def jlp(p:Par)(t:Nat)(k:Fin 8):Value:=.int (Builtin.bitAnd (dq (p.n k)) 61440) (t+(14+15*k.val))
noncomputable def jlo(p:Par)(t:Nat)(k:Fin 8):Value:=.int (bp (p.n k) 16384 32768 40960) (bp (p.n k) (t+(1+6*k.val)) (t+(2+6*k.val)) (t+(3+6*k.val)))
noncomputable def la(P:Params)(p:Par)(sc ts tn tm:Nat):Obj:=frO P [("script",ts,.ref sc),("numbers",tn,.ref p.NL),("names",tm,.ref p.NM)] 3
section
variable{w:World}{a b c:Bool}{N t₀ L sc ts tn tm:Nat}{p:Par}
noncomputable def je9:List Nat:=dH 152 2747822983088262402859296724849873504341596246969160156211245975325074737258475847099070851085200929115909522178907988863864465196412457432829995989140350402565971519249644918737828213655627359358532818802875641118693994301431094930619671480355388303149214546777513164021889
noncomputable def jfa(X0 X1 X2 X3 X4 X5 X6 X7:XSpec):List CH:=[.p,.p,.p,.p,.p,.p,.p,.p,.x X0,.p,.p,.p,.p,.p,.p,.p,.p,.x X1,.p,.p,.p,.p,.p,.p,.p,.p,.x X2,.p,.p,.p,.p,.p,.p,.p,.p,.x X3,.p,.p,.p,.p,.p,.p,.p,.p,.x X4,.p,.p,.p,.p,.p,.p,.p,.p,.x X5,.p,.p,.p,.p,.p,.p,.p,.p,.x X6,.p,.p,.p,.p,.p,.p,.p,.p,.x X7,.p,.p,.p,.p,.p,.p]
theorem je8(ff:Option (List Env)):au 2000 (wf w a true c) N t₀ ([(L,la (wf w a true c).params p sc ts tn tm),(p.NL,lO (a8 p.n p.tn) p.e2)]) (.fin je9 (jfa (cb (N+3) (p.n 0) (t₀+1) (t₀+2) (t₀+3) (t₀+5) 5 4 6) (cb (N+4) (p.n 1) (t₀+7) (t₀+8) (t₀+9) (t₀+11) 6 5 12) (cb (N+5) (p.n 2) (t₀+13) (t₀+14) (t₀+15) (t₀+17) 7 6 18) (cb (N+6) (p.n 3) (t₀+19) (t₀+20) (t₀+21) (t₀+23) 8 7 24) (cb (N+7) (p.n 4) (t₀+25) (t₀+26) (t₀+27) (t₀+29) 9 8 30) (cb (N+8) (p.n 5) (t₀+31) (t₀+32) (t₀+33) (t₀+35) 10 9 36) (cb (N+9) (p.n 6) (t₀+37) (t₀+38) (t₀+39) (t₀+41) 11 10 42) (cb (N+10) (p.n 7) (t₀+43) (t₀+44) (t₀+45) (t₀+47) 12 11 48)) ⟨.ok (.done (.ret (.ref (N+1)))),[(0,la (wf w a true c).params p sc ts tn tm),(1,lO (a8 p.n p.tn) p.e2),(3,lO (vF (jlo p t₀)) 8)],13,48⟩) ⟨none,420,4200,ff⟩ (evT (jl (teS (ak laS 2))) (ca L)):=by cases c<;>kernel_rfl
noncomputable def F9:List Nat:=dH 156 46100819717036125397449438760898895355015898020190945279349815357159449083128697117564085067960250391178303090052329973294648727324694223441394333988941313019536258428299450724966991311394609823467726544144706052186810780297878588767511242274962106325807852681628442300106534297729
noncomputable def G0(X0 X1 X2 X3 X4 X5 X6 X7:XSpec):List CH:=[.p,.p,.p,.p,.p,.p,.p,.p,.p,.p,.x X0,.p,.p,.p,.p,.p,.p,.p,.p,.x X1,.p,.p,.p,.p,.p,.p,.p,.p,.x X2,.p,.p,.p,.p,.p,.p,.p,.p,.x X3,.p,.p,.p,.p,.p,.p,.p,.p,.x X4,.p,.p,.p,.p,.p,.p,.p,.p,.x X5,.p,.p,.p,.p,.p,.p,.p,.p,.x X6,.p,.p,.p,.p,.p,.p,.p,.p,.x X7,.p,.p,.p,.p,.p,.p]
theorem F0(ff:Option (List Env)):au 2000 (wf w a false c) N t₀ ([(L,la (wf w a false c).params p sc ts tn tm),(p.NL,lO (a8 p.n p.tn) p.e2)]) (.fin F9 (G0 (cb (N+3) (p.n 0) (t₀+1) (t₀+2) (t₀+3) (t₀+5) 5 4 6) (cb (N+4) (p.n 1) (t₀+7) (t₀+8) (t₀+9) (t₀+11) 6 5 12) (cb (N+5) (p.n 2) (t₀+13) (t₀+14) (t₀+15) (t₀+17) 7 6 18) (cb (N+6) (p.n 3) (t₀+19) (t₀+20) (t₀+21) (t₀+23) 8 7 24) (cb (N+7) (p.n 4) (t₀+25) (t₀+26) (t₀+27) (t₀+29) 9 8 30) (cb (N+8) (p.n 5) (t₀+31) (t₀+32) (t₀+33) (t₀+35) 10 9 36) (cb (N+9) (p.n 6) (t₀+37) (t₀+38) (t₀+39) (t₀+41) 11 10 42) (cb (N+10) (p.n 7) (t₀+43) (t₀+44) (t₀+45) (t₀+47) 12 11 48)) ⟨.ok (.done (.ret (.ref (N+1)))),[(0,la (wf w a false c).params p sc ts tn tm),(1,lO (a8 p.n p.tn) p.e2),(3,lO (vF (jlo p t₀)) 8)],13,48⟩) ⟨none,420,4200,ff⟩ (evT (jl (teS (ak laS 2))) (ca L)):=by cases c<;>kernel_rfl
noncomputable def jfc:List Nat:=dH 256 191298367807073324112638800299675481007624002629468450660886579791314748184123369150727392128945963649939202487387487005202657034614686599111005998621429782542107155324663431445016692955247061550789485980152821462496760123997172754240202042358450092566125700866204114859749755174429126780899751050359363968057910693686627748966065335043683714017150047406558180104073061136959590117009002580010585448741985852567242948987380393238493461151696570243492793339617409
noncomputable def jfd(X0 X1 X2 X3 X4 X5 X6 X7:XSpec):List CH:=[.p,.p,.p,.p,.p,.p,.f,.p,.p,.p,.x X0,.p,.p,.p,.p,.p,.p,.p,.f,.p,.p,.p,.p,.p,.p,.p,.p,.f,.p,.p,.p,.x X1,.p,.p,.p,.p,.p,.p,.p,.f,.p,.p,.p,.p,.p,.p,.p,.p,.f,.p,.p,.p,.x X2,.p,.p,.p,.p,.p,.p,.p,.f,.p,.p,.p,.p,.p,.p,.p,.p,.f,.p,.p,.p,.x X3,.p,.p,.p,.p,.p,.p,.p,.f,.p,.p,.p,.p,.p,.p,.p,.p,.f,.p,.p,.p,.x X4,.p,.p,.p,.p,.p,.p,.p,.f,.p,.p,.p,.p,.p,.p,.p,.p,.f,.p,.p,.p,.x X5,.p,.p,.p,.p,.p,.p,.p,.f,.p,.p,.p,.p,.p,.p,.p,.p,.f,.p,.p,.p,.x X6,.p,.p,.p,.p,.p,.p,.p,.f,.p,.p,.p,.p,.p,.p,.p,.p,.f,.p,.p,.p,.x X7,.p,.p,.p,.p,.p,.p,.p,.f,.p,.p,.p,.p,.p,.p,.p,.p]
theorem jfb(ff:Option (List Env)):au 2000 (wf w a true c) N t₀ ([(L,la (wf w a true c).params p sc ts tn tm),(p.NL,lO (a8 p.n p.tn) p.e2)]) (.fin jfc (jfd (cb (N+4) (p.n 0) (t₀+2) (t₀+3) (t₀+4) (t₀+6) 6 5 7) (cb (N+7) (p.n 1) (t₀+17) (t₀+18) (t₀+19) (t₀+21) 9 8 22) (cb (N+10) (p.n 2) (t₀+32) (t₀+33) (t₀+34) (t₀+36) 12 11 37) (cb (N+13) (p.n 3) (t₀+47) (t₀+48) (t₀+49) (t₀+51) 15 14 52) (cb (N+16) (p.n 4) (t₀+62) (t₀+63) (t₀+64) (t₀+66) 18 17 67) (cb (N+19) (p.n 5) (t₀+77) (t₀+78) (t₀+79) (t₀+81) 21 20 82) (cb (N+22) (p.n 6) (t₀+92) (t₀+93) (t₀+94) (t₀+96) 24 23 97) (cb (N+25) (p.n 7) (t₀+107) (t₀+108) (t₀+109) (t₀+111) 27 26 112)) ⟨.ok (.done (.ret (.ref (N+1)))),[(0,la (wf w a true c).params p sc ts tn tm),(1,lO (a8 p.n p.tn) p.e2),(3,lO (vF (jlp p t₀)) 8)],29,120⟩) ⟨none,420,4200,ff⟩ (evT (ip (teS (ak laS 2))) (ca L)):=by cases c<;>kernel_rfl
noncomputable def G4:List Nat:=dH 260 3209454037146715486475749482608520274768805538899160161923036900660122454270645534889490014864026284483178386998637145183478100843650073845590755616167429690541960840027428516654237181315858285002890176817995598685744043900487350687202785548288866628201885166583693535090831348508515136694539797718105926914724668216690390055997454796140251105747954049750066404172936226475976626664525310229394874360001224917464789479638262131527144312329622125434251188306590501970049
noncomputable def G5(X0 X1 X2 X3 X4 X5 X6 X7:XSpec):List CH:=[.p,.p,.p,.p,.p,.p,.p,.p,.f,.p,.p,.p,.x X0,.p,.p,.p,.p,.p,.p,.p,.f,.p,.p,.p,.p,.p,.p,.p,.p,.f,.p,.p,.p,.x X1,.p,.p,.p,.p,.p,.p,.p,.f,.p,.p,.p,.p,.p,.p,.p,.p,.f,.p,.p,.p,.x X2,.p,.p,.p,.p,.p,.p,.p,.f,.p,.p,.p,.p,.p,.p,.p,.p,.f,.p,.p,.p,.x X3,.p,.p,.p,.p,.p,.p,.p,.f,.p,.p,.p,.p,.p,.p,.p,.p,.f,.p,.p,.p,.x X4,.p,.p,.p,.p,.p,.p,.p,.f,.p,.p,.p,.p,.p,.p,.p,.p,.f,.p,.p,.p,.x X5,.p,.p,.p,.p,.p,.p,.p,.f,.p,.p,.p,.p,.p,.p,.p,.p,.f,.p,.p,.p,.x X6,.p,.p,.p,.p,.p,.p,.p,.f,.p,.p,.p,.p,.p,.p,.p,.p,.f,.p,.p,.p,.x X7,.p,.p,.p,.p,.p,.p,.p,.f,.p,.p,.p,.p,.p,.p,.p,.p]
theorem G1(ff:Option (List Env)):au 2000 (wf w a false c) N t₀ ([(L,la (wf w a false c).params p sc ts tn tm),(p.NL,lO (a8 p.n p.tn) p.e2)]) (.fin G4 (G5 (cb (N+4) (p.n 0) (t₀+2) (t₀+3) (t₀+4) (t₀+6) 6 5 7) (cb (N+7) (p.n 1) (t₀+17) (t₀+18) (t₀+19) (t₀+21) 9 8 22) (cb (N+10) (p.n 2) (t₀+32) (t₀+33) (t₀+34) (t₀+36) 12 11 37) (cb (N+13) (p.n 3) (t₀+47) (t₀+48) (t₀+49) (t₀+51) 15 14 52) (cb (N+16) (p.n 4) (t₀+62) (t₀+63) (t₀+64) (t₀+66) 18 17 67) (cb (N+19) (p.n 5) (t₀+77) (t₀+78) (t₀+79) (t₀+81) 21 20 82) (cb (N+22) (p.n 6) (t₀+92) (t₀+93) (t₀+94) (t₀+96) 24 23 97) (cb (N+25) (p.n 7) (t₀+107) (t₀+108) (t₀+109) (t₀+111) 27 26 112)) ⟨.ok (.done (.ret (.ref (N+1)))),[(0,la (wf w a false c).params p sc ts tn tm),(1,lO (a8 p.n p.tn) p.e2),(3,lO (vF (jlp p t₀)) 8)],29,120⟩) ⟨none,420,4200,ff⟩ (evT (ip (teS (ak laS 2))) (ca L)):=by cases c<;>kernel_rfl
end
noncomputable def E9(P:Params)(p:Par)(sc ts tn tm:Nat)(sl:Array (Option Value)):Obj:=frS P [("script",ts,.ref sc),("numbers",tn,.ref p.NL),("names",tm,.ref p.NM)] 3 sl
noncomputable def jd(P:Params)(p:Par)(sc ts tn tm td tt da ra:Nat)(sl:Array (Option Value)):Obj:=frS P [("script",ts,.ref sc),("numbers",tn,.ref p.NL),("names",tm,.ref p.NM),("due",td,.ref da),("told",tt,.ref ra)] 5 sl
noncomputable def ur:PySem.Expr:=((jng (A3 (ak laS 4)))[0]?).getD default
noncomputable def jpk:PySem.Expr:=((jng (A3 (ak laS 4)))[1]?).getD default
structure LaO where
 ra:Nat
 sl:Array (Option Value)
 size:Nat
 toks:Nat
noncomputable def lrC(w:World)(p:Par)(sc ts tn tm:Nat)(outer:List Env)(h₀:Heap):CallSpec where
 Out:=LaO
 code:=.call (.ref 241) ⟨[.ref p.NM,.ref p.NL],[]⟩
 d:=500
 u:=1000
 fr:=some (some outer)
 pre:=[(0,E9 w.params p sc ts tn tm #[]),(1,lO (ai p.nt) p.e1),(2,lO (a8 p.n p.tn) p.e2)]
 i:=0
 tk:=0
 res o:=rv (.ref o.ra)
 upd o:=[(0,E9 w.params p sc ts tn tm o.sl)]
 new _:=[]
 size o:=o.size
 toks o:=o.toks
 rel _:=True
 mod b:=b=229
 facts o h':=∃np rs ps ring,LRes w p h₀.objs.size h' o.ra rs ps ring∧PI p [] np rs ps∧(ring=true↔∃v,¬ck (fBd p).su v)
noncomputable def duC(w:World)(p:Par)(N1:Nat):CallSpec where
 Out:=LaO
 code:=.call (.ref 246) ⟨[.ref p.NM,.ref p.NL],[]⟩
 d:=500
 u:=1000
 fr:=none
 pre:=[(1,lO (ai p.nt) p.e1),(2,lO (a8 p.n p.tn) p.e2)]
 i:=0
 tk:=0
 res o:=rv (.ref o.ra)
 upd _:=[]
 new _:=[]
 size o:=o.size
 toks o:=o.toks
 rel _:=True
 mod _:=False
 facts o h':=∃ks,DRes w p N1 h' o.ra ks∧KsI p 8 ks
noncomputable def keC(w:World)(p:Par)(sc ts tn tm td tt da ra re:Nat)(sl:Array (Option Value))(outer:List Env):CallSpec where
 Out:=LaO
 code:=.call (.ref 251) ⟨[.ref p.NM,.ref re],[]⟩
 d:=500
 u:=5000
 fr:=some (some outer)
 pre:=[(0,jd w.params p sc ts tn tm td tt da ra sl),(1,lO (ai p.nt) p.e1)]
 i:=0
 tk:=1
 res _:=rv (.bool true)
 upd o:=[(0,jd w.params p sc ts tn tm td tt da ra o.sl)]
 new _:=[]
 size o:=o.size
 toks o:=o.toks
 rel _:=True
 mod _:=False
 facts o h':=True
noncomputable def jfi:List Nat:=[0,1,1,0]
noncomputable def jfl:List CH:=[]
noncomputable def jfh:List Nat:=[0,1,1,0]
noncomputable def jfk:List CH:=[]
noncomputable def jfg:List Nat:=dH 31 1556821420773754379590263067889936210006247371030151428
noncomputable def jfj:List CH:=[.p,.p,.p,.p,.p,.p,.p,.p]
noncomputable def je5:List Nat:=dH 9 13403570311232
noncomputable def je7:List CH:=[.p,.p]
noncomputable def je4:List Nat:=[]
noncomputable def je6:List CH:=[]
section
variable{w:World}{a b c:Bool}{N t₀ L sc ts tn tm td tt da ra rr re:Nat}{p:Par}{sl:Array (Option Value)}{outer:List Env}{h₀:Heap}{rg:Bool}
noncomputable def oy(P:Params)(p:Par)(L sc ts tn tm:Nat):List (Nat×Obj):=[(L,E9 P p sc ts tn tm #[]),(p.NM,lO (ai p.nt) p.e1),(p.NL,lO (a8 p.n p.tn) p.e2)]
noncomputable def jfe(w:World)(p:Par)(sc ts tn tm:Nat)(outer:List Env)(h₀:Heap):Script:=
 .call jfi jfl (lrC w p sc ts tn tm outer h₀) fun o=>
  .call jfh jfk (duC w p o.size) fun o2=>
   .fin jfg jfj ⟨.ok (.done .next),[(0,jd w.params p sc ts tn tm o2.toks (o2.toks+1) o2.ra o.ra o.sl),(1,lO (ai p.nt) p.e1),(2,lO (a8 p.n p.tn) p.e2)],4,2⟩
theorem jff:au 400 (wf w a b c) N t₀ (oy (wf w a b c).params p L sc ts tn tm) (jfe (wf w a b c) p sc ts tn tm outer h₀) ⟨none,420,420,some outer⟩ (ar [ak laS 3] (ca L)):=by cases c<;>kernel_rfl
noncomputable def ow(P:Params)(p:Par)(L sc ts tn tm td tt da ra rr re:Nat)(rg:Bool)(sl:Array (Option Value)):List (Nat×Obj):=[(L,jd P p sc ts tn tm td tt da ra sl),(p.NM,lO (ai p.nt) p.e1),(da,lO [.ref rr,.bool rg,.ref re] 0)]
noncomputable def je2(w:World)(p:Par)(sc ts tn tm td tt da ra rr re:Nat)(rg:Bool)(sl:Array (Option Value))(outer:List Env):Script:=
 .call je5 je7 (keC w p sc ts tn tm td tt da ra re sl outer) fun o=>
  .fin je4 je6 ⟨.ok (.done (.ret (.bool true))),[(0,jd w.params p sc ts tn tm td tt da ra o.sl),(1,lO (ai p.nt) p.e1),(2,lO [.ref rr,.bool rg,.ref re] 0)],0,0⟩
theorem je3:au 400 (wf w a b c) N t₀ (ow (wf w a b c).params p L sc ts tn tm td tt da ra rr re rg sl) (je2 (wf w a b c) p sc ts tn tm td tt da ra rr re rg sl outer) ⟨none,420,4200,some outer⟩ (evT jpk (ca L)):=by cases c<;>kernel_rfl
noncomputable def je0:List Nat:=[1]
noncomputable def je1:List CH:=[]
theorem jez(ff:Option (List Env)):au 60 (wf w a b c) N t₀ ([(L,jd (wf w a b c).params p sc ts tn tm td tt da ra sl)]) (.fin je0 je1 ⟨.ok (.done (.ret (.ref ra))),[(0,jd (wf w a b c).params p sc ts tn tm td tt da ra sl)],0,0⟩) ⟨none,420,4200,ff⟩ (evT (ip ur) (ca L)):=by kernel_rfl
noncomputable def jex:List Nat:=[1]
noncomputable def jey:List CH:=[]
theorem jew(ff:Option (List Env)):au 60 (wf w a b c) N t₀ ([(L,jd (wf w a b c).params p sc ts tn tm td tt da ra sl)]) (.fin jex jey ⟨.ok (.done (.ret (.ref da))),[(0,jd (wf w a b c).params p sc ts tn tm td tt da ra sl)],0,0⟩) ⟨none,420,4200,ff⟩ (evT (jl ur) (ca L)):=by kernel_rfl
end
theorem gg:∀{l m:List (Fin 8)},l.Nodup→(∀x∈l,x∈m)→l.length≤m.length
 |[],m,_,_=>Nat.zero_le _
 |x::l,m,hn,h=>by
  obtain⟨h1,h2⟩:=List.nodup_cons.mp hn
  have hx:=h x (.head _)
  have:=gg (l:=l) (m:=m.erase x) h2 fun y hy=>(List.mem_erase_of_ne (fun e:y=x=>h1 (by rw[←e];exact hy))).mpr (h y (.tail _ hy))
  rw[List.length_erase_of_mem hx] at this
  have:=List.length_pos_of_mem hx
  rw[List.length_cons]
  omega
theorem jq3(g:Nat→Fin 8):∃i j,i<j∧g i=g j:=by
 apply Classical.byContradiction
 intro hn
 have:((List.range 9).map g).Nodup:=List.pairwise_map.mpr (List.Pairwise.imp (fun{x y} hab e=>hn ⟨x,y,hab,e⟩) List.pairwise_lt_range)
 have:=fv this
 rw[List.length_map,List.length_range] at this
 exact(qz this rfl)
noncomputable def itr(p:Par)(k:Fin 8):Nat→Fin 8
 |0=>k
 |n+1=>p.tg (itr p k n)
section
variable{p:Par}{np:Fin 8→Int}{rs:List (List (Fin 8))}{ps ks:List (Fin 8)}{ring:Bool}
theorem yw(h:∀v,ck (fBd p).su v)(k:Fin 8):∃d,DepthR p k d:=by
 apply Classical.byContradiction
 intro hk
 have no:∀n,¬∃d,DepthR p (itr p k n) d:=fun n=>by
  induction n with
  |zero=>exact hk
  |succ n ih=>
   rintro⟨d,hd⟩
   cases hl:p.lk (itr p k n) with
   |false=>exact ih ⟨0,.stay hl⟩
   |true=>exact ih ⟨d+1,.step hl hd⟩
 have lk:∀n,p.lk (itr p k n)=true:=fun n=>by
  cases hl:p.lk (itr p k n) with
  |false=>exact absurd ⟨0,.stay hl⟩ (no n)
  |true=>rfl
 obtain⟨i,j,hij,e⟩:=jq3 (itr p k)
 refine uk (su:=(fBd p).su) (S:=fun v=>∃m,i≤m∧itr p k m=v) (fun v hv=>?_) (h (itr p k i)) ⟨i,Nat.le_refl _,rfl⟩
 obtain⟨m,hm,rfl⟩:=hv
 by_cases hmi:m=i
 ·subst hmi
  refine⟨itr p k (j-1),((fy p _).2 _).mpr ⟨lk _,?_⟩,j-1,by omega,rfl⟩
  rw[e]
  show itr p k (j-1+1)=_
  rw[show j-1+1=j by omega]
 ·refine⟨itr p k (m-1),((fy p _).2 _).mpr ⟨lk _,?_⟩,m-1,by omega,rfl⟩
  show itr p k (m-1+1)=_
  rw[show m-1+1=m by omega]
theorem v9:∀(n:Nat) {v:Fin 8} {d:Nat},DepthR p v d→8-d≤n→ck (fBd p).su v
 |0,v,d,h,hn=>by have:=tq h;omega
 |n+1,v,d,h,hn=>Acc.intro v fun u hu=>by
  obtain⟨h1,h2⟩:=((fy p v).2 u).mp hu
  exact v9 n (.step h1 (by rw[h2];exact h)) (by omega)
theorem vk(hr:ring=true↔∃v,¬ck (fBd p).su v)(K:KsI p 8 ks):ring=decide (ks.length<8):=by
 have h8:=fv K.nd
 by_cases hl:ks.length<8
 ·rw[decide_eq_true hl]
  refine hr.mpr (Classical.byContradiction fun hn=>?_)
  have all:∀v,ck (fBd p).su v:=fun v=>Classical.byContradiction fun hv=>hn ⟨v,hv⟩
  have:=gg (List.nodup_finRange 8) (m:=ks) fun k _=>(K.mem k).mpr ⟨k.isLt,yw all k⟩
  rw[List.length_finRange] at this
  exact(qf (qc hl this))
 ·rw[decide_eq_false hl]
  cases hring:ring with
  |false=>rfl
  |true=>
   obtain⟨v,hv⟩:=hr.mp hring
   have hvk:v∉ks:=fun q=>by
    obtain⟨_,d,hd⟩:=(K.mem v).mp q
    exact hv (v9 _ hd (Nat.le_refl _))
   have:=fv (List.nodup_cons.mpr ⟨hvk,K.nd⟩)
   rw[List.length_cons] at this
   omega
theorem DepthR.down{k:Fin 8}{d:Nat}(h:DepthR p k d):∀e,e≤d→∃k',DepthR p k' e:=by
 induction h with
 |@stay k hl=>
  intro e he
  have:e=0:=(Nat.le_antisymm he (Nat.zero_le _))
  subst this
  exact⟨k,.stay hl⟩
 |@step k d hl hd ih=>
  intro e he
  by_cases h1:e=d+1
  ·subst h1;exact⟨k,.step hl hd⟩
  ·exact ih e (by omega)
theorem PI.depth_lt(I:PI p [] np rs ps){k:Fin 8}{d:Nat}(h:DepthR p k d):d<rs.length:=by
 apply Classical.byContradiction
 intro hn
 obtain⟨k',h'⟩:=h.down rs.length (Nat.le_of_not_lt hn)
 exact nomatch (I.rdl k').mpr h'
theorem PI.ps_mem(I:PI p [] np rs ps)(k:Fin 8):k∈ps↔∃d,DepthR p k d:=
 (I.psl k).trans ⟨fun⟨i,_,h⟩=>⟨i,h⟩,fun⟨d,h⟩=>⟨d,I.depth_lt h,h⟩⟩
theorem vy(m:Nat)(k:Fin 8):k∈fil (dpB p m) 8↔DepthR p k m:=by
 rw[jh,List.mem_filter]
 exact⟨fun h=>dpB_iff.mp h.2,fun h=>⟨List.mem_finRange _,dpB_iff.mpr h⟩⟩
theorem PI.take(I:PI p [] np rs ps):∀n,rdU p n=rs.take n
 |0=>rfl
 |n+1=>by
  rw[rx,I.take n]
  by_cases hn:n<rs.length
  ·have hr:rs[n]?=some rs[n]:=List.getElem?_eq_getElem hn
   obtain⟨h1,h2,h3⟩:=I.lev n _ hr
   have e:fil (dpB p n) 8=rs[n]:=by
    rw[jh]
    refine fp (List.Pairwise.filter _ gv) h1 fun k=>?_
    rw[←jh,vy,h3]
   rw[e,if_neg h2,List.take_add_one,hr]
   rfl
  ·have e:fil (dpB p n) 8=[]:=by
    rw[List.eq_nil_iff_forall_not_mem]
    intro k hk
    exact hn (I.depth_lt ((vy n k).mp hk))
   rw[e,if_pos rfl,List.append_nil,List.take_of_length_le (Nat.le_of_not_lt hn),List.take_of_length_le (qr (k:=1) (Nat.le_of_not_lt hn))]
theorem PI.rounds(I:PI p [] np rs ps):rdU p 9=rs:=by
 have h1:=I.len
 have h2:=fv I.psn
 rw[I.take 9,List.take_of_length_le (qr (k:=1) (qc h1 h2))]
theorem EndR.fn{k:Fin 8}{m m':Int}(h:EndR p k m):EndR p k m'→m=m':=by
 induction h with
 |stay hl=>
  intro h'
  cases h' with
  |stay _=>rfl
  |step h2 _=>rw[hl] at h2;cases h2
 |step hl _ ih=>
  intro h'
  cases h' with
  |stay h2=>rw[hl] at h2;cases h2
  |step _ h2=>exact ih h2
theorem PI.keys(I:PI p [] np rs ps)(K:KsI p 8 ks):(∀k,k∈ps↔k∈ks)∧ps.length=ks.length:=by
 have hm:∀k,k∈ps↔k∈ks:=fun k=>(I.ps_mem k).trans ⟨fun h=>(K.mem k).mpr ⟨k.isLt,h⟩,fun h=>((K.mem k).mp h).2⟩
 exact⟨hm,Nat.le_antisymm (gg I.psn fun x hx=>(hm x).mp hx) (gg K.nd fun x hx=>(hm x).mpr hx)⟩
end
section
variable{w:World}{P:Params}{p:Par}{A:Around}{s:Shared}{E:Value→Shared→Prop}{h1 h2:Heap}{l b N0 N1 M:Nat}{rs:List (List (Fin 8))}{ps ks:List (Fin 8)}{ring:Bool}{np:Fin 8→Int}
theorem lz(n:Nat):(List.range n).all (fun _=>true)=true:=by simp
theorem i0{xs ys:List Value}{e1 e2:Nat}(h1:s.heap.get? l=some (lO xs e1))(h2:s.heap.get? b=some (lO ys e2))(hn:xs.length=ys.length)(hu:A.units<cLine)
  (he:∀j (h1:j<xs.length) (h2:j<ys.length),SeqAt.EqAt A.in1 s xs[j] ys[j] true):SeqAt.RcAt A s (.ref l) (.ref b) true:=by
 have:=SeqAt.RcAt.lists (A:=A) (s:=s) (e:=fun _=>true) (cj h1) (cj h2) (by simpa using hn) hu (fun j q1 q2=>he j (by simpa using q1) (by simpa using q2))
 rw[lz] at this
 exact this
theorem jba{m:Int}{t1 t2 t3 u1 u2 u3:Nat}(h1:s.heap.get? l=some (A1 m t1 t2 t3))(h2:s.heap.get? b=some (A0 m u1 u2 u3))(hu:A.units<cLine):SeqAt.RcAt A s (.ref l) (.ref b) true:=by
 have g1:s.heap.IsTuple l ⟨[.int (Builtin.bitAnd (dq m) 61440) t1,.int ((m.fdiv 12288).fmod 3) t2,.int ((m.fdiv 36864).fmod 2) t3]⟩:=⟨_,h1,rfl,_,rfl⟩
 have g2:s.heap.IsTuple b ⟨[.int (bp m 16384 32768 40960) u1,.int ((m.fdiv 12288).fmod 3) u2,.int ((m.fdiv 36864).fmod 2) u3]⟩:=⟨_,h2,rfl,_,rfl⟩
 have ie:∀(x:Int) (t u:Nat),SeqAt.EqAt A.in1 s (.int x t) (.int x u) true:=fun x t u=>by
  have:=SeqAt.EqAt.int_int (A:=A.in1) (s:=s) x t x u
  rw[beq_self_eq_true] at this
  exact this
 have:=SeqAt.RcAt.tuples (A:=A) (s:=s) (e:=fun _=>true) g1 g2 hu fun j q1 q2=>by
  match j,q1,q2 with
  |0,_,_=>show SeqAt.EqAt A.in1 s (.int (Builtin.bitAnd (dq m) 61440) t1) (.int (bp m 16384 32768 40960) u1) true;rw[jy];exact ie _ _ _
  |1,_,_=>exact ie _ _ _
  |2,_,_=>exact ie _ _ _
 rw[lz] at this
 exact this
theorem RA.at{h:Heap}{nt:Fin 8→Nat}:∀{as:List Nat} {rs:List (List (Fin 8))},RA h M nt as rs→as.length=rs.length∧∀j (h1:j<as.length) (h2:j<rs.length),M≤as[j]∧h.get? as[j]=some (lO (rs[j].map (nmV nt)) 2)
 |[],[],_=>⟨rfl,fun j h1 _=>absurd h1 (Nat.not_lt_zero _)⟩
 |a::as,r::rs,H=>by
  obtain⟨q1,q2⟩:=RA.at H.2.2
  refine⟨by rw[List.length_cons,List.length_cons,q1],fun j h1 h2=>?_⟩
  cases j with
  |zero=>exact⟨H.1,H.2.1⟩
  |succ j=>exact q2 j (Nat.lt_of_succ_lt_succ h1) (Nat.lt_of_succ_lt_succ h2)
 |[],_::_,H=>H.elim
 |_::_,[],H=>H.elim
theorem RU.at{h:Heap}{nt:Fin 8→Nat}:∀{as:List Nat} {rs:List (List (Fin 8))},RU h M nt as rs→as.length=rs.length∧∀j (h1:j<as.length) (h2:j<rs.length),M≤as[j]∧∃e,h.get? as[j]=some (lO (rs[j].map (nmV nt)) e)
 |[],[],_=>⟨rfl,fun j h1 _=>absurd h1 (Nat.not_lt_zero _)⟩
 |a::as,r::rs,H=>by
  obtain⟨q1,q2⟩:=RU.at H.2.2
  refine⟨by rw[List.length_cons,List.length_cons,q1],fun j h1 h2=>?_⟩
  cases j with
  |zero=>exact⟨H.1,H.2.1⟩
  |succ j=>exact q2 j (Nat.lt_of_succ_lt_succ h1) (Nat.lt_of_succ_lt_succ h2)
 |[],_::_,H=>H.elim
 |_::_,[],H=>H.elim
theorem iq:∀{kv:KV} {k:Fin 8} {v:Value},kv.lookup k=some v→(k,v)∈kv
 |[],k,v,h=>by cases h
 |(k',v')::l,k,v,h=>by
  rw[List.lookup_cons] at h
  by_cases e:k=k'
  ·subst e;rw[beq_self_eq_true] at h;cases h;exact .head _
  ·rw[beq_eq_false_iff_ne.mpr e] at h
   exact .tail _ (iq h)
theorem jnt{ra da:Nat}{Q:Value→Shared→Prop}(hu:A.units≤9000)(h257:257≤N0)(hN:N0≤N1)(LR:LRes w p N0 h1 ra rs ps ring)(hsz:h1.objs.size≤N1)(K:∀(y:Nat) (ob:Obj),N0≤y→h1.get? y=some ob→s.heap.get? y=some ob)(DR:DRes w p N1 h2 da ks)(K2:∀(y:Nat) (ob:Obj),N1≤y→h2.get? y=some ob→s.heap.get? y=some ob)
  (I:PI p [] np rs ps) (hr:ring=true↔∃v,¬ck (fBd p).su v) (KI:KsI p 8 ks) (hQ:Q (.bool true) s):wpAny (model PG w) A (compareOp .Eq (.ref ra) (.ref da)) Q E s:=by
 obtain⟨rr,re,l1,l2,g1,⟨as,e,g2,g3⟩,kv,e',g4,g5,g6⟩:=LR.top
 obtain⟨rr2,re2,M,hM,hrr,hre,k1,⟨as2,e2,k2,k3⟩,ev,ee,k4,k5,k6⟩:=DR.top
 have lt:∀{y:Nat} {ob:Obj},h1.get? y=some ob→y<N1:=fun{y ob} q=>by
  have:@LT.lt Nat _ y h1.objs.size:=Heap.lt_size q
  exact(qc this hsz)
 have kt:∀{y:Nat} {ob:Obj},N0≤y→h1.get? y=some ob→s.heap.get? y=some ob:=fun{y ob} h q=>K y ob h q
 have l0:=LR.ge
 have m0:=DR.ge
 have eR:=I.rounds
 rw[eR] at k3
 obtain⟨hm,hlen⟩:=I.keys KI
 have cl:∀{n:Nat},n≤9010→n<cLine:=fun{n} h=>Nat.lt_of_le_of_lt h (by decide)
 have RT:=i0 (A:=A) (kt l0 g1) (K2 _ _ m0 k1) rfl (cl (qr (k:=10) hu)) fun j q1 q2=>by
  match j,q1,q2 with
  |0,_,_=>
   show SeqAt.EqAt A.in1 s (.ref rr) (.ref rr2) true
   refine SeqAt.EqAt.of_refs (nne (by have:=lt g2;exact(.inl (qc this hrr)))) ?_
   obtain⟨n1,f1⟩:=g3.at
   obtain⟨n2,f2⟩:=k3.at
   refine i0 (kt l1 g2) (K2 _ _ hrr k2) (by rw[List.length_map,List.length_map,n1,n2]) (cl (by show A.units+1≤_;exact(qr (k:=9) (qs 1 hu)))) fun j q1 q2=>?_
   rw[List.length_map] at q1 q2
   rw[List.getElem_map,List.getElem_map]
   obtain⟨a1,a2⟩:=f1 j q1 (by omega)
   obtain⟨b1,e3,b2⟩:=f2 j q2 (by omega)
   refine SeqAt.EqAt.of_refs (nne (by have:=lt a2;omega)) ?_
   exact i0 (kt a1 a2) (K2 _ _ (by omega) b2) rfl (cl (by show A.units+1+1≤_;exact(qr (k:=8) (qs 2 hu)))) fun j q1 q2=>SeqAt.EqAt.same _
  |1,_,_=>
   show SeqAt.EqAt A.in1 s (.bool ring) (.bool (decide (ks.length<8))) true
   have:=SeqAt.EqAt.bool_bool (A:=A.in1) (s:=s) ring (decide (ks.length<8))
   rw[vk hr KI,beq_self_eq_true] at this
   rw[vk hr KI]
   exact this
  |2,_,_=>
   show SeqAt.EqAt A.in1 s (.ref re) (.ref re2) true
   have ltr:=lt g4
   refine SeqAt.EqAt.of_refs (nne (.inl (qc ltr hre))) ?_
   refine vf (kt l2 g4) (K2 _ _ hre k4) (nne (.inr (qc (qb rfl) (qc h257 l2)))) (nne (.inr (qc (qb rfl) (qc (qc h257 hN) hre)))) (by rw[←List.length_map (f:=(·.1)) (as:=kv),g5,hlen,←k5,List.length_map]) (cl (by show A.units+1≤_;exact(qr (k:=9) (qs 1 hu)))) fun q hq=>?_
   obtain⟨a,m,t1,t2,t3,f1,f2,f3,f4⟩:=g6 q hq
   have hk:q.1∈ev.map (·.1):=by rw[k5,←hm,←g5];exact List.mem_map.mpr ⟨q,hq,rfl⟩
   obtain⟨v2,hv2,_⟩:=cq hk
   refine⟨v2,hv2,?_⟩
   obtain⟨a2,m2,u1,u2,u3,d1,d2,d3,d4⟩:=k6 _ (iq hv2)
   have d1':v2=.ref a2:=d1
   have em:m=m2:=f2.fn d2
   subst em
   rw[f1,d1']
   refine SeqAt.EqAt.of_refs (nne (by have:=lt f4;exact(.inl (qc (qc this hM) d3)))) ?_
   exact jba (kt f3 f4) (K2 _ _ (qc hM d3) d4) (cl (by show A.units+1+1≤_;exact(qr (k:=8) (qs 2 hu))))
 exact RT PG w E Q hQ
end
noncomputable def KT.all(q:Obj→Bool):KT→Bool
 |.nil=>true
 |.node v l r=>(match v with|none=>true|some o=>q o)&&(KT.all q l&&KT.all q r)
theorem KT.all_get{q:Obj→Bool}:∀{t:KT},KT.all q t=true→∀{j:Nat} {o:Obj},t.get j=some o→q o=true
 |.nil,_,_,_,e=>by cases e
 |.node v l r,H,j,o,e=>by
  rw[KT.get_node] at e
  unfold KT.all at H
  rw[Bool.and_eq_true,Bool.and_eq_true] at H
  by_cases h0:j=0
  ·subst h0
   rw[if_pos rfl] at e
   subst e
   exact H.1
  ·rw[if_neg h0] at e
   by_cases p:j % 2=1
   ·rw[if_pos p] at e;exact KT.all_get H.2.1 e
   ·rw[if_neg p] at e;exact KT.all_get H.2.2 e
noncomputable def noL(o:Obj):Bool:=match o.cls with
 |.type n=>!(n == "list")
 |_=>true
theorem G7(P:Params):KT.all noL (ktB P)=true:=by kernel_rfl
theorem jfv{P:Params}{h:Heap}{a:Nat}{o:Obj}(B:Based P h)(e:h.get? a=some o)(hc:o.cls=.type "list"):(ktB P).get a=none:=by
 cases q:(ktB P).get a with
 |none=>rfl
 |some o'=>
  have h1:=B.kt a o' q
  rw[e] at h1
  cases h1
  have:=KT.all_get (G7 P) q
  unfold noL at this
  rw[hc] at this
  cases this
structure PreG(w:World)(pre:List (Nat×Obj))(N t₀:Nat)(s:Shared):Prop where
 based:Based w.params s.heap
 size:s.heap.objs.size=N
 toks:s.toks=t₀
 ge:257≤N
 has:∀p∈pre,s.heap.get? p.1=some p.2
 off:∀p∈pre,(ktB w.params).get p.1=none
 nodup:(pre.map (·.1)).Nodup
theorem PreG.ok{w pre N t₀ s}(P:PreG w pre N t₀ s):(mkV w pre N t₀).Ok s.heap:=by
 refine⟨P.size,P.based.kt,fun h k=>m5 k,P.nodup,fun a ha=>?_,fun a ha=>?_,fun a o e=>Nat.lt_of_lt_of_le (bm e) P.ge⟩
 ·obtain⟨p,hp,rfl⟩:=List.mem_map.mp ha
  exact P.off p hp
 ·obtain⟨p,hp,rfl⟩:=List.mem_map.mp ha
  have:=Heap.lt_size (P.has p hp)
  rw[P.size] at this
  exact this
theorem PreG.rep{w pre N t₀ s}(P:PreG w pre N t₀ s):Rep (mkV w pre N t₀) s.heap s.heap (wz (pre.map (·.2))) 0:=by
 refine⟨P.size,fun j o e=>?_,fun b o e _=>e⟩
 unfold wz at e
 cases q:gl .nil 0 (pre.map (·.2)) with
 |none=>rw[q] at e;exact absurd e (by simp[BT.get])
 |some T=>
  rw[q] at e
  rcases eu _ _ _ _ _ _ q e with⟨_,h2⟩|h1
  ·rw[Nat.sub_zero] at h2
   obtain⟨hl,he⟩:=List.getElem?_eq_some_iff.mp h2
   have hl':j<pre.length:=by rwa [List.length_map] at hl
   have hl2:j<(mkV w pre N t₀).pre.length:=by show j<(pre.map (·.1)).length;rwa [List.length_map]
   refine⟨hl2,?_⟩
   rw[bh _ _ _ hl2]
   have e1:(mkV w pre N t₀).pre[j]=pre[j].1:=List.getElem_map ..
   rw[e1]
   have e2:o=pre[j].2:=by rw[←he,List.getElem_map]
   rw[e2]
   exact P.has _ (List.getElem_mem hl')
  ·exact absurd h1 (by simp[BT.get])
theorem rp{n:Nat}{w:World}{pre:List (Nat×Obj)}{N t₀:Nat}{scr:Script}{B X:Cx}{t:Sem Fin}{A C:Around}{R:Result→Shared→Prop}{s:Shared}
  (H:dh n (mkV w pre N t₀) pre scr B X t=rhs scr (mkV w pre N t₀)) (P:PreG w pre N t₀ s) (hB:B.Ok A) (hX:X.Ok C) {modA:Addr→Prop} (G:Goal w A R (ae s) s.heap modA scr (mkV w pre N t₀) s.heap) :
  wpAny (model PG w) C t (li w A R) (pt R) s:=by
 have S:=G.scr fun b o' e _ _=>e
 have hx:∀X,CH.x X∈scr.cs→XOk (mkV w pre N t₀) s.heap X:=by
  cases scr with
  |fin=>exact S.1
  |call=>exact S.1
 have:=ij w A R (ae s) n _ _ _ _ _ _ _ _ _ _ _ _ _ _ _ (H.mpr (nb ..)) rfl P.ok P.rep S hx .base hB hX
 have e:(ae s).at s.heap ((mkV w pre N t₀).t₀+0)=s:=by
  show Shared.mk s.heap s.gens s.drawn (t₀+0) s.os=s
  rw[Nat.add_zero,←P.toks]
 rwa [e] at this
theorem uh{n:Nat}{w:World}{pre:List (Nat×Obj)}{N t₀:Nat}{scr:Script}{B X:Cx}{l:List Stmt}{env:Env}{A C:Around}{Q:Flow→Shared→Prop}{E:Value→Shared→Prop}{s:Shared}{modA:Addr→Prop}
  (H:dh n (mkV w pre N t₀) pre scr B X (ar l env)=rhs scr (mkV w pre N t₀)) (P:PreG w pre N t₀ s) (hB:B.Ok A) (hX:X.Ok C) (G:Goal w A (fun r s'=>match r with|.ok f=>Q f s'|.error e=>E e s') (ae s) s.heap modA scr (mkV w pre N t₀) s.heap) :
  wpAny (model PG w) C (execs l env) Q E s:=by
 have e:execs l env=PySem.W.Fast.tw12563942051412417395 l env:=by rw[PySem.W.Fast.te12563942051412417395]
 rw[e]
 have:=rp H P hB hX G
 have H':dh n (mkV w pre N t₀) pre scr B X (PySem.W.R.bindR (PySem.W.Fast.tw12563942051412417395 l env) fun a=>.pure (.done (id a)))=rhs scr (mkV w pre N t₀):=H
 have:=rp H' P hB hX G
 rw[←PySem.W.R.bindR_eq] at this
 intro Γ p hΓ
 have q:=this Γ p hΓ
 have q':PySem.Sem.wp (model PG w) Γ (PySem.W.Fast.tw12563942051412417395 l env>>=fun a=>Sem.pure (.done (id a))) (fun a _ s'=>li w A (fun r s'=>match r with|.ok f=>Q f s'|.error e=>E e s') a s') (fun e _ s'=>pt (fun r s'=>match r with|.ok f=>Q f s'|.error e=>E e s') e s') p s:=q
 rw[Sem.wp_bind'] at q'
 exact Sem.wp_mono _ _ _ (fun a p' s' h=>h) (fun e p' s' h=>h) p s q'
section
variable{w:World}{a b c:Bool}{A:Around}{s:Shared}{E:Value→Shared→Prop}{L sc ts:Nat}{dd:Option Nat}{xs:List Value}{e:Nat}{sl:Array (Option Value)}{f:Nat→Int}{u:Nat→Nat}
theorem jls{Q:Flow→Shared→Prop}{m:Nat}(hA:Room A 420 4200)(B:Based (wf w a b c).params s.heap)(h257:257≤s.heap.objs.size)(hL:s.heap.get? L=some (frO (wf w a b c).params [("script",ts,.ref sc)] 1))(oL:257≤L)(hsc:s.heap.get? sc=some (lgO dd xs e sl))(hlen:xs.length≤100)(hm:m≤8)(hx:xs.take 8=sV f u m)
  (h:∀s',s'.heap.get? L=some (frO (wf w a b c).params [("script",ts,.ref sc),("numbers",s.toks+12,.ref (s.heap.objs.size+7))] 2)→s'.heap.get? (s.heap.objs.size+7)=some (lO (a8 (nU m f) (tU m u s.toks)) 0)→af [L] s.heap s'.heap→s'.heap.objs.size=s.heap.objs.size+8→ae s'=ae s→Q .next s') :
  wpAny (model PG (wf w a b c)) A (execs [ak laS 0] (ca L)) Q E s:=by
 have hne:L≠sc:=fun q=>by
  rw[←q,hL] at hsc
  have:=congrArg (fun o:Option Obj=>(o.map (·.cls))) hsc
  have h2:some (Value.type "frame")=some (Value.type "list"):=this
  exact absurd h2 (by decide)
 have P:PreG (wf w a b c) [(L,frO (wf w a b c).params [("script",ts,.ref sc)] 1),(sc,lgO dd xs e sl)] s.heap.objs.size s.toks s:=⟨B,rfl,rfl,h257,fun p hp=>by
   rcases List.mem_cons.mp hp with rfl|hp
   ·exact hL
   ·rcases List.mem_singleton.mp hp with rfl
    exact hsc,fun p hp=>by
   rcases List.mem_cons.mp hp with rfl|hp
   ·exact bv (.inl oL)
   ·rcases List.mem_singleton.mp hp with rfl
    exact jfv B hsc rfl,by
   show [L,sc].Nodup
   simp[hne]⟩
 have hm':m<9:=(qs 1 hm)
 refine uh (modA:=fun _=>False) (jfp (dd:=dd) (xs:=xs) (f:=f) (u:=u) (e:=e) (sl:=sl) A.frames ⟨m,hm'⟩) P hA.cx hA.cx ⟨⟨zx rfl rfl rfl hx.symm (qr (k:=900) hlen),zx rfl rfl rfl hx.symm (qr (k:=900) hlen),zt⟩,fun h4 hsz4 hex hkept hacc=>?_⟩
 have y0:h4.get? L=some (frO (wf w a b c).params [("script",ts,.ref sc),("numbers",s.toks+12,.ref (s.heap.objs.size+7))] 2):=hex (0,_) (.head _)
 have y1:h4.get? sc=some (lgO dd xs e sl):=hex (1,_) (.tail _ (.head _))
 have y2:h4.get? (s.heap.objs.size+7)=some (lO (a8 (nU m f) (tU m u s.toks)) 0):=hex (9,_) (.tail _ (.tail _ (.head _)))
 refine h ((ae s).at h4 (s.toks+13)) y0 y2 (fun y ob q hy=>?_) hsz4 rfl
 by_cases e1:y=sc
 ·exact sg hsc y1 q e1
 ·exact hkept y ob q (fun q=>by
   have q':y∈[L,sc]:=q
   rcases mO2 q' with q'|q'
   ·exact hy (List.mem_singleton.mpr q')
   ·exact e1 q')
end
theorem jln(L:Nat):(ca L).scope.kind=.function:=by kernel_rfl
theorem ov:laS=[ak laS 0]++([ak laS 1]++([ak laS 2]++([ak laS 3]++[ak laS 4]))):=by kernel_rfl
theorem o8:ak laS 2=.If (.Compare (ip (teS (ak laS 2))) [.NotEq] [jl (teS (ak laS 2))] (yq (teS (ak laS 2)))) (inS (ak laS 2)) [] (gy (ak laS 2)):=by kernel_rfl
theorem oz:ak laS 4=.Return (some (.BoolOp .And [ur,jpk] (jn4 (A3 (ak laS 4))))) (jn3 (ak laS 4)):=by kernel_rfl
theorem kg:ur=.Compare (ip ur) [.Eq] [jl ur] (yq ur):=by kernel_rfl
section
variable{w:World}{a b c:Bool}{p:Par}{L sc ts tn tm td tt da ra re N1:Nat}{hh:Heap}{V:SV}{sl:Array (Option Value)}
theorem jj4{h:Heap}{P:Params}{l:List (String×Nat×Value)}{n:Nat}{sl:Array (Option Value)}(hL:h.get? L=some (frS P l n sl)):h.FunFrames noBase [ca L]:=
 ⟨by rw[jln];exact(fun e=>by cases e),⟨L,_,rfl,cf _,hL,(fun vs e=>by cases e)⟩,zt⟩
theorem jli(hw:V.w=wf w a b c)(hkt:V.kt=ktB (wf w a b c).params)(h0:aj V.pre V.N 0=L)(h1:aj V.pre V.N 1=p.NM)(h2:aj V.pre V.N 2=p.NL)(hLN:hh.objs.size=V.N)(h257:257≤V.N)(oL:257≤L∧L≠p.NM∧L≠p.NL)(oNM:257≤p.NM)(oNL:257≤p.NL)(ne:p.NM≠p.NL)
  (htab:hh.get? 229=some (d7 none)) (h229:229∉V.pre):b9 V hh (lrC (wf w a b c) p sc ts tn tm [ca L] hh):=by
 intro A s hh' hf hd hu hs ht hb hkeep hpre
 have p0:=hpre (0,_) (.head _)
 have p1:=hpre (1,_) (.tail _ (.head _))
 have p2:=hpre (2,_) (.tail _ (.tail _ (.head _)))
 rw[h0] at p0
 rw[h1] at p1
 rw[h2] at p2
 have hs':s.heap.objs.size=hh.objs.size:=by rw[hLN];exact hs
 rw[hkt] at hb
 rw[hw]
 refine jpi (fs:=[L]) ⟨hh',hd,hu⟩ (hf _ rfl) (jj4 p0) rfl ⟨hb⟩ (qy (qy h257 hLN) hs') p1 p2 oNM oNL ne (hkeep _ _ htab h229) (fun x hx=>by rw[List.mem_singleton.mp hx];exact oL) fun h' tk' ra np rs ps ring q1 q2 q3 q4 q5 q6=>?_
 obtain⟨sl,hsl,_⟩:=q4 L _ p0 (nne (.inr (qw (k:=27) oL.1)))
 refine⟨⟨ra,sl,h'.objs.size,tk'⟩,zt,rfl,h',rfl,⟨np,rs,ps,ring,by rw[←hs'];exact q1,q2,q3⟩,rfl,q6,fun q hq=>?_,(fun q hq=>nomatch hq),List.Pairwise.nil,fun y ob e hy hm=>?_⟩
 ·rcases List.mem_singleton.mp hq with rfl
  rw[h0]
  exact hsl
 ·have b0:=hy (0,E9 (wf w a b c).params p sc ts tn tm sl) (.head _)
  rw[h0] at b0
  obtain⟨sl2,e1,e2⟩:=q4 y ob e hm
  have:=e2 (fun q=>b0 (List.mem_singleton.mp q))
  subst this
  exact e1
theorem jmc(hw:V.w=wf w a b c)(hkt:V.kt=ktB (wf w a b c).params)(h1:aj V.pre V.N 1=p.NM)(h2:aj V.pre V.N 2=p.NL)(h257:257≤V.N)(hN:N1=V.N)(oNM:257≤p.NM)(oNL:257≤p.NL)(ne:p.NM≠p.NL) :
  b9 V hh (duC (wf w a b c) p N1):=by
 intro A s hh' hf hd hu hs ht hb hkeep hpre
 have p1:=hpre (1,_) (.head _)
 have p2:=hpre (2,_) (.tail _ (.head _))
 rw[h1] at p1
 rw[h2] at p2
 have hs':s.heap.objs.size=V.N:=hs
 rw[hkt] at hb
 rw[hw]
 refine jp0 ⟨hh',hd,hu⟩ ⟨hb⟩ (qy h257 hs') p1 p2 oNM oNL ne fun s' ra ks q1 q2 q3 q4 q5 q6=>?_
 exact⟨⟨ra,#[],s'.heap.objs.size,s'.toks⟩,zt,rfl,s'.heap,cm q6,⟨ks,by rw[hN,←hs'];exact q1,q2⟩,rfl,q5,(fun q hq=>nomatch hq),(fun q hq=>nomatch hq),List.Pairwise.nil,fun y ob e _ _=>q3 y ob e n0m⟩
theorem jly{dv:KV}{de:Nat}(hw:V.w=wf w a b c)(hkt:V.kt=ktB (wf w a b c).params)(h0:aj V.pre V.N 0=L)(h1:aj V.pre V.N 1=p.NM)(h257:257≤V.N)(oL:257≤L∧L≠p.NM)(oNM:257≤p.NM)(ore:257≤re)(hen:hh.get? re=some (dO (wf w a b c).params p.nt dv de))(hre:re∉V.pre) :
  b9 V hh (keC (wf w a b c) p sc ts tn tm td tt da ra re sl [ca L]):=by
 intro A s hh' hf hd hu hs ht hb hkeep hpre
 have p0:=hpre (0,_) (.head _)
 have p1:=hpre (1,_) (.tail _ (.head _))
 rw[h0] at p0
 rw[h1] at p1
 have hs':s.heap.objs.size=V.N:=hs
 rw[hkt] at hb
 rw[hw]
 refine jpo (fs:=[L]) ⟨hh',hd,hu⟩ (hf _ rfl) (jj4 p0) rfl ⟨hb⟩ (qy h257 hs') p1 (hkeep _ _ hen hre) oNM ore rfl (fun x hx=>by rw[List.mem_singleton.mp hx];exact oL) fun s' q3 q5 q6=>?_
 obtain⟨sl,hsl,_⟩:=q3 L _ p0
 refine⟨⟨ra,sl,s'.heap.objs.size,s'.toks⟩,zt,rfl,s'.heap,cm q6,zt,rfl,q5,fun q hq=>?_,(fun q hq=>nomatch hq),List.Pairwise.nil,fun y ob e hy hm=>?_⟩
 ·rcases List.mem_singleton.mp hq with rfl
  rw[h0]
  exact hsl
 ·have b0:=hy (0,jd (wf w a b c).params p sc ts tn tm td tt da ra sl) (.head _)
  rw[h0] at b0
  obtain⟨sl2,e1,e2⟩:=q3 y ob e
  have:=e2 (fun q=>b0 (List.mem_singleton.mp q))
  subst this
  exact e1
end
section
variable{w:World}{a b c:Bool}{p:Par}{A:Around}{s:Shared}{E:Value→Shared→Prop}{L sc ts tn tm td tt da ra re N1:Nat}{sl:Array (Option Value)}
theorem jj0(g:Fin 8→Value):∀j (h:j<(⟨vF g⟩:Array Value).size),(⟨vF g⟩:Array Value)[j]=g ⟨j,h⟩
 |0,_=>rfl
 |1,_=>rfl
 |2,_=>rfl
 |3,_=>rfl
 |4,_=>rfl
 |5,_=>rfl
 |6,_=>rfl
 |7,_=>rfl
 |n+8,h=>absurd h (by show ¬(n+8<8);exact(Nat.not_lt_of_le (Nat.le_trans (qb rfl) (Nat.le_add_left _ _))))
theorem jlr{Q:Flow→Shared→Prop}(hA:Room A 420 4200)(B:Based (wf w a b c).params s.heap)(h257:257≤s.heap.objs.size)(hL:s.heap.get? L=some (la (wf w a b c).params p sc ts tn tm))(hNL:s.heap.get? p.NL=some (lO (a8 p.n p.tn) p.e2))(oL:257≤L)(oNL:257≤p.NL)
  (h:∀s',af [] s.heap s'.heap→s.heap.objs.size≤s'.heap.objs.size→ae s'=ae s→Q .next s') :
  wpAny (model PG (wf w a b c)) A (execs [ak laS 2] (ca L)) Q E s:=by
 refine wpAny_execs_cons ?_
 first|refine xq1 o8 ?_|refine xq2 o8 ?_|refine xq3 o8 ?_|rw[o8]
 refine wpAny_If (wpAny_isTrue_Compare1 ?_)
 have pr:∀{s':Shared},af [] s.heap s'.heap→s.heap.objs.size≤s'.heap.objs.size→Based (wf w a b c).params s'.heap→Pre (wf w a b c) [(L,la (wf w a b c).params p sc ts tn tm),(p.NL,lO (a8 p.n p.tn) p.e2)] s'.heap.objs.size s'.toks s':=fun{s'} K hs B'=>
  ag B' (qc h257 hs) ⟨K _ _ hL n0m,K _ _ hNL n0m,zt⟩ (gx (by omega) (by omega)) ⟨⟨zt,zt⟩,zt,zt⟩
 have P:=pr (fun y ob e _=>e) (Nat.le_refl _) B
 have left:∀{Q':Value→Shared→Prop} {E':Value→Shared→Prop},(∀s1,af [] s.heap s1.heap→s.heap.objs.size≤s1.heap.objs.size→s1.heap.get? (s.heap.objs.size+1)=some (lO (vF (jlp p s.toks)) 8)→Based (wf w a b c).params s1.heap→ae s1=ae s→Q' (.ref (s.heap.objs.size+1)) s1)→wpAny (model PG (wf w a b c)) A (eval (ip (teS (ak laS 2))) (ca L)) Q' E' s:=fun{Q' E'} hQ=>by
  cases b with
  |true=>
   refine bq (jfb A.frames) P hA.cx hA.cx rfl ⟨aw rfl,aw rfl,aw rfl,aw rfl,aw rfl,aw rfl,aw rfl,aw rfl,zt⟩ fun s1 P1 K1 r1=>?_
   exact hQ s1 (am P P1.has K1 ⟨.inl rfl,.inl rfl,zt⟩) (ch P1) (P1.has (s.heap.objs.size+1,_) (.tail _ (.tail _ (.head _)))) P1.based r1
  |false=>
   refine bq (G1 A.frames) P hA.cx hA.cx rfl ⟨aw rfl,aw rfl,aw rfl,aw rfl,aw rfl,aw rfl,aw rfl,aw rfl,zt⟩ fun s1 P1 K1 r1=>?_
   exact hQ s1 (am P P1.has K1 ⟨.inl rfl,.inl rfl,zt⟩) (ch P1) (P1.has (s.heap.objs.size+1,_) (.tail _ (.tail _ (.head _)))) P1.based r1
 refine left fun s1 K1 hs1 x1 B1 r1=>?_
 have P1:=pr K1 hs1 B1
 have right:∀{Q':Value→Shared→Prop} {E':Value→Shared→Prop},(∀s2,af [] s1.heap s2.heap→s1.heap.objs.size≤s2.heap.objs.size→s2.heap.get? (s1.heap.objs.size+1)=some (lO (vF (jlo p s1.toks)) 8)→ae s2=ae s1→Q' (.ref (s1.heap.objs.size+1)) s2)→wpAny (model PG (wf w a b c)) A (eval (jl (teS (ak laS 2))) (ca L)) Q' E' s1:=fun{Q' E'} hQ=>by
  cases b with
  |true=>
   refine bq (je8 A.frames) P1 hA.cx hA.cx rfl ⟨aw rfl,aw rfl,aw rfl,aw rfl,aw rfl,aw rfl,aw rfl,aw rfl,zt⟩ fun s2 P2 K2 r2=>?_
   exact hQ s2 (am P1 P2.has K2 ⟨.inl rfl,.inl rfl,zt⟩) (ch P2) (P2.has (s1.heap.objs.size+1,_) (.tail _ (.tail _ (.head _)))) r2
  |false=>
   refine bq (F0 A.frames) P1 hA.cx hA.cx rfl ⟨aw rfl,aw rfl,aw rfl,aw rfl,aw rfl,aw rfl,aw rfl,aw rfl,zt⟩ fun s2 P2 K2 r2=>?_
   exact hQ s2 (am P1 P2.has K2 ⟨.inl rfl,.inl rfl,zt⟩) (ch P2) (P2.has (s1.heap.objs.size+1,_) (.tail _ (.tail _ (.head _)))) r2
 refine right fun s2 K2 hs2 x2 r2=>?_
 have x1':=K2 _ _ x1 n0m
 have hu:A.units<cLine:=Nat.lt_of_le_of_lt hA.u (by decide)
 show wpAny _ A (richCompare .NotEq (.ref (s.heap.objs.size+1)) (.ref (s1.heap.objs.size+1))) _ _ s2
 refine SeqAt.RcNeAt.lists (e:=fun _=>true) (cj x1') (cj x2) rfl hu (fun j q1 q2=>?_) _ _ _ _ (wpAny_truthy_bool ?_)
 ·rw[jj0,jj0]
  show SeqAt.EqAt _ s2 (.int (Builtin.bitAnd (dq (p.n ⟨j,q1⟩)) 61440) _) (.int (bp (p.n ⟨j,q1⟩) 16384 32768 40960) _) true
  rw[jy]
  have:=SeqAt.EqAt.int_int (A:=A.in1) (s:=s2) (bp (p.n ⟨j,q1⟩) 16384 32768 40960) (s.toks+(14+15*j)) (bp (p.n ⟨j,q1⟩) 16384 32768 40960) (bp (p.n ⟨j,q1⟩) (s1.toks+(1+6*j)) (s1.toks+(2+6*j)) (s1.toks+(3+6*j)))
  rw[beq_self_eq_true] at this
  exact this
 ·rw[if_neg (by rw[lz];decide)]
  exact wpAny_execs_nil (wpAny_execs_nil (h s2 (fun y ob e hy=>K2 y ob (K1 y ob e hy) hy) (Nat.le_trans hs1 hs2) (r2.trans r1)))
end
section
variable{w:World}{a b c:Bool}{p:Par}{A:Around}{s:Shared}{E:Value→Shared→Prop}{R:Result→Shared→Prop}{L sc ts tn tm:Nat}{sl:Array (Option Value)}
theorem jlq{Q:Flow→Shared→Prop}(hA:Room A 420 420)(hfr:A.frames=some [ca L])(B:Based (wf w a b c).params s.heap)(h257:257≤s.heap.objs.size)(hL:s.heap.get? L=some (E9 (wf w a b c).params p sc ts tn tm #[]))(hNM:s.heap.get? p.NM=some (lO (ai p.nt) p.e1))(hNL:s.heap.get? p.NL=some (lO (a8 p.n p.tn) p.e2))
  (oL:257≤L∧L≠p.NM∧L≠p.NL) (oNM:257≤p.NM) (oNL:257≤p.NL) (ne:p.NM≠p.NL) (htab:s.heap.get? 229=some (d7 none))
  (h:∀(s':Shared) (td tt da ra N1:Nat) (sl:Array (Option Value)) (h1 h2:Heap) (np:Fin 8→Int) (rs:List (List (Fin 8))) (ps:List (Fin 8)) (ring:Bool) (ks:List (Fin 8)),s'.heap.get? L=some (jd (wf w a b c).params p sc ts tn tm td tt da ra sl)→LRes (wf w a b c) p s.heap.objs.size h1 ra rs ps ring→h1.objs.size≤N1→s.heap.objs.size≤N1 →
   (∀(y:Nat) (ob:Obj),s.heap.objs.size≤y→h1.get? y=some ob→s'.heap.get? y=some ob)→DRes (wf w a b c) p N1 h2 da ks→(∀(y:Nat) (ob:Obj),N1≤y→h2.get? y=some ob→s'.heap.get? y=some ob)→PI p [] np rs ps→(ring=true↔∃v,¬ck (fBd p).su v)→KsI p 8 ks→af [L,229] s.heap s'.heap→(∃tb,s'.heap.get? 229=some (d7 tb))→s.heap.objs.size≤s'.heap.objs.size→ae s'=ae s→Q .next s') :
  wpAny (model PG (wf w a b c)) A (execs [ak laS 3] (ca L)) Q E s:=by
 have ltL:@LT.lt Nat _ L s.heap.objs.size:=Heap.lt_size hL
 have ltM:@LT.lt Nat _ p.NM s.heap.objs.size:=Heap.lt_size hNM
 have ltN:@LT.lt Nat _ p.NL s.heap.objs.size:=Heap.lt_size hNL
 have P:Pre (wf w a b c) (oy (wf w a b c).params p L sc ts tn tm) s.heap.objs.size s.toks s:=ag B h257 ⟨hL,hNM,hNL,zt⟩ (f0 oL.1 (by omega) (by omega)) ⟨⟨zt,zt,zt⟩,⟨ne,zt⟩,zt,zt⟩
 have hcx:Cx.Ok ⟨none,420,420,some [ca L]⟩ A:=by rw[←hfr];exact hA.cx
 have n229:229∉[L,p.NM,p.NL]:=by
  exact nO3 ⟨(qh (qw (k:=27) oL.1)),(qh (qw (k:=27) oNM)),(qh (qw (k:=27) oNL))⟩
 have call1:=jli (w:=w) (a:=a) (b:=b) (c:=c) (p:=p) (L:=L) (sc:=sc) (ts:=ts) (tn:=tn) (tm:=tm) (hh:=s.heap) (V:=mkV (wf w a b c) (oy (wf w a b c).params p L sc ts tn tm) s.heap.objs.size s.toks) rfl rfl rfl rfl rfl rfl h257 oL oNM oNL ne htab n229
 refine dr (modA:=fun y=>y=229) (jff (outer:=[ca L]) (h₀:=s.heap)) P hcx hcx ⟨zt,call1,(fun y hy=>?_),(fun y hy=>hy),fun o h3 _ hf3 hsz3 hle3 hupd3 hpre3 _ hacc3 _=>⟨zt,?_,(fun y hy=>hy.elim),(fun y hy=>hy.elim),fun o2 h5 _ hf5 hsz5 hle5 hupd5 hpre5 _ hacc5 _=>⟨zt,fun h6 hsz6 hex hkept hacc=>?_⟩⟩⟩
 ·cases hy
  exact⟨n229,by show(229:Nat)<s.heap.objs.size;exact(qw (k:=27) h257),jg _⟩
 ·have hle3':s.heap.objs.size+0≤o.size:=hle3
  exact jmc rfl rfl rfl rfl (by show 257≤o.size;exact(qv (qc (ql oNM ltM) hle3'))) rfl oNM oNL ne
 ·obtain⟨np,rs,ps,ring,LR,I,hr⟩:=hf3
  obtain⟨ks,DR,KI⟩:=hf5
  have hle3':s.heap.objs.size+0≤o.size:=hle3
  have hle5':o.size+0≤o2.size:=hle5
  have hsz3':h3.objs.size=o.size:=hsz3
  have hsz5':h5.objs.size=o2.size:=hsz5
  have hsz6':h6.objs.size=o2.size+4:=hsz6
  have y0:h6.get? L=some (jd (wf w a b c).params p sc ts tn tm o2.toks (o2.toks+1) o2.ra o.ra o.sl):=hex (0,_) (.head _)
  have y1:h6.get? p.NM=some (lO (ai p.nt) p.e1):=hex (1,_) (.tail _ (.head _))
  have y2:h6.get? p.NL=some (lO (a8 p.n p.tn) p.e2):=hex (2,_) (.tail _ (.tail _ (.head _)))
  have far:∀{y:Nat},s.heap.objs.size≤y→y∉[L,p.NM,p.NL]:=fun{y} hy q=>by
   replace q:=mO3 q
   exact(q.elim (fun q=>(qf (qc (ql (qe q) ltL) hy))) fun q=>(q.elim (fun q=>(qf (qc (ql (qe q) ltM) hy))) fun q=>(qf (qc (ql (qe q) ltN) hy))))
  have k5:∀(y:Nat) (ob:Obj),s.heap.objs.size≤y→h5.get? y=some ob→h6.get? y=some ob:=fun y ob hy e=>hkept y ob e (far hy)
  refine h ((ae s).at h6 (o2.toks+2)) o2.toks (o2.toks+1) o2.ra o.ra o.size o.sl h3 h5 np rs ps ring ks y0 LR (qe hsz3') (by omega) (fun y ob hy e=>k5 y ob hy (hacc5 y ob e (far hy) (fun q=>q))) DR (fun y ob hy e=>k5 y ob (qc hle3' hy) e) I hr KI (fun y ob e hy=>?_) (let⟨tb,e⟩:=LR.tab;⟨tb,hkept _ _ (hacc5 _ _ e n229 (fun q=>q)) n229⟩) (by show s.heap.objs.size≤h6.objs.size;exact(qw (k:=4) (qk (k:=4) (qc hle3' hle5') (qg hsz6')))) rfl
  simp only[List.mem_cons,List.not_mem_nil,or_false,not_or] at hy
  by_cases e1:y=p.NM
  ·exact sg hNM y1 e e1
  by_cases e2:y=p.NL
  ·exact sg hNL y2 e e2
  exact hacc y ob e (by
   show y∉[L,p.NM,p.NL]
   refine nO3 ?_
   exact⟨hy.1,e1,e2⟩) hy.2
set_option maxHeartbeats 4000000 in
theorem jlm{dd:Option Nat}{xs:List Value}{e:Nat}{f:Nat→Int}{u:Nat→Nat}(hA:Room A 400 400)(hfr:A.frames=some [])(B:Based (wf w a b c).params s.heap)(h257:257≤s.heap.objs.size)(htab:s.heap.get? 229=some (d7 none))(hsc:s.heap.get? sc=some (lgO dd xs e sl))(hlen:xs.length≤100)
  (hx:xs.take 8=sV f u (min xs.length 8))
  (hR:∀s',af [229] s.heap s'.heap→(∃tb,s'.heap.get? 229=some (d7 tb))→s.heap.objs.size≤s'.heap.objs.size→ae s'=ae s→R (rv (.bool true)) s') :
  codeAny (model PG (wf w a b c)) A (.call (.ref 256) ⟨[.ref sc],[]⟩) R s:=by
 refine dg (E8 sc A.frames) (ag (w:=wf w a b c) (pre:=[]) B h257 zt zt zt) hA.cx  rfl zt (chg:=[]) zt fun s1 P1b P1z K1' r1 P1x=>?_
 have hs1:s1.heap.objs.size=s.heap.objs.size+1:=P1z
 have x0:s1.heap.get? s.heap.objs.size=some (frO (wf w a b c).params [("script",s.toks,.ref sc)] 1):=P1x 0 _ _ (s.heap.objs.size) rfl rfl
 generalize hN0:s.heap.objs.size=L at *
 show codeAny _ A (.func laS (ca L)) R s1
 refine codeAny_func ?_
 have hA2:Room (A.deeper (ca L)) 420 420:=(hA.deeper _).mono (qb rfl) (qb rfl)
 have hfr2:(A.deeper (ca L)).frames=some [ca L]:=by
  show A.frames.map _=_
  rw[hfr];rfl
 generalize A.deeper (ca L)=A2 at hA2 hfr2
 have hA3:Room A2 420 4200:=hA2.mono (qb rfl) (qb rfl)
 first|refine xq1 ov ?_|refine xq2 ov ?_|refine xq3 ov ?_|rw[ov]
 refine ah _ _ ?_
 refine jls (m:=min xs.length 8) hA3 P1b (qv (qq h257 P1z)) x0 h257 (K1' _ _ hsc n0m) hlen (Nat.min_le_right _ _) hx fun s2 y0 y1 K2 hs2 r2=>?_
 have n2:∀{y:Nat},y≠L→y∉[L]:=fun{y} h=>by rw[List.mem_singleton];exact h
 have B2:Based (wf w a b c).params s2.heap:=⟨fun y ob e=>K2 y ob (P1b.kt y ob e) (n2 (by have:=bm e;exact(qh (qc this h257))))⟩
 refine ah _ _ ?_
 refine bc (jfm A2.frames) (ag (w:=wf w a b c) (pre:=[(L,frO (wf w a b c).params [("script",s.toks,.ref sc),("numbers",s1.toks+12,.ref (s1.heap.objs.size+7))] 2)]) B2 (qc (qb rfl) (qk (k:=8) (qq h257 P1z) (qg hs2))) ⟨y0,zt⟩ (b6 (by omega)) ⟨zt,zt⟩) hA3.cx hA3.cx rfl zt (chg:=[L]) ⟨.inr (.head _),zt⟩ fun s3 P3b P3z K3' r3 P3x=>?_
 have hs3:s3.heap.objs.size=s2.heap.objs.size+1:=P3z
 obtain⟨p,hp⟩:∃p:Par,p=⟨fun k=>s2.toks+k.val,nU (min xs.length 8) f,tU (min xs.length 8) u s1.toks,s2.heap.objs.size,s1.heap.objs.size+7,0,0⟩:=⟨_,rfl⟩
 have hM:p.NM=s2.heap.objs.size:=by rw[hp]
 have hN:p.NL=s1.heap.objs.size+7:=by rw[hp]
 have z0:s3.heap.get? L=some (la (wf w a b c).params p sc s.toks (s1.toks+12) (s2.toks+8)):=by
  rw[hp];exact(P3x 0 _ _ (L) rfl rfl)
 have z1:s3.heap.get? p.NM=some (lO (ai p.nt) p.e1):=by
  rw[hp];exact(P3x 1 _ _ (s2.heap.objs.size) rfl rfl)
 have z2:s3.heap.get? p.NL=some (lO (a8 p.n p.tn) p.e2):=by
  rw[hp];exact K3' _ _ y1 (n2 (by show ¬(s1.heap.objs.size+7=L);exact(qj (qr (k:=7) (qg P1z)))))
 clear hp
 have B3:=P3b
 refine ah _ _ ?_
 refine jlr hA3 B3 (qc (qb rfl) (qq (qk (k:=8) (qq h257 P1z) (qg hs2)) P3z)) z0 z2 h257 (qc (qb rfl) (qk (k:=7) (qq h257 P1z) (qg hN))) fun s4 K4 hs4 r4=>?_
 have k4:∀{y:Nat} {ob:Obj},s3.heap.get? y=some ob→s4.heap.get? y=some ob:=fun{y ob} e=>K4 y ob e n0m
 have B4:Based (wf w a b c).params s4.heap:=⟨fun y ob e=>k4 (B3.kt y ob e)⟩
 have tab4:s4.heap.get? 229=some (d7 none):=k4 (K3' _ _ (K2 _ _ (K1' _ _ htab n0m) (n2 (qh (qw (k:=27) h257)))) (n2 (qh (qw (k:=27) h257))))
 refine ah _ _ ?_
 refine jlq hA2 hfr2 B4 (qc (qb rfl) (qc (qq (qk (k:=8) (qq h257 P1z) (qg hs2)) P3z) hs4)) (k4 z0) (k4 z1) (k4 z2) ⟨h257,(qh (qw (k:=8) (qy (qk (k:=8) (qg P1z) (qg hs2)) hM))),(qh (qw (k:=7) (qk (k:=7) (qg P1z) (qg hN))))⟩ (qc (qb rfl) (qy (qk (k:=8) (qq h257 P1z) (qg hs2)) hM)) (qc (qb rfl) (qk (k:=7) (qq h257 P1z) (qg hN))) (qj (qy (ql (qe hN) (qg hs2)) hM)) tab4 fun s5 td tt da ra N1 sl h1 h2 np rs ps ring ks f5 LR hh1 hh1' T1 DR T2 I hr KI K5 T5 hs5 r5=>?_
 have n5:∀{y:Nat},y≠L→y≠229→y∉[L,229]:=fun{y} h1 h2=>by
  refine nO2 ?_;exact⟨h1,h2⟩
 have B5:Based (wf w a b c).params s5.heap:=⟨fun y ob e=>K5 y ob (B4.kt y ob e) (n5 (by have:=bm e;exact(qh (qc this h257))) (fun q=>by rw[q,jg] at e;cases e))⟩
 have nm5:=K5 _ _ (k4 z1) (n5 (qj (qw (k:=8) (qy (qk (k:=8) (qg P1z) (qg hs2)) hM))) (qj (qc (qb rfl) (qy (qk (k:=8) (qq h257 P1z) (qg hs2)) hM))))
 refine wpAny_execs_cons ?_
 first|refine xq1 oz ?_|refine xq2 oz ?_|refine xq3 oz ?_|rw[oz]
 refine wpAny_Return_some (wpAny_And2 ?_)
 first|refine xq1 kg ?_|refine xq2 kg ?_|refine xq3 kg ?_|rw[kg]
 refine wpAny_Compare1 ?_
 refine c7 (jez A2.frames) (ag (w:=wf w a b c) (pre:=[(L,jd (wf w a b c).params p sc s.toks (s1.toks+12) (s2.toks+8) td tt da ra sl)]) B5 (qc (qb rfl) (qc (qc (qq (qk (k:=8) (qq h257 P1z) (qg hs2)) P3z) hs4) hs5)) ⟨f5,zt⟩ (b6 (by omega)) ⟨zt,zt⟩) hA3.cx hA3.cx rfl zt (chg:=[]) ⟨.inl rfl,zt⟩ fun s6 P6b P6z K6' r6 P6x=>?_
 have hs6:s6.heap.objs.size=s5.heap.objs.size:=P6z
 have f6:=K6' _ _ f5 n0m
 refine c7 (jew A2.frames) (ag (w:=wf w a b c) (pre:=[(L,jd (wf w a b c).params p sc s.toks (s1.toks+12) (s2.toks+8) td tt da ra sl)]) P6b (qc (qb rfl) (qy (qc (qc (qq (qk (k:=8) (qq h257 P1z) (qg hs2)) P3z) hs4) hs5) P6z)) ⟨f6,zt⟩ (b6 (by omega)) ⟨zt,zt⟩) hA3.cx hA3.cx rfl zt (chg:=[]) ⟨.inl rfl,zt⟩ fun s7 P8b P8z K8' r8 P8x=>?_
 have hs7:s7.heap.objs.size=s6.heap.objs.size:=P8z
 have k7:∀{y:Nat} {ob:Obj},s5.heap.get? y=some ob→s7.heap.get? y=some ob:=fun{y ob} e=>K8' y ob (K6' y ob e n0m) n0m
 refine jnt (by have:=hA2.u;exact(qr (k:=8580) this)) (qc (qb rfl) (qc (qq (qk (k:=8) (qq h257 P1z) (qg hs2)) P3z) hs4)) hh1' LR hh1 (fun y ob h e=>k7 (T1 y ob h e)) DR (fun y ob h e=>k7 (T2 y ob h e)) I hr KI (wpAny_truthy_bool ?_)
 first|refine itp rfl ?_|rw[if_pos rfl]
 obtain⟨rr,re,M,hM1,hrr,hre,k1,_,ev,ee,k4',_⟩:=DR.top
 have dge:=DR.ge
 have da7:=k7 (T2 _ _ dge k1)
 have re7:=k7 (T2 _ _ hre k4')
 have f7:=k7 f5
 have nm7:=k7 nm5
 have ltL:L<s3.heap.objs.size:=(qw (k:=9) (qq (qk (k:=8) (qg P1z) (qg hs2)) P3z))
 have P9:Pre (wf w a b c) (ow (wf w a b c).params p L sc s.toks (s1.toks+12) (s2.toks+8) td tt da ra rr re (decide (ks.length<8)) sl) s7.heap.objs.size s7.toks s7:=ag P8b (qc (qb rfl) (qy (qy (qc (qc (qq (qk (k:=8) (qq h257 P1z) (qg hs2)) P3z) hs4) hs5) P6z) P8z)) ⟨f7,nm7,da7,zt⟩ (f0 (by omega) (qc (qb rfl) (qy (qk (k:=8) (qq h257 P1z) (qg hs2)) hM)) (qc (qb rfl) (qc (qc (qc (qq (qk (k:=8) (qq h257 P1z) (qg hs2)) P3z) hs4) hh1') dge))) ⟨⟨zt,zt,zt⟩,⟨(by show@Ne Nat _ _;exact(qh (qc (qc (qc (qq (qe hM) P3z) hs4) hh1') dge))),zt⟩,zt,zt⟩
 have hcx:Cx.Ok ⟨none,420,4200,some [ca L]⟩ A2:=by rw[←hfr2];exact hA3.cx
 have redis:re∉[L,p.NM,da]:=by
  have d1:re≠da:=fun q=>by
   rw[q,da7] at re7
   have:=congrArg (fun o:Option Obj=>(o.map (·.cls))) re7
   have h2:some (Value.type "list")=some (Value.type "dict"):=this
   exact absurd h2 (by decide)
  refine nO3 ?_
  exact⟨(qj (qw (k:=9) (qc (qc (qc (qq (qk (k:=8) (qg P1z) (qg hs2)) P3z) hs4) hh1') hre))),(qj (qc (qc (qc (qq (qe hM) P3z) hs4) hh1') hre)),d1⟩
 have call:=jly (w:=w) (a:=a) (b:=b) (c:=c) (p:=p) (L:=L) (sc:=sc) (ts:=s.toks) (tn:=s1.toks+12) (tm:=s2.toks+8) (td:=td) (tt:=tt) (da:=da) (ra:=ra) (re:=re) (sl:=sl) (hh:=s7.heap) (V:=mkV (wf w a b c) (ow (wf w a b c).params p L sc s.toks (s1.toks+12) (s2.toks+8) td tt da ra rr re (decide (ks.length<8)) sl) s7.heap.objs.size s7.toks) rfl rfl rfl rfl (by show 257≤s7.heap.objs.size;exact(qc (qb rfl) (qy (qy (qc (qc (qq (qk (k:=8) (qq h257 P1z) (qg hs2)) P3z) hs4) hs5) P6z) P8z))) ⟨h257,(qh (qw (k:=8) (qy (qk (k:=8) (qg P1z) (qg hs2)) hM)))⟩ (qc (qb rfl) (qy (qk (k:=8) (qq h257 P1z) (qg hs2)) hM)) (qc (qb rfl) (qc (qc (qc (qq (qk (k:=8) (qq h257 P1z) (qg hs2)) P3z) hs4) hh1') hre)) re7 redis
 refine mf (modA:=fun _=>False) je3 P9 hcx hcx ⟨zt,call,(fun y hy=>hy.elim),(fun y hy=>hy),fun o h9 _ hf9 hsz9 hle9 hupd9 _ _ _ _=>⟨zt,fun h10 hsz10 hex hkept hacc v hv=>?_⟩⟩
 cases hv
 have hle9':s7.heap.objs.size+0≤o.size:=hle9
 have hsz10':h10.objs.size=o.size+0:=hsz10
 have w1:h10.get? p.NM=some (lO (ai p.nt) p.e1):=hex (1,_) (.tail _ (.head _))
 have w2:h10.get? da=some (lO [.ref rr,.bool (decide (ks.length<8)),.ref re] 0):=hex (2,_) (.tail _ (.tail _ (.head _)))
 obtain⟨tb,t5⟩:=T5
 have t10:h10.get? 229=some (d7 tb):=hacc _ _ (k7 t5) (by
  show 229∉[L,p.NM,da]
  refine nO3 ?_
  exact⟨(qh (qw (k:=27) h257)),(qh (qw (k:=36) (qy (qk (k:=8) (qq h257 P1z) (qg hs2)) hM))),(qh (qw (k:=37) (qc (qc (qc (qq (qk (k:=8) (qq h257 P1z) (qg hs2)) P3z) hs4) hh1') dge)))⟩) (fun q=>q)
 refine hR ((ae s7).at h10 (o.toks+0)) (fun y ob e hy=>?_) ⟨tb,t10⟩ (by show L≤h10.objs.size;exact(qw (k:=10) (qy (qc (qy (qy (qc (qc (qq (qk (k:=8) (qg P1z) (qg hs2)) P3z) hs4) hs5) P6z) P8z) hle9') hsz10'))) (r8.trans (r6.trans (r5.trans (r4.trans (r3.trans (r2.trans r1))))))
 have hly:@LT.lt Nat _ y s.heap.objs.size:=Heap.lt_size e
 have hy':y≠229:=fun q=>hy (by rw[q];exact .head _)
 have q7:=k7 (K5 _ _ (k4 (K3' _ _ (K2 _ _ (K1' _ _ e n0m) (n2 (qh (qx hly hN0)))) (n2 (qh (qx hly hN0))))) (n5 (qh (qx hly hN0)) hy'))
 refine hacc y ob q7 (fun q=>?_) (fun q=>q)
 have q':y∈[L,p.NM,da]:=q
 replace q':=mO3 q'
 rcases q' with q|q|q
 ·have:=ax q;exact(qf (qy (qx hly hN0) q))
 ·have:=ax q;exact(qn (k:=9) (qq (qx (ql (qy (qy (qg hs2) hM) q) hly) hN0) P1z))
 ·have:=ax q;exact(qn (k:=10) (qq (qx (ql (qy (qc (qc (qc (qq (qg hs2) P3z) hs4) hh1') dge) q) hly) hN0) P1z))
end
end Mine
namespace Mine
open PySem PySem.W PySem.W.X PyProof.Rows
theorem jnj:bAs.Nodup:=by decide +kernel
theorem N8{p:Addr×Obj}(l:List (Addr×Obj)):(l.map (·.1)).Nodup→p∈l→l.lookup p.1=some p.2:=by
 induction l with
 |nil=>exact fun _ hp=>nomatch hp
 |cons q l ih=>
  intro hn hp
  rw[List.map_cons,List.nodup_cons] at hn
  rw[List.lookup_cons]
  rcases List.mem_cons.mp hp with e|hp
  ·rw[e,beq_self_eq_true]
  ·have:p.1≠q.1:=fun e=>hn.1 (List.mem_map.mpr ⟨p,hp,e⟩)
   rw[beq_eq_false_iff_ne.mpr this]
   exact ih hn.2 hp
theorem N3{P:Params}{h:Heap}(Y:(bK P).In h):∀p∈bK P,h.get? p.1=some p.2:=fun p hp=>Y p.1 p.2 (N8 _ (by rw[←ja1];exact jnj) hp)
noncomputable def jpw(o:Obj):Array Value:=match o.data with
 |.fields vs=>vs
 |_=>#[]
noncomputable def jp5(o:Obj):Array DictEntry:=match o.data with
 |.dict es _=>es
 |_=>#[]
noncomputable def jre(o:Obj):Nat:=match o.data with
 |.dict _ n=>n
 |_=>0
theorem jl3(P:Params):(ktB P).get 233=some (mj P):=by kernel_rfl
theorem jnc(P:Params):(mj P).cls=.type "code" := by kernel_rfl
theorem jml(P:Params):(mj P).data=.fields (jpw (mj P)):=by kernel_rfl
theorem jkz(P:Params):(jpw (mj P))[11]?=some (.ref 229):=by kernel_rfl
theorem jq8(P:Params):(ktB P).get 3=some (ob3 P):=by kernel_rfl
theorem jrf(P:Params):(ob3 P).data=.dict (jp5 (ob3 P)) (jre (ob3 P)):=by kernel_rfl
theorem jq5(P:Params):nsFind (jp5 (ob3 P)) (sn "law")=some (.ref 256):=by kernel_rfl
theorem jjv(P:Params):((ktB P).get 256).isSome=true:=by kernel_rfl
theorem jk0(P:Params):A8 P=d7 none:=by kernel_rfl
noncomputable def jnu:Option Nat→Array Value
 |none=>#[]
 |some cd=>#[Value.int 176 0,.int 12 0,.ref cd]
theorem jcn(tb:Option Nat):d7 tb={ d7 none with data:=.fields (#[]++jnu tb) }:=by cases tb<;>rfl
theorem jgd:mainGlobals=3:=by kernel_rfl
noncomputable def ivI:Option Value→Int
 |some (Value.int i _)=>i
 |_=>0
noncomputable def ivT:Option Value→Nat
 |some (Value.int _ t)=>t
 |_=>0
theorem wx{vs:List Value}{ns:List Int}(h:IntsAre vs ns):∀(k:Nat) (v:Value),vs[k]?=some v→v=Value.int (ivI (some v)) (ivT (some v)):=by
 induction h with
 |nil=>intro k v h;cases h
 |cons i t hr ih=>
  intro k v h
  cases k with
  |zero=>cases h;rfl
  |succ k=>exact ih k v h
theorem ww{vs:List Value}{ns:List Int}(h:IntsAre vs ns):vs.take 8=sV (fun k=>ivI vs[k]?) (fun k=>ivT vs[k]?) (min vs.length 8):=by
 refine List.ext_getElem? fun k=>?_
 unfold sV
 rw[List.getElem?_take,List.getElem?_map]
 by_cases hk:k<min vs.length 8
 ·have h1:k<vs.length:=Nat.lt_of_lt_of_le hk (Nat.min_le_left _ _)
  have h2:k<8:=Nat.lt_of_lt_of_le hk (Nat.min_le_right _ _)
  rw[if_pos h2,List.getElem?_range hk]
  have e:vs[k]?=some vs[k]:=List.getElem?_eq_getElem h1
  rw[e]
  show some vs[k]=some (Value.int (ivI vs[k]?) (ivT vs[k]?))
  rw[e]
  exact congrArg some (wx h k _ e)
 ·have e0:(List.range (min vs.length 8))[k]?=none:=List.getElem?_eq_none (by rw[List.length_range];exact(Nat.le_of_not_lt hk))
  rw[e0]
  by_cases h2:k<8
  ·rw[if_pos h2,List.getElem?_eq_none (by omega)];rfl
  ·rw[if_neg h2];rfl
theorem jgh{w:World}{a b c':Bool}{s₁:Shared}{c:ClaimW}{cl:Str→Option Addr}{mean:ExcName→Option Value}{args:List WData}{mg:Str→Option Value}{fa:Addr}{sc:Addr}{vs:List Value}{ns:List Int}(Y:(bK (wf w a b c').params).In s₁.heap)(hns:s₁.heap.Ns mainGlobals mg)(hmg:mg (sn "law")=some (.ref fa))(hg:s₁.gens=#[])(hr:∀cls,c.raises args cls=false)(hp:c.post args (.bool true) args=true)(hL:s₁.heap.IsList sc vs.toArray)(hI:IntsAre vs ns)(hlen:ns.length≤63) :
  wpAny (model PG (wf w a b c')) callerA (call (.ref fa) [.ref sc]) (fun v s'=>GoodWG c cl mean args s₁ (.ok (.ret v)) s') (fun e s'=>GoodWG c cl mean args s₁ (.error e) s') s₁:=by
 have B:Based (wf w a b c').params s₁.heap:=.of (N3 Y)
 have t229:s₁.heap.get? 229=some (d7 none):=by
  have:=N3 Y (229,A8 (wf w a b c').params) (List.mem_append_right _ (.head _))
  rw[jk0] at this
  exact this
 have efa:fa=256:=by
  obtain⟨o,es,ep,h1,h2,_,h4⟩:=hns
  rw[jgd,B.kt _ _ (jq8 _)] at h1
  cases h1
  rw[jrf] at h2
  cases h2
  have:=h4 (sn "law")
  rw[jq5,hmg] at this
  cases this
  rfl
 subst efa
 have h257:257≤s₁.heap.objs.size:=by
  obtain⟨o,ho⟩:=Option.isSome_iff_exists.mp (jjv (wf w a b c').params)
  have:@LT.lt Nat _ 256 s₁.heap.objs.size:=Heap.lt_size (B.kt _ _ ho)
  omega
 obtain⟨⟨cls,dd,data,sl⟩,ho,hc,e,hd⟩:=hL
 simp only at hc hd
 subst hc hd
 have hlen':vs.length=ns.length:=hI.length
 refine wpAny_call ?_
 refine jlm (w:=w) (a:=a) (b:=b) (c:=c') (dd:=dd) (xs:=vs) (e:=e) (sl:=sl) ⟨rfl,by show 1+claimMargin≤400;decide,by show 4≤400;decide⟩ rfl B h257 t229 ho (qr (k:=37) (qo hlen' hlen)) (ww hI) fun s' K ⟨tb,htb⟩ hs r=>?_
 have es:=cm r
 refine⟨.inl ⟨_,_,[],rfl,hr,ReadsW.bool true,hp,fun _=>⟨List.nodup_nil,fun _ hm=>(nomatch hm)⟩⟩,⟨fun y ob q=>?_,fun y ob q=>?_⟩,by rw[es],.of_eq (by rw[es];exact hg)⟩
 ·by_cases h1:y=229
  ·subst h1
   rw[t229] at q
   cases q
   refine .inr (.inl ⟨⟨233,_,_,B.kt _ _ (jl3 _),jnc _,jml _,jkz _⟩,rfl,#[],jnu tb,rfl,htb.trans ?_⟩)
   exact congrArg some (jcn tb)
  ·exact .inl (K y ob q (du h1))
 ·by_cases h1:y=229
  ·subst h1;exact⟨_,htb⟩
  ·exact⟨_,K y ob q (du h1)⟩
theorem jbb(w:World):∃a b c,wf w a b c=w:=by
 refine⟨w.params.followText "set-order",(w.withFollow "set-order" (w.params.followText "set-order")).params.followText "comprehension-iter-twice",((w.withFollow "set-order" (w.params.followText "set-order")).withFollow "comprehension-iter-twice" ((w.withFollow "set-order" (w.params.followText "set-order")).params.followText "comprehension-iter-twice")).params.followText "special-get-raises",?_⟩
 unfold wf
 rw[World.withFollow_self,World.withFollow_self,World.withFollow_self]
theorem fin_ok{w:World}{s₁:Shared}{c:ClaimW}{cl:Str→Option Addr}{mean:ExcName→Option Value}{args:List WData}{mg:Str→Option Value}{fa:Addr}{sc:Addr}{vs:List Value}{ns:List Int}(Y:(bK w.params).In s₁.heap)(hns:s₁.heap.Ns mainGlobals mg)(hmg:mg (sn "law")=some (.ref fa))(hg:s₁.gens=#[])(hr:∀cls,c.raises args cls=false)(hp:c.post args (.bool true) args=true)(hL:s₁.heap.IsList sc vs.toArray)(hI:IntsAre vs ns)(hlen:ns.length≤63) :
  wpAny (model PG w) callerA (call (.ref fa) [.ref sc]) (fun v s'=>GoodWG c cl mean args s₁ (.ok (.ret v)) s') (fun e s'=>GoodWG c cl mean args s₁ (.error e) s') s₁:=by
 obtain⟨a,b,c',e⟩:=jbb w
 have H:(bK (wf w a b c').params).In s₁.heap→wpAny (model PG (wf w a b c')) callerA (call (.ref fa) [.ref sc]) (fun v s'=>GoodWG c cl mean args s₁ (.ok (.ret v)) s') (fun e s'=>GoodWG c cl mean args s₁ (.error e) s') s₁:=fun Y=>jgh Y hns hmg hg hr hp hL hI hlen
 rw[e] at H
 exact H Y
end Mine
namespace Mine
open PySem PySem.W PySem.W.X PyProof.Rows
noncomputable def cell(i:Nat):Stmt:=(PG.main.body[i]?).getD default
noncomputable def vw:Program:={ PG with main:={ PG.main with body:=[cell 0,cell 2,cell 4,cell 6,cell 8,cell 10,cell 12,cell 13,cell 14,cell 15,cell 16,cell 18,cell 19,cell 20,cell 21,cell 23,cell 24,cell 25,cell 26,cell 27,cell 28] } }
noncomputable def lse:List Str:=[sn "S_IFMT_stat",sn "filterfalse",sn "_NodeInfo",sn "S_IFMT_stat2"]
noncomputable def hk:Hook:=kHook bK bAs (fun P=>ja1 P)
theorem said:OpenLaw.wellSaid PySem.Challenge.rw_in0123_01=true:=by
 rw[PySem.W.Fast.te9446332074065402090]
 kernel_rfl
noncomputable def xt(s:Shared):Bool:=xlAt vw [] s&&recOk (RowW.records (OpenRow.toRowW PySem.Challenge.rw_in0123_01.row)) s
theorem top_ok:LeftO PySem.Challenge.rw_in0123_01.row.prog vw lse xt hk.obs hk.val 3714:=by
 intro w
 unfold openEnds fencedOpening topFrom
 rw[PySem.W.Fast.te14364793385576792824,PySem.W.Fast.te10274390034422433532,PySem.W.Fast.te14082659384304107361,PySem.W.Fast.te4187177175401517315,PySem.W.Fast.te5923862056798008813,PySem.W.Fast.te14289696077712309145,PySem.W.Fast.te8920871248978507458]
 kernel_rfl
end Mine
open PySem PySem.W PySem.W.X PyProof.Rows Mine
set_option maxHeartbeats 8000000 in
theorem PySem.Challenge.cw_in0123_01_holds : PySem.Challenge.rw_in0123_01.Holds := by
 w_on
 refine holds_law Mine.said fun said=>?_
 refine PySem.W.holds_open (q:=Mine.vw) (loose:=Mine.lse) (Xt:=Mine.xt) (XP:=XL Mine.vw []) (Yf:=Mine.hk.obs) (Ya:=Mine.hk.val) (YP:=Mine.hk.says) (N:=3714) Mine.top_ok Mine.hk.of Mine.hk.keeps (fun s e=>xl_of s (Bool.and_eq_true_iff.mp e).1) XL.keeps (by rfl) (by rfl) (by rfl) (fun s e=>recFacts_of (Bool.and_eq_true_iff.mp e).2) rfl said (by decide +kernel) ⟨rfl,rfl,rfl,rfl,rfl,by decide +kernel⟩ ?hw ?hc
 case hw=>w_witness2
 intro w s₀ s₁ mg mb G Y fa o pm cd doc dV kV ho hd hcd hD hmg hg args vals as hpre hlay hrd hwl hlo
 clear hcd hD hd
 have hmg':mg (Mine.sn "law")=some (.ref fa):=hmg
 clear hmg
 wrow_args hpre hlay hrd hwl hlo
 rename_i ns _ _ _ _ _ _ _ sc vs _ hL _ _ _ hI _ hlen _
 have hl:ns.length≤63:=by omega
 exact Mine.fin_ok (kIn_of Y) G.T.g hmg' hg (fun _=>rfl) (by kernel_rfl) hL hI hl
