import PyProof.Rows.All
import Wide.All
import OpenK.AllK
import Wide.FinOn
import KE.IntText
import PyProof.Conv_int
import KE.KIntText
import KE.KNest
import PyProof.EqAt
import PyProof.NeKinds
import PyProof.ListOps
import PyProof.SeqRoads
import PyProof.AutoSeq1
import PyProof.EqKinds
import PyProof.EnumFor
import PyProof.EnumMake
import PyProof.CompMap
import OpenK.KCell
import Lean
import PySem.Challenge.RW_te0062_03
set_option Elab.async false
namespace Internal
abbrev cw:=@if_neg
abbrev dt:=@if_pos
abbrev ea:=@List.length_drop
abbrev ec:=@Option.some.inj
abbrev ed:=@congrArg
abbrev eg:=@List.take_succ_cons
abbrev eh:=@List.prefix_append
abbrev eo:=@List.drop_drop
abbrev ep:=@Nat.le_refl
abbrev e9:=@List.drop_eq_getElem_cons
abbrev fa:=@List.prefix_refl
abbrev fd:=@List.getElem?_eq_some_iff
abbrev fg:=@List.getElem?_eq_getElem
abbrev fi:=@Bool.and_eq_true
abbrev f3:=@decide_eq_false
abbrev f4:=@List.cons.inj
abbrev f6:=@List.drop_eq_nil_of_le
abbrev gb:=@List.all_eq_true
abbrev gf:=@List.getElem?_drop
abbrev go:=@of_decide_eq_true
abbrev g6:=@decide_eq_true
abbrev g7:=@List.length_take
abbrev g8:=@List.length_append
abbrev g9:=@List.length_cons
abbrev hH:=@Bool.eq_iff_iff
abbrev hM:=@List.nodup_cons
abbrev hQ:=@List.getElem?_take_of_lt
abbrev hX:=@Bool.false_ne_true
abbrev h8:=@Option.map_eq_some_iff
abbrev h9:=@List.mem_singleton
abbrev j2:=@List.mem_append
abbrev kt:=@List.set_set
abbrev ku:=@of_decide_eq_false
abbrev kv:=@List.append_assoc
abbrev kx:=@List.mem_take_iff_getElem
abbrev ky:=@Int.natCast_nonneg
abbrev k4:=@Nat.add_assoc
abbrev la:=@List.prefix_rfl
abbrev ll:=@Bool.or_eq_true
abbrev lu:=@PySem.wpAny_bind
abbrev ly:=@beq_iff_eq
abbrev lz:=@Nat.ne_of_lt
abbrev l5:=@Nat.min_eq_right
abbrev l6:=@List.mem_of_getElem?
abbrev l9:=@List.mem_cons
abbrev ml:=@Nat.le_trans
abbrev mm:=@Bool.eq_false_iff
abbrev m4:=@List.append_nil
abbrev nE:=@Nat.lt_of_succ_lt_succ
abbrev nL:=@List.take_zero
abbrev nb:=@List.mem_map
abbrev nh:=@List.getElem?_eq_none
abbrev nl:=@Nat.le_succ
abbrev n6:=@List.getElem?_append_left
abbrev n7:=@Decidable.byContradiction
abbrev n8:=@Bool.and_eq_true_iff
abbrev n9:=@List.contains_iff_mem
abbrev oL:=@Nat.zero_le
abbrev oa:=@Nat.add_sub_cancel_left
abbrev on:=@List.length_eq_zero_iff
abbrev ov:=@Int.eq_ofNat_of_zero_le
abbrev o1:=@beq_eq_false_iff_ne
abbrev o4:=@Nat.lt_irrefl
abbrev pA:=@List.getLast?_eq_getElem?
abbrev pB:=@Nat.min_eq_left
abbrev pa:=@List.drop_length
abbrev pc:=@List.take_left
abbrev pu:=@List.drop_zero
abbrev p5:=@PySem.wpAny_pure
abbrev qi:=@List.map_append
abbrev q0:=@List.getElem?_append_right
abbrev rC:=@List.cons_append
abbrev ra:=@Bool.or_eq_false_iff
abbrev rb:=@Nat.lt_or_ge
abbrev rf:=@List.take_add
abbrev rx:=@List.map_cons
abbrev ry:=@PySem.Heap.lt_size
abbrev r4:=@List.getLast?_cons_cons
abbrev sf:=@List.length_map
abbrev sg:=@PySem.F.plainAttrs_str
abbrev sl:=@Nat.add_comm
abbrev s1:=@List.length_reverse
abbrev s3:=@decide_eq_true_eq
abbrev s4:=@apply_ite
abbrev s5:=@List.mem_append_right
abbrev s6:=@List.all_cons
abbrev ti:=@beq_self_eq_true
abbrev tj:=@Nat.le_add_right
abbrev tu:=@List.mem_cons_of_mem
abbrev t2:=@Decidable.of_not_not
abbrev t4:=@Bool.or_false
abbrev t5:=@List.drop_left
abbrev vA:=@List.drop_succ_cons
abbrev v0:=@Nat.le_of_ble_eq_true
abbrev v1:=@Prod.mk.inj
abbrev v2:=@List.getElem?_set_ne
abbrev v3:=@List.foldl_append
abbrev v4:=@Option.bind_some
abbrev v5:=@List.lookup_cons
abbrev v6:=@Nat.lt_of_lt_of_le
abbrev wo:=@List.mem_cons_self
abbrev xc:=@List.take_append_drop
abbrev xd:=@List.mem_iff_getElem?
abbrev xk:=@List.length_nil
abbrev xl:=@Nat.add_zero
abbrev xt:=@PySem.wpAny_truthy_bool
abbrev x3:=@PySem.wpAny_loadName_local
abbrev x4:=@List.take_length
abbrev x5:=@PySem.wpAny_mono
abbrev x6:=@Nat.succ_pos
abbrev x7:=@List.getElem?_set_self
abbrev x8:=@Bool.or_true
abbrev yL:=@Option.map_some
abbrev yc:=@List.head?_drop
abbrev yd:=@List.take_nil
abbrev yk:=@Bool.false_or
abbrev yl:=@Array.getElem?_toList
abbrev yt:=@List.nodup_append
abbrev y0:=@PySem.Heap.get?_push_of_some
abbrev y1:=@List.mem_range
abbrev E0:=@List.getD_eq_getElem?_getD
abbrev IH:=@PySem.wpAny_noRaise
abbrev Ip:=@eq_comm
abbrev Iq:=@Nat.zero_add
abbrev Ir:=@Nat.lt_succ_self
abbrev It:=@List.map_congr_left
abbrev Iu:=@Bool.or_eq_true_iff
abbrev Iv:=@Bool.true_and
abbrev Iw:=@List.foldl_cons
abbrev Iy:=@decide_eq_true_iff
abbrev Iz:=@Option.bind_eq_some_iff
abbrev I0:=@if_true
abbrev I1:=@Nat.sub_self
abbrev I2:=@List.take_of_length_le
abbrev I3:=@List.reverse_cons
abbrev I4:=@List.getElem?_map
abbrev I5:=@PySem.wpAny_Constant_str
abbrev I6:=@PySem.typeIs_str
abbrev I7:=@Nat.sub_eq_zero_of_le
abbrev I8:=@Nat.eq_of_beq_eq_true
abbrev I9:=@List.set_getElem_self
abbrev JA:=@or_congr
abbrev JB:=@List.getElem?_of_mem
abbrev JC:=@Nat.not_lt_zero
abbrev JD:=@Nat.le_add_left
abbrev JE:=@List.nil_append
abbrev JF:=@Array.toList_append
abbrev JG:=@Nat.succ.inj
abbrev JH:=@Int.ofNat_le
abbrev JI:=@List.contains_cons
abbrev JJ:=@List.getElem?_zip_eq_some
abbrev JK:=@List.getElem?_eq_none_iff
abbrev JL:=@List.size_toArray
abbrev JM:=@List.ext_getElem?
abbrev JN:=@List.contains_nil
abbrev JO:=@PySem.StrLaws.take1_drop
abbrev JP:=@Int.ofNat.inj
abbrev JQ:=@PySem.evalPart_none_step
abbrev JR:=@decide_eq_decide
abbrev JS:=@bne_iff_ne
abbrev JT:=@Nat.le_of_eq
abbrev JU:=@PySem.wpAny_assign_Name
abbrev JV:=@PySem.wpAny_Call_method
abbrev JW:=@PySem.sizeLine_eq
abbrev JX:=@List.set_append_right
abbrev JY:=@List.reverse_reverse
abbrev JZ:=@List.mem_append_left
abbrev Ja:=@PySem.wpAny_Name
abbrev Jb:=@List.takeWhile_cons
abbrev Jc:=@List.replicate_zero
abbrev Jd:=@Array.length_toList
abbrev Je:=@PySem.wpAny_isTrue_Compare1
abbrev Jf:=@List.set_cons_succ
abbrev Jg:=@List.getLast?_drop
abbrev Jh:=@PySem.wpAny_ite_true
abbrev Ji:=@PySem.Calls.callWith_builtin
abbrev Jj:=@Nat.lt_succ_of_lt
abbrev Jk:=@List.flatten_cons
abbrev Jl:=@Int.ofNat_lt
abbrev Jm:=@and_congr
abbrev Jn:=@Nat.succ_lt_succ
abbrev Jo:=@Nat.not_lt_of_le
abbrev Jp:=@List.not_mem_nil
abbrev Jq:=@List.getElem_mem
abbrev Jr:=@PySem.Heap.get?_push_size
abbrev Js:=@PyProof.Rows.Subscript_
abbrev Jt:=@List.getLast?_eq_some_getLast
abbrev Ju:=@List.zip_append
abbrev Jv:=@List.cons.injEq
abbrev Jw:=@List.all_append
abbrev Jx:=@Int.le_max_left
abbrev Jy:=@Bool.decide_and
abbrev Jz:=@List.idxOf_lt_length_of_mem
abbrev J0:=@PySem.wpAny_truthy_list
abbrev J1:=@PySem.wpAny_newObj_type
abbrev J2:=@PySem.wpAny_Return_some
abbrev J3:=@PyProof.Rows.callWith_type
abbrev J4:=@Nat.add_le_add
abbrev J5:=@PySem.Calls.Name_function_global
abbrev J6:=@Int.not_lt
abbrev J7:=@Int.fmod_eq_emod_of_nonneg
end Internal
section
open PySem PySem.W PyProof.Rows
set_option Elab.async false
set_option maxRecDepth 100000
set_option maxHeartbeats 0
namespace Internal
abbrev XE:=Lean.Expr
open Lean Meta in
theorem parts:True:=by
  run_tac do
    let E:=mkConst `PySem.Expr
    let S:=mkConst `PySem.Stmt
    let L(t:XE):XE:=.app (mkConst `List [0]) t
    let lit(t:XE)(l:List XE):XE:=l.foldr (λx y=>mkApp3 (mkConst `List.cons [0]) t x y) (.app (mkConst `List.nil [0]) t)
    let ts:=[L E,L (L E),L (L S)]
    let K:=ts.foldr (λt k=>mkApp2 (mkConst `Prod [0,0]) t k) (mkConst `PySem.Pos)
    for T in[`PySem.Expr,`PySem.Stmt]do
      let v<-withLocalDeclD `e (mkConst T) λe=>do
        let ms<-(<-getConstInfoInduct T).ctors.mapM λc=>do forallTelescope (<-inferType (mkConst c)) λxs _=>do
          let mut m:List (List XE):=[[],[],[]]
          for x in xs do
            let t<-inferType x
            if t.isAppOf `Option&&t.appArg!==E then m:=m.modify 0 (·++[mkApp3 (mkConst `Option.getD [0]) E x (mkApp2 (mkConst `PySem.Expr.JoinedStr) (lit E []) xs.back!)])
            if t==E then m:=m.modify 0 (·++[x])
            if t==L E then m:=m.modify 1 (·++[x])
            if t==L S then m:=m.modify 2 (·++[x])
          let r<-(ts.zip m).foldrM (λ(t,l)r=>mkAppM `Prod.mk #[lit t.appArg! l,r]) xs.back!
          mkLambdaFVars xs r
        mkLambdaFVars #[e] (mkAppN (mkConst (T++`casesOn) [1]) (#[.lam `x (mkConst T) K .default,e]++ms))
      addDecl (.defnDecl {name:=if T==`PySem.Expr then`Internal.ykE else`Internal.ykS,levelParams:=[],type:=<-mkArrow (mkConst T) K,value:=v,hints:=.abbrev,safety:=.safe})
  trivial
noncomputable abbrev yp0:Pos:=⟨0,0,0,0⟩
noncomputable def ye0(i:Nat)(e:PySem.Expr):PySem.Expr:=(ykE e).1.getD i e
noncomputable def yeL(e:PySem.Expr):List PySem.Expr:=(ykE e).2.1.headD []
noncomputable def yeP(e:PySem.Expr):Pos:=(ykE e).2.2.2
noncomputable def ys0(i:Nat)(s:Stmt):PySem.Expr:=(ykS s).1.getD i (.Name "" yp0)
noncomputable def ysL(s:Stmt):List PySem.Expr:=(ykS s).2.1.headD []
noncomputable def ysB(i:Nat)(s:Stmt):List Stmt:=(ykS s).2.2.1.getD i []
noncomputable def ysP(s:Stmt):Pos:=(ykS s).2.2.2
noncomputable def yhE(l:List PySem.Expr):PySem.Expr:=l.headD (.Name "" yp0)
noncomputable def yhS(l:List Stmt):Stmt:=l.headD (.Pass yp0)
noncomputable def ynS(i:Nat)(l:List Stmt):Stmt:=l.getD i (.Pass yp0)
noncomputable def ypickS(l:List Nat)(b:List Stmt):List Stmt:=l.filterMap (b[·]?)
def itH{β a:Type}(b:β->a)(F:Nat->(β->a)->β->a):Nat->β->a
  |0,x=>b x
  |k+1,x=>F k (itH b F k) x
open Lean Meta Elab.Tactic in
theorem quiet:True:=by
  run_tac do
    for k in[0:3000]do
      for s in["tree","heap","view","env","sts"]do
        Fast.primed.modify (·.insert ((`Internal.hd).str s!"{s}_{k}") none)
    for n in[`PySem.Challenge.pw_te0062_03,`PySem.Challenge.rw_te0062_03]do Fast.primed.modify (·.insert n none)
    let Q:=Elab.Term.exprToSyntax
    let pE:=mkConst `PySem.Challenge.pw_te0062_03
    let p<-progOf pE
    let C(n:Name):XE:=mkConst n
    let M(n:Name):XE:=C (`Internal++n)
    let R:=mkApp (C ``Module.body) (mkApp (C ``Program.main) pE)
    let some allCells<-cellsD? R|failure
    let mut pth:Std.HashMap XE XE:={}
    for(c,i)in allCells.zipIdx do
      let s:=mkApp2 (M `ynS) (mkRawNatLit i) R
      let b:=mkApp2 (M `ysB) (mkRawNatLit 0) s
      if c.isAppOf ``Stmt.FunctionDef then pth:=pth.insert (c.getArg! 2) b
      if c.isAppOf ``Stmt.ClassDef then
        for(d,j)in((<-cellsD? (c.getArg! 3)).getD []).zipIdx do
          if d.isAppOf ``Stmt.FunctionDef then pth:=pth.insert (d.getArg! 2) (mkApp2 (M `ysB) (mkRawNatLit 0) (mkApp2 (M `ynS) (mkRawNatLit j) b))
    let rp(e:XE):XE:=e.replace λx=>if x.isAppOfArity ``List.cons 3 then pth[x]? else none
    let pieces(g:MVarId):MetaM Unit:=g.withContext do
      let T:=(<-instantiateMVars (<-g.getType)).consumeMData
      let a:=T.getAppArgs
      let NE:=a[7]!
      let some N<-(Meta.evalNat NE).run|failure
      let .ok t<-traceTop p N 1|failure
      let .ok t'<-traceTop p N 2|failure
      let nt:=natE
      let aux(ty pf:XE):MetaM XE:=do return mkConst (<-mkAuxLemma [] ty pf (cache:=false))
      let(tb,m0,ann):=(C ``treeTable,nt t.s0.heap.objs.size,toExpr t.ann)
      let rows(x y:Snap):=(x.rows++y.rows).eraseDups
      let main<-mkAppM ``Program.main #[pE]
      let scope<-mkAppM ``Module.scope #[main]
      let op:=mkApp (C ``opening) pE
      let pl:=mkApp (C ``plainProg) (<-mkAppM ``Scope.names #[scope])
      let e<-aux (<-mkEq op pl) (<-mkEqRefl op)
      let f<-withLocalDeclD `s (C ``Shared) λs=>do
        let r<-mkAppM ``some #[s]
        aux (<-mkForallFVars #[s] (<-mkEq (mkApp2 (C ``fenceModules?) pE s) r)) (<-mkLambdaFVars #[s] (<-mkEqRefl r))
      let boot:=mkAppN (C ``boot_open) #[pE,NE,e,<-mkDecideProof (<-mkEq (mkApp2 (C ``Nat.ble) (nt 600) NE) (C ``Bool.true)),f]
      let bE:=mkApp (C ``behindTheImports) pE
      let envE<-Elab.Term.TermElabM.run' do
        let sS<-Q scope
        let cS<-Q (toExpr t.code)
        instantiateMVars (<-Elab.Term.withSynthesize (Elab.Term.elabTermEnsuringType (<-`(({scope:=$sS,locals:=mainNs,globals:=mainNs,cells:=[],code:=$cS,frame:=some $(quote t.frame)}:Env))) (C ``Env)))
      let env<-defAt `env (C ``Env) envE
      let objs(s:Shared)(P:XE):Array XE:=s.heap.objs.mapIdx λi o=>
        match t.s0.heap.objs[i]? with
        |some b=>if sameObjNow b o then mkApp (mkConst ((`PySem.W).str s!"boot_o_{i}")) P else rp (objE P o)
        |none=>rp (objE P o)
      let mkH(s:Shared):MetaM W.State:=do
        let v<-withLocalDeclD `P (C ``Params) λP=>mkLambdaFVars #[P] (mkApp2 (C ``Heap.mk) (mkApp2 (mkConst ``Array.mk [0]) (C ``Obj) (listE (C ``Obj) (objs s P).toList)) (toExpr s.heap.life))
        return⟨<-defAt `heap (<-mkArrow (C ``Params) (C ``Heap)) v,<-gensE s s,toExpr s.drawn,nt s.toks,none⟩
      let mkT(s:Shared):MetaM W.State:=do
        let v<-withLocalDeclD `P (C ``Params) λP=>do
          let os:=objs s P
          mkLambdaFVars #[P] (treeE P (os.map λo=>.lam `x (C ``Params) o .default) 1 0)
        let v<-Core.betaReduce v
        return{heap:=default,gens:=<-gensE s s,drawn:=toExpr s.drawn,toks:=nt s.toks,tree:=some (<-defAt `tree (<-mkArrow (C ``Params) (C ``BT)) v,nt s.heap.objs.size,toExpr s.heap.life)}
      let S0:W.State:={heap:=C ``boot_heap,gens:=<-gensE t.s0 t.s0,drawn:=C ``boot_drawn,toks:=C ``boot_toks}
      let Sa<-mkH t.pre.s
      let Sb<-mkT t.block.s
      let Sf<-mkH t.fin.s
      let q:=toExpr t.framePos
      let cE:=mkApp2 (C ``Code.body) bE env
      let B:=listE (C ``Frame) [mkApp (C ``topFrame) q]
      let rst(n:XE)(f:Name)(w:XE)(x:Array XE)(s th:XE):=mkAppN (C f) (#[tb,pE,w,m0,ann]++x++#[n,s,th])
      let stub:=mkApp (C ``topStub) pE
      let out(s pos:XE):MetaM XE:=do mkAppM ``some #[<-mkAppM ``Prod.mk #[C ``Flow.next,<-mkAppM ``Prod.mk #[s,<-mkAppM ``Prod.mk #[cE,pos]]]]
      let(posA,posB):=(toExpr t.pre.pos,toExpr t.block.pos)
      let one:=nt 1
      let(nA,nB,nD):=(nt t.pre.steps,nt t.block.steps.succ,nt t.fin.steps.succ)
      let thA:=mkApp4 (C ``Thread.mk) (mkApp2 (C ``denote) tb cE) cE posA B
      let pre<-byPiece (rows t.pre t'.pre) (λw os=>pure (rst nA ``topGo w #[] (S0.at w os) stub)) λw os=>do mkAppM ``some #[<-mkAppM ``Prod.mk #[Sa.at w os,thA]]
      let block<-byPiece (rows t.block t'.block) (λw os=>pure (rst nB ``segRun w #[one] (Sa.at w os) (mkAppN (C ``blockOf) #[bE,env,cE,posA,B]))) λw os=>out (Sb.at w os) posB
      let some cells<-cellsD? bE|failure
      let mut done:=0
      let lst:=listE (C ``Stmt)
      let mut gs:Array (List XE×Nat×List String×Snap):=#[]
      for((c,x),x')in(cells.zip t.pieces).zip t'.pieces do
        let k:=max x.steps x'.steps
        match gs.back? with
        |some (l,n,r,_)=>if n+k<=2600 then gs:=gs.pop.push (l++[c],n+k,(r++rows x x').eraseDups,x)else gs:=gs.push ([c],k,rows x x',x)
        |none=>gs:=gs.push ([c],k,rows x x',x)
      let mut S:=Sb
      let mut pos:=posB
      let mut ls:List (XE×XE×XE×XE×W.State×W.State×XE):=[]
      for(l,n,r,x)in gs do
        let cnt:=l.length
        let l<-defAt `sts (mkApp (mkConst ``List [0]) (C ``Stmt)) (mkApp3 (mkConst ``List.take [0]) (C ``Stmt) (nt cnt) (mkApp3 (mkConst ``List.drop [0]) (C ``Stmt) (nt done) bE))
        done:=done+cnt
        let S1:=S
        let pos1:=pos
        S<-mkT x.s
        let S2:=S
        pos:=toExpr x.pos
        let pos2:=pos
        let n:=nt n.succ
        let lem<-liftT (<-byPiece r (λw os=>pure (rst n ``segRunT w #[one] (S1.atT w os) (mkAppN (C ``piecesOf) #[l,env,cE,pos1,B]))) λw os=>out (S2.atT w os) pos2) ``segRun_of
        ls:=(l,n,pos1,pos2,S1,S2,lem)::ls
      let Sc:=S
      let posC:=pos
      let fin<-byPiece (rows t.fin t'.fin) (λw os=>pure (rst nD ``topRun w #[] (Sc.at w os) (mkApp4 (C ``Thread.mk) (mkApp (C ``doneF) (C ``Flow.next)) cE posC B))) λw os=>mkAppM ``some #[Sf.at w os]
      let add(a b:XE):XE:=mkApp2 (C ``Nat.add) a b
      let M1:=ls.foldl (λM x=>add x.2.1 M) nD
      let M2:=add nB M1
      let M:=add nA M2
      let run<-withLocalDeclD `w (C ``World) λw=>withLocalDeclD `os (C ``OsState) λos=>do
        let atW(l:XE):MetaM XE:=mkAppM ``congrFun #[mkApp l w,os]
        let r:=Sf.at w os
        let cm:=#[tb,pE,w,m0,ann,env,q]
        let mut k<-atW fin
        let mut N:=nD
        let mut KC:=lst []
        for(l,n,p1,p2,S1,S2,lem)in ls do
          k:=mkAppN (C ``piece_app) (cm++#[n,N,S1.at w os,S2.at w os,r,l,KC,cE,p1,p2,<-atW lem,k])
          N:=add n N
          KC<-mkAppM ``HAppend.hAppend #[l,KC]
        k:=mkAppN (C ``piece_block) (cm++#[nB,M1,Sa.at w os,Sb.at w os,r,bE,cE,posA,posB,<-atW block,k])
        k:=mkAppN (C ``go_top) #[tb,pE,w,m0,ann,nA,M2,S0.at w os,Sa.at w os,r,stub,thA,<-atW pre,k]
        pure (<-mkForallFVars #[w,os] (<-mkEq (rst M ``topRun w #[] (S0.at w os) stub) (<-mkAppM ``some #[r])),<-mkLambdaFVars #[w,os] k)
      let run<-aux run.1 run.2
      let e:=mkConst ``LeftO.of_pieces
      let(ms,_,_)<-forallMetaTelescope (<-inferType e)
      let vals:=#[pE,a[1]!,a[2]!,a[3]!,a[4]!,a[5]!,a[6]!,NE,a[8]!,S0.heap,Sf.heap,S0.gens,Sf.gens,S0.drawn,Sf.drawn,S0.toks,Sf.toks,m0,ann,M]
      for(m,v)in ms.zip vals do m.mvarId!.assign v
      let asP(ty:XE):MetaM XE:=do
        let .forallE n d b bi:=ty|failure
        pure (.lam n d b bi)
      let size<-byKernelQuick (<-asP (<-instantiateMVars (<-inferType ms[21]!))) []
      let lam2(f:XE->XE->MetaM XE):MetaM XE:=withLocalDeclD `w (C ``World) λw=>withLocalDeclD `os (C ``OsState) λos=>do mkLambdaFVars #[w,os] (<-f w os)
      let two(e:XE):MetaM (Option (XE×XE)):=withLocalDeclD `w (C ``World) λw=>withLocalDeclD `os (C ``OsState) λos=>do
        let e:=(mkApp2 e w os).headBeta
        let e<-if e.isAppOf ``openSeen||e.isAppOf ``openGood then pure ((<-unfoldDefinition? e).getD e)else pure e
        if e.isAppOfArity ``Prod.mk 4 then return some (<-mkLambdaFVars #[w,os] (e.getArg! 2),<-mkLambdaFVars #[w,os] (e.getArg! 3))else return none
      let split:Nat->XE->XE->MetaM XE:=itH (λ_ _=>failure) λn self l r=>do
        let dl<-two l
        let dr<-two r
        match(if n<30-2 then none else dl),dr with
        |some (a,b),some (c,d)=>
          let x<-self a c
          let y<-self b d
          lam2 λw os=>mkAppM ``looks_pair #[mkApp2 x w os,mkApp2 y w os]
        |_,_=>
          let P<-withLocalDeclD `w (C ``World) λw=>do mkLambdaFVars #[w] (<-mkEq (mkApp l w).headBeta (mkApp r w).headBeta)
          let e<-byKernelQuick P []
          lam2 λw os=>mkAppM ``congrFun #[mkApp e w,os]
      let .forallE _ _ bd _<-instantiateMVars (<-inferType ms[24]!)|failure
      let A0(i:Nat):MetaM XE:=withLocalDeclD `w (C ``World) λw=>do mkLambdaFVars #[w] ((bd.instantiate1 w).getArg! i)
      let h<-split 30 (<-A0 1) (<-A0 2)
      let looks<-withLocalDeclD `w (C ``World) λw=>do mkLambdaFVars #[w] (<-mkAppM ``funext #[(mkApp h w).headBeta])
      g.assign (mkAppN e (vals++#[boot,size,run,<-mkDecideProof (<-instantiateMVars (<-inferType ms[23]!)),looks]))
    let name:=`Internal.hd
    Elab.Term.withDeclName name do
      let ty<-Elab.Term.elabType (<-`(PySem.Challenge.rw_te0062_03.Holds))
      let g<-mkFreshExprSyntheticOpaqueMVar ty
      let head:TacticM Unit:=withMainContext do
        let ty<-whnfR (<-instantiateMVars (<-getMainTarget))
        let r<-mkAppM ``OpenRow.toRowW #[ty.appArg!]
        let callee<-strSlow (<-mkAppM ``RowW.name #[r])
        let some (h,h')<-twoRuns p|failure
        let pr:=mkApp2 (mkConst ``Prod [0,0]) (C ``Nat) (C ``Obj)
        let(v,fr)<-withLocalDeclD `P (C ``Params) λP=>do
          let fr:=fragOf P (some callee.toString) h h'
          pure (<-mkLambdaFVars #[P] (listE pr (fr.map λ(a,_,e)=>mkApp4 (mkConst ``Prod.mk [0,0]) (C ``Nat) (C ``Obj) (mkRawNatLit a) (rp e))),fr)
        let K<-mkAuxDefinition (`Internal.hd.heap_39) (<-mkArrow (C ``Params) (C ``Frag)) v (compile:=false)
        fragNow.modify ((K.constName!,fr.map λ(a,o,_)=>(a,o))::·)
        let .ok c<-openProbe p|failure
        let nm(x:PySem.Str):=mkApp (C ``PySem.Str.ofString) (mkStrLit x.toString)
        let body:=mkApp2 (M `ypickS) (listE (C ``Nat) (c.keep.map mkRawNatLit)) R
        let(kS,aS,bS,pS,rS):=(<-Q K,<-Q (listE (C ``Nat) (fr.map λ(a,_,_)=>mkRawNatLit a)),<-Q body,<-Q pE,<-Q r)
        let q<-mkAuxDefinition `Internal.hd.view_39 (C ``Program) (<-instantiateMVars (<-Elab.Term.elabTerm (<-`(({$pS with main:={($pS).main with body:=$bS}}:Program))) none)) (compile:=false)
        let(qS,lS):=(<-Q q,<-Q (<-mkListLit (C ``PySem.Str) (c.loose.map nm)))
        let vS<-Q (<-mkListLit (<-mkAppM ``Prod #[mkConst ``PySem.Str,mkConst ``WData]) (<-c.lv.mapM λ(x,d)=>mkAppM ``Prod.mk #[nm x,wExpr d]))
        let nS:=Syntax.mkNumLit (toString (2*c.steps+100))
        let H<-`(kHook $kS $aS (λ_=>by kernel_rfl))
        evalTactic (<-`(tactic|refine holds_open (q:=$qS) (loose:=$lS) (Xt:=λs=>xlAt $qS $vS s&&recOk (RowW.records $rS) s) (XP:=XL $qS $vS) (Yf:=Hook.obs $H) (Ya:=Hook.val $H) (YP:=Hook.says $H) (N:=$nS) ?hl (Hook.of $H) (Hook.keeps $H) (λs e=>xl_of s (n8.mp e).1) XL.keeps (by rfl) (by rfl) (by rfl) (λs e=>recFacts_of (n8.mp e).2) (by rfl) (by first|assumption|decide+kernel) (by decide+kernel) ⟨rfl,rfl,rfl,rfl,rfl,by decide+kernel⟩ ?hw ?hc))
        let mut KC:=[]
        for g in<-getGoals do
          if(<-g.getTag).eraseMacroScopes==`hl then pieces g
          else KC:=KC++[<-g.tryClearMany ((<-getLCtx).getFVarIds)]
        setGoals KC
      let KC<-Elab.Tactic.run g.mvarId! (withoutRecover do
        evalTactic (<-`(tactic|(w_on;o_law)))
        head
        evalTactic (<-`(tactic|(case hw=>w_witness2))))
      let[hc]:=KC|failure
      let T<-instantiateMVars (<-hc.getType)
      let pf<-withLocalDeclD `walk T λh=>do
        hc.assign h
        mkLambdaFVars #[h] (<-instantiateMVars g)
      addDecl (.thmDecl {name,levelParams:=[],type:=rp (<-mkArrow T ty),value:=rp pf})
  trivial
end Internal
end
section
set_option Elab.async false
set_option genSizeOf false
set_option genInjectivity false
set_option bootstrap.genMatcherCode false
set_option genSizeOf false
set_option genInjectivity false
namespace Internal
inductive LX where
  |v(i:Nat)
  |c(n:Nat)
  |p(a b:LX)
  |m(k:Nat)(a:LX)
  |r(a:LX)(k:Nat)
inductive LC where
  |le(a b:LX)
  |lt(a b:LX)
  |eq(a b:LX)
  |nle(a b:LX)
  |nlt(a b:LX)
  |ff
noncomputable def hdN(l:List Nat):Nat:=l.casesOn 0 λa _=>a
noncomputable def tlN(l:List Nat):List Nat:=l.casesOn [] λ_ r=>r
noncomputable def wP(l:List Nat)(i:Nat):Nat:=hdN (i.rec l λ_ r=>tlN r)
noncomputable def LX.ev(l:List Nat)(e:LX):Nat:=e.rec (λi=>wP l i) (λn=>n) (λ_ _ a b=>a+b) (λk _ a=>k*a) (λ_ k a=>a*k)
def LC.den(l:List Nat)(c:LC):Prop:=c.casesOn (λa b=>a.ev l<=b.ev l) (λa b=>a.ev l<b.ev l) (λa b=>a.ev l=b.ev l) (λa b=>¬a.ev l<=b.ev l) (λa b=>¬a.ev l<b.ev l) False
noncomputable def bump(f:List Nat)(i k:Nat):List Nat:=i.rec (λf=>(hdN f+k)::tlN f) (λ_ a f=>hdN f::a (tlN f)) f
noncomputable def LX.add(e:LX):Nat->List Nat->List Nat:=e.rec (λi k f=>bump f (i+1) k) (λn k f=>bump f 0 (k*n)) (λ_ _ a b k f=>b k (a k f)) (λj _ a k f=>a (k*j) f) (λ_ j a k f=>a (k*j) f)
noncomputable def evT(f:List Nat):List Nat->Nat:=f.rec (λ_=>0) λa _ b l=>a*hdN l+b (tlN l)
noncomputable def evF(l f:List Nat):Nat:=evT f (1::l)
theorem r3(f l:List Nat):hdN f*hdN l+evT (tlN f) (tlN l)=evT f l:=by
  cases f with
  |nil=>exact(xl _).trans (Nat.zero_mul _)
  |cons a f=>rfl
theorem zw(k i:Nat):∀(f l:List Nat),evT (bump f i k) l=evT f l+k*wP l i:=by
  induction i with
  |zero=>exact λf l=>(ed (·+_) (Nat.add_mul _ _ _)).trans ((Nat.add_right_comm _ _ _).trans (ed (·+_) (r3 f l)))
  |succ i a=>
    intro f l;have e:wP l (i+1)=wP (tlN l) i:=by
      refine ed hdN ?_;clear a;induction i with
      |zero=>rfl
      |succ i h=>exact ed tlN h
    rw[e];exact(ed (_+·) (a (tlN f) (tlN l))).trans ((k4 _ _ _).symm.trans (ed (·+_) (r3 f l)))
theorem BM(l:List Nat)(i:Nat):wP (1::l) (i+1)=wP l i:=by
  refine ed hdN ?_;induction i with
  |zero=>rfl
  |succ i h=>exact ed tlN h
theorem CF(l:List Nat)(e:LX):∀(k:Nat)(f:List Nat),evF l (e.add k f)=evF l f+k*e.ev l:=by
  induction e with
  |v i=>exact λk f=>(zw k (i+1) f (1::l)).trans (by rw[BM];rfl)
  |c n=>exact λk f=>(zw (k*n) 0 f (1::l)).trans (ed (_+·) (Nat.mul_one _))
  |p a b g d=>exact λk f=>(d k _).trans ((ed (·+_) (g k f)).trans ((k4 _ _ _).trans (ed (_+·) (Nat.mul_add _ _ _).symm)))
  |m j a h=>exact λk f=>(h (k*j) f).trans (ed (_+·) (Nat.mul_assoc _ _ _))
  |r a j h=>exact λk f=>(h (k*j) f).trans (ed (_+·) ((Nat.mul_assoc _ _ _).trans (ed (_*·) (Nat.mul_comm _ _))))
noncomputable def geT(g:List Nat):List Nat->Bool:=g.rec (λ_=>true) λb _ a f=>Nat.ble b (hdN f)&&a (tlN f)
noncomputable def gtF(f g:List Nat):Bool:=Nat.ble (hdN g+1) (hdN f)&&geT (tlN g) (tlN f)
theorem xX{a b:Bool}(h:(a&&b)=true):a=true/\b=true:=by
  cases a
  ·exact nomatch h
  ·exact⟨rfl,h⟩
theorem Dh(g:List Nat):∀(l f:List Nat),geT g f=true->evT g l<=evT f l:=by
  induction g with
  |nil=>exact λl f _=>oL _
  |cons b g a=>
    intro l f h;have h':=xX h;exact r3 f l▸J4 (Nat.mul_le_mul_right _ (v0 h'.1)) (a (tlN l) (tlN f) h'.2)
theorem Dd(l f g:List Nat)(h:gtF f g=true):evF l g<evF l f:=by
  have h':=xX h;have a:hdN g*1+1<=hdN f*1:=by rw[Nat.mul_one,Nat.mul_one];exact v0 h'.1
  have b:=Dh (tlN g) l (tlN f) h'.2;show evT g (1::l)<evT f (1::l);rw[<-r3 f,<-r3 g];exact Nat.add_lt_add_of_lt_of_le a b
def jx(l:List Nat)(P:Prop)(h:List LC):Prop:=h.rec P λc _ r=>c.den l->r
noncomputable def Au(h:List LC):List Nat->List Nat->List Nat->List Nat×List Nat:=h.rec (λ_ f g=>(f,g)) λc _ d q=>c.casesOn
  (λa b f g=>d (tlN q) (a.add (hdN q) f) (b.add (hdN q) g))
  (λa b f g=>d (tlN q) (bump (a.add (hdN q) f) 0 (hdN q)) (b.add (hdN q) g))
  (λa b f g=>d (tlN (tlN q)) (b.add (hdN (tlN q)) (a.add (hdN q) f)) (a.add (hdN (tlN q)) (b.add (hdN q) g)))
  (λa b f g=>d (tlN q) (bump (b.add (hdN q) f) 0 (hdN q)) (a.add (hdN q) g))
  (λa b f g=>d (tlN q) (b.add (hdN q) f) (a.add (hdN q) g))
  (λf g=>(f,g))
theorem qa(l:List Nat){f g:List Nat}(h:evF l f<=evF l g)(a b:LX)(k:Nat)(e:a.ev l<=b.ev l):evF l (a.add k f)<=evF l (b.add k g):=by
  rw[CF,CF];exact J4 h (Nat.mul_le_mul_left k e)
theorem AQ(l:List Nat){f g:List Nat}(h:evF l f<=evF l g)(a b:LX)(k:Nat)(e:a.ev l<b.ev l):evF l (bump (a.add k f) 0 k)<=evF l (b.add k g):=by
  have :evF l (bump (a.add k f) 0 k)=evF l f+k*(a.ev l+1):=(zw k 0 _ _).trans ((ed (·+_) (CF l a k f)).trans ((k4 _ _ _).trans (ed (_+·) (Nat.mul_add k _ 1).symm)));rw[this,CF];exact J4 h (Nat.mul_le_mul_left k e)
theorem As(l:List Nat)(P:Prop)(h:List LC):∀(q f g:List Nat),evF l f<=evF l g->(evF l (Au h q f g).1<=evF l (Au h q f g).2->P)->jx l P h:=by
  induction h with
  |nil=>exact λq f g h1 h2=>h2 h1
  |cons c h d=>
    intro q f g h1 h2 hc;cases c with
    |le a b=>exact d _ _ _ (qa l h1 a b _ hc) h2
    |lt a b=>exact d _ _ _ (AQ l h1 a b _ hc) h2
    |nle a b=>exact d _ _ _ (AQ l h1 b a _ (Nat.lt_of_not_le hc)) h2
    |nlt a b=>exact d _ _ _ (qa l h1 b a _ (Nat.le_of_not_lt hc)) h2
    |eq a b=>exact d _ _ _ (qa l (qa l h1 a b _ (JT hc)) b a _ (JT (Eq.symm hc))) h2
    |ff=>exact False.elim hc
noncomputable def zr(h:List LC)(q f g:List Nat):Bool:=gtF (Au h q f g).1 (Au h q f g).2
theorem lin_ff(l:List Nat)(h:List LC)(q:List Nat)(e:zr h q [] []=true):jx l False h:=
  As l False h q [] [] (ep _) λx=>absurd x (Nat.not_le.mpr (Dd l _ _ e))
theorem y5{l:List Nat}{P:Prop}:∀{h:List LC},(¬P->jx l False h)->jx l P h:=λ{h}=>List.rec (motive:=λh=>(¬P->jx l False h)->jx l P h) (λf=>Classical.byContradiction f) (λ_ _ a f x=>a λn=>f n x) h
theorem lin_le(l:List Nat)(h:List LC)(a b:LX)(q:List Nat)(e:zr (.nle a b::h) q [] []=true):jx l (a.ev l<=b.ev l) h:=y5 λn=>lin_ff l (.nle a b::h) q e n
theorem lin_lt(l:List Nat)(h:List LC)(a b:LX)(q:List Nat)(e:zr (.nlt a b::h) q [] []=true):jx l (a.ev l<b.ev l) h:=y5 λn=>lin_ff l (.nlt a b::h) q e n
theorem Bf{l:List Nat}{P Q R:Prop}(f:P->Q->R):∀{h:List LC},jx l P h->jx l Q h->jx l R h:=λ{h}=>List.rec (motive:=λh=>jx l P h->jx l Q h->jx l R h) f (λ_ _ a p q x=>a (p x) (q x)) h
theorem lin_eq(l:List Nat)(h:List LC)(a b:LX)(q c:List Nat)(e:zr (.nle a b::h) q [] []=true)(d:zr (.nle b a::h) c [] []=true):jx l (a.ev l=b.ev l) h:=
  Bf Nat.le_antisymm (lin_le l h a b q e) (lin_le l h b a c d)
theorem ic_le(m n:Nat)(h:Int.ofNat m<=Int.ofNat n):m<=n:=JH.mp h
theorem ic_lt(m n:Nat)(h:Int.ofNat m<Int.ofNat n):m<n:=Jl.mp h
theorem ic_eq(m n:Nat)(h:Int.ofNat m=Int.ofNat n):m=n:=JP h
theorem ic_ne(m n:Nat)(h:¬Int.ofNat m=Int.ofNat n):m≠n:=λe=>h (ed Int.ofNat e)
theorem ic_nle(m n:Nat)(h:¬Int.ofNat m<=Int.ofNat n):¬m<=n:=λe=>h (JH.mpr e)
theorem ic_nlt(m n:Nat)(h:¬Int.ofNat m<Int.ofNat n):¬m<n:=λe=>h (Jl.mpr e)
theorem ig_le(m n:Nat)(h:m<=n):Int.ofNat m<=Int.ofNat n:=JH.mpr h
theorem ig_lt(m n:Nat)(h:m<n):Int.ofNat m<Int.ofNat n:=Jl.mpr h
theorem ig_eq(m n:Nat)(h:m=n):Int.ofNat m=Int.ofNat n:=ed Int.ofNat h
theorem ig_ne(m n:Nat)(h:m≠n):¬Int.ofNat m=Int.ofNat n:=λe=>h (JP e)
theorem ig_nle(m n:Nat)(h:¬m<=n):¬Int.ofNat m<=Int.ofNat n:=λe=>h (JH.mp e)
theorem ig_nlt(m n:Nat)(h:¬m<n):¬Int.ofNat m<Int.ofNat n:=λe=>h (Jl.mp e)
theorem sub_no(a b:Nat)(h:a<=b):a-b<=0:=JT (I7 h)
theorem sub_up(a b:Nat):a<=a-b+b:=Nat.le_add_of_sub_le (ep _)
end Internal
end
section
set_option Elab.async false
set_option bootstrap.genMatcherCode false
set_option genSizeOf false
set_option genInjectivity false
namespace Internal
open Lean Meta Elab Tactic
def it{β a:Type}(b:β->a)(F:Nat->(β->a)->β->a):Nat->β->a
  |0,x=>b x
  |k+1,x=>F k (it b F k) x
structure PRow where
  e:XE
  kids:List Nat
  z:Nat
  fv:List (Nat×Nat)
  sz:Nat
  pi:Bool
structure PK where
  idx:Std.HashMap XE Nat
  rows:Array PRow
  lctx:LocalContext
  tys:Std.HashMap Nat XE
  zeta:Bool
  ast:Std.HashMap XE XE
universe u1 u2 u3 u4 u5 u6 u7 u8
variable{K2:Sort u1}{K0:Sort u2}{K4:Sort u3}{K7:Sort u4}{Ka:Sort u5}{Kb:Sort u6}{Kd:Sort u7}{Ki:Sort u8}
theorem exE2{P:K2->K0->Prop}{C:Prop}(h:∃b a,P b a)(k:∀b a,P b a->C):C:=by
  obtain⟨b,a,h⟩:=h;exact k b a h
theorem exI2{P:K2->K0->Prop}(b:K2)(a:K0)(h:P b a):∃b a,P b a:=⟨b,a,h⟩
theorem exE3{P:K2->K0->K4->Prop}{C:Prop}(h:∃c b a,P c b a)(k:∀c b a,P c b a->C):C:=by
  obtain⟨c,b,a,h⟩:=h;exact k c b a h
theorem exI3{P:K2->K0->K4->Prop}(c:K2)(b:K0)(a:K4)(h:P c b a):∃c b a,P c b a:=⟨c,b,a,h⟩
theorem exE4{P:K2->K0->K4->K7->Prop}{C:Prop}(h:∃d c b a,P d c b a)(k:∀d c b a,P d c b a->C):C:=by
  obtain⟨d,c,b,a,h⟩:=h;exact k d c b a h
theorem exI4{P:K2->K0->K4->K7->Prop}(d:K2)(c:K0)(b:K4)(a:K7)(h:P d c b a):∃d c b a,P d c b a:=⟨d,c,b,a,h⟩
theorem exE5{P:K2->K0->K4->K7->Ka->Prop}{C:Prop}(h:∃e d c b a,P e d c b a)(k:∀e d c b a,P e d c b a->C):C:=by
  obtain⟨e,d,c,b,a,h⟩:=h;exact k e d c b a h
theorem exI5{P:K2->K0->K4->K7->Ka->Prop}(e:K2)(d:K0)(c:K4)(b:K7)(a:Ka)(h:P e d c b a):∃e d c b a,P e d c b a:=⟨e,d,c,b,a,h⟩
theorem exE6{P:K2->K0->K4->K7->Ka->Kb->Prop}{C:Prop}(h:∃f e d c b a,P f e d c b a)(k:∀f e d c b a,P f e d c b a->C):C:=by
  obtain⟨f,e,d,c,b,a,h⟩:=h;exact k f e d c b a h
theorem exI6{P:K2->K0->K4->K7->Ka->Kb->Prop}(f:K2)(e:K0)(d:K4)(c:K7)(b:Ka)(a:Kb)(h:P f e d c b a):∃f e d c b a,P f e d c b a:=⟨f,e,d,c,b,a,h⟩
theorem exE7{P:K2->K0->K4->K7->Ka->Kb->Kd->Prop}{C:Prop}(h:∃g f e d c b a,P g f e d c b a)(k:∀g f e d c b a,P g f e d c b a->C):C:=by
  obtain⟨g,f,e,d,c,b,a,h⟩:=h;exact k g f e d c b a h
theorem exI7{P:K2->K0->K4->K7->Ka->Kb->Kd->Prop}(g:K2)(f:K0)(e:K4)(d:K7)(c:Ka)(b:Kb)(a:Kd)(h:P g f e d c b a):∃g f e d c b a,P g f e d c b a:=⟨g,f,e,d,c,b,a,h⟩
theorem exE8{P:K2->K0->K4->K7->Ka->Kb->Kd->Ki->Prop}{C:Prop}(h:∃i g f e d c b a,P i g f e d c b a)(k:∀i g f e d c b a,P i g f e d c b a->C):C:=by
  obtain⟨i,g,f,e,d,c,b,a,h⟩:=h;exact k i g f e d c b a h
theorem exI8{P:K2->K0->K4->K7->Ka->Kb->Kd->Ki->Prop}(i:K2)(g:K0)(f:K4)(e:K7)(d:Ka)(c:Kb)(b:Kd)(a:Ki)(h:P i g f e d c b a):∃i g f e d c b a,P i g f e d c b a:=⟨i,g,f,e,d,c,b,a,h⟩
theorem rwM.{u}{α:Sort u}{a b:α}{f:α->Prop}(h:a=b)(p:f b):f a:=h▸p
theorem rwN.{u}{α:Sort u}{a b:α}{f:α->Prop}(h:a=b)(p:f a):f b:=h▸p
structure ZR where
  nm:Name
  pat:XE
  k:Nat
  ar:Nat
  i:Nat
  g:Name
  z:Bool
abbrev ZM:=Std.HashMap Name (List ZR)
structure PDec where
  depths:Array (List Nat)
  body:Array (List Nat)
  named:Array (Option (FVarId×XE))
  lets:Array (List Nat)
abbrev lq:=Array (Option XE)
def tacS(s:String):TacticM Unit:=do
  match Parser.runParserCategory (<-getEnv) `tactic s with
  |.ok stx=>evalTactic stx
  |.error e=>throwError e
abbrev LF:=String×XE×XE×XE
abbrev oD:=List Int×List Int
def fxz{β a:Type}[Inhabited a](F:(β->a)->β->a):β->a:=it (λ_=>default) (λ_=>F) 1000000
theorem cl1:True:=by
 run_tac do
  let oS:PK->Nat->PRow:=λs i=>s.rows.getD i ⟨.bvar 0,[],0,[],0,false⟩
  let tN:Std.HashMap XE Nat->XE->Option Nat:=λm e=>m[e]?
  let tM:PK->XE->Nat->PK:=λs e i=>{s with idx:=s.idx.insert e i}
  let mD:Nat->List (Nat×Nat)->List (Nat×Nat)->List (Nat×Nat):=fxz λmD=>fun
    |0,a,_=>a
    |_,[],b=>b
    |_,a,[]=>a
    |k+1,p::a,q::b=>if p.1=q.1 then p::mD k a b else if p.1>q.1 then p::mD k a (q::b) else q::mD k (p::a) b
  let mC:Nat->List Nat->List Nat->List Nat:=fxz λmC=>fun
    |0,a,_=>a
    |_,[],b=>b
    |_,a,[]=>a
    |k+1,i::a,j::b=>if i=j then i::mC k a b else if i<j then i::mC k a (j::b) else j::mC k (i::a) b
  let Fq:PK->List Nat->List (Nat×Nat)->Nat->List (Nat×Nat)×Nat:=λs=>fxz λqz=>have Fq:=λ(_:PK)=>qz;fun
    |[],l,z=>(l,z)
    |i::r,l,z=>
      let w:=oS s i;Fq s r (if l.isEmpty then w.fv else if w.fv.isEmpty then l else mD 100000 l w.fv) (z+w.sz)
  let po:PK->XE->List Nat->Nat->PK×Nat:=λs e kids z=>
    let(l,n):=Fq s kids [] 1;let l:=if z=0 then l else l.filter λp=>p.2+1 !=z;let i:=s.rows.size;({s with idx:=s.idx.insert e i,rows:=s.rows.push ⟨e,kids,z,l,if e.hasFVar then min n 100000 else 0,false⟩},i)
  let yH:Nat->XE->Option Nat:=it (λ_=>none) λ_ self e=>match e.nat?<|>e.rawNatLit? with
      |some n=>some n
      |none=>if e.isAppOfArity `HAdd.hAdd 6 then match self e.appFn!.appArg!,self e.appArg! with
        |some a,some b=>some (a+b)
        |_,_=>none
        else none
  let c0:String->XE:=λn=>mkConst n.toName [.zero]
  let qv:XE->XE->XE:=λt a=>mkApp2 (mkConst `Eq.refl [.succ .zero]) t a
  let zf:XE->XE->XE->XE:=λt a l=>mkApp3 (c0 "List.cons") t a l
  let yK:Nat->XE->List (Level×XE)×XE:=fxz λyK=>fun
    |0,e=>([],e)
    |k+1,.app (.app (.const `Exists [u]) t) (.lam _ _ b _)=>if t.hasLooseBVars then([],.app (.app (.const `Exists [u]) t) (.lam `x t b .default)) else
      let(l,r):=yK k b;((u,t)::l,r)
    |_,e=>([],e)
  let CP:List (Level×XE)->XE->XE:=fxz λCP=>fun
    |[],b=>b
    |(_,t)::r,b=>.lam `x t (CP r b) .default
  let ux:Nat->Level->XE->XE->List (Level×XE)×XE:=λk u t p=>
    let(l,b):=yK k (.app (.app (.const `Exists [u]) t) p);(l,CP l b)
  let uC:Nat->XE->Nat×XE:=fxz λuC=>fun
    |0,m=>(0,m)
    |1,m=>(1,m)
    |k+1,.lam w t (.lam h d b i2) i1=>
      let m:XE:=.lam w t (.lam h d b i2) i1;if b.isAppOfArity `Exists.casesOn 5 then
        let a:=b.getAppArgs;let at'(i:Nat):XE:=a.getD i b;match at' 2,at' 3 with
        |.lam _ _ c _,.bvar 0=>
          if c.hasLooseBVar 0||c.hasLooseBVar 1||(at' 4).hasLooseBVar 0 then(1,m) else
          let(n,r):=uC k ((at' 4).lowerLooseBVars 1 1);(n+1,.lam w t r i1)
        |_,_=>(1,m)
      else(1,m)
    |_,m=>(0,m)
  let zt:Nat->XE->List XE×XE:=it (λe=>([],e)) λ_ self e=>if e.isAppOfArity `Exists.intro 4 then
      let a:=e.getAppArgs;let(l,r):=self (a.getD 3 e);(a.getD 2 e::l,r)
      else([],e)
  let Bo:Name->List Level->Array XE->XE->Option XE:=λn us a e=>
    let g(i:Nat):XE:=a.getD i e;match us with
    |[u]=>
      if n==`Exists.casesOn&&a.size==5 then
        match g 2 with
        |.lam _ _ c _=>
          if c.hasLooseBVar 0 then none else
          let(l,_):=ux 8 u (g 0) (g 1);let(k,_):=uC l.length (g 4);if k<2 then some (mkAppN (mkConst `Exists.elim us) #[g 0,g 1,c,g 3,g 4])else
          let(l,p):=ux k u (g 0) (g 1);let(_,m):=uC k (g 4);some (mkAppN (mkConst (.str `Internal s!"exE{k}") (l.map (·.1))) ((l.map (·.2)).toArray++#[p,c,g 3,m]))
        |_=>none
      else if n==`Exists.intro&&a.size==4 then
        let(l,_):=ux 8 u (g 0) (g 1);let(ws,_):=zt l.length e;let k:=ws.length;if k<2 then none else
        let(l,p):=ux k u (g 0) (g 1);let(ws,h):=zt k e;some (mkAppN (mkConst (.str `Internal s!"exI{k}") (l.map (·.1))) ((l.map (·.2)).toArray++#[p]++ws.toArray++#[h]))
      else none
    |_=>none
  let ga:XE->Nat->XE:=λe i=>e.getAppArgs.getD i e
  let isA:XE->String->Nat->Bool:=λe n k=>e.isAppOfArity n.toName k
  let vh:Nat->XE->XE:=it (λe=>e) λ_ self e=>if isA e "id" 2 then self e.appArg! else e.consumeMData
  let EA:XE->XE->XE:=λf x=>if f.isLambda then f.bindingBody!.instantiate1 x else .app f x
  let zu:Nat->XE->Nat×Level×List XE:=it (λ_=>(0,.zero,[])) λ_ self e=>
      let e:=vh 100 e;if isA e "congrArg" 6 then
        let(n,u,l):=self (ga e 5);if n=0 then(1,e.getAppFn.constLevels!.headD .zero,[ga e 0,ga e 2,ga e 3,ga e 5,EA (ga e 4) (.bvar 0)])
        else(n+1,u,l.dropLast++[EA (ga e 4) (l.getLastD e)])
      else if isA e "congrFun'" 6 then
        let(n,u,l):=self (ga e 4);if n=0 then(0,u,[])else(n+1,u,l.dropLast++[EA (l.getLastD e) (ga e 5)])
      else(0,.zero,[])
  let mk6:String->List Level->List XE->Option XE:=λc us l=>some (mkAppN (mkConst c.toName us) l.toArray)
  let A5:String->List Level->XE->Option XE:=λs us e=>
    let r:=s=="Eq.mpr";if r||s=="Eq.mp"then
      if us.all (·.isZero)then
        let h:=vh 100 (ga e 2);let p:=ga e 3;if isA h "Eq.trans" 6 then
          let(x,y):=if r then(ga h 4,ga h 5)else(ga h 5,ga h 4);let o(z:XE):XE:=if r then mkApp4 (e.getAppFn) (ga h 2) (ga e 1) z p else mkApp4 (e.getAppFn) (ga e 0) (ga h 2) z p;if r then mk6 s us [ga e 0,ga h 2,x,o y]else mk6 s us [ga h 2,ga e 1,x,o y]
        else if isA h "Eq.symm" 4 then mk6 (if r then"Eq.mp"else"Eq.mpr") us [ga e 1,ga e 0,ga h 3,p]
        else if isA h "propext" 3 then mk6 (if r then"Iff.mpr"else"Iff.mp") [] [ga h 0,ga h 1,ga h 2,p]
        else
          match zu 100 h with
          |(_,u,[t,a,b,h,f])=>
            let f:XE:=.lam `x t f .default;if isA h "Eq.symm" 4 then mk6 (if r then"Internal.rwN"else"Internal.rwM") [u] [t,b,a,f,h.appArg!,p]
            else mk6 (if r then"Internal.rwM"else"Internal.rwN") [u] [t,a,b,f,h,p]
          |_=>none
      else none
    else if s=="of_eq_true"then
      let h:=vh 100 (ga e 1);if isA h "Eq.trans" 6 then mk6 "Eq.mpr" [.zero] [ga e 0,ga h 2,ga h 4,mkApp2 e.getAppFn (ga h 2) (ga h 5)]else none
    else if s.startsWith "Internal"then
      match ga e 3,vh 100 (ga e 5)with
      |.lam x t (.app (.app (.app (.const `Eq l) T) L) R) i,.app (.app (.const `Eq.refl _) _) _=>
        let(A,B):=if s=="Internal.rwM"then(L,R)else(R,L);if T.hasLooseBVar 0||B.hasLooseBVar 0 then none else if A==.bvar 0 then some (ga e 4)else mk6 "congrArg" (us++l) [ga e 0,T.lowerLooseBVars 1 1,ga e 1,ga e 2,.lam x t A i,ga e 4]
      |_,_=>none
    else if s=="Eq.ndrec"then
      if(us.headD (.succ .zero)).isZero&&isA (ga e 5) "Eq.symm" 4 then mk6 "Internal.rwM" (us.drop 1) [ga e 0,ga e 4,ga e 1,ga e 2,(ga e 5).appArg!,ga e 3]else none
    else
      match zu 100 e with
      |(n,u,[t,a,b,h,f])=>if n≥2 then mk6 "congrArg" (u::us.drop 1) [t,ga e 1,a,b,.lam `x t f .default,h]else none
      |_=>none
  let A6:List (String×Nat):=[("Eq.mpr",4),("Eq.mp",4),("of_eq_true",2),("Eq.ndrec",6),("congrArg",6),("congrFun'",6),("Internal.rwM",6),("Internal.rwN",6)]
  let E9:Name->List Level->Nat->XE->Option XE:=λn us k e=>
    match A6.find? λp=>p.2==k&&p.1.toName==n with
    |some p=>A5 p.1 us e
    |none=>none
  let DD:Name->Nat->Option Nat:=λn k=>match n with
    |.str p s=>if p==`Internal.Nx&&k==9 then["pre","same","sim"].idxOf? s else if p==`Internal.Cx&&k==4 then["A","env","L","h₀","xs","ok"].idxOf? s else none
    |_=>none
  let nR:Nat->XE->Option XE:=fxz λnR=>fun
    |0,.forallE _ _ b _|0,.lam _ _ b _=>if b.hasLooseBVar 0 then none else some (b.lowerLooseBVars 1 1)
    |j+1,.forallE n t b i=>(nR j b).map λb=>.forallE n t b i
    |j+1,.lam n t b i=>(nR j b).map λb=>.lam n t b i
    |_,_=>none
  let r8:Name->Array XE->XE->Option XE:=λn a e=>do
    let(x,k,y)<-[(`Internal.rwM,3,1,5),(`Internal.rwN,3,1,5),(`Eq.ndrec,2,1,3),(`Eq.casesOn,2,2,5),(`Eq.rec,2,2,3)].lookup n
    (List.range (a.size-6)).reverse.findSome? λj=>do
      some (mkAppN e.getAppFn (((a.set! x (<-nR (k+j) (a.getD x e))).set! y (<-nR j (a.getD y e))).eraseIdx! (6+j)))
  let mQ:(XE->XE)->Nat->XE->XE:=λf=>fxz λqz=>have mQ:=λ(_:XE->XE)=>qz;fun
    |0,e=>f e
    |k+1,.lam n t b i=>.lam n t (mQ f k b) i
    |_,e=>.app e (.fvar ⟨`dum⟩)
  let qY:XE->Option XE:=λe=>match e with
    |.forallE _ _ b _=>if b.hasLooseBVar 0 then none else some (b.lowerLooseBVars 1 1)
    |_=>none
  let FE:Nat->XE->XE:=it (λe=>.app e (.fvar ⟨`dum⟩)) λ_ self e=>
      let no:XE:=.app e (.fvar ⟨`dum⟩);match e with
      |.lam _ _ b _=>b.instantiate1 (.fvar ⟨`dum⟩)
      |.mdata _ b=>self b
      |.letE n t v b i=>.letE n t v (self b) i
      |_=>
        let a:=e.getAppArgs;let g(i:Nat):XE:=a.getD i e;let f:=e.getAppFn;let n:=f.constName?.getD .anonymous;if n==`id&&a.size==2 then self (g 1)
        else if n==`False.elim&&a.size==2 then((qY (g 0)).map λc=>mkApp2 f c (g 1)).getD no
        else if n==`Or.casesOn&&a.size==6 then match g 2 with
          |.lam w t c i=>((qY c).map λc=>mkAppN f (((a.set! 2 (.lam w t c i)).set! 4 (mQ self 1 (g 4))).set! 5 (mQ self 1 (g 5)))).getD no
          |_=>no
        else match n with
          |.str _ "noConfusion"=>match a.findIdx? (·.isForall)with
            |some i=>if(a.size-i)%2==0 then no else((qY (g i)).map λc=>mkAppN f ((a.set! i c).set! (a.size-1) (mQ self ((a.size-i-3)/2) (g (a.size-1))))).getD no
            |none=>no
          |_=>
            if a.size<6 then no else((do
              let(x,k,y)<-[(`Internal.rwM,3,1,5),(`Internal.rwN,3,1,5),(`Eq.ndrec,2,1,3),(`Eq.casesOn,2,2,5),(`Eq.rec,2,2,3)].lookup n
              some (mkAppN f ((a.set! x (<-nR (k+a.size-6) (g x))).set! y (mQ self (a.size-6) (g y))))):Option XE).getD no
  let Ds:List Level->Array XE->XE->Option XE:=λus a e=>
    let g(i:Nat):XE:=a.getD i e;match g 2,g 6,g 7 with
    |.lam _ _ (.lam _ _ (.forallE _ x (.forallE _ y c _) _) _) _,.app (.app (.const `Eq.refl _) _) _,.app (.app (.const `HEq.refl _) _) _=>
      if x.isAppOf `Eq&&y.isAppOf `HEq&&!(c.hasLooseBVar 0||c.hasLooseBVar 1||c.hasLooseBVar 2||c.hasLooseBVar 3) then
        let q:=if(g 4).isAppOfArity `Eq.symm 4 then(g 4).appArg! else mkApp4 (mkConst `Eq.symm (us.drop 1)) (g 0) (g 1) (g 3) (g 4);let r:=FE 1000 ((g 5).beta #[q]);if r.containsFVar ⟨`dum⟩then none else some (mkAppN r (a.extract 8 a.size)).headBeta
      else none
    |.lam w t (.lam _ _ c _) i,_,_=>if us.headD (.succ .zero)|>.isZero then if c.hasLooseBVar 0 then none else
      let c:=c.lowerLooseBVars 1 1;if c.hasLooseBVar 0 then some (mkAppN (mkConst `Internal.rwN (us.drop 1)) (#[g 0,g 1,g 3,.lam w t c i,g 4,g 5]++a.extract 6 a.size)) else some (mkAppN (g 5) (a.extract 6 a.size)).headBeta else none
    |_,_,_=>none
  let uw:XE->Option XE:=λe=>
    match e.getAppFn with
    |.const n us=>
      let a:=e.getAppArgs;let g(i:Nat):XE:=a.getD i e;let mv:=mkConst `Internal.MV;let omv:=mkApp (c0 "Option") mv;let som(t x:XE):XE:=mkApp2 (c0 "Option.some") t x;if n==`id&&a.size==2 then some (g 1)
      else if n==`And.casesOn&&a.size==5 then
        match g 2,g 4 with
        |.lam _ _ c _,.lam _ _ (.lam _ _ b _) _=>if c.hasLooseBVar 0 then none else some (b.instantiate #[.proj `And 1 (g 3),.proj `And 0 (g 3)])
        |_,_=>none
      else if n==`Or.casesOn&&a.size==6 then
        match g 2 with
        |.lam _ _ c _=>if c.hasLooseBVar 0 then none else some (mkAppN (mkConst `Or.elim) #[g 0,g 1,c,g 3,g 4,g 5])
        |_=>none
      else if n==`Eq.casesOn&&a.size≥6 then Ds us a e<|>r8 n a e
      else if n==`Internal.At.head&&a.size==2 then some (qv (mkApp (c0 "Option") omv) (som omv (som mv (g 0))))
      else if n==`Internal.At.tail&&a.size==5 then(yH 200 (g 2)).map λ_=>qv (mkApp (c0 "Option") omv) (som omv (som mv (g 3)))
      else if n==`Internal.Put.tail&&a.size==6 then(yH 200 (g 2)).map λ_=>qv (mkApp (c0 "List") omv) (zf omv (g 0) (g 4))
      else if n==`Internal.Ix.tail&&a.size==5 then(yH 200 (g 3)).map λi=>
        let st:=mkConst `PySem.Str;mkApp4 (mkConst `Internal.ixOf) (zf st (g 1) (g 2)) (g 0) (mkNatLit (i+1)) (qv (mkApp (c0 "Option") st) (som st (g 0)))
      else match DD n a.size with
        |some i=>some (.proj n.getPrefix i e.appArg!)
        |none=>E9 n us a.size e<|>Bo n us a e<|>r8 n a e
    |_=>none
  let G7:String:="Eq/1 0 Bool ba
congr/1,1 6 congrArg/1,1 bacdfhgjei
DX 3 PySem.Scope.mk dfghjceibloakmn
PySem.starEach 0 List.cons/0 cba
congrArg/1,1 5 Eq.trans/1 abedfhcg
List.cons/0 2 List.nil/0 ab
rwM/1 4 if_neg/1 afdbcgeh
IK 7 PySem.Str.ofString fcgbaehid
Eq.trans/1 5 Eq.trans/1 adfhbceg
Eq.refl/1 1 PySem.swapsWith cdba
lin_le 1 List.nil/0 dbcea
Hz 9 IY cdbafeg
Ei 8 ah bagcifjdehk
aq 6 aq beahgfcdi
PySem.wpAny 1 Glo.M fabgced
Ae 5 aE cbaefdgh
And.intro 2 rfl/1 abcd
HAdd.hAdd/0,0,0 5 OfNat.ofNat/0 acbdfge
PySem.bindArgs 0 PySem.W.fnOf abghijklmfecd
ite/1 2 instDecidableAnd abdfceg
of_decide_eq_true 1 instDecidableNot abc
And 0 Con bdcea
Wp 0 MV bca
Membership.mem/0,0 2 List.instMembership/0 acb
D2 11 nK gblcmkadjoefhinpqr
MV.int 0 Nat.cast/0 ab
of_eq_true 1 eq_self/1 ab
Option.some/0 1 Prod.mk/0,0 badc
xM 7 xH abcefdg
pM 0 MV dcba
zU 6 PySem.Str.ofString cfbahegid
And 0 Eq/1 acbd
Eq/1 2 Option.some/0 acb
List.cons/0 1 Option.some/0 abc
Eq.trans/1 4 congrArg/1,1 abedgfch
Eq.refl/1 1 z3 abc
IS 4 OfNat.ofNat/0 efcgbahd
Eq.mpr/0 2 z1 abcfgjehdi
rwM/1 4 if_pos/1 afbcgdeh
Wp 0 MF bca
Ib 13 IY ceabhidfgjk
HD 4 z12 degfbachijkl
z4 7 Bool.decide_or abcdefghi
aq 6 uT adfgbech
G1 14 Hb fcebalgdhijkmno
HC 6 Fj gfbachjndleikmo
Option.some/0 1 z25 ab
z16 3 And.intro abcedf
PySem.attributeBase 1 PySem.Str.ofString cdba
HEq/0 3 LastR.more hgfedijcab
Gc 3 H4 ecdabf
Int.Internal.Linear.le_unsat 3 Int.Internal.Linear.le_combine bcdefagh
LE.le/0 3 OfNat.ofNat/0 abdec
yhE 0 yeL a
PySem.Arguments.mk 3 List.nil/0 acdefb
List.IsPrefix/0 0 MO ba
ScopeOk.mk 4 Exists.intro/1 bcefahijdg
PySem.subscripted 1 Bool.false bca
Prod.fst/0,0 2 Prod.snd/0,0 acbd
Cv 4 qh defabcghi
El 6 MV.int egabcfhdi
z0 1 bO acbde
congrArg/1,1 1 Bool acbed
z31 1 LS.mk bcda
LS.mk 0 z33 cab
Eq.refl/1 1 Option.some/0 ab
rwM/1 4 Eq.trans/1 adchegbf
z1 7 Eq.trans/1 abcdfeklghij
Eq/1 0 Option/0 acb
List.cons/0 2 z5 acb
G5 14 Nat.le_of_ble_eq_true ceabgohjkmnfipdl
E7 8 PySem.Str.ofString cfabkeilgdhjmn
Prod.snd/0,0 2 Prod.snd/0,0 acbd
G0 1 OfNat.ofNat/0 bchefgdaij
And 1 Exists/1 bac
wp_pick_f 7 z50 gefdabchi
Eq.trans/1 4 Eq.symm/1 adcfbe
Cv 4 aq cedafbg
z32 1 MO.tuple ba
z44 13 Hb abcdefghijklmno
Or.elim 2 False baced
yeP 0 ye0 ab
z4 5 z34 aehbgicdfjkl
And.left 2 List.cons.inj/0 aedbcf
noConfusion_of_Nat/1 4 Eq.symm/1 abcde
absurd/0 3 z20 badec
W 3 Cx.ax fihcabgde
yhE 0 ysL a
Gc 3 z13 cdfgaebh
Ne/1 0 List/0 acb
All2 1 PySem.Value adcb
of_eq_true 1 iff_self a
Prod.mk/0,0 3 Prod.mk/0,0 abcdfe
PySem.Str.mk 0 List.toArray/0 a
List.headD/0 0 Nat ba
Gk 5 aX hbdjlfagnceikmo
SemTs.cons 9 SemTs.nil dabcfeg
IV 11 ID cebafgdhijk
Eq/1 0 List/0 acb
z33 1 z25 abc
z67 11 Eq.trans/1 abcdfelnghijkm
rwM/1 1 List.length/0 adcfbe
z77 6 aq acdebfhgi
And 1 z31 bcdae
Eq.refl/1 1 PySem.behindInMarks ab
And.intro 0 z32 abdfce
HY 6 aj gecfiabkldhjm
Eq.trans/1 3 False bdac
Told.tup 0 z69 ba
Cv 4 H4 eacdbfg
Ne/1 0 Option/0 acb
BEq.beq/0 1 instBEqOfDecidableEq/0 abdc
z0 1 oneH abc
z65 1 z46 ab
mA 6 rfl/1 cebdaf
Bool.and 0 Decidable.decide cab
TokO.mk 0 HAppend.hAppend/0,0,0 abcgefd
Wp 0 Bool bac
Or.elim 3 Iff.mp dfbacegh
z2 14 z7 abcdefghnlmqijkop
StrR 4 OfNat.ofNat/0 efcdab
Hu 15 gn_Node cfgijtehnoqsabpdklmru
yeP 0 z87 a
E4 13 IY ceabihdfgjk
fq 1 bM ba
z6 5 z20 abcdefghi
congrArg/1,1 1 Nat adcbe
z39 2 jP edabc
PySem.Scope.mk 0 PySem.ScopeKind.function cbda
k6 3 Option.map/0,0 dbcefa
Int.Internal.Linear.le_unsat 3 Int.Internal.Linear.eq_le_subst_nonneg debcfgahi
bn 1 Told.one acb
List.drop/0 0 Nat ba
ite/1 3 fZ cdab
Gm 4 xP cefdabg
Ey 0 z128 abcfhdekloijgmnpqr
Eq/1 0 Nat ba
z33 1 MV.ref ab
rwM/1 4 propext cabde
Eq.refl/1 1 List.lookup/0,0 bcaed
z32 1 MO.inst acbd
z31 3 z78 abcde
Eq.trans/1 4 Decidable.decide.congr_simp cdegabf
z65 1 Option.some/0 ab
BEq.beq/0 2 List.head?/0 abdc
Eq.mpr/0 2 z67 abcfglikdehj
Gc 3 aq cedabf
Decidable.decide 0 LT.lt/0 abdce
rwN/1 0 Option/0 adbfce
xN 1 LS.mk bcdaef
z105 3 And.intro abceghdf
z132 1 OfNat.ofNat/0 bca
PySem.W.findObj 2 Option.some/0 cdab
List.cons/0 1 TRow.mk cdbea
Int.Internal.Linear.norm_le 3 Int.Internal.Linear.Poly.add decfbga
ite/1 4 OfNat.ofNat/0 aefdbc
And 0 PyProof.Rows.Fr dcabe
HSub.hSub/0,0,0 3 instHSub/0 abdc
PySem.Shared.mk 2 PySem.Shared.drawn dbcea
OfNat.ofNat/0 2 instOfNat a
ifD 0 MF cba
PySem.Data.func 0 PySem.W.fnOf ljghiabkcdef
PySem.wpAny 0 PySem.Value efdbac
FlatL 2 List.nil/0 cdeba
Int.Internal.Linear.eq_diseq_subst 7 Int.Internal.Linear.not_eq_norm_expr bdhijcefagk
PySem.Obj.mk 0 PySem.Value.type dbac
Cv 4 Ej dceabf
List.all/0 0 Nat ba
AfterR 3 Option.none/0 bedac
Option.some.noConfusion/0,0 4 Eq.symm/1 acbdef
z99 1 List.length/0 abcd
z137 1 z137 abc
rwM/1 4 Nat.le_antisymm baedcf
z33 2 z170 bcade
z31 1 Option.some/0 abcd
Eq.refl/1 1 PySem.isTrue bca
ite/1 1 z0 bacdfe
Eq.trans/1 5 z4 acdfbeghij
rwN/1 0 Bool cbaed
List.cons/0 1 Prod.mk/0,0 abdce
Int.Internal.Linear.le_norm_expr 3 Int.Internal.Linear.Poly.add decbfgah
MV.str 0 pL bca
And 1 LT.lt/0 bceda
PySem.Value.str 0 z93 ba
Or.inr 2 Or.inl abcd
Hq 2 OfNat.ofNat/0 cdfabgheijklm
BlockFs 5 Told.one cefdgab
PySem.call 2 List.nil/0 ab
Option.some/0 1 MO.tuple a
Not 0 z23 abc
BEq.beq/0 0 List/0 abdc
z75 8 z12 bcadefhgijklmnop
ScanF 2 List.nil/0 bdca
PySem.wpAny 0 Unit efabdc
HAppend.hAppend/0,0,0 5 z5 acbdfe
Or 1 Exists/1 bac
z142 3 Bool.decide_or abcdefgh
List.all/0 0 Prod/0,0 abdc
Bool.not 0 Decidable.decide ab
aq 6 aQ bacdeghfi
Prod.snd/0,0 2 av a
EqR 1 OfNat.ofNat/0 bcfeda
z174 3 And abdce
And 0 z55 abc
z31 3 z98 dafceb
z33 1 MV.str ab
rwM/1 0 Bool bcead
List.length/0 1 z194 abcdef
z198 1 instDecidableOr acbd
Eq.trans/1 5 List.set_set/0 acdfbeg
ite/1 3 TokO.mk decabf
implies_congr/0,0 5 Eq.refl/1 cabd
rwN/1 4 if_neg/1 adbcegfh
Eq.refl/1 1 z48 abcd
All2.cons 0 MV afedcbgh
congrArg/1,1 0 Bool adcbe
IW 11 IM ceabgdfhijk
aq 0 MV adebcf
z0 1 bY ab
H8 2 OfNat.ofNat/0 cdfbagehi
List.set_set/0 0 MO cdab
wp_pick_f 7 EL bfacdeg
Bool.or 0 z190 abdec
dF 0 aj ab
Int.Internal.Linear.eq_of_core 1 Int.Internal.Linear.Poly.add bdecfgah
z137 1 z99 bacd
Eq.symm/1 0 Bool bac
z196 2 instDecidableOr abcdefghi
Or.elim 3 Nat.le_total abcde
z5 1 LC.eq ba
aG 1 MF acb
Int.Internal.Linear.eq_le_subst_nonneg 6 Int.Internal.Linear.eq_norm_expr bgchidefajk
z111 3 PySem.Pos.endLine abc
cutD 0 MV.str cba
List.Nodup/0 1 List.map/0,0 abcd"
  let HA:Char->Nat:=λc=>if c.toNat<91 then c.toNat-39 else c.toNat-97
  let CI:List (Nat×List String):=((G7.splitOn "\n").map (·.splitOn " ")).zipIdx.map λp=>(p.2,p.1)
  let uS:Nat->Name:=λk=>.str `Internal s!"z{k}"
  let zC:String->MetaM (Option XE):=λs=>do
    let w:=s.splitOn "/"
    let n:=(w.headD "").toName
    let us:=((w.getD 1 "").splitOn ",").filterMap λd=>if d==""then none else some (Level.ofNat d.toNat!)
    let env<-getEnv
    let m:=`Internal++n
    return if env.contains m then some (mkConst m us) else if env.contains n then some (mkConst n us) else none
  let EX:Nat->List String->MetaM (Option XE):=λk w=>withReducible do
    match w with
    |f::i::g::q=>
      let some f<-zC f|return none
      let(xs,_,_)<-forallMetaTelescope (<-inferType f)
      let x:=xs.getD i.toNat! f
      let y<-if g.startsWith "="then pure (some (xs.getD (g.drop 1).toNat! f)) else do
        let some g<-zC g|return none
        let(ys,_,_)<-forallMetaTelescope (<-inferType g)
        pure (some (mkAppN g ys))
      let some y:=y|return none
      unless(<-isDefEq (<-inferType x) (<-inferType y))&&(<-isDefEq x y) do return none
      let r<-abstractMVars (<-instantiateMVars (mkAppN f xs))
      if r.paramNames.size>0 then return none
      let n:=r.expr.getNumHeadLambdas
      some<$>lambdaBoundedTelescope r.expr n λxs b=>mkLambdaFVars (if q.isEmpty then xs else((q.headD "").toList.map λc=>xs.getD (HA c) f).toArray) b
    |_=>return none
  let HB:Name->XE->MetaM Unit:=λnm v=>do
    let ty<-inferType v
    addDecl (if<-Meta.isProp ty then .thmDecl {name:=nm,levelParams:=[],type:=ty,value:=v}else .defnDecl {name:=nm,levelParams:=[],type:=ty,value:=v,hints:=ReducibilityHints.abbrev,safety:=.safe})
  let zGo:List (Nat×List String)->MetaM Unit:=fxz λzGo=>fun
    |[]=>return()
    |(k,w)::r=>do
      unless(<-getEnv).contains (uS k) do
        if let some v<-EX k w then HB (uS k) v
      zGo r
  let EY:Nat->XE->XE:=it (λe=>e) λ_ self e=>if e.isLambda then self e.bindingBody! else e
  let isZ:Name->Bool:=λn=>match n with
    |.str _ s=>s.startsWith "z"&&(s.drop 1).isNat
    |_=>false
  let G8:Name->List String->XE->ZR:=λnm w v=>
    let b:=EY 100 v;let i:=(w.getD 1 "").toNat!;let g:=((b.getAppArgs.getD i b).getAppFn.constName?).getD .anonymous;{nm:=nm,pat:=b,k:=v.getNumHeadLambdas,ar:=b.getAppNumArgs,i:=i,g:=g,z:=isZ g}
  let G9:List (Nat×List String)->Environment->ZM:=λrows env=>rows.foldl (λm(k,w)=>match env.find? (uS k)with
    |some c=>
      let z:=G8 (uS k) w (c.value! (allowOpaque:=true));let h:=z.pat.getAppFn.constName!;m.insert h (m.getD h []++[z])
    |none=>m) {}
  let upTo:Nat->(Nat->Bool)->Bool:=fxz λupTo=>fun
    |0,_=>false
    |k+1,f=>f k||upTo k f
  let Ct:Nat->Nat->XE->XE->Nat->Array (Option XE)->Option (Array (Option XE)):=λk=>it (λ_ _ _ _=>none) λ_ self p t d s=>
    match p with
    |.bvar i=>
      if i<d then if t==p then some s else none
      else if upTo d t.hasLooseBVar then none
      else
        let v:=k+d-1-i;let t:=t.lowerLooseBVars d d;match s.getD v none with
        |some u=>if u==t then some s else none
        |none=>some (s.set! v (some t))
    |_=>
      let t:=t.consumeMData;if !p.hasLooseBVars then if p==t then some s else none
      else match p,t with
        |.app f a,.app g b=>(self f g d s).bind (self a b d)
        |.lam _ a b _,.lam _ a' b' _=>(self a a' d s).bind (self b b' (d+1))
        |.forallE _ a b _,.forallE _ a' b' _=>(self a a' d s).bind (self b b' (d+1))
        |.proj _ i a,.proj _ j b=>if i==j then self a b d s else none
        |_,_=>none
  let pY:Nat->XE->XE:=it (λe=>e) λ_ self e=>match e with
    |.mdata _ b=>self b
    |_=>match uw e with
      |some e=>self e
      |none=>e
  let zHead:(XE->Option XE)->Nat->XE->XE:=λf=>it (λe=>e) λ_ self e=>
    let e:=pY 20 e;match f e with
    |some e=>self e
    |none=>e
  let Cs:ZM->Nat->XE->Option XE:=λm=>it (λ_=>none) λ_ self e=>
    let f:=e.getAppFn;if !e.isApp||!f.isConst then none else
    (m[f.constName!]?).bind λl=>
      let a:=e.getAppArgs;let q:=a.map λb=>Thunk.mk λ_=>zHead self 20 b;l.findSome? λz=>do
        guard (z.ar==a.size)
        let b<-a[z.i]?
        let b:=if b.isApp then(if z.z then(q[z.i]?.map (·.get)).getD b else pY 20 b) else b
        guard (z.g.isAnonymous||b.getAppFn.constName?==some z.g)
        let s<-Ct z.k 200 z.pat (mkAppN f (a.set! z.i b)) 0 (Array.replicate z.k none)
        mkAppN (mkConst z.nm)<$>s.mapM id
  let DK:PK->Nat->Bool->PK×FVarId×Nat:=λs depth pi=>
    let i:=s.rows.size;let z:=FVarId.mk (.num `pk i);({s with idx:=s.idx.insert (.fvar z) i,rows:=s.rows.push ⟨.fvar z,[],0,[(depth,i)],1,pi⟩},z,i)
  let BC:ZM->Nat->XE->Nat->PK->PK×Nat:=λzm=>it (λ_ _ s=>(s,0)) λ_ self e d s=>
      match tN s.idx e with
      |some i=>(s,i)
      |none=>
        match s.ast[e]?<|>uw e<|>Cs zm 30 e with
        |some e'=>
          let(s,i):=self e' d s;(tM s e i,i)
        |none=>
          let open1(t v b:XE)(a:Array XE):PK×Nat:=
            let(s,j):=self v d s;let(s,i):=self (mkAppN (b.instantiate1 v) a) d {s with tys:=s.tys.insertIfNew j t};(tM s e i,i)
          let under(n:Name)(t:XE)(v?:Option XE)(b:XE)(bi:BinderInfo)(pi:Bool):PK×Nat:=
            let(s,i):=self t d s;let(s,ks):=match v? with
              |none=>(s,[i])
              |some v=>
                let(s,j):=self v d s;(s,[i,j])
            let(s,z,zi):=DK s (d+1) pi;let s:={s with lctx:=match v? with
              |none=>s.lctx.mkLocalDecl z n t bi
              |some v=>s.lctx.mkLetDecl z n t v}
            let(s,j):=self (b.instantiate1 (.fvar z)) (d+1) s;po s e (ks++[j]) (zi+1)
          let appl(f a:XE):PK×Nat:=
            let(s,i):=self f d s;let(s,j):=self a d s;po s e [i,j] 0
          match e with
          |.app f a=>if let .lam n t b _:=f.getAppFn then
              if s.zeta.not||(pY 20 (ga e 0)).isLambda then(if s.zeta then self (mkAppN (.letE n t (ga e 0) b false) (e.getAppArgs.drop 1)) d s else appl f a)else open1 t (ga e 0) b (e.getAppArgs.drop 1)else
            appl f a
          |.lam n t b bi=>under n t none b bi false
          |.forallE n t b bi=>under n t none b bi true
          |.letE n t v b _=>if s.zeta.not||(pY 20 v).isLambda then under n t (some v) b .default false else open1 t v b #[]
          |.mdata _ b=>
            let(s,i):=self b d s;(tM s e i,i)
          |.proj _ _ b=>
            let(s,i):=self b d s;po s e [i] 0
          |e=>po s e [] 0
  let jL:List Nat->Array (List Nat)->List Nat->Array (List Nat):=λf=>fxz λqz=>have jL:=λ(_:List Nat)=>qz;fun
    |a,[]=>a
    |a,i::r=>jL f (a.modify i λd=>if d==f then d else mC 100000 d f) r
  let Ai:PK->LocalInstances->Nat->XE->MetaM (Option XE):=λs insts i e=>withLCtx s.lctx insts do
    try
      if let some t:=s.tys[i]? then return some t
      let t<-instantiateMVars (<-inferType e)
      if t.hasExprMVar||t.hasLooseBVars||(t.isForall&&!e.isLambda) then return none
      return some t
    catch _=>return none
  let Ez:PK->PDec->List Nat->Nat->XE->Nat:=λs D hd=>it (λ_=>50) λ_ self e=>
      if !e.hasFVar||e.isFVar then 0
      else if((tN s.idx e).any λj=>(D.named.getD j none).isSome||hd.all λx=>(D.depths.getD j []).contains x) then 0
      else match e with
        |.app f a=>1+self f+self a
        |.lam _ t b _|.forallE _ t b _=>2+self t+self b
        |_=>50
  let y9:PK->PDec->PRow->Option (Nat×List Nat):=λs D w=>
    match w.fv with
    |[]=>if w.e.hasFVar then some (s.rows.size,[0]) else none
    |p::_=>if(oS s p.2).pi then none else some (p.2,D.body.getD p.2 [])
  let zZ:PK->LocalInstances->Nat->PDec->MetaM PDec:=λs insts i D=>do
    let w:=oS s i
    let f:=D.depths.getD i []
    if f.isEmpty then return D
    let mut D:=D
    let mut f:=f
    if w.sz≥4&&f.length≥2 then
      if let some (key,hd):=y9 s D w then
        let gain:=(f.length-hd.length)*w.sz
        if f.length>hd.length&&gain≥7 then
          if let some t<-Ai s insts i w.e then
            if !t.hasFVar||gain≥10+Ez s D hd 20 t then
              D:={D with named:=D.named.set! i (some (FVarId.mk (.num `pkv i),t)),lets:=D.lets.modify key (i::·)}
              f:=hd
    if w.z=0 then return{D with depths:=jL f D.depths w.kids}
    let f1:=f.map (·+1)
    return{D with depths:=jL f1 (jL f D.depths w.kids.dropLast) [w.kids.getLast!],body:=D.body.set! (w.z-1) f1}
  let sA:PK->LocalInstances->Nat->PDec->MetaM PDec:=λs insts=>fxz λqz=>have sA:=λ(_:PK)=>λ(_:LocalInstances)=>qz;fun
    |0,D=>return D
    |i+1,D=>do sA s insts i (<-zZ s insts i D)
  let lH:XE->Array XE->List (XE×XE)->XE:=λb xs=>fxz λqz=>have lH:=λ(_:XE)=>λ(_:Array XE)=>qz;fun
    |[]=>b.abstract xs
    |(t,v)::r=>.letE `x t v (lH b xs r) false
  let p7:(Array XE->XE->XE)->(Nat->lq->lq×XE)->PDec->List Nat->lq->Array XE->List (XE×XE)->lq×Array XE×List (XE×XE):=λoJ f D=>fxz λqz=>have p7:=λ(_:Array XE->XE->XE)=>λ(_:Nat->lq->lq×XE)=>λ(_:PDec)=>qz;fun
    |[],m,xs,vs=>(m,xs,vs.reverse)
    |j::r,m,xs,vs=>
      let(m,v):=f j m;match D.named.getD j none with
      |some (x,t)=>p7 oJ f D r m (xs.push (.fvar x)) (((oJ xs t).abstractRange xs.size xs,v.abstractRange xs.size xs)::vs)
      |none=>p7 oJ f D r m xs vs
  let oJ:PK->PDec->Nat->Array XE->XE->XE:=λs D home xs t=>if !t.hasFVar then t else t.replace λe=>if !e.hasFVar then some e else do
    let j<-tN s.idx e
    let p<-D.named.getD j none
    let h<-y9 s D (oS s j)
    if h.1 !=home||xs.contains (.fvar p.1) then some (.fvar p.1) else none
  let yI:PK->PDec->Nat->Bool->Nat->lq->lq×XE:=λs D=>it (λ_ _ m=>(m,.bvar 0)) λ_ self raw i m=>
      match raw,D.named.getD i none,m.getD i none with
      |false,some p,_=>(m,.fvar p.1)
      |false,none,some e=>(m,e)
      |_,_,_=>
        let w:=oS s i;let a:=w.kids.getD 0 0;let b:=w.kids.getD 1 0;let close(j:Nat)(m:lq):lq×XE:=
          let(m,b):=self false j m;let(m,xs,vs):=p7 (oJ s D (w.z-1)) (λj m=>self true j m) D (D.lets.getD (w.z-1) []) m #[(oS s (w.z-1)).e] [];(m,lH b xs vs)
        let(m,r):=match w.e with
          |.app ..=>
            let(m,f):=self false a m;let(m,x):=self false b m;(m,Lean.Expr.app f x)
          |.lam _ _ _ _=>
            let(m,t):=self false a m;let(m,x):=close b m;(m,.lam `x t x .default)
          |.forallE _ _ _ _=>
            let(m,t):=self false a m;let(m,x):=close b m;(m,.forallE `x t x .default)
          |.letE _ _ _ _ nd=>
            let(m,t):=self false a m;let(m,v):=self false b m;let(m,x):=close (w.kids.getD 2 0) m;(m,.letE `x t v x nd)
          |.proj n j _=>
            let(m,x):=self false a m;(m,.proj n j x)
          |e=>(m,e)
        (if raw then m else m.set! i (some r),r)
  let FF:ZM->Std.HashMap XE XE->XE->Bool->MetaM XE:=λzm m e z=>do
    let(s,root):=BC zm 1000000 e 0 ⟨{},#[],<-getLCtx,{},z,m⟩
    let n:=s.rows.size
    let D<-sA s (<-getLocalInstances) n ⟨(Array.replicate n []).set! root [0],Array.replicate n [],Array.replicate n none,Array.replicate (n+1) []⟩
    let(m,b):=yI s D 1000000 false root (Array.replicate n none)
    let(_,xs,vs):=p7 (oJ s D n) (λj m=>yI s D 1000000 true j m) D (D.lets.getD n []) m #[] []
    return lH b xs vs
  let GU:Environment->Nat->XE->XE->Std.HashMap XE XE->Std.HashMap XE XE:=λenv=>it (λ_ _ m=>m) λ_ self e r m=>Id.run do
      let a:=e.getAppArgs
      let g(i:Nat):XE:=a.getD i e
      let mut m:=m
      match e.getAppFn with
      |.const n _=>
        let x:=mkConst `PySem.Expr
        let st:=mkConst `PySem.Stmt
        let ap(s:String)(y:XE):XE:=.app (mkConst (.str `Internal s)) y
        if n==`List.cons&&a.size==3 then
          m:=m.insert e r
          m:=self (g 1) (ap (if g 0==st then"yhS"else"yhE") r) m
          m:=self (g 2) (mkApp2 (c0 "List.tail") (g 0) r) m
        else if n.getPrefix==`PySem.Expr||n.getPrefix==`PySem.Stmt then
          m:=m.insert e r
          let c:=if n.getPrefix==`PySem.Stmt then"ys"else"ye"
          let mut k:=0
          let mut b:=0
          let mut t:=((env.find? n).map (·.type)).getD e
          for y in a do
            let d:=t.bindingDomain!
            t:=t.bindingBody!
            if d==x||d==.app (c0 "Option") x then
              if d==x then m:=self y (.app (ap (c++"0") (mkRawNatLit k)) r) m
              else if y.isApp then m:=self y.appArg! (.app (ap (c++"0") (mkRawNatLit k)) r) m
              k:=k+1
            else if d==.app (c0 "List") x then m:=self y (ap (c++"L") r) m
            else if d==.app (c0 "List") st then
              m:=self y (.app (ap (c++"B") (mkRawNatLit b)) r) m
              b:=b+1
            else if d.isConstOf `PySem.Pos then m:=m.insert y (ap (c++"P") r)
      |_=>pure ()
      return m
  let packS:TacticM Unit:=do
    let m<-getMCtx
    zGo CI
    setMCtx m
    let g<-getMainGoal
    let m<-mkFreshExprSyntheticOpaqueMVar (<-g.getType) `packroot
    let m2<-mkFreshExprSyntheticOpaqueMVar (<-g.getType)
    g.assign m
    m.mvarId!.assign m2
    replaceMainGoal [m2.mvarId!]
  let packE:TacticM Unit:=do
    match(<-getMCtx).findUserName? `packroot with
    |none=>throwError"no root"
    |some m=>
      let e<-instantiateMVars (.mvar m)
      m.withContext do
        unless e.hasExprMVar do
          let env<-getEnv
          let zm:=G9 CI env
          let e:=e.replace λx=>match x with
            |.const n us=>if n.getPrefix==`Internal then match env.find? n with
                |some (.defnInfo d)=>if d.value.isConst then some (d.value.instantiateLevelParams d.levelParams us)else none
                |_=>none
                else none
            |_=>none
          let am<-match e.find? (·.isAppOf `Internal.ysB)with
            |some r=>do pure (GU env 10000 (<-whnfD r) r {})
            |none=>pure {}
          let a<-FF zm am e true
          let b<-FF zm am e false
          let e:=if(<-a.numObjs)<(<-b.numObjs)then a else b
          if e.hasLooseBVars then throwError"loose"
          m.assign e
  let wh:Environment->Nat->XE->MetaM XE:=λenv=>it (λe=>return e) λ_ self e=>do
      let now<-getEnv
      let mut again:=false
      let mut m:List (Name×XE×List Name):=[]
      for c in e.getUsedConstants do
        unless env.contains c do
          if let some i:=now.find? c then
            if let some v:=i.value? true then
              m:=(c,v,i.levelParams)::m
              again:=true
      unless again do return e
      let e:=e.replace fun
        |.const c us=>(m.find? (·.1==c)).map λp=>p.2.1.instantiateLevelParams p.2.2 us
        |_=>none
      self (<-Core.betaReduce e)
  let xY:Environment->MVarId->String->TacticM (Nat×XE):=λenv g s=>do
    try
      setGoals [g]
      tacS s
      let e<-g.withContext (do wh env 10 (<-instantiateMVars (.mvar g)))
      return(<-e.numObjs,e)
    catch _=>return(0,.bvar 0)
  let lk:String->XE:=λs=>mkConst (`Internal++s.toName)
  let k0:String->XE:=λs=>mkConst s.toName
  let rK:XE:=mkConst `Nat
  let tI:Nat->XE:=λn=>mkRawNatLit n
  let wW:XE->Option Nat:=λe=>e.nat?<|>e.rawNatLit?
  let hd?:XE->String:=λe=>match e.getAppFn with
    |.const (.str _ s) _=>s
    |_=>""
  let F8:String->String->String->XE->XE->XE:=λf i n x y=>mkApp6 (mkConst f.toName [.zero,.zero,.zero]) rK rK rK (mkApp2 (c0 i) rK (k0 n)) x y
  let DN:XE->XE->XE:=λx y=>F8 "HAdd.hAdd" "instHAdd" "instAddNat" x y
  let lxQ:LX->XE:=fxz λlxQ=>fun
    |.v i=>mkApp (lk "LX.v") (tI i)
    |.c n=>mkApp (lk "LX.c") (tI n)
    |.p a b=>mkApp2 (lk "LX.p") (lxQ a) (lxQ b)
    |.m k a=>mkApp2 (lk "LX.m") (tI k) (lxQ a)
    |.r a k=>mkApp2 (lk "LX.r") (lxQ a) (tI k)
  let isNat:XE->String->Bool:=λe s=>hd? e==s&&(ga e 0).isConstOf `Nat
  let Cn:Nat->XE->Array XE->Array XE:=it (λ_ s=>s) λ_ self e s=>
      let e:=e.consumeMData;if(wW e).isSome then s
      else if isNat e "hAdd"then self (ga e 5) (self (ga e 4) s)
      else if isNat e "hMul"&&(wW (ga e 4)).isSome then self (ga e 5) s
      else if isNat e "hMul"&&(wW (ga e 5)).isSome then self (ga e 4) s
      else if hd? e=="succ"then self (ga e 0) s
      else if s.contains e then s else s.push e
  let DS:Array XE->Nat->XE->LX:=λs=>it (λ_=>.c 0) λ_ self e=>
      let e:=e.consumeMData;match wW e,wW (ga e 4),wW (ga e 5)with
      |some n,_,_=>.c n
      |_,x,y=>
        if isNat e "hAdd"then .p (self (ga e 4)) (self (ga e 5))
        else if isNat e "hMul"&&x.isSome then .m (x.getD 0) (self (ga e 5))
        else if isNat e "hMul"&&y.isSome then .r (self (ga e 4)) (y.getD 0)
        else if hd? e=="succ"then .p (self (ga e 0)) (.c 1)
        else .v (s.toList.findIdx (·==e))
  let rq:List Int->Nat->Int:=λa i=>a.getD i 0
  let lm:List Int->Nat->Int->List Int:=fxz λlm=>fun
    |[],0,k=>[k]
    |a::f,0,k=>(a+k)::f
    |[],i+1,k=>0::lm [] i k
    |a::f,i+1,k=>a::lm f i k
  let l7:LX->Int->List Int->List Int:=fxz λl7=>fun
    |.v i,k,f=>lm f (i+1) k
    |.c n,k,f=>lm f 0 (k*n)
    |.p a b,k,f=>l7 b k (l7 a k f)
    |.m j a,k,f=>l7 a (k*j) f
    |.r a j,k,f=>l7 a (k*j) f
  let FA:Nat->XE->String×XE×XE×XE:=it (λt=>("",t,t,t)) λ_ self t=>
      let t:=t.consumeMData;let h:=hd? t;let g:=ga t;if h=="le"||h=="lt"then(h,g 0,g 2,g 3)
      else if h=="ge"then("le",g 0,g 3,g 2)
      else if h=="gt"then("lt",g 0,g 3,g 2)
      else if h=="Eq"then("eq",g 0,g 1,g 2)
      else if h=="Ne"then("ne",g 0,g 1,g 2)
      else if h=="Not"then
        let(c,r):=self (g 0);(if c=="le"||c=="lt"then"n"++c else if c=="eq"then"ne"else"",r)
      else("",t,t,t)
  let CN:Nat->XE->Option XE:=it (λ_=>none) λ_ self e=>
      let e:=e.consumeMData;let h:=hd? e;if h=="cast"||h=="intCast"then some (ga e 2)
      else if h=="ofNat"&&e.getAppNumArgs==1 then some (ga e 0)
      else if h=="ofNat"then e.int?.bind λn=>if n<0 then none else some (mkNatLit n.toNat)
      else do
        let a<-self (ga e 4)
        let b<-self (ga e 5)
        if h=="hAdd"then some (DN a b) else if h=="hMul"then some (F8 "HMul.hMul" "instHMul" "instMulNat" a b) else none
  let fA:LF->XE:=λf=>f.2.1
  let fB:LF->XE:=λf=>f.2.2.1
  let fH:LF->XE:=λf=>f.2.2.2
  let Ci:XE->String×LF:=λt=>
    let(c,ty,a,b):=FA 2 t;if c==""then("","",t,t,t)
    else if ty.isConstOf `Nat then("n",c,a,b,t)
    else if ty.isConstOf `Int then match CN 100 a,CN 100 b with
      |some a,some b=>("i",c,a,b,t)
      |_,_=>("","",t,t,t)
    else("","",t,t,t)
  let mL:Nat->XE->XE->List LF:=it (λ_ _=>[]) λ_ self h t=>
      let t:=t.consumeMData;let n:=hd? t;if n=="And"then self (mkProj `And 0 h) (ga t 0)++self (mkProj `And 1 h) (ga t 1)
      else if n=="Or"then [("or",ga t 0,ga t 1,h)]
      else
        let(w,c,a,b,_):=Ci t;if w=="n"then [(c,a,b,h)]else if w=="i"then [(c,a,b,mkApp3 (lk ("ic_"++c)) a b h)]else []
  let DA:oD->Bool:=λr=>rq r.1 0<0&&(r.1.drop 1).all (·<=0)
  let DP:Int->Int->List Int->List Int->List Int:=λp q=>fxz λqz=>have DP:=λ(_:Int)=>λ(_:Int)=>qz;fun
    |[],b=>b.map (p*·)
    |a,[]=>a.map (q*·)
    |x::a,y::b=>(q*x+p*y)::DP p q a b
  let mix:oD->oD->Nat->oD:=λa b j=>
    let p:=(rq a.1 j).natAbs;let q:=(rq b.1 j).natAbs;let g:=Nat.gcd p q;(DP (p/g:Nat) (q/g:Nat) a.1 b.1,DP (p/g:Nat) (q/g:Nat) a.2 b.2)
  let me:Int->Nat->List oD->List oD:=λs j rows=>rows.filter λr=>(rq r.1 j).sign==s
  let ze:List oD->Nat->Nat:=λrows j=>(me 1 j rows).length*(me (-1) j rows).length
  let sJ:List oD->List Nat->Nat->Nat:=λrows=>fxz λqz=>have sJ:=λ(_:List oD)=>qz;fun
    |[],b=>b
    |j::r,b=>sJ rows r (if ze rows j<ze rows b then j else b)
  let Hj:Nat->List oD->List Nat->Option oD:=it (λ_ _=>none) λ_ self rows vars=>
      match rows.find? DA,vars with
      |some r,_=>some r
      |none,[]=>none
      |none,v::r=>
        if rows.length>400 then none else
        let j:=sJ rows r v;let ns:=me (-1) j rows;self (me 0 j rows++ns.map (λr=>(r.1.set j 0,r.2))++(me 1 j rows).flatMap λp=>ns.map λq=>mix p q j) (vars.filter (· !=j))
  let CM:String->LX->LX->List Int:=λc a b=>
    if c=="le"||c=="eq"then l7 b 1 (l7 a (-1) [0])
    else if c=="lt"then lm (l7 b 1 (l7 a (-1) [0])) 0 (-1)
    else if c=="nle"then lm (l7 a 1 (l7 b (-1) [0])) 0 (-1)
    else l7 a 1 (l7 b (-1) [0])
  let rowsOf:Array XE->List LF->Nat->List oD:=λs=>fxz λqz=>have rowsOf:=λ(_:Array XE)=>qz;fun
    |[],_=>[]
    |f::r,i=>
      let a:=DS s 1000 (fA f);let b:=DS s 1000 (fB f);(CM f.1 a b,lm [] i 1)::if f.1=="eq"then(CM "eq" b a,lm [] (i+1) 1)::rowsOf s r (i+2) else rowsOf s r (i+2)
  let sP:List LF->Array XE:=λfs=>fs.foldl (λs f=>Cn 1000 (fB f) (Cn 1000 (fA f) s)) #[]
  let yo:XE->List XE->XE:=λty l=>l.foldr (zf ty) (mkApp (c0 "List.nil") ty)
  let xV:List Int->List LF->Nat->List (LF×List XE):=λq=>fxz λqz=>have xV:=λ(_:List Int)=>qz;fun
    |[],_=>[]
    |f::r,i=>
      let n(j:Nat):XE:=tI (rq q j).toNat;let KC:=xV q r (i+2);if rq q i==0&&rq q (i+1)==0 then KC else(f,if f.1=="eq"then[n i,n (i+1)]else[n i])::KC
  let p6:LF->List LF->Option XE:=λg fs=>do
    let ff:=g.1=="ff"
    let all:=if ff then fs else("n"++g.1,g.2)::fs
    let s:=sP all
    let r<-Hj 60 (rowsOf s all 0) ((List.range s.size).map (·+1))
    let used:=xV (r.2++[0]) fs (if ff then 0 else 2)
    let qg:=if ff then [] else [tI (rq r.2 0).toNat]
    let s:=sP ((if ff then [] else [g])++used.map (·.1))
    let q(e:XE):XE:=lxQ (DS s 1000 e)
    let args:=[yo rK s.toList,yo (lk "LC") (used.map λu=>mkApp2 (lk ("LC."++u.1.1)) (q (fA u.1)) (q (fB u.1)))]++(if ff then [] else [q (fA g),q (fB g)])++[yo rK (qg++used.flatMap (·.2)),qv (k0 "Bool") (k0 "Bool.true")]++used.map λu=>fH u.1
    some (mkAppN (lk ("lin_"++g.1)) args.toArray)
  let xm:Nat->XE->List XE->List XE:=it (λ_ l=>l) λ_ self e l=>
      let e:=e.consumeMData;let h:=hd? e;let sub:=h=="hSub"||h=="min";if sub||h=="hAdd"||h=="hMul"then
        let l:=self e.appArg! (self e.appFn!.appArg! l);if !sub||l.contains e then l else l++[e]
      else l
  let uf:XE->XE->XE->Bool->XE->LF:=λt x y low h=>
    let p(n:String):XE:=mkApp3 (k0 n) x y h;if hd? t=="min"then("eq",t,if low then x else y,p (if low then"Nat.min_eq_left"else"Nat.min_eq_right"))
    else if low then("le",t,tI 0,p "Internal.sub_no") else("eq",DN t y,x,p "Nat.sub_add_cancel")
  let Av:XE->XE->XE->List LF:=λt x y=>
    let p(n:String):XE:=mkApp2 (k0 n) x y;if hd? t=="min"then[("le",t,x,p "Nat.min_le_left"),("le",t,y,p "Nat.min_le_right")]
    else[("le",x,DN t y,p "Internal.sub_up"),("le",t,x,p "Nat.sub_le")]
  let GD:String->String->XE->XE->XE:=λc i x y=>mkApp4 (c0 c) rK (k0 i) x y
  let Cj:String->XE->XE->XE:=λc x y=>if c=="le"then GD "LE.le" "instLENat" x y else if c=="lt"then GD "LT.lt" "instLTNat" x y else mkApp3 (mkConst `Eq [1]) rK x y
  let w7:String->XE->XE->XE:=λc x y=>if c=="ff"then k0 "False"else if c.startsWith "n"then mkApp (k0 "Not") (Cj (c.drop 1).toString x y) else Cj c x y
  let settle:List XE->List LF->List LF×List XE:=fxz λsettle=>fun
    |[],fs=>(fs,[])
    |t::r,fs=>
      let x:=t.appFn!.appArg!;let y:=t.appArg!;match p6 ("le",y,x,t) fs with
      |some h=>settle r (fs++[uf t x y false h])
      |none=>
        match p6 ("le",x,y,t) fs with
        |some h=>settle r (fs++[uf t x y true h])
        |none=>
          let(fs,l):=settle r fs;(fs,t::l)
  let under:XE->(XE->MetaM (Option XE))->MetaM (Option XE):=λA f=>
    withLocalDeclD `h A λz=>do
      match<-f z with
      |some e=>return some (<-mkLambdaFVars #[z] e)
      |none=>return none
  let qK:{α:Type}->(α->MetaM (Option XE))->List α->MetaM (Option XE):=@λα f=>fxz λqz=>have qK:=λ(_:α->MetaM (Option XE))=>qz;fun
    |[]=>return none
    |a::r=>do
      match<-f a with
      |some e=>return some e
      |none=>qK f r
  let fy:Nat->LF->List LF->MetaM (Option XE):=it (λ_ _=>return none) λk self g fs0=>do
      let fs:=fs0.filter λf=>f.1 !="or"&&f.1 !="ne"
      let ts:=(if g.1=="ff"then fs else g::fs).foldl (λl f=>xm 1000 (fB f) (xm 1000 (fA f) l)) []
      let(fs,ts):=settle ts fs
      let(fs,ts):=settle ts fs
      match p6 g (fs++ts.flatMap λt=>Av t t.appFn!.appArg! t.appArg!)with
      |some e=>return some e
      |none=>
        if k==0 then return none
        let G:=w7 g.1 (fA g) (fB g)
        let two(A B h:XE):MetaM (Option XE):=do
          let KC:=fs0.filter (fH · !=h)
          match<-under A λz=>self g (KC++mL 8 z A)with
          |none=>return none
          |some l=>
            match<-under B λz=>self g (KC++mL 8 z B)with
            |none=>return none
            |some r=>return some (mkAppN (k0 "Or.elim") #[A,B,G,h,l,r])
        let r<-qK (λf=>do
          if f.1=="or"then two (fA f) (fB f) (fH f)
          else if f.1=="ne"then two (w7 "lt" (fA f) (fB f)) (w7 "lt" (fB f) (fA f)) (mkApp3 (k0 "Nat.lt_or_gt_of_ne") (fA f) (fB f) (fH f))
          else return none) fs0
        if r.isSome then return r
        qK (λt=>two (w7 "le" t.appFn!.appArg! t.appArg!) (w7 "le" t.appArg! t.appFn!.appArg!) (mkApp2 (k0 "Nat.le_total") t.appFn!.appArg! t.appArg!)) ts
  let ym:Nat->XE->List LF->MetaM (Option XE):=it (λ_ _=>return none) λ_ self t fs=>do
      let t:=t.consumeMData
      let n:=hd? t
      let x:=ga t 0
      let y:=ga t 1
      if n=="And"then
        match<-self x fs,<-self y fs with
        |some a,some b=>return some (mkApp4 (k0 "And.intro") x y a b)
        |_,_=>return none
      else if n=="Or"then
        match<-self x fs with
        |some a=>return some (mkApp3 (k0 "Or.inl") x y a)
        |none=>return(<-self y fs).map (mkApp3 (k0 "Or.inr") x y)
      else
        let(w,c,a,b,_):=Ci t
        let ex:LF:=("ff",t,t,t)
        if w=="n"&&c=="eq"then
          match<-fy 4 ("le",a,b,t) fs,<-fy 4 ("le",b,a,t) fs with
          |some x,some y=>return some (mkApp4 (k0 "Nat.le_antisymm") a b x y)
          |_,_=>return none
        else if w=="n"&&(c=="le"||c=="lt") then fy 4 (c,a,b,t) fs
        else if w=="n"&&c=="nle"then return(<-fy 4 ("lt",b,a,t) fs).map (mkApp3 (k0 "Nat.not_le_of_lt") b a)
        else if w=="n"&&c=="nlt"then return(<-fy 4 ("le",b,a,t) fs).map (mkApp3 (k0 "Nat.not_lt_of_le") b a)
        else if w=="i"then return(<-self (w7 c a b) fs).map (mkApp3 (lk ("ig_"++c)) a b)
        else if n=="Not"||n=="Ne"then
          let p:=if n=="Ne"then mkApp3 (mkConst `Eq [1]) x y (ga t 2) else x
          under p λh=>fy 4 ex (fs++mL 8 h p)
        else if n=="False"then fy 4 ex fs
        else return(<-fy 4 ex fs).map (mkApp2 (mkConst `False.elim [.zero]) t)
  let BV:XE->XE->MetaM (Option XE):=λt e=>do
    let only:=(collectFVars {} e).fvarIds.toList
    let fs<-(<-getLCtx).decls.toList.filterMapM λd=>do
      match d with
      |some d=>if d.isImplementationDetail||!only.contains d.fvarId then return none else return some (mL 8 d.toExpr (<-instantiateMVars d.type))
      |none=>return none
    ym 10 t fs.flatten
  let om:TacticM Unit:=do
    let g<-getMainGoal
    let KC:=(<-getGoals).tail!
    let env<-getEnv
    let s<-saveState
    let b<-xY env g "omega"
    s.restore
    let t<-instantiateMVars (<-g.getType)
    let short<-if b.1=0 then pure none else g.withContext (BV t b.2)
    match short with
    |some e=>g.assign e
    |none=>
      let a<-xY env g "lia (config := {})"
      s.restore
      if a.1=0&&b.1=0 then throwError"om"
      g.assign (if a.1 !=0&&(b.1=0||a.1<=b.1) then a.2 else b.2)
    setGoals KC
  PySem.W.leftPieces.set<|some λg c _ l=>do
   let s:=l.headD ""
   let r<-(Tactic.run g (withoutRecover (if s=="S" then packS else if s=="E" then packE else om))).run'
   c.mvarId!.assign (mkAppN (mkConst `Nat) (r.map Lean.mkMVar).toArray)
 trivial
def hk (s:String):TacticM Unit:=do
 let l<-getUnsolvedGoals
 let c<-mkFreshExprMVar (mkConst `Nat)
 let d<-mkFreshExprMVar (mkConst `Nat)
 ((<-PySem.W.leftPieces.get).getD λ_ _ _ _=>return ()) (l.headD d.mvarId!) c PySem.Challenge.pw_te0062_03 [s]
 unless l.isEmpty do replaceMainGoal (((<-getExprMVarAssignment? c.mvarId!).getD (.bvar 0)).getAppArgs.toList.map (·.mvarId!))
def packS:=hk "S"
def packE:=hk "E"
def om:=hk "o"
end Internal
end
open PySem PySem.W PySem.Calls PyProof.Rows
set_option Elab.async false
set_option maxRecDepth 100000
set_option linter.unusedVariables false
set_option bootstrap.genMatcherCode false
set_option genSizeOf false
set_option genInjectivity false
set_option maxHeartbeats 0
namespace Internal
noncomputable section
local macro_rules |`(by%$k $t:tacticSeq)=>match k.getHeadInfo with|.original _ _ s _=>if s.toString=="\n " then `(by (run_tac Internal.packS);($t);run_tac Internal.packE) else Lean.Macro.throwUnsupported|_=>Lean.Macro.throwUnsupported
local macro_rules | `(tactic| lia) => `(tactic| run_tac Internal.om)
variable{sc:Scope}{names:List Str}{n:Nat}{α:Type}{β:Type}{ns:List Str}{A:Around}{env:Env}{h:Heap}{h':Heap}{h0a:Heap}{φ:List Addr}{K8:List Addr}{op:Operator}{pos:Pos}{s:Shared}{v':Value}{l:List Nat}{i:Nat}{k:Nat}{kk:Nat}
section
set_option genInjectivity true
theorem ifs{c:Prop}[Decidable c]{a r:α}(h:(if c then some a else none)=some r):c/\a=r:=by
 by_cases hc:c
 ·exact⟨hc,ec ((dt hc).symm.trans h)⟩
 ·cases(cw hc).symm.trans h
theorem Ch{c:Bool}{a r:α}(h:(bif c then some a else none)=some r):c=true/\a=r:=by
 cases c with
 |true=>exact⟨rfl,ec h⟩
 |false=>cases h
theorem nos{a:α}{P:Prop}(h:(none:Option α)=some a):P:=by
 cases h
inductive MV where
 |none|bool(b:Bool)|int(i:Int)|str(s:List Nat)|ref(i:Nat)|sref(a:Nat)
inductive MO where
 |list(xs:List MV)|tuple(xs:List MV)|inst(C:Nat)(d:Nat)(fs:List (Option MV))|edict|cell(v:Option MV)|dict(es:List (List Nat×MV))
structure LS where
 ρ:List (Option MV)
 mh:List MO
def VR(φ:List Addr):MV->Value->Prop
 |.none,v=>v=.none
 |.bool b,v=>v=.bool b
 |.int i,v=>∃t,v=.int i t
 |.str s,v=>∃t,v=.str ⟨s.toArray⟩ t
 |.ref i,v=>∃a,φ[i]?=some a/\v=.ref a
 |.sref a,v=>v=.ref a
inductive All2{α β:Type}(R:α->β->Prop):List α->List β->Prop
 |nil:All2 R [] []
 |cons{a b l m:_}:R a b->All2 R l m->All2 R (a::l) (b::m)
def lp(φ:List Addr):Option MV->Option Value->Prop
 |none,o=>o=none
 |some v,o=>∃v',o=some v'/\VR φ v v'
def OR(φ:List Addr):MO->Obj->Prop
 |.list xs,o=>∃vs n,o={cls:=.type "list",data:=.seq vs n}/\All2 (VR φ) xs vs.toList
 |.tuple xs,o=>∃vs n,o={cls:=.type "tuple",data:=.seq vs n}/\All2 (VR φ) xs vs.toList
 |.inst C d fs,o=>∃b a,φ[d]?=some b/\o={cls:=.ref C,dict:=some b,data:=.plain,slots:=a}/\All2 (lp φ) fs a.toList
 |.edict,o=>o={cls:=.type "dict",data:=.dict #[]}
 |.cell v,o=>∃v',o.data=.cell v'/\lp φ v v'
 |.dict _,o=>∃ps:Array Value,o={cls:=.none,data:=.fields ps}/\TriplesOk ps.toList
theorem All2.mono{R c:α->β->Prop}(h:∀a b,R a b->c a b):∀{l:List α}{m:List β},All2 R l m->All2 c l m:=by
 intro l m q;induction q with
 |nil=>exact .nil
 |cons a _ d=>exact .cons (h _ _ a) d
theorem All2.len{R:α->β->Prop}:∀{l:List α}{m:List β},All2 R l m->l.length=m.length:=by
 intro l m q;induction q with
 |nil=>rfl
 |cons _ _ a=>exact ed (·+1) a
theorem All2.get{R:α->β->Prop}:∀{l:List α}{m:List β},All2 R l m->∀{i:Nat}{a},l[i]?=some a->∃b,m[i]?=some b/\R a b:=by
 intro l m q;induction q with
 |nil=>intro i a h;cases h
 |cons a _ c=>
  intro i x h;cases i with
  |zero=>exact⟨_,rfl,ec h▸a⟩
  |succ i=>exact c h
theorem All2.set{R:α->β->Prop}:∀{l:List α}{m:List β},All2 R l m->∀{i:Nat}{a b},R a b->All2 R (l.set i a) (m.set i b):=by
 intro l m q;induction q with
 |nil=>intro _ _ _ _;exact .nil
 |cons a b c=>
  intro i x y h;cases i with
  |zero=>exact .cons h b
  |succ i=>exact .cons a (c h)
theorem All2.app{R:α->β->Prop}:∀{l:List α}{m:List β},All2 R l m->∀{c b},All2 R c b->All2 R (l++c) (m++b):=by
 intro l m q;induction q with
 |nil=>intro _ _ h;exact h
 |cons a _ d=>intro _ _ h;exact .cons a (d h)
theorem rP{l:List α}(h:l.length=1):∃a,l=[a]:=List.length_eq_one_iff.mp h
theorem f9{l:List α}(h:l.length=n+1):∃a r,l=a::r/\r.length=n:=by
 cases l with
 |nil=>cases h
 |cons a r=>exact⟨a,r,rfl,JG h⟩
theorem aO{l b:List α}(h:l<+:b){a:α}(e:l[i]?=some a):b[i]?=some a:=by
 obtain⟨t,rfl⟩:=h;rw[n6 (fd.mp e).1];exact e
variable{v:MV}
theorem VR.mono(h:φ<+:K8)(r:VR φ v v'):VR K8 v v':=by
 cases v with
 |ref i=>obtain⟨a,e,r⟩:=r;exact⟨a,aO h e,r⟩
 |_=>exact r
theorem lp.mono(h:φ<+:K8){v:Option MV}{v':Option Value}(r:lp φ v v'):lp K8 v v':=by
 cases v with
 |none=>exact r
 |some v=>obtain⟨x,e,r⟩:=r;exact⟨x,e,r.mono h⟩
theorem OR.mono(h:φ<+:K8){v:MO}{o:Obj}(r:OR φ v o):OR K8 v o:=by
 cases v with
 |list xs=>obtain⟨vs,n,b,c⟩:=r;exact⟨vs,n,b,c.mono λ_ _=>VR.mono h⟩
 |tuple xs=>obtain⟨vs,n,b,c⟩:=r;exact⟨vs,n,b,c.mono λ_ _=>VR.mono h⟩
 |inst C d fs=>obtain⟨g,f,a,b,c⟩:=r;exact⟨g,f,aO h a,b,c.mono λ_ _=>lp.mono h⟩
 |edict=>exact r
 |cell v=>obtain⟨x,e,r⟩:=r;exact⟨x,e,r.mono h⟩
 |dict _=>exact r
abbrev lN(φ:List Addr)(m:Str->Option Value):List Str->List (Option MV)->Prop:=All2 λx o=>match o with|none=>True|some v=>∃v',m x=some v'/\VR φ v v'
variable{ρ:List (Option MV)}
theorem lN.mono(h:φ<+:K8){m:Str->Option Value}(r:lN φ m ns ρ):lN K8 m ns ρ:=
 All2.mono (λ_ o q=>by cases o with|none=>trivial|some v=>obtain⟨x,e,r⟩:=q;exact⟨x,e,r.mono h⟩) r
structure Glo where
 prog:Program
 w:World
 K:Frag
 p:Program
 loose:List Str
 mg:Str->Option Value
 mb:Str->Option Value
 φ0:List Addr
 cl:List (Str×Nat)
 pre:Heap->Prop
 pmono:∀{h h':Heap},h.StaysIn h'->pre h->pre h'
noncomputable abbrev Glo.M(G:Glo):Model:=model G.prog G.w
structure Fok(G:Glo)(n:Nat)(sc:Scope)(env:Env)(L:Addr)(h0a:Heap)(A:Around):Prop where
 scope:env.scope=sc
 kind:sc.kind=.function
 loc:env.locals=L
 glob:env.globals=mainGlobals
 blt:env.builtins=builtinsNs
 frame:0<n->env.frame=some L
 below:0<n->∃A0a base KT,Below A0a base KT h0a/\A.frames=some (env::KT)
 inK:G.K.In h0a
 top:TopRead G.p G.loose G.mg G.mb h0a
 bm:∃bm ob,BMod h0a mainGlobals G.mg bm ob
 hnd:A.handled=none
 depth:A.depth+n<900
 units:A.units+8*n+100<cLine
 pre:G.pre h0a
 cells:∀x i,G.cl.lookup x=some i->sc.names.lookup x=some .cell->∃c,env.cells.lookup x=some c/\G.φ0[i]?=some c
def xG(G:Glo)(φ:List Addr)(m:Str->Option Value)(ns:List Str)(ρ:List (Option MV)):Prop:=lN φ m ns ρ/\G.φ0<+:φ
variable{G:Glo}
theorem xG.mono(h:φ<+:K8){m:Str->Option Value}(r:xG G φ m ns ρ):xG G K8 m ns ρ:=⟨r.1.mono h,r.2.trans h⟩
def b7(G:Glo)(names:List Str)(φ:List Addr)(xs:List (Addr×Obj))(st:LS)(h0a:Heap)(L:Addr)(h:Heap):Prop:=
 ∃m objs,Fr h0a L h m/\News h0a L h (xs++φ.zip objs)/\((xs++φ.zip objs).map (·.1)).Nodup/\All2 (OR φ) st.mh objs/\φ.length=objs.length/\xG G φ m names st.ρ
def Sim(G:Glo)(names:List Str)(φ:List Addr)(xs:List (Addr×Obj))(st:LS)(h0a:Heap)(L:Addr)(s:Shared):Prop:=b7 G names φ xs st h0a L s.heap/\1<=s.toks
theorem Sim.tk{xs:List (Addr×Obj)}{st:LS}{L:Addr}(sim:Sim G names φ xs st h0a L s)(hk:s.toks<=k):Sim G names φ xs st h0a L {s with toks:=k}:=⟨sim.1,ml sim.2 hk⟩
theorem Sim.tk1{xs:List (Addr×Obj)}{st:LS}{L:Addr}(sim:Sim G names φ xs st h0a L s):Sim G names φ xs st h0a L {s with toks:=s.toks+1}:=sim.tk (nl _)
def Same(s a:Shared):Prop:=a.drawn=s.drawn/\a.os=s.os/\∃l:List GenState,a.gens=s.gens++l.toArray/\∀g∈l,g.bare=true
theorem Same.rfl:Same s s:=⟨_root_.rfl,_root_.rfl,[],by simp,by simp⟩
theorem Same.trans{d c:Shared}(a:Same s d)(b:Same d c):Same s c:=by
 obtain⟨o,n,l,m,k⟩:=a;obtain⟨j,i,e,h,f⟩:=b;exact⟨j.trans o,i.trans n,l++e,by rw[h,m];simp,λg hg=>(j2.mp hg).elim (k g) (f g)⟩
theorem Same.heap{tk:Nat}:Same s {s with heap:=h,toks:=tk}:=⟨_root_.rfl,_root_.rfl,[],by simp,by simp⟩
theorem Same.toks{tk:Nat}:Same s {s with toks:=tk}:=⟨_root_.rfl,_root_.rfl,[],by simp,by simp⟩
abbrev NoE:Value->Shared->Prop:=λ_ _=>False
theorem dU{M:Model}{t:Sem α}{Q:α->Shared->Prop}(c:n<=s.toks)(h:wpAny M A t (λa b=>n<=b.toks->Q a b) NoE s):wpAny M A t Q NoE s:=
 wpAny_with_toks c (x5 h (λ_ _ x=>x) λ_ _ x=>x.elim)
abbrev Den(α:Type):=LS->Option (α×LS)
def Wp{α:Type}(d:Den α)(st:LS)(Q:α->LS->Prop):Prop:=∃a KG,d st=some (a,KG)/\Q a KG
noncomputable def aj(v:MV):Den MV:=λst=>some (v,st)
noncomputable def aG{α β:Type}(d:Den α)(f:α->Den β):Den β:=λst=>match d st with|some (a,KG)=>f a KG|none=>none
variable{KG:LS}
theorem uG{d:Den α}{f:α->Den β}{st:LS}{b:β}(h:aG d f st=some (b,KG)):∃a KD,d st=some (a,KD)/\f a KD=some (b,KG):=by
 unfold aG at h;cases e:d st with
 |none=>rw[e]at h;cases h
 |some p=>rw[e]at h;exact⟨p.1,p.2,rfl,h⟩
theorem wB{d:Den α}{f:α->Den β}{st:LS}{K:β->LS->Prop}(h:Wp (aG d f) st K):Wp d st λa s=>Wp (f a) s K:=by
 obtain⟨b,s,e,q⟩:=h;obtain⟨a,c,e1,e2⟩:=uG e;exact⟨a,c,e1,b,s,e2,q⟩
theorem wK{f:LS->α}{g:LS->LS}{st:LS}{K:α->LS->Prop}(h:Wp (λst=>some (f st,g st)) st K):K (f st) (g st):=by
 obtain⟨a,s,e,q⟩:=h;cases e;exact q
theorem wO{g:LS->Option α}{st:LS}{K:α->LS->Prop}(h:Wp (λst=>(g st).map (·,st)) st K):∃r,g st=some r/\K r st:=by
 obtain⟨a,s,e,q⟩:=h;obtain⟨r,e1,e2⟩:=h8.mp e;cases e2;exact⟨a,e1,q⟩
theorem Eo{d:Den α}{st:LS}{K b:α->LS->Prop}(h:Wp d st K)(q:∀a s,K a s->b a s):Wp d st b:=
 let⟨a,s,e,h⟩:=h;⟨a,s,e,q a s h⟩
theorem wEq{d:Den α}{st:LS}{v:α}(h:d st=some (v,KG)):Wp d st λa s=>a=v/\s=KG:=⟨v,KG,h,rfl,rfl⟩
structure Cx(G:Glo)(sc:Scope)(n:Nat) where
 A:Around
 env:Env
 L:Addr
 h0a:Heap
 xs:List (Addr×Obj)
 ok:Fok G n sc env L h0a A
structure St where
 s:Shared
 φ:List Addr
section
def W(c:Cx G sc n)(names:List Str)(st:LS)(w:St):Prop:=Sim G names w.φ c.xs st c.h0a c.L w.s
structure Nx(c:Cx G sc n)(names:List Str)(w:St)(KG:LS)(w':St):Prop where
 pre:w.φ<+:w'.φ
 same:Same w.s w'.s
 sim:W c names KG w'
variable{c:Cx G sc n}{KD:LS}{KI:LS}{w:St}{w1a:St}
theorem Nx.trans{d:St}(a:Nx c names w KD w1a)(b:Nx c names w1a KI d):Nx c names w KI d:=⟨a.pre.trans b.pre,a.same.trans b.same,b.sim⟩
theorem W.nx{st:LS}(h:W c names st w):Nx c names w st w:=⟨la,.rfl,h⟩
theorem Nx.tk{st:LS}(h:Nx c names w st w1a)(hk:w1a.s.toks<=k):Nx c names w st ⟨{w1a.s with toks:=k},w1a.φ⟩:=⟨h.pre,h.same.trans .toks,h.sim.tk hk⟩
theorem Nx.tk1{st:LS}(h:Nx c names w st w1a):Nx c names w st ⟨{w1a.s with toks:=w1a.s.toks+1},w1a.φ⟩:=h.tk (nl _)
theorem Nx.tk2{st:LS}(h:Nx c names w st w1a):Nx c names w st ⟨{w1a.s with toks:=w1a.s.toks+1+1},w1a.φ⟩:=h.tk1.tk1
theorem Nx.hp{st:LS}(h:Nx c names w st w1a)(q:b7 G names w1a.φ c.xs KG c.h0a c.L h')(hk:1<=k):Nx c names w KG ⟨{w1a.s with heap:=h',toks:=k},w1a.φ⟩:=⟨h.pre,h.same.trans .heap,q,hk⟩
def SemX{α β:Type}(G:Glo)(sc:Scope)(names:List Str)(n:Nat)(R:List Addr->β->α->Prop)(t:Env->Sem α)(d:Den β):Prop:=
 ∀(c:Cx G sc n)(st:LS)(w:St)(K:β->LS->Prop)(Q:α->Shared->Prop),W c names st w->Wp d st K->
  (∀v KG w' a,K v KG->Nx c names w KG w'->R w'.φ v a->Q a w'.s)->wpAny G.M c.A (t c.env) Q NoE w.s
def SemE(G:Glo)(sc:Scope)(names:List Str)(n:Nat)(e:Expr)(d:Den MV):Prop:=SemX G sc names n VR (eval e) d
def SemT(G:Glo)(sc:Scope)(names:List Str)(n:Nat)(e:Expr)(d:Den Bool):Prop:=
 ∀(c:Cx G sc n)(st:LS)(w:St)(K:Bool->LS->Prop)(Q:Bool->Shared->Prop),W c names st w->Wp d st K->
  (∀b KG w',K b KG->Nx c names w KG w'->Q b w'.s)->wpAny G.M c.A (isTrue e c.env (eval e c.env)) Q NoE w.s
inductive MF where
 |next|brk|cont|ret(v:MV)
def FR(φ:List Addr):MF->Flow->Prop
 |.next,f=>f=.next
 |.brk,f=>f=.brk
 |.cont,f=>f=.cont
 |.ret v,f=>∃v',f=.ret v'/\VR φ v v'
def fO(G:Glo)(sc:Scope)(names:List Str)(n:Nat)(t:Stmt)(d:Den MF):Prop:=SemX G sc names n FR (exec t) d
def fD(G:Glo)(sc:Scope)(names:List Str)(n:Nat)(t:List Stmt)(d:Den MF):Prop:=SemX G sc names n FR (execs t) d
inductive Ix:List Str->Str->Nat->Prop
 |head{x l:_}:Ix (x::l) x 0
 |tail{x y l i:_}:Ix l x i->Ix (y::l) x (i+1)
theorem Ix.get{l:List Str}{x:Str}{i:Nat}(h:Ix l x i):l[i]?=some x:=by
 induction h with
 |head=>rfl
 |tail _ a=>simpa using a
theorem ixOf:∀{l:List Str}{x:Str}{i:Nat},l[i]?=some x->Ix l x i
 |y::l,x,0,h=>by cases h;exact .head
 |y::l,x,i+1,h=>.tail (ixOf h)
noncomputable def bF(i:Nat):Den MV:=λst=>match st.ρ[i]? with|some (some v)=>some (v,st)|_=>none
theorem wL{st:LS}{K:MV->LS->Prop}(h:Wp (bF i) st K):∃v,st.ρ[i]?=some (some v)/\K v st:=by
 obtain⟨v,s,e,q⟩:=h;unfold bF at e;split at e
 ·cases e;exact⟨v,by assumption,q⟩
 ·cases e
def LocalsOk(sc:Scope)(names:List Str):Prop:=(names.all λx=>decide (sc.names.lookup x=some .local)&&!(x==("__debug__":Str)))=true/\names.Nodup
theorem LocalsOk.at(h:LocalsOk sc names){x:Str}(a:Ix names x i):sc.names.lookup x=some .local/\(x==("__debug__":Str))=false:=by
 have :=gb.mp h.1 x (l6 a.get);simp only[fi,s3,Bool.not_eq_true']at this;exact this
theorem fJ(h:env.scope=sc){x:Str}{k:NameKind}(e:sc.names.lookup x=some k):env.kindOf x=some k:=by
 unfold Env.kindOf;rw[h];exact e
theorem Cx.fn(c:Cx G sc n):c.env.scope.kind=.function:=(ed Scope.kind c.ok.scope).trans c.ok.kind
theorem my{st:LS}{x:Str}{Q:Value->Shared->Prop}(lo:LocalsOk sc names)(d:Ix names x i)(e:W c names st w)(b:st.ρ[i]?=some (some v))
  (k:∀v',VR w.φ v v'->Q v' w.s):wpAny G.M c.A (loadName c.env x) Q NoE w.s:=by
 obtain⟨m,objs,F,N,l,j,le,f⟩:=e.1;obtain⟨o,h,g⟩:=f.1.get d.get;rw[h]at b;cases b;obtain⟨v',hm,a⟩:=g;exact x3 c.fn (fJ c.ok.scope (lo.at d).1) (c.ok.loc.symm▸F.ns) hm (k v' a)
theorem zU{x:Str}(lo:LocalsOk sc names)(b:Ix names x i):SemE G sc names n (.Name x pos) (bF i):=by
 intro c st w K Q a hd k;obtain⟨v,d,hk⟩:=wL hd;exact Ja (my lo b a d λv' r=>k v st w v' hk a.nx r) (lo.at b).2
theorem IS{i:Int}:SemE G sc names n (.Constant (.int i) kk pos) (aj (.int i)):=
 λ_ _ w _ _ a hd k=>wpAny_Constant_int (k _ _ ⟨_,w.φ⟩ _ (wK hd) a.nx.tk1 ⟨_,rfl⟩)
theorem Ht{b:Bool}:SemE G sc names n (.Constant (.bool b) kk pos) (aj (.bool b)):=
 λ_ _ w _ _ a hd k=>Constant_bool (k _ _ w _ (wK hd) a.nx rfl)
theorem Hn:SemE G sc names n (.Constant .none kk pos) (aj .none):=
 λ_ _ w _ _ a hd k=>Constant_none (k _ _ w _ (wK hd) a.nx rfl)
def SignsOf(x:Str)(l:List Nat):Prop:=x=⟨l.toArray⟩
theorem IK{x:Str}(hx:SignsOf x l):SemE G sc names n (.Constant (.str x) kk pos) (aj (.str l)):=
 λ_ _ w _ _ a hd k=>wpAny_mkText (k _ _ ⟨_,w.φ⟩ _ (wK hd) a.nx.tk1 ⟨_,by rw[hx]⟩)
def OpR(G:Glo)(op:Operator)(f:MV->MV->Option MV):Prop:=
 ∀(A:Around)(s:Shared)(φ:List Addr)(a b r:MV)(a' b':Value)(Q:Value->Shared->Prop),A.handled=none->f a b=some r->VR φ a a'->VR φ b b'->
  (∀c tk,VR φ r c->Q c {s with toks:=tk})->wpAny G.M A (binaryOp op a' b') Q NoE s
noncomputable def ef(f:MV->MV->Option MV)(a b:MV):Den MV:=λst=>(f a b).map (·,st)
noncomputable def lJ(f:MV->MV->Option MV)(KM KJ:Den MV):Den MV:=aG KM λa=>aG KJ λb=>ef f a b
variable{KM:Den MV}{KJ:Den MV}
theorem IV{f:MV->MV->Option MV}{l r:Expr}(y:OpR G op f)(s:SemE G sc names n l KM)(q:SemE G sc names n r KJ):
  SemE G sc names n (.BinOp l op r pos) (lJ f KM KJ):=by
 intro c st w K Q u hd k;refine wpAny_BinOp (s c st w _ _ u (wB hd) λa KD w1a a' j h p=>q c KD w1a _ _ h.sim (wB j) λb KI m b' i d o=>?_);obtain⟨r,e,hk⟩:=wO (g:=λ_=>f a b) i;exact dU (ep _) (y _ _ _ a b r a' b' _ c.ok.hnd e (p.mono d.pre) o λv tk x t=>k r KI ⟨_,m.φ⟩ v hk ((h.trans d).tk t) x)
end
end
variable{v:MV}{ρ:List (Option MV)}{G:Glo}{KG:LS}{c:Cx G sc n}{KD:LS}{KI:LS}{w:St}{w1a:St}{KM:Den MV}{KJ:Den MV}
variable{d:Den MV}{f:List MO->MV->MV->Option Bool}{px:Pos}{N:Nat}
noncomputable def fq(KM KJ:Den MF):Den MF:=λst=>match KM st with
 |some (.next,KG)=>KJ KG
 |r=>r
noncomputable def bM(f:MF):Den MF:=λst=>some (f,st)
noncomputable def goD(f:MF)(d:Den MF):Den MF:=match f with|.next=>d|f=>bM f
theorem HN{KM KJ:Den MF}{st:LS}{K:MF->LS->Prop}(h:Wp (fq KM KJ) st K):Wp KM st λf s=>Wp (goD f KJ) s K:=by
 obtain⟨b,s,e,q⟩:=h;unfold fq at e;cases e1:KM st with
 |none=>rw[e1]at e;cases e
 |some p=>
  obtain⟨f,a⟩:=p;rw[e1]at e;exact⟨f,a,e1,b,s,by cases f<;>exact e,q⟩
theorem IY:fD G sc names n [] (bM .next):=
 λ_ _ w _ _ a hd k=>wpAny_execs_nil (k _ _ w _ (wK hd) a.nx rfl)
theorem Hz{t:Stmt}{ts:List Stmt}{KM KJ:Den MF}(i:fO G sc names n t KM)(h:fD G sc names n ts KJ):fD G sc names n (t::ts) (fq KM KJ):=by
 intro c st w K Q j hd k;refine wpAny_execs_cons (i c st w _ _ j (HN hd) λf KD w1a l b d e=>?_);cases f with
 |next=>cases e;exact h c KD w1a _ _ d.sim b λv KG w' a q g r=>k v KG w' a q (d.trans g) r
 |brk=>cases e;exact k _ _ w1a _ (wK b) d rfl
 |cont=>cases e;exact k _ _ w1a _ (wK b) d rfl
 |ret v=>obtain⟨v',rfl,r⟩:=e;exact k _ _ w1a _ (wK b) d ⟨_,rfl,r⟩
theorem lN.keep{m:Str->Option Value}{x:Str}(a:x∉ns)(h:lN φ m ns ρ):lN φ (λy=>if y=x then some v' else m y) ns ρ:=by
 induction h with
 |nil=>exact .nil
 |@cons y o l r q _ b=>
  refine .cons ?_ (b λh=>a (.tail _ h));have hy:y≠x:=λe=>a (e▸.head _);cases o with
  |none=>trivial
  |some v=>obtain⟨w,e,r⟩:=q;exact⟨w,by simp only[cw hy];exact e,r⟩
theorem lN.store{m:Str->Option Value}(j:VR φ v v'){x:Str}(d:Ix ns x i):∀{ρ:List (Option MV)},ns.Nodup->lN φ m ns ρ->
  lN φ (λy=>if y=x then some v' else m y) ns (ρ.set i (some v)):=by
 induction d with
 |head=>
  intro ρ c h;cases h with
  |cons a b=>exact .cons ⟨v',by simp,j⟩ (lN.keep (hM.mp c).1 b)
 |@tail x y l i d g=>
  intro ρ c h;have f:=hM.mp c;cases h with
  |@cons _ o _ r a b=>
   refine .cons ?_ (g f.2 b);have hy:y≠x:=λe=>f.1 (e▸l6 d.get);cases o with
   |none=>trivial
   |some v=>obtain⟨w,e,r⟩:=a;exact⟨w,by simp only[cw hy];exact e,r⟩
noncomputable def cY(i:Nat)(v:MV):Den MF:=λst=>some (.next,{st with ρ:=st.ρ.set i (some v)})
theorem dL{x:Str}(lo:LocalsOk sc names)(e:Ix names x i){st:LS}{Q:Unit->Shared->Prop}
  (a:W c names st w)(h:VR w.φ v v')(k:∀w',Nx c names w {st with ρ:=st.ρ.set i (some v)} w'->Q () w'.s):wpAny G.M c.A (storeName c.env x v') Q NoE w.s:=by
 obtain⟨m,objs,F,N,g,f,le,b⟩:=a.1;have hL:=c.ok.loc;refine wpAny_storeName_local (fJ c.ok.scope (lo.at e).1) (hL.symm▸F.ns) (λh' d hs=>?_) ?_
 ·rw[hL]at d hs
  exact k ⟨_,w.φ⟩ (a.nx.hp ⟨_,objs,F.set d hs,N.set hs,g,f,le,⟨b.1.store h e lo.2,b.2⟩⟩ (JD _ _))
 ·rw[c.fn];rfl
def Cq(e:Expr):Prop:=∀t l env,swapsWith e t l env=pure false
theorem E7{x:Str}{e:Expr}(lo:LocalsOk sc names)(m:Ix names x i)(pl:Cq e)(h:SemE G sc names n e d):
  fO G sc names n (.Assign [.Name x px] e pos) (aG d (cY i)):=
 λc st w _ _ l hd k=>wpAny_Assign_Name (h c st w _ _ l (wB hd) λ_ _ _ _ b a g=>dL lo m a.sim g λf j=>k _ _ f _ (wK b) (a.trans j) rfl) (pl _ _ _)
theorem H8{e:Expr}(h:SemE G sc names n e d):fO G sc names n (.Return (some e) pos) (aG d λv=>bM (.ret v)):=
 λc st w _ _ g hd k=>J2 (h c st w _ _ g (wB hd) λ_ _ w1a _ a f b=>k _ _ w1a _ (wK a) f ⟨_,rfl,b⟩)
theorem IA:fO G sc names n (.Break pos) (bM .brk):=
 λ_ _ w _ _ a hd k=>wpAny_Break (k _ _ w _ (wK hd) a.nx rfl)
theorem HX:fO G sc names n (.Continue pos) (bM .cont):=
 λ_ _ w _ _ a hd k=>wpAny_Continue (k _ _ w _ (wK hd) a.nx rfl)
def GZ(G:Glo)(op:Operator)(f:MV->MV->Option MV):Prop:=
 ∀(A:Around)(s:Shared)(φ:List Addr)(a b r:MV)(a' b':Value)(Q:Value->Shared->Prop),A.handled=none->f a b=some r->VR φ a a'->VR φ b b'->
  (∀c tk,VR φ r c->Q c {s with toks:=tk})->wpAny G.M A (inplaceOp op a' b') Q NoE s
theorem E6{x:Str}{f:MV->MV->Option MV}{e:Expr}(lo:LocalsOk sc names)(t:Ix names x i)(z:GZ G op f)(h:SemE G sc names n e d):
  fO G sc names n (.AugAssign (.Name x px) op e pos) (aG (bF i) λa=>aG d λb=>aG (ef f a b) (cY i)):=by
 intro c st w K Q s hd k;obtain⟨a,v,hd⟩:=wL (wB hd);refine wpAny_AugAssign_Name (my lo t s v λa' u=>h c st w _ _ s (wB hd) λb KD w1a b' l j o=>?_);obtain⟨r,e,hk⟩:=wO (g:=λ_=>f a b) (wB l);exact dU (ep _) (z _ _ _ a b r a' b' _ c.ok.hnd e (u.mono j.pre) o λA tk y q=>dL lo t (w:=⟨_,w1a.φ⟩) (j.tk q).sim y λm p=>k _ _ m _ (wK hk) ((j.tk q).trans p) rfl)
def gE(G:Glo)(op:CmpOp)(f:List MO->MV->MV->Option Bool):Prop:=
 ∀(n:Nat)(sc:Scope)(names:List Str)(c:Cx G sc n)(st:LS)(w:St)(a b:MV)(r:Bool)(a' b':Value)(Q:Value->Shared->Prop),W c names st w->f st.mh a b=some r->VR w.φ a a'->VR w.φ b b'->
  (∀w',Nx c names w st w'->Q (.bool r) w'.s)->wpAny G.M c.A (compareOp op a' b') Q NoE w.s
noncomputable def jQ(f:List MO->MV->MV->Option Bool)(a b:MV):Den Bool:=λst=>(f st.mh a b).map (·,st)
def gZ(f:List MO->MV->MV->Option Bool)(KM KJ:Den MV):Den Bool:=aG KM λa=>aG KJ λb=>jQ f a b
def sK(d:Den Bool):Den MV:=aG d λb=>aj (.bool b)
theorem Ey{op:CmpOp}{l r:Expr}(x:gE G op f)(u:SemE G sc names n l KM)(t:SemE G sc names n r KJ)
  (hm:behindInMarks op r=false):SemT G sc names n (.Compare l [op] [r] pos) (gZ f KM KJ):=by
 intro c st w K Q v hd k;refine Je (u c st w _ _ v (wB hd) λa KD w1a a' j h q=>t c KD w1a _ _ h.sim (wB j) λb KI o b' i d p=>?_) hm;obtain⟨r,e,hk⟩:=wO (g:=λst=>f st.mh a b) i;exact x n sc names c KI o a b r a' b' _ d.sim e (q.mono d.pre) p λm s=>xt (k r KI m hk ((h.trans d).trans s))
theorem Ce{op:CmpOp}{l r:Expr}(x:gE G op f)(u:SemE G sc names n l KM)(t:SemE G sc names n r KJ)
  (hm:behindInMarks op r=false):SemE G sc names n (.Compare l [op] [r] pos) (sK (gZ f KM KJ)):=by
 intro c st w K Q v hd k;refine wpAny_Compare1 (u c st w _ _ v (wB (wB hd)) λa KD w1a a' j h q=>t c KD w1a _ _ h.sim (wB j) λb KI o b' i d p=>?_) hm;obtain⟨r,e,hk⟩:=wO (g:=λst=>f st.mh a b) i;exact x n sc names c KI o a b r a' b' _ d.sim e (q.mono d.pre) p λm s=>k _ _ m _ (wK hk) ((h.trans d).trans s) rfl
def H0(KM KJ:Den Bool):Den Bool:=aG KM λb=>match b with|true=>KJ|false=>λst=>some (false,st)
def orT(KM KJ:Den Bool):Den Bool:=aG KM λb=>match b with|false=>KJ|true=>λst=>some (true,st)
def FL(d:Den Bool):Den Bool:=aG d λb st=>some (!b,st)
inductive SemTs(G:Glo)(sc:Scope)(names:List Str)(n:Nat):List Expr->List (Den Bool)->Prop
 |nil:SemTs G sc names n [] []
 |cons{e es d ds:_}:SemT G sc names n e d->SemTs G sc names n es ds->SemTs G sc names n (e::es) (d::ds)
def gh:List (Den Bool)->Den Bool
 |[]=>λst=>some (true,st)
 |d::ds=>H0 d (gh ds)
def q7:List (Den Bool)->Den Bool
 |[]=>λst=>some (false,st)
 |d::ds=>orT d (q7 ds)
theorem H6{es:List Expr}{ds:List (Den Bool)}(h:SemTs G sc names n es ds):SemT G sc names n (.BoolOp .And es pos) (gh ds):=by
 intro c st w K Q i hd k;generalize eval (.BoolOp .And es pos) c.env=whole;induction h generalizing w st with
 |nil=>exact isTrue_and_nil (k _ _ w (wK hd) i.nx)
 |cons g _ j=>
  refine isTrue_and (g c st w _ _ i (wB hd) λb KD w1a d a=>?_);cases b with
  |true=>exact j KD w1a a.sim d λb KI e q f=>k b KI e q (a.trans f)
  |false=>exact k _ _ w1a (wK d) a
theorem Ia{es:List Expr}{ds:List (Den Bool)}(h:SemTs G sc names n es ds):SemT G sc names n (.BoolOp .Or es pos) (q7 ds):=by
 intro c st w K Q i hd k;generalize eval (.BoolOp .Or es pos) c.env=whole;induction h generalizing w st with
 |nil=>exact isTrue_or_nil (k _ _ w (wK hd) i.nx)
 |cons g _ j=>
  refine isTrue_or (g c st w _ _ i (wB hd) λb KD w1a d a=>?_);cases b with
  |false=>exact j KD w1a a.sim d λb KI e q f=>k b KI e q (a.trans f)
  |true=>exact k _ _ w1a (wK d) a
theorem H5{e:Expr}{d:Den Bool}(h:SemT G sc names n e d):SemT G sc names n (.UnaryOp .Not e pos) (FL d):=
 λc st w _ _ g hd k=>isTrue_not (h c st w _ _ g (wB hd) λb KD w1a a f=>k _ _ w1a (wK a) f)
noncomputable def iM(mh:List MO):MV->Option Bool
 |.none=>some false
 |.bool b=>some b
 |.int i=>some (i !=0)
 |.str l=>if l.length<=16777216 then some (!l.isEmpty)else none
 |_=>none
theorem iL{st:LS}{b:Bool}{Q:Bool->Shared->Prop}
  (e:W c names st w)(f:VR w.φ v v')(d:iM st.mh v=some b)(k:∀w',Nx c names w st w'->Q b w'.s):wpAny G.M c.A (truthy v') Q NoE w.s:=by
 cases v with
 |none=>cases f;cases d;exact truthy_none (k w e.nx)
 |bool c=>cases f;cases d;exact xt (k w e.nx)
 |int i=>obtain⟨t,rfl⟩:=f;cases d;exact PyProof.Rows.truthy_int (k w e.nx)
 |str l=>
  obtain⟨t,rfl⟩:=f;obtain⟨hl,rfl⟩:=ifs d;have hb:(((⟨l.toArray⟩:Str).length:Int)!=0)=!l.isEmpty:=by
   show((l.toArray.size:Int)!=0)=_;rw[JL];cases l with
   |nil=>rfl
   |cons a l=>simp;lia
  have h:(⟨l.toArray⟩:Str).length<=16777216:=by
   show l.toArray.size<=16777216;rw[JL];exact hl
  exact dU (ep _) (PySem.W.KXt.truthy hb h λj g=>k ⟨_,w.φ⟩ (e.nx.tk g))
 |ref _=>cases d
 |sref _=>cases d
noncomputable def gm(v:MV):Den Bool:=λst=>(iM st.mh v).map (·,st)
def Gb(e:Expr):Prop:=∀env whole,isTrue e env whole=(do let v<-whole;standAt e.pos;holding [v] (truthy v))
def ifD{α:Type}(d:Den Bool)(a b:Den α):Den α:=aG d λc=>match c with|true=>a|false=>b
theorem Ib{e:Expr}{b o:List Stmt}{d:Den Bool}{KM KJ:Den MF}(h:SemT G sc names n e d)(m:fD G sc names n b KM)(l:fD G sc names n o KJ):fO G sc names n (.If e b o pos) (ifD d KM KJ):=by
 intro c st w K Q s hd k;refine wpAny_If (h c st w _ _ s (wB hd) λb KD w1a j a=>?_);cases b with
 |true=>exact m c KD w1a _ _ a.sim j λf KI g p q i r=>k f KI g p q (a.trans i) r
 |false=>exact l c KD w1a _ _ a.sim j λf KI g p q i r=>k f KI g p q (a.trans i) r
theorem Ig{e b o:Expr}{d:Den Bool}(h:SemT G sc names n e d)(m:SemE G sc names n b KM)(l:SemE G sc names n o KJ):SemE G sc names n (.IfExp e b o pos) (ifD d KM KJ):=by
 intro c st w K Q s hd k;refine IfExp_ (h c st w _ _ s (wB hd) λb KD w1a j a=>?_);cases b with
 |true=>exact m c KD w1a _ _ a.sim j λf KI g p q i r=>k f KI g p q (a.trans i) r
 |false=>exact l c KD w1a _ _ a.sim j λf KI g p q i r=>k f KI g p q (a.trans i) r
def dq(t:Den Bool)(b e:Den MF):Nat->Den MF
 |0=>λ_=>none
 |k+1=>aG t λc=>match c with
  |false=>e
  |true=>aG b λf=>match f with
   |.next|.cont=>dq t b e k
   |.brk=>bM .next
   |.ret v=>bM (.ret v)
theorem A4{e:Expr}{b o:List Stmt}{d:Den Bool}{KM KJ:Den MF}(h:SemT G sc names n e d)(A:fD G sc names n b KM)(z:fD G sc names n o KJ):fO G sc names n (.While e b o pos) (dq d KM KJ N):=by
 intro c st w K Q D hd k;refine wpAny_While (codeAny_whileLoop (prog:=G.prog) (w:=G.w) (λj y=>∃w1a KD,w1a.s=y/\Nx c names w KD w1a/\Wp (dq d KM KJ j) KD K) ?_ N ⟨w,st,rfl,D.nx,hd⟩);rintro j _⟨w1a,KD,rfl,t,hd⟩;cases j with
 |zero=>obtain⟨_,_,e,_⟩:=hd;cases e
 |succ j=>
  refine IH (h c KD w1a _ _ t.sim (wB hd) λb KI x u m=>?_);cases b with
  |false=>
   refine(cw hX).mpr ?_;exact IH (z c KI x _ _ m.sim u λf KW a C q p r=>k f KW a C q ((t.trans m).trans p) r)
  |true=>
   simp only[I0];refine IH (A c KI x _ _ m.sim (wB u) λg KW a C i p l=>?_);have B:=(t.trans m).trans p;cases g with
   |next=>cases l;exact⟨j,Ir j,a,KW,rfl,B,i⟩
   |cont=>cases l;exact⟨j,Ir j,a,KW,rfl,B,i⟩
   |brk=>cases l;exact k _ _ a _ (wK i) B rfl
   |ret v=>obtain⟨v',rfl,r⟩:=l;exact k _ _ a _ (wK i) B ⟨_,rfl,r⟩
variable{E:Value->Shared->Prop}{ds:Den (List MV)}{K9:List (Bool×Sem Value)}{vs:List MV}{mo:MO}{o':Obj}{n':Nat}
section
variable{G:Glo}{names:List Str}{φ:List Addr}{xs:List (Addr×Obj)}{st:LS}{h0a h h':Heap}{L:Addr}
theorem b7.push(sim:b7 G names φ xs st h0a L h)(o:Obj):b7 G names φ xs st h0a L (h.push o):=by
 obtain⟨m,objs,F,N,b,a,le,c⟩:=sim;exact⟨m,objs,F.push o,N.pushKeep o,b,a,le,c⟩
theorem jy{l:List α}{m:List β}(h:l.length=m.length)(a:α)(b:β):(l++[a]).zip (m++[b])=l.zip m++[(a,b)]:=by
 rw[Ju h];rfl
theorem b7.alloc(sim:b7 G names φ xs st h0a L h){o:Obj}(hf:o.isFreed=false)(k:OR φ mo o):b7 G names (φ++[h.objs.size]) xs {st with mh:=st.mh++[mo]} h0a L (h.push o):=by
 obtain⟨m,objs,F,N,i,g,le,j⟩:=sim;have hp:φ<+:φ++[h.objs.size]:=eh ..;have l:=N.push F o hf;have c:h.objs.size∉(xs++φ.zip objs).map (·.1):=λhm=>by
  obtain⟨p,hp,e⟩:=nb.mp hm;exact absurd (ry (N p hp).1) (by rw[e];exact o4 _)
 refine⟨m,objs++[o],F.push o,?_,?_,(g.mono λ_ _=>OR.mono hp).app (.cons (k.mono hp) .nil),by simp[le],j.mono hp⟩
 ·rw[jy le,<-kv]
  intro p d;refine l p ?_;rcases j2.mp d with q|q
  ·exact .tail _ q
  ·rw[h9.mp q];exact .head _
 ·rw[jy le,<-kv,qi]
  refine yt.mpr ⟨i,by simp,λa ha b hb e=>?_⟩;have f:b=h.objs.size:=by simpa using hb
  exact c (f▸e▸ha)
theorem b7.obj(sim:b7 G names φ xs st h0a L h)(d:st.mh[i]?=some mo):∃a o,φ[i]?=some a/\h.get? a=some o/\OR φ mo o/\h0a.get? a=none:=by
 obtain⟨m,objs,F,N,f,c,le,g⟩:=sim;obtain⟨o,e,r⟩:=c.get d;have hl:i<φ.length:=le▸(fd.mp e).1;have b:φ[i]?=some φ[i]:=fg hl;have hm:(φ[i],o)∈xs++φ.zip objs:=s5 _ (l6 (i:=i) (by rw[JJ];exact⟨b,e⟩));exact⟨_,o,b,(N _ hm).1,r,(N _ hm).2.2⟩
theorem io:∀{l:List α}{m:List β}{i:Nat}{a:α}{b:β},l[i]?=some a->(l.zip (m.set i b))=(l.zip m).set i (a,b)
 |[],_,_,_,_,h=>by simp at h
 |_::_,[],_,_,_,_=>by simp
 |x::l,y::m,0,_,_,h=>by simp at h;subst h;rfl
 |x::l,y::m,i+1,_,_,h=>by
  simp only[List.getElem?_cons_succ]at h;simp only[Jf,List.zip_cons_cons];rw[io h]
theorem b7.change(sim:b7 G names φ xs st h0a L h){a:Addr}{mo':MO}(x:i<st.mh.length)(ha:φ[i]?=some a)(hs:Heap.SameBut a h h')(w:h'.get? a=some o')(v:OR φ mo' o'):
  b7 G names φ xs {st with mh:=st.mh.set i mo'} h0a L h':=by
 obtain⟨m,objs,F,N,s,r,le,u⟩:=sim;have hl:i<objs.length:=r.len▸x;have g:(φ.zip objs)[i]?=some (a,objs[i]):=by rw[JJ];exact⟨ha,fg hl⟩
 have hm:(a,objs[i])∈xs++φ.zip objs:=s5 _ (l6 g);have b:((φ.zip (objs.set i o')).map (·.1))=(φ.zip objs).map (·.1):=by
  rw[io ha,List.map_set];show(List.map (·.1) (φ.zip objs)).set i a=_;have :((φ.zip objs).map (·.1))[i]?=some a:=by simp[g]
  obtain⟨n,e2⟩:=fd.mp this;rw[<-e2];exact I9 n
 refine⟨m,objs.set i o',F.change hs (N _ hm).2.1 (N _ hm).2.2,?_,?_,r.set v,by simp[le],u⟩
 ·intro p hp
  by_cases e:p.1=a
  ·have key:p=(a,o'):=by
    have f:((xs++φ.zip (objs.set i o')).map (·.1)).Nodup:=by rw[qi,b,<-qi];exact s
    have l:(a,o')∈xs++φ.zip (objs.set i o'):=s5 _ (l6 (i:=i) (by rw[io ha];exact x7 (fd.mp g).1));obtain⟨j,t⟩:=xd.mp hp;obtain⟨k,hk⟩:=xd.mp l;have d:((xs++φ.zip (objs.set i o')).map (·.1))[j]?=some a:=by rw[I4,t];simp[e]
    have o:((xs++φ.zip (objs.set i o')).map (·.1))[k]?=some a:=by rw[I4,hk];simp
    have :=(List.getElem?_inj (fd.mp d).1 f).mp (d.trans o.symm);subst this;exact ec (t.symm.trans hk)
   subst key;exact⟨w,(N _ hm).2⟩
  ·have c:p∈xs++φ.zip objs:=by
    rcases j2.mp hp with q|q
    ·exact JZ _ q
    ·rw[io ha]at q
     rcases List.mem_or_eq_of_mem_set q with q|q
     ·exact s5 _ q
     ·exact absurd (by rw[q]) e
   exact⟨(hs.2 _ e).trans (N p c).1,(N p c).2⟩
 ·rw[qi,b,<-qi];exact s
end
section
variable{G:Glo}{sc:Scope}{names:List Str}{n:Nat}
def dF(d:Den MV)(ds:Den (List MV)):Den (List MV):=aG d λv=>aG ds λvs st=>some (v::vs,st)
structure SemL(G:Glo)(sc:Scope)(names:List Str)(n:Nat)(es:List Expr)(d:Den (List MV)):Prop where
 plain:∀pos env,(backTo pos (starEach es env)).any (·.1)=false
 run:∀pos,SemX G sc names n (λφ vs vs'=>All2 (VR φ) vs vs') (λenv=>spliced (backTo pos (starEach es env))) d
theorem FW:SemL G sc names n [] (λst=>some ([],st)):=
 ⟨λ_ _=>rfl,λ_ _ _ w _ _ a hd k=>spliced_nil (k _ _ w _ (wK hd) a.nx .nil)⟩
def uR(e:Expr):Prop:=∀es env,starEach (e::es) env=(false,eval e env)::starEach es env
theorem DX{e:Expr}{es:List Expr}(hs:uR e)(h:SemE G sc names n e d)(hl:SemL G sc names n es ds):SemL G sc names n (e::es) (dF d ds):=by
 refine⟨λpos env=>by rw[hs];exact hl.plain pos env,λpos c st w K Q o hd k=>?_⟩;show wpAny _ _ (spliced (backTo pos (starEach (e::es) c.env))) _ _ _;rw[hs];exact spliced_cons (h c st w _ _ o (wB hd) λa KD w1a a' i f m=>hl.run pos c KD w1a _ _ f.sim (wB i) λq KI j p g b l=>k _ _ j _ (wK g) (f.trans b) (.cons (m.mono b.pre) l))
noncomputable def tG(f:List MV->MO)(vs:List MV):Den MV:=λst=>if vs.length<=16777216 then some (.ref st.mh.length,{st with mh:=st.mh++[f vs]}) else none
theorem En{f:List MV->MO}{st:LS}{K:MV->LS->Prop}(h:Wp (tG f vs) st K):vs.length<=sizeLine/\K (.ref st.mh.length) {st with mh:=st.mh++[f vs]}:=by
 obtain⟨a,s,e,q⟩:=h;obtain⟨h1,h2⟩:=ifs e;cases h2;exact⟨h1,q⟩
theorem j4{φ:List Addr}{xs:List (Addr×Obj)}{st:LS}{h0a h:Heap}{L:Addr}(sim:b7 G names φ xs st h0a L h):φ.length=st.mh.length:=by
 obtain⟨m,objs,F,N,b,a,le,c⟩:=sim;rw[le,a.len]
theorem Nx.new{c:Cx G sc n}(a:Nx c names w KD w1a){o:Obj}(hf:o.isFreed=false)(b:OR w1a.φ mo o):
  Nx c names w {KD with mh:=KD.mh++[mo]} ⟨{w1a.s with heap:=w1a.s.heap.push o},w1a.φ++[w1a.s.heap.objs.size]⟩:=⟨a.pre.trans (eh ..),a.same.trans .heap,a.sim.1.alloc hf b,a.sim.2⟩
theorem mG{c:Cx G sc n}{st:LS}{x:Addr}(a:W c names st w):VR (w.φ++[x]) (.ref st.mh.length) (.ref x):=⟨x,by rw[<-j4 a.1];simp,rfl⟩
theorem G0{es:List Expr}(hl:SemL G sc names n es ds):SemE G sc names n (.Tuple es kk pos) (aG ds (tG .tuple)):=by
 intro c st w K Q e hd k;refine Tuple_ (hl.run pos c st w _ _ e (wB hd) λvs KD w1a vs' d b a=>?_);obtain⟨hsz,hk⟩:=En d;exact J1 (k _ _ ⟨_,_⟩ _ hk (b.new rfl ⟨_,_,rfl,a⟩) (mG b.sim)) (by show vs'.toArray.size<=sizeLine;rw[JL,<-a.len];exact hsz)
theorem Ho{es:List Expr}(hl:SemL G sc names n es ds):SemE G sc names n (.List es pos) (aG ds (tG .list)):=by
 intro c st w K Q e hd k;refine List_ (hl.run pos c st w _ _ e (wB hd) λvs KD w1a vs' d b a=>?_);obtain⟨hsz,hk⟩:=En d;exact J1 (k _ _ ⟨_,_⟩ _ hk (b.new rfl ⟨_,_,rfl,a⟩) (mG b.sim)) (by show vs'.toArray.size<=sizeLine;rw[JL,<-a.len];exact hsz)
theorem bZ{M:Model}{f:Value}{Q:Args->Shared->Prop}(hp:K9.any (·.1)=false)(h:wpAny M A (spliced K9) (λvs b=>Q ⟨vs,[]⟩ b) E s):
  wpAny M A (evalArgs f true K9 []) Q E s:=by
 match K9,hp,h with
 |[],_,h=>
  unfold evalArgs;show wpAny M A (spliced []>>=_) Q E s;refine lu (x5 h (λvs a hq=>lu (p5 ?_)) λ_ _ x=>x);refine wpAny_holding ?_;exact lu (p5 (lu (p5 (p5 hq))))
 |(false,x)::r,_,h=>exact evalArgs_plain h
 |(true,x)::r,hp,_=>simp at hp
abbrev Spec:=List MV->List MO->Option (MV×List MO)
def Con(G:Glo)(n:Nat)(f:Addr)(J9:Spec):Prop:=
 ∀(sc:Scope)(names:List Str)(c:Cx G sc n)(st:LS)(w:St)(vs:List MV)(r:MV)(KA:List MO)(a:List Value)(R:Result->Shared->Prop),W c names st w->All2 (VR w.φ) vs a->J9 vs st.mh=some (r,KA)->(∀w' v,Nx c names w {st with mh:=KA} w'->VR w'.φ r v->R (.ok (.ret v)) w'.s)->codeAny G.M c.A (.call (.ref f) ⟨a,[]⟩) R w.s
noncomputable def cp(J9:Spec)(vs:List MV):Den MV:=λst=>match J9 vs st.mh with|some (r,KA)=>some (r,{st with mh:=KA})|none=>none
variable{J9:Spec}
theorem uW{st:LS}{K:MV->LS->Prop}(h:Wp (cp J9 vs) st K):∃r KA,J9 vs st.mh=some (r,KA)/\K r {st with mh:=KA}:=by
 obtain⟨a,s,e,q⟩:=h;unfold cp at e;split at e
 ·cases e;exact⟨_,_,by assumption,q⟩
 ·cases e
noncomputable abbrev Cx.le{n':Nat}(c:Cx G sc n)(h:n'<=n):Cx G sc n':={c with ok:={c.ok with frame:=λh0=>c.ok.frame (v6 h0 h),below:=λh0=>c.ok.below (v6 h0 h),depth:=by have :=c.ok.depth;lia,units:=by have :=c.ok.units;lia}}
theorem Nx.up{c:Cx G sc n}{h:n'<=n}{w':St}(x:Nx (c.le h) names w KG w'):Nx c names w KG w':=⟨x.pre,x.same,x.sim⟩
structure GName(G:Glo)(sc:Scope)(x:Str)(v:Value):Prop where
 kind:sc.names.lookup x=some .globalImplicit
 val:nsIn G.K mainGlobals x=some (some v)
 dbg:(x==("__debug__":Str))=false
theorem W.keep{c:Cx G sc n}{st:LS}(a:W c names st w):∀b o,c.h0a.get? b=some o->w.s.heap.get? b=some o:=by
 obtain⟨m,objs,F,N,e,d,le,f⟩:=a.1;exact F.keep
theorem W.inK{c:Cx G sc n}{st:LS}(a:W c names st w):G.K.In w.s.heap:=c.ok.inK.keeps a.keep
theorem fU{x:Str}{v:Value}(g:GName G sc x v){c:Cx G sc n}{st:LS}{Q:Value->Shared->Prop}(a:W c names st w)(k:Q v w.s):wpAny G.M c.A (eval (.Name x pos) c.env) Q NoE w.s:=by
 obtain⟨m,objs,F,N,d,b,le,e⟩:=a.1;exact J5 c.fn (fJ c.ok.scope g.kind) (loadGlobal_global (c.ok.glob.symm▸c.ok.top.g.keeps F.keep) (mg_of c.ok.inK c.ok.top.g g.val) k) g.dbg
theorem Bw{x:Str}{f:Addr}{args:List Expr}{p:Pos}(g:GName G sc x (.ref f))(hk:keepIn G.K (.ref f)=true)(hc:Con G n' f J9)(q:n'<=n)(hl:SemL G sc names n args ds):
  SemE G sc names n (.Call (.Name x p) args [] pos) (aG ds (cp J9)):=by
 intro c st w K Q o hd k;refine Call_ (fU g o (callWith_of (by rw[hl.plain];rfl) (keeps_K hk) (bZ (hl.plain _ _) ?_)));refine hl.run pos c st w _ (λa d=>G.K.In d.heap/\wpAny G.M c.A (call (.ref f) ([]++a) []) Q NoE d) o (wB hd) λvs KD w1a a h b l=>⟨b.sim.inK,?_⟩;obtain⟨r,KA,e,hk⟩:=uW h;exact wpAny_call (hc sc names (c.le q) KD w1a vs r KA a _ b.sim l e λi v m j=>k r _ i v hk (b.trans m.up) j)
end
variable{J9:Spec}
variable{scope:Scope}{params:Arguments}{KT:List Env}{body:List Stmt}{qual:Str}{dV:Value}
structure FunAt(G:Glo)(f:Addr)(params:Arguments)(body:List Stmt)(scope:Scope)(dV:Value):Prop where
 ex:∃oc od osl name qual kV doc pm an cdv ct,G.K.lookup f=some ⟨oc,od,.func (fnOf name qual params body scope dV kV doc pm an cdv ct),osl⟩/\codeIn G.K cdv qual=true
structure ScopeOk(scope:Scope)(ps names:List Str):Prop where
 lo:LocalsOk scope names
 pre:∃r,names=ps++r
 cell:(scope.names.all λx=>decide (x.2≠.cell))=true
 co:scope.isCoroutine=false
 gen:scope.isGenerator=false
 kind:scope.kind=.function
theorem mem_of_lookup[BEq α][LawfulBEq α]{x:α}:∀{l:List (α×β)}{v:β},l.lookup x=some v->(x,v)∈l
 |(a,b)::l,v,h=>by
  rw[v5]at h;cases e:x==a with
  |true=>rw[e]at h;obtain rfl:=ec h;obtain rfl:=eq_of_beq e;exact .head _
  |false=>rw[e]at h;exact .tail _ (mem_of_lookup h)
theorem mx[BEq α]{x:α}:∀{l c:List (α×β)}{v:β},l.lookup x=some v->(l++c).lookup x=some v
 |(a,b)::l,c,v,h=>by
  rw[rC,v5];rw[v5]at h;cases e:x==a with
  |true=>rw[e]at h;exact h
  |false=>rw[e]at h;exact mx h
theorem iG [BEq α]{x:α}:∀{l c:List (α×β)},l.lookup x=none->(l++c).lookup x=c.lookup x
 |[],_,_=>rfl
 |(a,b)::l,c,h=>by
  rw[rC,v5];rw[v5]at h;cases e:x==a with
  |true=>rw[e]at h;cases h
  |false=>rw[e]at h;exact iG h
theorem lY{x:Str}:∀{l:List (Str×β)},x∉l.map (·.1)->l.lookup x=none
 |[],_=>rfl
 |(a,b)::l,h=>by
  rw[v5];have h1:(x==a)=false:=by
   apply mm.mpr;intro e;exact h (by rw[eq_of_beq e];exact .head _)
  rw[h1];exact lY λq=>h (.tail _ q)
theorem uF:∀{ps:List Str}{vs:List MV}{c:List Value},ps.Nodup->All2 (VR φ) vs c->ps.length=vs.length->lN φ (λy=>((ps.zip c).reverse).lookup y) ps (vs.map some):=by
 intro ps;induction ps with
 |nil=>intro vs c _ _ h;cases vs with|nil=>exact .nil|cons _ _=>cases h
 |cons p ps i=>
  intro vs c g h hl;cases h with
  |nil=>cases hl
  |@cons v v' vs c a b=>
   have f:=hM.mp g;have KC:=i f.2 b (JG hl);have d:((ps.zip c).reverse).map (·.1)=ps.reverse:=by
    rw[List.map_reverse,List.map_fst_zip];have :=b.len;simp at hl;lia
   refine .cons ⟨v',?_,a⟩ ?_
   ·show((p,v')::ps.zip c).reverse.lookup p=some v'
    rw[I3,iG (lY (by rw[d];simpa using f.1))];simp[List.lookup]
   ·refine All2.mono (λx o q=>?_) KC
    cases o with
    |none=>trivial
    |some w=>obtain⟨w',e,r⟩:=q;exact⟨w',by show((p,v')::ps.zip c).reverse.lookup x=some w';rw[I3];exact mx e,r⟩
theorem kw{m:Str->Option Value}:∀(l:List Str),lN φ m l (l.map λ_=>none)
 |[]=>.nil
 |_::l=>.cons trivial (kw l)
noncomputable def jm(names:List Str)(vs:List MV)(mh:List MO):LS:={ρ:=vs.map some++(names.drop vs.length).map λ_=>none,mh}
noncomputable def uo:MF×LS->Option (MV×List MO)
 |(.ret v,st)=>some (v,st.mh)
 |(.next,st)=>some (.none,st.mh)
 |_=>none
theorem qU{L a f:Addr}{g base:Heap}{cdv:Value}(ok:Fok G (n+1) sc env L h0a A)(kind:scope.kind=.function)(cell:∀x∈scope.names,x.2≠.cell)(d:Below A base (env::KT) g)(c:A.frames=some (env::KT))(KG:h0a.StaysIn g):
  Fok G n scope (envX qual scope a f cdv []) a g (A.deeper (envX qual scope a f cdv [])):=
 {scope:=rfl,kind:=kind,loc:=rfl,glob:=rfl,blt:=rfl,frame:=λ_=>rfl,cells:=λx i _ hx=>absurd rfl (cell _ (mem_of_lookup hx)),below:=λ_=>⟨A,base,env::KT,d,Around.frames_deeper c⟩,inK:=ok.inK.keeps KG,top:=ok.top.keeps KG,bm:=(let⟨b,o,x⟩:=ok.bm;⟨b,o,x.keeps KG⟩),hnd:=ok.hnd,pre:=G.pmono KG ok.pre,depth:=by have :=ok.depth;show A.depth+1+n<900;lia,units:=by have :=ok.units;show A.units+3+8*n+100<cLine;lia}
theorem lc{f:Addr}{ps:List Str}{d:Den MF}{full:List MV->List MV}
  (hf:FunAt G f params body scope dV)(hs:ScopeOk scope ps names)
  (H:∀vs r mh KA φ e h,J9 vs mh=some (r,KA)->All2 (VR φ) vs e->G.K.In h->∃a,All2 (VR φ) (full vs) a/\ps.length=a.length/\
   ∀(s:Shared) oc od osl name qual kV doc pm an cdv ct,s.heap=h->G.K.lookup f=some ⟨oc,od,.func (fnOf name qual params body scope dV kV doc pm an cdv ct),osl⟩->BindsTo s (fnOf name qual params body scope dV kV doc pm an cdv ct) ⟨e,[]⟩ (ps.zip a))
  (hb:fD G scope names n body d)
  (hd:∀vs mh r KA,J9 vs mh=some (r,KA)->Wp d (jm names (full vs) mh) λfl s=>uo (fl,s)=some (r,KA)):Con G (n+1) f J9:=by
 intro ap KF c st w vs r KA e R sm hv Q k;obtain⟨oc,od,osl,name,qual,kV,doc,pm,an,cdv,ct,hK,E⟩:=hf.ex;obtain⟨m,objs,F,N,nd,oh,le,lr⟩:=sm.1;have ok:=c.ok;obtain⟨A0a,base,KT,B,hA⟩:=ok.below (x6 _);have X:=sm.inK;obtain⟨a,p,T,ak⟩:=H vs r st.mh KA w.φ e w.s.heap Q hv X;have cell:∀x∈scope.names,x.2≠.cell:=λx hx=>go (gb.mp hs.cell x hx);obtain⟨t,ht⟩:=hs.pre;refine callX_plain (cl:=[]) (binds:=ps.zip a) B F N ok.top.nolimit hA (ok.frame (x6 _)) c.fn (X _ _ hK) rfl (codeRec_of X E) (by have :=ok.depth;show c.A.depth<1000;lia)
  (ak w.s oc od osl name qual kV doc pm an cdv ct rfl hK) (λy hy=>?_) (λg I O Fg F' N' B' KG lt=>?_) cell hs.co hs.gen hs.kind
 ·have aj:y.1∈ps:=(List.of_mem_zip (show(y.1,y.2)∈ps.zip a from hy)).1
  have :=gb.mp hs.lo.1 y.1 (by rw[ht];exact JZ _ aj);simp only[fi,s3]at this;exact this.1
 ·have ah:ps.Nodup:=by have :=hs.lo.2;rw[ht]at this;exact(yt.mp this).1
  have o:(full vs).length=ps.length:=p.len.trans T.symm;have ag:Fok G n scope (envX qual scope I f cdv []) I g (c.A.deeper (envX qual scope I f cdv [])):=qU ok hs.kind cell B' hA KG;have J:b7 G names w.φ c.xs (jm names (full vs) st.mh) g I O:=by
   refine⟨_,objs,F',N',nd,oh,le,?_⟩;have D:names.drop (full vs).length=t:=by rw[ht,o];exact t5
   show xG G w.φ _ names ((full vs).map some++(names.drop (full vs).length).map λ_=>none);rw[D,ht];exact⟨All2.app (uF ah p o.symm) (kw t),lr.2⟩
  refine IH (hb ⟨_,_,I,g,c.xs,ag⟩ _ ⟨_,w.φ⟩ _ _ ⟨J,ml sm.2 (tj _ _)⟩ (hd vs st.mh r KA Q) λfl ae j f' i b q=>?_);obtain⟨M,l,aa,V,z,u,C,ai⟩:=b.sim.1;have fin:∀v',VR j.φ r v'->ae.mh=KA->LeaveK c.h0a c.L m g R v' j.s:=λv' p hm=>
   ⟨I,M,_,aa,V,λY U=>k ⟨_,j.φ⟩ v' ⟨b.pre,b.same,⟨m,l,Y,U,z,hm▸u,C,lr.mono b.pre⟩,b.sim.2⟩ p⟩
  cases fl with
  |ret v=>
   obtain⟨v',rfl,hr⟩:=q;cases i;exact fin v' hr rfl
  |next=>
   cases q;cases i;exact fin .none rfl rfl
  |brk=>cases i
  |cont=>cases i
variable{mh:List MO}{value:Expr}{items:List MV}{a':Value}{j:Nat}
theorem qE{c:Prop}[Decidable c]{a:Option α}{r:α}(h:(if c then a else none)=some r):c/\a=some r:=by
 by_cases hc:c
 ·exact⟨hc,(dt hc).symm.trans h⟩
 ·cases(cw hc).symm.trans h
noncomputable def ssz(i:Int):Bool:=decide (-(2^63)<=i)&&decide (i<2^63)
noncomputable def is2{α:Type}(g:Int->Int->Option α)(h:List Nat->List Nat->Option α):MV->MV->Option α
 |.int a,.int b=>g a b
 |.str a,.str b=>h a b
 |_,_=>none
@[elab_as_elim]theorem dE{α:Type}{g:Int->Int->Option α}{h:List Nat->List Nat->Option α}{a b:MV}{r:α}{φ:List Addr}{a' b':Value}{P:Value->Value->Prop}(hf:is2 g h a b=some r)(f:VR φ a a')(e:VR φ b b')
  (d:∀i j t u,g i j=some r->P (.int i t) (.int j u))(c:∀x y t u,h x y=some r->P (.str ⟨x.toArray⟩ t) (.str ⟨y.toArray⟩ u)):P a' b':=by
 cases a with
 |int i=>cases b with
  |int j=>obtain⟨t,rfl⟩:=f;obtain⟨u,rfl⟩:=e;exact d i j t u hf
  |_=>exact nos hf
 |str x=>cases b with
  |str y=>obtain⟨t,rfl⟩:=f;obtain⟨u,rfl⟩:=e;exact c x y t u hf
  |_=>exact nos hf
 |_=>exact nos hf
noncomputable def no2{α:Type}(_ _:List Nat):Option α:=none
noncomputable def o0(_:List MO):MV->MV->Option Bool
 |.str _,.none=>some false
 |.none,.str _=>some false
 |.none,.none=>some true
 |a,b=>is2 (λa b=>some (a==b)) (λa b=>some (a==b)) a b
noncomputable def GC(_:List MO):MV->MV->Option Bool:=is2 (λa b=>some (a !=b)) (λa b=>some (a !=b))
noncomputable def lj(_:List MO):MV->MV->Option Bool:=is2 (λa b=>some (decide (a<b))) no2
noncomputable def GJ(_:List MO):MV->MV->Option Bool:=is2 (λa b=>some (decide (b<a))) no2
noncomputable def GG(_:List MO):MV->MV->Option Bool:=is2 (λa b=>some (decide (a<=b))) (λa b=>some (!decide (b<a)))
noncomputable def GK(_:List MO):MV->MV->Option Bool:=is2 (λa b=>some (decide (b<=a))) no2
noncomputable def sH(_:List MO):MV->MV->Option Bool
 |.str [c],.str l=>some (l.contains c)
 |_,_=>none
noncomputable def tK:MV->Option Bool
 |.none=>some true
 |.bool _|.int _|.str _|.ref _|.sref _=>some false
noncomputable def GH(_:List MO):MV->MV->Option Bool
 |a,.none=>tK a
 |_,_=>none
noncomputable def zq(_:List MO):MV->MV->Option Bool
 |a,.none=>(tK a).map (!·)
 |_,_=>none
noncomputable def yS(f:List MO->MV->MV->Option Bool)(mh:List MO)(a b:MV):Option Bool:=(f mh a b).map (!·)
theorem dK(l:List Nat):(⟨l.toArray⟩:Str).cps.toList=l:=by simp
theorem Io:gE G .Eq o0:=by
 intro n sc names c st w a b r a' b' Q f hf h g k;have d:is2 (λa b=>some (a==b)) (λa b=>some (a==b)) a b=some r->wpAny G.M c.A (compareOp .Eq a' b') Q NoE w.s:=λhf=>dE hf h g
  (λi j t u e=>by cases e;exact PyProof.Rows.eq_int (k w f.nx))
  (λx y t u e=>by cases e;exact PySem.P.eq_str (by simpa only[dK]using k w f.nx))
 cases a with
 |none=>cases b with
  |none=>cases h;cases g;cases hf;exact PySem.EqNone.eq_none_none (k w f.nx)
  |str y=>cases h;obtain⟨u,rfl⟩:=g;cases hf;exact PySem.EqNone.eq_none_str (k w f.nx)
  |_=>exact nos hf
 |str x=>cases b with
  |none=>obtain⟨t,rfl⟩:=h;cases g;cases hf;exact PySem.EqNone.eq_str_none (k w f.nx)
  |_=>exact d hf
 |_=>exact d hf
theorem Ih:gE G .NotEq GC:=by
 intro n sc names c st w a b r a' b' Q d hf g f k;refine dE hf g f (λi j t u e=>?_) (λx y t u e=>?_)
 ·cases e;exact PyProof.Rows.ne_int (k w d.nx)
 ·cases e;exact PySem.P.ne_str (by simpa only[dK] using k w d.nx)
theorem Ii:gE G .Lt lj:=by
 intro n sc names c st w a b r a' b' Q d hf g f k;refine dE hf g f (λi j t u e=>?_) λx y t u e=>nos e;cases e;exact PyProof.Rows.lt_int (k w d.nx)
theorem Il:gE G .Gt GJ:=by
 intro n sc names c st w a b r a' b' Q d hf g f k;refine dE hf g f (λi j t u e=>?_) λx y t u e=>nos e;cases e;exact PyProof.Rows.gt_int (k w d.nx)
theorem Ij:gE G .LtE GG:=by
 intro n sc names c st w a b r a' b' Q d hf g f k;refine dE hf g f (λi j t u e=>?_) (λx y t u e=>?_)
 ·cases e;exact PyProof.Rows.le_int (k w d.nx)
 ·cases e;exact PySem.P.le_str (by simpa only[dK]using k w d.nx)
theorem Im:gE G .GtE GK:=by
 intro n sc names c st w a b r a' b' Q d hf g f k;refine dE hf g f (λi j t u e=>?_) λx y t u e=>nos e;cases e;exact PyProof.Rows.ge_int (k w d.nx)
theorem vT(l:List Nat)(c:Nat):(!(Builtin.Str.occurrences ⟨l.toArray⟩ ⟨[c].toArray⟩ 0 (⟨l.toArray⟩:Str).length 1).isEmpty)=l.contains c:=by
 have :=PySem.StrLaws.found_one ⟨l.toArray⟩ c;rw[dK]at this;refine this.trans ?_;rw[List.contains_eq_mem]
theorem oz{a b:MV}{r:Bool}(h:sH mh a b=some r):∃c l,a=.str [c]/\b=.str l/\r=l.contains c:=by
 cases a with
 |str x=>cases x with
  |nil=>exact nos h
  |cons c x=>cases x with
   |nil=>cases b with
    |str l=>exact⟨c,l,rfl,rfl,(ec h).symm⟩
    |_=>exact nos h
   |cons _ _=>exact nos h
 |_=>exact nos h
theorem Hy:gE G .In sH:=by
 intro n sc names c st w a b r a' b' Q d hf f e k;obtain⟨x,l,rfl,rfl,rfl⟩:=oz hf;obtain⟨t,rfl⟩:=f;obtain⟨u,rfl⟩:=e;exact PySem.P.in_str (by rw[vT];exact k w d.nx)
theorem B6:gE G .NotIn (yS sH):=by
 intro n sc names c st w a b r a' b' Q d hf f e k;obtain⟨q,hq,rfl⟩:=h8.mp hf;obtain⟨x,l,rfl,rfl,rfl⟩:=oz hq;obtain⟨t,rfl⟩:=f;obtain⟨u,rfl⟩:=e;exact PySem.P.notIn_str (by rw[vT];exact k w d.nx)
theorem kH{a:MV}{r:Bool}(c:VR φ a a')(h:tK a=some r):plainIs a' .none=true/\(a'==.none)=r:=by
 cases a with
 |none=>obtain rfl:a'=.none:=c;obtain rfl:=ec h;exact⟨rfl,rfl⟩
 |bool b=>obtain rfl:a'=.bool b:=c;obtain rfl:=ec h;exact⟨rfl,rfl⟩
 |int i=>obtain⟨t,rfl⟩:=c;obtain rfl:=ec h;exact⟨rfl,rfl⟩
 |str l=>obtain⟨t,rfl⟩:=c;obtain rfl:=ec h;exact⟨rfl,rfl⟩
 |ref i=>obtain⟨x,_,rfl⟩:=c;obtain rfl:=ec h;exact⟨rfl,rfl⟩
 |sref i=>obtain rfl:a'=.ref i:=c;obtain rfl:=ec h;exact⟨rfl,rfl⟩
theorem Ik:gE G .Is GH:=by
 intro n sc names c st w a b r a' b' Q d hf f e k;cases b with
 |none=>
  cases e;obtain⟨h1,h2⟩:=kH f hf;exact wpAny_is_plain h1 (h2.symm▸k w d.nx)
 |_=>exact nos hf
theorem G6:gE G .IsNot zq:=by
 intro n sc names c st w a b r a' b' Q d hf f e k;cases b with
 |none=>
  cases e;obtain⟨q,hq,rfl⟩:=h8.mp hf;obtain⟨h1,h2⟩:=kH f hq;exact wpAny_isNot_plain h1 (h2.symm▸k w d.nx)
 |_=>exact nos hf
noncomputable def fC:MV->MV->Option MV:=is2 (λa b=>some (.int (a+b))) λa b=>if a.length+b.length<=16777216 then some (.str (a++b)) else none
noncomputable def xn:MV->MV->Option MV:=is2 (λa b=>some (.int (a-b))) no2
noncomputable def FQ:MV->MV->Option MV:=is2 (λa b=>if b≠0 then some (.int (a.fmod b)) else none) no2
theorem ir(a b:List Nat):(⟨a.toArray⟩:Str)++⟨b.toArray⟩=⟨(a++b).toArray⟩:=by
 show(⟨a.toArray++b.toArray⟩:Str)=_;simp
theorem bK(a:List Nat):(⟨a.toArray⟩:Str).length=a.length:=by show a.toArray.size=_;simp
theorem ID:OpR G .Add fC:=by
 intro A s φ a b r a' b' Q g hf d c k;refine dE hf d c (λi j t u e=>?_) (λx y t u e=>?_)
 ·cases e;exact PyProof.Rows.add_int (k _ _ ⟨_,rfl⟩)
 ·obtain⟨hl,e⟩:=ifs e
  cases e;exact PyProof.Rows.add_str (λf tk=>by rw[ir];exact k _ _ ⟨_,rfl⟩) (by rw[bK,bK];exact hl)
theorem Fa:GZ G .Add fC:=by
 intro A s φ a b r a' b' Q g hf d c k;refine dE hf d c (λi j t u e=>?_) (λx y t u e=>?_)
 ·cases e;exact PyProof.Rows.iadd_int (k _ _ ⟨_,rfl⟩)
 ·obtain⟨hl,e⟩:=ifs e
  cases e;exact PyProof.Rows.iadd_str (λf tk=>by rw[ir];exact k _ _ ⟨_,rfl⟩) (by rw[bK,bK];exact hl)
theorem IB:OpR G .Sub xn:=by
 intro A s φ a b r a' b' Q f hf d c k;refine dE hf d c (λi j t u e=>?_) λx y t u e=>nos e;cases e;exact PyProof.Rows.sub_int (k _ _ ⟨_,rfl⟩)
theorem IC:OpR G .Mod FQ:=by
 intro A s φ a b r a' b' Q f hf d c k;refine dE hf d c (λi j t u e=>?_) λx y t u e=>nos e;obtain⟨h0,e⟩:=ifs e;cases e;exact PyProof.Rows.mod_int h0 (k _ _ ⟨_,rfl⟩)
noncomputable def d3(mh:List MO):MV->MV->Option MV
 |.str l,.int i=>if ssz i then(seqIndex? i l.length).bind λk=>(l[k]?).map λc=>.str [c]else none
 |.ref r,.int i=>match mh[r]? with
  |some (.list xs)|some (.tuple xs)=>if ssz i then(seqIndex? i xs.length).bind λk=>xs[k]? else none
  |_=>none
 |_,_=>none
def kh(e:Expr):Prop:=∀o i,subscripted e false o i=operate [o,i] (getItem o i)
theorem pU{i:Int}(h:ssz i=true):-(2^63)<=i/\i<2^63:=by
 unfold ssz at h;simpa using h
def AW(T:String)(x:MO)(items:List MV):Prop:=(T="list"/\x=.list items)\/(T="tuple"/\x=.tuple items)
theorem W.seq{st:LS}{r:Nat}{x:MO}{T:String}(b:W c names st w)(e:st.mh[r]?=some x)(hx:AW T x items)(d:VR w.φ (.ref r) a'):
  ∃ad vs a,a'=.ref ad/\w.φ[r]?=some ad/\w.s.heap.get? ad=some {cls:=.type T,data:=.seq vs a}/\All2 (VR w.φ) items vs.toList:=by
 obtain⟨ad,e1,rfl⟩:=d;obtain⟨g,o,e2,f,q,_⟩:=b.1.obj e;cases e1.symm.trans e2;rcases hx with⟨rfl,rfl⟩|⟨rfl,rfl⟩<;>obtain⟨vs,a,rfl,hl⟩:=q<;>exact⟨ad,vs,a,rfl,e1,f,hl⟩
theorem ot{ad:Addr}{vs:Array Value}{i:Int}{u:Tok}{y:Value}{slice:Expr}{Q:Value->Shared->Prop}(hL:s.heap.IsList ad vs)(hs:kh slice)(c:-(2^63)<=i)(b:i<2^63)
  (a:seqIndex? i vs.toList.length=some j)(hw:vs.toList[j]?=some y)(fin:Q y s):wpAny G.M A (subscriptTail value slice (.ref ad) (.int i u)) Q NoE s:=by
 refine tail_any hL.typeIs slot_list_getitem.lookup ?_ (hs _ _);by_cases h0:0<=i
 ·refine wpAny_getItem_list hL h0 b (x:=y) ?_ fin
  have :j=i.toNat:=by
   unfold seqIndex? at a;simp only[cw (J6.mpr h0)]at a;exact(ifs a).2.symm
  rw[<-this];simpa using hw
 ·exact kde_getNeg (vs:=vs.toList) (by simpa using hL) (by lia) c a hw fin
theorem wk{st:LS}{a i:MV}{o:Value}{slice:Expr}{Q:Value->Shared->Prop}
  (g:W c names st w)(hs:kh slice)(m:VR w.φ a a')(q:VR w.φ i o)(b:d3 st.mh a i=some v)(k:∀w' v',Nx c names w st w'->VR w'.φ v v'->Q v' w'.s):
  wpAny G.M c.A (subscriptTail value slice a' o) Q NoE w.s:=by
 cases i with
 |int i=>
  obtain⟨u,rfl⟩:=q;cases a with
  |str l=>
   obtain⟨h,b⟩:=qE b;obtain⟨f,e⟩:=pU h;obtain⟨j,d,b⟩:=Iz.mp b;obtain⟨x,hc,rfl⟩:=h8.mp b;obtain⟨t,rfl⟩:=m;refine tail_any (I6 _ _ _) F.slot_str_getitem.lookup (PyProof.Rows.getItem_str (c:=x) ?_ ?_ (k ⟨_,w.φ⟩ _ g.nx.tk1 ⟨_,rfl⟩)) (hs _ _)
   ·simp;lia
   ·rw[bK,d];simp[hc]
  |ref r=>
   have seq:∀{x T items},st.mh[r]?=some x->AW T x items->(if ssz i then(seqIndex? i items.length).bind λk=>items[k]? else none)=some v->
     wpAny G.M c.A (subscriptTail value slice a' (.int i u)) Q NoE w.s:=λ{x T items}hm hx b=>by
    obtain⟨h,b⟩:=qE b;obtain⟨f,e⟩:=pU h;obtain⟨j,d,b⟩:=Iz.mp b;obtain⟨ad,vs,n,rfl,_,p,hl⟩:=g.seq hm hx m;obtain⟨y,hw,z⟩:=hl.get b;have fin:=k w y g.nx z;rw[hl.len]at d;rcases hx with⟨rfl,_⟩|⟨rfl,_⟩
    ·exact ot (vs:=vs) ⟨_,p,rfl,n,rfl⟩ hs f e d hw fin
    ·exact item_tupleT (t:=ad) (j:=j) (x:=y) ⟨_,p,rfl,n,rfl⟩ f e d hw fin (hs _ _)
   cases hm:st.mh[r]? with
   |none=>rw[show d3 st.mh (.ref r) (.int i)=none by simp only[d3,hm]]at b;exact nos b
   |some x=>
    simp only[d3,hm]at b;cases x with
    |list items=>exact seq hm (.inl ⟨rfl,rfl⟩) b
    |tuple items=>exact seq hm (.inr ⟨rfl,rfl⟩) b
    |_=>exact nos b
  |_=>exact nos b
 |_=>cases a<;>exact nos b
noncomputable def lZ(a i:MV):Den MV:=λst=>(d3 st.mh a i).map (·,st)
theorem Hq{o i:Expr}(hs:kh i)(t:SemE G sc names n o KM)(s:SemE G sc names n i KJ):SemE G sc names n (.Subscript o i pos) (aG KM λa=>aG KJ λb=>lZ a b):=by
 intro c st w K Q x hd k;refine Js (t c st w _ _ x (wB hd) λa KD w1a a' j f q=>s c KD w1a _ _ f.sim (wB j) λb KI u b' h d p=>?_);obtain⟨v,e,hk⟩:=wO (g:=λst=>d3 st.mh a b) h;exact wk d.sim hs (q.mono d.pre) p e λl v' r m=>k v _ l v' hk ((f.trans d).trans r) m
noncomputable def lI(i:Int)(n:Nat):Nat:=(max 0 (min (if i<0 then i+n else i) n)).toNat
noncomputable def loI(i:Option Int)(n:Nat):Nat:=match i with|none=>0|some i=>lI i n
noncomputable def hiI(j:Option Int)(n:Nat):Nat:=match j with|none=>n|some j=>lI j n
noncomputable def cZ{α:Type}(l:List α)(i j:Option Int):List α:=(l.drop (loI i l.length)).take (hiI j l.length-loI i l.length)
theorem sI(i:Int)(n:Nat):max 0 (min (if i<0 then i+(n:Int) else i) n)=(lI i n:Int)/\lI i n<=n:=
 ⟨(Int.toNat_of_nonneg (Jx ..)).symm,Int.toNat_le.mpr (Int.max_le.mpr ⟨ky _,Int.min_le_right ..⟩)⟩
theorem DU(i:Option Int)(n:Nat):(match i with|none=>(0:Int)|some i=>max 0 (min (if i<0 then i+(n:Int) else i) n))=(loI i n:Int)/\loI i n<=n:=by
 cases i with
 |none=>exact⟨rfl,oL _⟩
 |some i=>exact sI i n
theorem Da(i:Option Int)(n:Nat):(match i with|none=>(n:Int)|some i=>max 0 (min (if i<0 then i+(n:Int) else i) n))=(hiI i n:Int)/\hiI i n<=n:=by
 cases i with
 |none=>exact⟨rfl,ep _⟩
 |some i=>exact sI i n
theorem range_items(l:List α)(a c:Nat)(h:a+c<=l.length):((List.range c).map (λk=>a+k)).filterMap (l[·]?)=(l.drop a).take c:=by
 induction c with
 |zero=>simp
 |succ c b=>
  rw[List.range_succ,qi,List.filterMap_append,b (by lia)];have hl:a+c<l.length:=by lia
  simp only[rx,List.map_nil,List.filterMap_cons,fg hl,List.filterMap_nil];rw[List.take_add_one];congr 1;rw[gf,fg hl];rfl
theorem pe(a b:Int)(ha:0<=a):(List.range (if a<b then(b-a+1-1)/1 else 0).toNat).map (λk:Nat=>(a+1*(k:Int)).toNat)=(List.range (b.toNat-a.toNat)).map λk=>a.toNat+k:=by
 obtain⟨a,rfl⟩:=ov ha;have hc:(if(a:Int)<b then(b-a+1-1)/1 else 0).toNat=b.toNat-a:=by
  rw[Int.ediv_one,Int.add_sub_cancel];by_cases h:(a:Int)<b
  ·rw[dt h];exact Int.toNat_sub' b a
  ·rw[cw h]
   exact(I7 (Int.toNat_le.mpr (J6.mp h))).symm
 rw[hc];refine It λk _=>?_;rw[Int.one_mul,<-Int.natCast_add];rfl
theorem nC(i j:Option Int)(n:Nat):Builtin.Str.strSliceIndices i j 1 n=(List.range (hiI j n-loI i n)).map λk=>loI i n+k:=by
 cases i<;>cases j
 ·exact pe 0 n (by lia)
 ·exact pe 0 _ (by lia)
 ·exact pe _ n (Jx ..)
 ·exact pe _ _ (Jx ..)
theorem xq(l:List Nat)(i j:Option Int):Txt.slice ⟨l.toArray⟩ i j=⟨(cZ l i j).toArray⟩:=by
 obtain⟨_,c⟩:=DU i l.length;obtain⟨_,b⟩:=Da j l.length;have key:((Builtin.Str.strSliceIndices i j 1 l.length).filterMap (l[·]?))=cZ l i j:=by
  rw[nC];by_cases a:loI i l.length+(hiI j l.length-loI i l.length)<=l.length
  ·exact range_items l _ _ a
  ·unfold cZ
   have :hiI j l.length-loI i l.length=0:=by lia
   rw[this];simp
 unfold Txt.slice;rw[bK l];split
 ·rename_i h
  simp only[BEq.rfl,Iv,ly]at h;rw[nC,sf,List.length_range]at h;have :cZ l i j=l:=by
   unfold cZ;by_cases hl:l.length=0
   ·rw[on.mp hl];simp
   ·have h0:loI i l.length=0:=by lia
    rw[h,h0,pu,x4]
  rw[this]
 ·show(⟨((Builtin.Str.strSliceIndices i j 1 l.length).filterMap (l.toArray[·]?)).toArray⟩:Str)=_
  have :(λx:Nat=>l.toArray[x]?)=λx=>l[x]?:=by funext x;simp
  rw[this,key]
variable{du:Den MV}{u:MV}
def sU(G:Glo)(sc:Scope)(names:List Str)(n:Nat)(e:Option Expr)(d:Den MV):Prop:=SemX G sc names n VR (evalPart e) d
theorem Hc:sU G sc names n none (aj .none):=λ_ _ w _ _ a hd k=>JQ (k _ _ w _ (wK hd) a.nx rfl)
theorem Hb{e:Expr}(h:SemE G sc names n e d):sU G sc names n (some e) d:=λc st w K Q a hd k=>evalPart_some_step (h c st w K Q a hd k)
noncomputable def uE:MV->Option (Option Int)
 |.none=>some none
 |.int i=>some (some i)
 |_=>none
def gW(a l u:MV):Option MV:=match a,uE l,uE u with
 |.str s,some i,some j=>if s.length<=16777216 then some (.str (cZ s i j)) else none
 |_,_,_=>none
def cutD(a l u:MV):Den MV:=λst=>(gW a l u).map (·,st)
theorem o3{l:MV}{a:Value}{i:Option Int}(h:uE l=some i)(r:VR φ l a):(i=none/\a=.none)\/∃j t,i=some j/\a=.int j t:=by
 cases l with
 |none=>exact .inl ⟨(ec h).symm,r⟩
 |int j=>obtain⟨t,rfl⟩:=r;exact .inr ⟨j,t,(ec h).symm,rfl⟩
 |_=>cases h
theorem Cf{st:LS}{a l:MV}{B z:Value}{lo up:Option Expr}{p:Pos}{Q:Value->Shared->Prop}
  (h:W c names st w)(D:VR w.φ a a')(rl:VR w.φ l B)(C:VR w.φ u z)(d:gW a l u=some v)(k:∀w' v',Nx c names w st w'->VR w'.φ v v'->Q v' w'.s):
  wpAny G.M c.A (subscriptTail value (.Slice lo up none p) a' (.ref w.s.heap.objs.size)) Q NoE {w.s with heap:=w.s.heap.push {cls:=.type "slice",data:=.fields #[B,z,.none]}}:=by
 obtain⟨m,objs,F,N,H,E,le,I⟩:=h.1;cases a with
 |str x=>
  obtain⟨t,rfl⟩:=D;cases f:uE l with
  |none=>simp only[gW,f]at d;exact nos d
  |some i=>cases y:uE u with
   |none=>simp only[gW,f,y]at d;exact nos d
   |some j=>
    simp only[gW,f,y]at d;obtain⟨hsz,d⟩:=ifs d;cases d;have fin:∀h' g o,Fr c.h0a c.L h' m->News c.h0a c.L h' (c.xs++w.φ.zip objs)->w.s.toks<=o->Q (.str (Txt.slice ⟨x.toArray⟩ i j) g) {w.s with heap:=h',toks:=o}:=λh' g o O J q=>
     k ⟨_,w.φ⟩ _ (h.nx.hp ⟨m,objs,O,J,H,E,le,I⟩ (ml h.2 q)) ⟨g,by rw[xq]⟩
    have b:(⟨x.toArray⟩:Str).length<=sizeLine:=by rw[bK];exact hsz
    have e:∀r,letTemporaryGo value (.str ⟨x.toArray⟩ t) r=pure ():=λr=>by cases value<;>rfl
    refine dU (n:=w.s.toks) (ep _) ?_;rcases o3 f rl with⟨rfl,rfl⟩|⟨i,U,rfl,rfl⟩<;>rcases o3 y C with⟨rfl,rfl⟩|⟨j,T,rfl,rfl⟩
    ·exact slice_strN_nn F N fin rfl e b
    ·exact slice_strN_ns F N fin rfl e b
    ·exact slice_strN_sn F N fin rfl e b
    ·exact slice_strN_ss F N fin rfl e b
 |_=>exact nos d
theorem G1{o:Expr}{lo up:Option Expr}{p:Pos}{dl:Den MV}(h:SemE G sc names n o d)(hl:sU G sc names n lo dl)(E:sU G sc names n up du):
  SemE G sc names n (.Subscript o (.Slice lo up none p) pos) (aG d λa=>aG dl λl=>aG du λu=>cutD a l u):=by
 intro c st w K Q D hd k;refine Js (h c st w _ _ D (wB hd) λa KD w1a a' r j A=>wpAny_Slice (hl c KD w1a _ _ j.sim (wB r) λl KI t I q i z=>E c KI t _ _ i.sim (wB q) λu KW C H m f y=>JQ ?_));obtain⟨v,e,hk⟩:=wO (g:=λ_=>gW a l u) m;have b:=i.trans f;exact Cf f.sim (A.mono b.pre) (z.mono f.pre) y e λs v' B x=>k v _ s v' hk ((j.trans b).trans B) x
structure BName(G:Glo)(sc:Scope)(x:Str)(v:Value):Prop where
  kind:sc.names.lookup x=some .globalImplicit
  miss:nsIn G.K mainGlobals x=some none
  boot:bootBuiltins x=some v
  nm:x≠"__name__"
  dbg:(x==("__debug__":Str))=false
theorem nP{x:Str}{v:Value}(g:BName G sc x v){st:LS}{Q:Value->Shared->Prop}(a:W c names st w)(k:Q v w.s):wpAny G.M c.A (eval (.Name x pos) c.env) Q NoE w.s:=by
 have ok:=c.ok;exact J5 c.fn (fJ ok.scope g.kind) (loadGlobal_builtin (ok.glob.symm▸ok.top.g.keeps a.keep) (mg_none_of ok.inK ok.top.g g.miss) (ok.blt.symm▸ok.top.b.keeps a.keep) ((ok.top.builtins x g.nm).trans g.boot) k) g.dbg
def np(G:Glo)(f:Value)(J9:List MO->List MV->Option MV):Prop:=
 ∀(n:Nat)(sc:Scope)(names:List Str)(c:Cx G sc n)(st:LS)(w:St)(vs:List MV)(r:MV)(a:List Value)(Q:Value->Shared->Prop),W c names st w->All2 (VR w.φ) vs a->J9 st.mh vs=some r->(∀w' b,Nx c names w st w'->VR w'.φ r b->Q b w'.s)->wpAny G.M c.A (call f a) Q NoE w.s
noncomputable def ka(J9:List MO->List MV->Option MV)(vs:List MV):Den MV:=λst=>(J9 st.mh vs).map (·,st)
theorem kW{x:Str}{id:String}{J9:List MO->List MV->Option MV}{args:List Expr}{p:Pos}(g:BName G sc x (.builtin id))(hb:np G (.builtin id) J9)(hl:SemL G sc names n args ds):
  SemE G sc names n (.Call (.Name x p) args [] pos) (aG ds (ka J9)):=by
 intro c st w K Q m hd k;refine Call_ (nP g m (Ji (hl.plain _ _) (bZ (hl.plain _ _) ?_)));refine hl.run pos c st w _ (λa h=>wpAny G.M c.A (call (.builtin id) ([]++a) []) Q NoE h) m (wB hd) λvs KD w1a a d b j=>?_;obtain⟨v,e,hk⟩:=wO (g:=λst=>J9 st.mh vs) d;exact hb n sc names c KD w1a vs v a _ b.sim j e λf v' l i=>k v _ f v' hk (b.trans l) i
theorem vd{x:Str}{T:String}{J9:List MO->List MV->Option MV}{args:List Expr}{p:Pos}(g:BName G sc x (.type T))(hb:np G (.type T) J9)(hl:SemL G sc names n args ds):
  SemE G sc names n (.Call (.Name x p) args [] pos) (aG ds (ka J9)):=by
 intro c st w K Q m hd k;refine Call_ (nP g m (J3 (hl.plain _ _) (bZ (hl.plain _ _) ?_)));refine hl.run pos c st w _ (λa h=>wpAny G.M c.A (call (.type T) ([]++a) []) Q NoE h) m (wB hd) λvs KD w1a a d b j=>?_;obtain⟨v,e,hk⟩:=wO (g:=λst=>J9 st.mh vs) d;exact hb n sc names c KD w1a vs v a _ b.sim j e λf v' l i=>k v _ f v' hk (b.trans l) i
noncomputable def sL{α:Type}(f:MV->Option α):List MV->Option α
 |[x]=>f x
 |_=>none
@[elab_as_elim]theorem eN{α:Type}{f:MV->Option α}{vs:List MV}{b:List Value}{r:α}{φ:List Addr}{P:List Value->Prop}(h:sL f vs=some r)(d:All2 (VR φ) vs b)(k:∀x c,f x=some r->VR φ x c->P [c]):P b:=by
 cases d with
 |nil=>exact nos h
 |cons a t=>cases t with
  |nil=>exact k _ _ h a
  |cons _ _=>exact nos h
noncomputable def onStr{α:Type}(f:List Nat->Option α):MV->Option α
 |.str l=>f l
 |_=>none
noncomputable def j8{α:Type}(f:Int->Option α):MV->Option α
 |.int i=>f i
 |_=>none
@[elab_as_elim]theorem bj{α:Type}{f:List Nat->Option α}{v:MV}{v':Value}{r:α}{φ:List Addr}{P:Value->Prop}(h:onStr f v=some r)(a:VR φ v v')(k:∀l t,f l=some r->P (.str ⟨l.toArray⟩ t)):P v':=by
 cases v with
 |str l=>obtain⟨t,rfl⟩:=a;exact k l t h
 |_=>exact nos h
@[elab_as_elim]theorem dO{α:Type}{f:Int->Option α}{v:MV}{v':Value}{r:α}{φ:List Addr}{P:Value->Prop}(h:j8 f v=some r)(a:VR φ v v')(k:∀l t,f l=some r->P (.int l t)):P v':=by
 cases v with
 |int l=>obtain⟨t,rfl⟩:=a;exact k l t h
 |_=>exact nos h
noncomputable def FV(_:List MO):List MV->Option MV:=sL (onStr λl=>if l.length<=16777216 then some (.int l.length) else none)
noncomputable def He:List Nat->Option MV
 |[c]=>some (.int c)
 |_=>none
noncomputable def FG(_:List MO):List MV->Option MV:=sL (onStr He)
noncomputable def B5(_:List MO):List MV->Option MV:=sL (j8 λi=>if 0<=i/\i<=1114111 then some (.str [i.toNat]) else none)
theorem Cm:np G (.builtin "len") FV:=by
 intro n sc names c st w vs r a Q b d hs k;refine eN hs d λx f e hx=>bj e hx λl t e=>?_;obtain⟨hl,e⟩:=ifs e;cases e;refine PyProof.Rows.len_str (by rw[bK];lia) ?_;rw[bK];exact k ⟨_,w.φ⟩ _ b.nx.tk2 ⟨_,rfl⟩
theorem GP:np G (.builtin "ord") FG:=by
 intro n sc names c st w vs r a Q b d hs k;refine eN hs d λx f e hx=>bj e hx λl t e=>?_;cases l with
 |nil=>exact nos e
 |cons x l=>cases l with
  |nil=>cases e;exact PySem.P.ord_of_char (k ⟨_,w.φ⟩ _ b.nx.tk1 ⟨_,rfl⟩)
  |cons _ _=>exact nos e
theorem GR:np G (.builtin "chr") B5:=by
 intro n sc names c st w vs r a Q d f hs k;refine eN hs f λx g e hx=>dO e hx λl t e=>?_;obtain⟨b,e⟩:=ifs e;cases e;exact chr_of_range b.1 b.2 (k ⟨_,w.φ⟩ _ d.nx.tk1 ⟨_,rfl⟩)
noncomputable def zF(K:Frag)(f:Addr):Option (Arguments×List Stmt×Scope×Value):=match K.lookup f with
 |some ⟨_,_,.func ⟨name,qual,params,.stmts body,scope,globals,a,dV,kV,doc,pm,an,cdv,ct,b⟩,_⟩=>
  bif Nat.beq globals mainGlobals&&(a.isEmpty&&(Nat.beq b builtinsNs&&codeIn K cdv qual)) then some (params,body,scope,dV) else none
 |_=>none
theorem nK{K:Frag}{f:Addr}(hK:G.K=K)(e:zF K f=some (params,body,scope,dV)):FunAt G f params body scope dV:=by
 subst hK;unfold zF at e;cases hk:G.K.lookup f with
 |none=>rw[hk]at e;exact nos e
 |some o=>
  rw[hk]at e;obtain⟨oc,od,m,osl⟩:=o;cases m;case func l=>
   obtain⟨name,qual,a,bd,d,globals,c,n,kV,doc,pm,an,cdv,ct,p⟩:=l;cases bd;case stmts g=>
    obtain⟨hc,b⟩:=Ch e;rw[fi,fi,fi]at hc;obtain⟨h1,h0,h2,h⟩:=hc;have j:=I8 h1;have i:=I8 h2;have k:=List.isEmpty_iff.mp h0;clear e;subst j i k;injection b with e1 b;injection b with e2 b;injection b with e3 e4;subst e1 e2 e3 e4;exact⟨_,_,_,_,_,_,_,_,_,_,_,hk,h⟩
   all_goals exact nos e
  all_goals exact nos e
@[irreducible] def NN:Nat:=1000000
theorem de:NN=1000000:=by unfold NN;rfl
def dp(params:Arguments)(body:List Stmt)(scope:Scope)(dV:Value)(ps:List Str):Prop:=
 ∀(name qual:Str)(kV doc pm:Value)(an:Option Addr)(cdv ct:Value)(a:List Value),a.length=ps.length->bindArgs (fnOf name qual params body scope dV kV doc pm an cdv ct) ⟨a,[]⟩=pure (ps.zip a)
theorem plainly1{a:Str}(h:∀name qual kV doc pm an cdv ct v,bindArgs (fnOf name qual params body scope dV kV doc pm an cdv ct) ⟨[v],[]⟩=pure [(a,v)]):dp params body scope dV [a]:=by
 intro name qual kV doc pm an cdv ct b hl;have hl:b.length=1:=hl;obtain⟨v,rfl⟩:=rP hl;exact h ..
theorem plainly2{a b:Str}(h:∀name qual kV doc pm an cdv ct v w,bindArgs (fnOf name qual params body scope dV kV doc pm an cdv ct) ⟨[v,w],[]⟩=pure [(a,v),(b,w)]):dp params body scope dV [a,b]:=by
 intro name qual kV doc pm an cdv ct c hl;have hl:c.length=2:=hl;obtain⟨v,r,rfl,h1⟩:=f9 hl;obtain⟨w,rfl⟩:=rP h1;exact h ..
theorem plainly0(h:∀name qual kV doc pm an cdv ct,bindArgs (fnOf name qual params body scope dV kV doc pm an cdv ct) ⟨[],[]⟩=pure []):dp params body scope dV []:=by
 intro name qual kV doc pm an cdv ct a hl;cases a with
 |nil=>exact h ..
 |cons v r=>cases hl
theorem wy{f:Addr}{ps:List Str}{d:Den MF}
  (hf:FunAt G f params body scope dV)(hs:ScopeOk scope ps names)(hp:dp params body scope dV ps)(hb:LocalsOk scope names->fD G scope names n body d)
  (hd:∀vs mh r KA,J9 vs mh=some (r,KA)->vs.length=ps.length/\Wp d (jm names vs mh) λc s=>uo (c,s)=some (r,KA)):Con G (n+1) f J9:=
 lc (full:=id) hf hs (λvs r mh KA φ a h e b _=>⟨a,b,by rw[<-b.len];exact(hd vs mh r KA e).1.symm,λs oc od osl name qual kV doc pm an cdv ct _ _=>BindsTo.of_eq (hp name qual kV doc pm an cdv ct a (by rw[<-b.len];exact(hd vs mh r KA e).1))⟩)
  (hb hs.lo) λvs mh r KA e=>(hd vs mh r KA e).2
variable{KA:List MO}{K6:List (Option MV)}{bd:Den MF}{a:Nat}
def Ev{α:Type}(d:Den α)(st:LS)(a:α)(KG:LS):Prop:=d st=some (a,KG)
theorem Ev.out{α:Type}{d:Den α}{st:LS}{a:α}(h:Ev d st a KG):d st=some (a,KG):=h
section
variable{α β:Type}{st KD KI KW:LS}{b c:Bool}{u v r:MV}
theorem mM{d:Den α}{f:α->Den β}{x:α}{y:β}(b:Ev d st x KD)(a:Ev (f x) KD y KI):Ev (aG d f) st y KI:=by
 unfold Ev aG;rw[b.out];exact a
def At(l:List (Option MV))(i:Nat)(v:MV):Prop:=l[i]?=some (some v)
theorem At.head{v:MV}{l:List (Option MV)}:At (some v::l) 0 v:=rfl
theorem At.tail{o:Option MV}{l:List (Option MV)}{i:Nat}{v:MV}(h:At l i v):At (o::l) (i+1) v:=h
theorem At.get{l:List (Option MV)}{i:Nat}{v:MV}(h:At l i v):l[i]?=some (some v):=h
def Put(l:List (Option MV))(i:Nat)(v:MV)(a:List (Option MV)):Prop:=l.set i (some v)=a
theorem Put.head{o:Option MV}{v:MV}{l:List (Option MV)}:Put (o::l) 0 v (some v::l):=rfl
theorem Put.tail{o:Option MV}{l:List (Option MV)}{i:Nat}{v:MV}{a:List (Option MV)}(h:Put l i v a):Put (o::l) (i+1) v (o::a):=ed (o::·) h
theorem Put.set{l a:List (Option MV)}{i:Nat}{v:MV}(h:Put l i v a):l.set i (some v)=a:=h
theorem Do(h:At ρ i v):Ev (bF i) ⟨ρ,mh⟩ v ⟨ρ,mh⟩:=by
 unfold Ev bF;simp only[h.get]
theorem zP(h:Put ρ i v K6):Ev (cY i v) ⟨ρ,mh⟩ .next ⟨K6,mh⟩:=by
 unfold Ev cY;simp only[h.set]
theorem Dk{KM KJ:Den MF}{f g:MF}(b:Ev KM st f KD)(a:Ev (goD f KJ) KD g KI):Ev (fq KM KJ) st g KI:=by
 unfold Ev fq;rw[b.out];cases f<;>exact a
noncomputable def jP(b:Bool)(x y:Den α):Den α:=match b with|true=>x|false=>y
theorem Ft{t:Den Bool}{x y:Den α}{a:α}(d:Ev t st b KD)(c:Ev (jP b x y) KD a KI):Ev (ifD t x y) st a KI:=by
 unfold Ev ifD aG;rw[d.out];cases b<;>exact c
theorem Bq{f:MV->MV->Option MV}(h:f u v=some r):Ev (ef f u v) st r st:=by unfold Ev ef;rw[h];rfl
theorem Br(h:d3 st.mh u v=some r):Ev (lZ u v) st r st:=by
 unfold Ev lZ;rw[h];rfl
theorem Dp{w:MV}(h:gW u v w=some r):Ev (cutD u v w) st r st:=by unfold Ev cutD;rw[h];rfl
theorem zO(h:iM st.mh v=some b):Ev (gm v) st b st:=by
 unfold Ev gm;rw[h];rfl
theorem Dr{f:List MO->List MV->Option MV}(h:f st.mh vs=some r):Ev (ka f vs) st r st:=by unfold Ev ka;rw[h];rfl
theorem Bs{f:Spec}(h:f vs mh=some (r,KA)):Ev (cp f vs) ⟨ρ,mh⟩ r ⟨ρ,KA⟩:=by
 unfold Ev cp;simp only[h]
theorem vZ(b:Ev d st v KD)(a:Ev ds KD vs KI):Ev (dF d ds) st (v::vs) KI:=mM b (mM a rfl)
theorem Dm{f:List MV->MO}(h:vs.length<=16777216):Ev (tG f vs) ⟨ρ,mh⟩ (.ref mh.length) ⟨ρ,mh++[f vs]⟩:=by
 unfold Ev tG;simp only[h,I0]
def sO(b:Bool)(ds:List (Den Bool)):Den Bool:=match b with|true=>gh ds|false=>λst=>some (false,st)
def orK(b:Bool)(ds:List (Den Bool)):Den Bool:=match b with|false=>q7 ds|true=>λst=>some (true,st)
theorem Bt{d:Den Bool}{ds:List (Den Bool)}(e:Ev d st b KD)(a:Ev (sO b ds) KD c KI):Ev (gh (d::ds)) st c KI:=by
 refine mM e ?_;cases b<;>exact a
theorem Dl{d:Den Bool}{ds:List (Den Bool)}(e:Ev d st b KD)(a:Ev (orK b ds) KD c KI):Ev (q7 (d::ds)) st c KI:=by
 refine mM e ?_;cases b<;>exact a
theorem r5:Ev (sO b []) st b st:=by cases b<;>rfl
theorem tV:Ev (orK b []) st b st:=by cases b<;>rfl
theorem jH(a n:Nat):lI (a:Int) n=min a n:=by
 unfold lI;rw[cw (J6.mpr (ky a)),Int.max_eq_right (Int.le_min.mpr ⟨ky _,ky _⟩)];rcases Nat.le_total a n with h|h
 ·rw[pB h,Int.min_eq_left (JH.mpr h),Int.toNat_natCast]
 ·rw[l5 h,Int.min_eq_right (JH.mpr h),Int.toNat_natCast]
theorem oN{α:Type}(l:List α)(a b:Nat):cZ l (some (a:Int)) (some (b:Int))=(l.drop a).take (b-a):=by
 unfold cZ loI hiI;simp only[jH];by_cases h:a<=l.length
 ·rw[pB h]
  by_cases h2:b<=l.length
  ·rw[pB h2]
  ·rw[l5 (by lia)]
   rw[I2 (by simp),I2 (by simp;lia)]
 ·rw[f6 (by lia),f6 (by lia)];simp
theorem pd(a n:Nat):seqIndex? (a:Int) n=if a<n then some a else none:=by
 unfold seqIndex?;simp only[ky,J6.mpr (ky a),if_false];by_cases h:a<n<;>simp[h]
theorem yx{c:Nat}{r:List Nat}(h:l.drop a=c::r)(ha:l.length<=16777216):d3 mh (.str l) (.int (a:Int))=some (.str [c]):=by
 have hl:a<l.length:=by
  have :=ed List.length h;simp at this;lia
 have b:ssz (a:Int)=true:=by unfold ssz;simp;lia
 have hg:l[a]?=some c:=by
  have :=ed (·[0]?) h;simpa using this
 show(if ssz (a:Int) then(seqIndex? (a:Int) l.length).bind λk=>(l[k]?).map λc=>MV.str [c]else none)=_;rw[b,pd,dt hl];simp only[I0,v4,hg,yL]
theorem za{a b:Int}(ha:l.length<=16777216):gW (.str l) (.int a) (.int b)=some (.str (cZ l (some a) (some b))):=by
 simp[gW,uE,ha]
theorem By{b:Int}(hb:b=(a:Int)+1)(ha:l.length<=16777216):gW (.str l) (.int (a:Int)) (.int b)=some (.str ((l.drop a).take 1)):=by
 subst hb;rw[za ha];have :=oN l a (a+1);simp only[oa,Int.natCast_add,Int.cast_ofNat_Int]at this;rw[this]
end
variable{fs:List (Option MV)}{name:Str}
section
theorem sX{d:Addr}{o:Obj}:∀{pre post:List (Addr×Obj)},(∀p∈pre,p.1≠d)->(∀p∈post,p.1≠d)->Upd d o o' (pre++(d,o)::post) (pre++(d,o')::post)
 |[],_,_,h=>.head h
 |p::pre,_,h,h'=>.tail (h p (.head _)) (sX (λq hq=>h q (.tail _ hq)) h')
theorem rJ{pre post:List (α×β)}{a:α}{b:β}(c:((pre++(a,b)::post).map (·.1)).Nodup):(∀p∈pre,p.1≠a)/\∀p∈post,p.1≠a:=by
 rw[qi,rx]at c;have h:=yt.mp c;constructor
 ·intro p hp e
  exact h.2.2 p.1 (List.mem_map_of_mem hp) a (.head _) e
 ·intro p hp e
  exact(hM.mp h.2.1).1 (nb.mpr ⟨p,hp,e⟩)
theorem b7.split{xs:List (Addr×Obj)}{st:LS}{L a:Addr}(sim:b7 G names φ xs st h0a L h)(q:st.mh[i]?=some mo)(ha:φ[i]?=some a):
  ∃m o pre post,Fr h0a L h m/\News h0a L h (pre++(a,o)::post)/\(∀p∈pre,p.1≠a)/\(∀p∈post,p.1≠a)/\OR φ mo o/\
   ∀h' o' mo',Fr h0a L h' m->News h0a L h' (pre++(a,o')::post)->OR φ mo' o'->b7 G names φ xs {st with mh:=st.mh.set i mo'} h0a L h':=by
 obtain⟨m,objs,F,N,b,c,le,l⟩:=sim;obtain⟨o,e,n⟩:=c.get q;have hl:i<objs.length:=(fd.mp e).1;have d:(φ.zip objs)[i]?=some (a,o):=by rw[JJ];exact⟨ha,e⟩
 have hzl:i<(φ.zip objs).length:=(fd.mp d).1;have cut:∀o',(φ.zip objs).set i (a,o')=(φ.zip objs).take i++(a,o')::(φ.zip objs).drop (i+1):=λo'=>List.set_eq_take_append_cons_drop.trans (by rw[dt hzl]);have self:φ.zip objs=(φ.zip objs).take i++(a,o)::(φ.zip objs).drop (i+1):=by
  rw[<-cut o];obtain⟨h1,h2⟩:=fd.mp d;rw[<-h2,I9]
 have e1:xs++φ.zip objs=(xs++(φ.zip objs).take i)++(a,o)::(φ.zip objs).drop (i+1):=by rw[kv,<-self]
 have g:=b;rw[e1]at N b;obtain⟨k,j⟩:=rJ b;refine⟨m,o,_,_,F,N,k,j,n,λh' o' mo' s r f=>⟨m,objs.set i o',s,?_,?_,c.set f,by simp[le],l⟩⟩
 ·rw[io ha,cut o',<-kv];exact r
 ·rw[io ha,cut o',<-kv]
  rw[qi,rx]at b⊢;exact b
theorem vR{xs:List (Addr×Obj)}{st:LS}{L a:Addr}{d C:Nat}(sim:b7 G names φ xs st h0a L h)(k:st.mh[i]?=some (.inst C d fs))(hd:st.mh[d]?=some .edict)(ha:φ[i]?=some a):
  ∃c e,InstAt h a {cls:=.ref C,dict:=some c,data:=.plain,slots:=e} C (some emptyDict)/\All2 (lp φ) fs e.toList/\φ[d]?=some c:=by
 obtain⟨a',o,e1,j,⟨c,e,b,rfl,hs⟩,_⟩:=sim.obj k;obtain rfl:a=a':=ec (ha.symm.trans e1);obtain⟨g,od,e2,f,rfl,_⟩:=sim.obj hd;obtain rfl:c=g:=ec (b.symm.trans e2);exact⟨c,e,⟨j,rfl,rfl,f⟩,hs,b⟩
structure SlotGet(K:Frag)(C:Addr)(name:Str)(i:Nat):Prop where
 get:plainGet K C name=true
 cls:isClsIn K C=true
 at_:∃p,findIn K (.ref C) name=some (some (.ref p))/\specialIn K (.ref p) "__get__"=some (some (.builtin "member_descriptor.__get__"))/\takesIn K (.ref p)=some true/\slotIn K p C=some i
structure ClsStr(K:Frag)(C:Addr)(name:Str)(l:List Nat):Prop where
 get:plainGet K C name=true
 val:∃x t,findObj K C (some emptyDict) name=some (.value (.str x t))/\x=⟨l.toArray⟩
structure SlotPut(K:Frag)(C:Addr)(name:Str)(i:Nat):Prop where
 set:findIn K (.ref C) "__setattr__"=some (some (.builtin "object.__setattr__"))
 over:plainOver K C=true
 small:i<1000
 at_:∃p,takerIn K C name=some (some (.ref p))/\typeIn K (.ref p)=some (.type "member_descriptor")/\slotIn K p C=some i
inductive AK where
 |slot(i:Nat)|text(l:List Nat)
def AY(K:Frag)(C:Addr)(name:Str):AK->Prop
 |.slot i=>SlotGet K C name i
 |.text l=>ClsStr K C name l
def pH(K:Frag)(name:Str)(tab:List (Addr×AK)):Prop:=∀C k,tab.lookup C=some k->AY K C name k
noncomputable def ln(tab:List (Addr×AK))(mh:List MO):MV->Option MV
 |.ref r=>match mh[r]? with
  |some (.inst C d fs)=>match mh[d]?,tab.lookup C with
   |some .edict,some (.slot i)=>(fs[i]?).join
   |some .edict,some (.text l)=>some (.str l)
   |_,_=>none
  |_=>none
 |_=>none
noncomputable def AH(tab:List (Addr×AK))(v:MV):Den MV:=λst=>(ln tab st.mh v).map (·,st)
theorem rm(h:VR φ v v'):handedIn v'=true:=by
 cases v with
 |none=>obtain rfl:v'=.none:=h;rfl
 |bool b=>obtain rfl:v'=.bool b:=h;rfl
 |int i=>obtain⟨t,rfl⟩:=h;rfl
 |str l=>obtain⟨t,rfl⟩:=h;rfl
 |ref i=>obtain⟨x,_,rfl⟩:=h;rfl
 |sref i=>obtain rfl:v'=.ref i:=h;rfl
def eO(o:Expr)(name:Str):Prop:=∀env whole,attributeBase o name env whole=whole
variable{tab:List (Addr×AK)}
theorem Hv{o:Expr}(hb:eO o name)(B:pH G.K name tab)(h:SemE G sc names n o d):SemE G sc names n (.Attribute o name pos) (aG d (AH tab)):=by
 intro c st w K Q D hd k;refine Attribute_any_ (h c st w _ _ D (wB hd) λa KD w1a a' j b q=>?_) (by
  show(do let o<-attributeBase o name c.env (eval o c.env);_)=_;rw[hb])
 obtain⟨v,e,hk⟩:=wO (g:=λst=>ln tab st.mh a) j;cases a with
 |ref r=>
  obtain⟨ad,ha,rfl⟩:=q;have X:=b.sim.inK;obtain⟨m,objs,F,N,V,U,le,Y⟩:=b.sim.1;dsimp only[ln]at e;revert e;cases hm:KD.mh[r]? with
  |none=>intro e;exact nos e
  |some x=>
   cases x with
   |inst C L fs=>
    dsimp only;cases A:KD.mh[L]? with
    |none=>intro e;exact nos e
    |some y=>
     cases y with
     |edict=>
      cases f:tab.lookup C with
      |none=>intro e;exact nos e
      |some M=>
       intro e;obtain⟨dx,T,I,hs,_⟩:=vR b.sim.1 hm A ha;cases M with
       |slot i=>
        have S:SlotGet G.K C name i:=B C _ f;obtain⟨p,u,J,H,E⟩:=S.at_;obtain⟨O,z,v',rfl,s⟩:=hs.get (Option.join_eq_some_iff.mp e);refine get_slot F c.ok.inK I S.get S.cls u J H E (v:=v') ?_ (rm s) (k v KD ⟨_,w1a.φ⟩ v' hk b.tk1 s);rw[<-yl,z];rfl
       |text l=>
        cases e;have S:ClsStr G.K C name l:=B C _ f;obtain⟨x,t,u,rfl⟩:=S.val;exact get_value X I (plainGet_of S.get).1 u rfl (k _ KD ⟨_,w1a.φ⟩ _ hk b.tk1 ⟨t,rfl⟩)
     |_=>intro e;exact nos e
   |_=>intro e;exact nos e
 |_=>exact nos e
noncomputable def wD(tab:List (Addr×Nat))(mh:List MO):MV->MV->Option (List MO)
 |.ref r,v=>match mh[r]? with
  |some (.inst C d fs)=>match mh[d]?,tab.lookup C with
   |some .edict,some i=>some (mh.set r (.inst C d ((fs++List.replicate (i+1-fs.length) none).set i (some v))))
   |_,_=>none
  |_=>none
 |_,_=>none
def Cp(K:Frag)(name:Str)(tab:List (Addr×Nat)):Prop:=∀C i,tab.lookup C=some i->SlotPut K C name i
noncomputable def DC(tab:List (Addr×Nat))(o v:MV):Den MF:=λst=>(wD tab st.mh o v).map λKA=>(.next,{st with mh:=KA})
theorem H9{o e:Expr}{p:Pos}{tab:List (Addr×Nat)}(pl:Cq e)(ht:Cp G.K name tab)(u:SemE G sc names n e KM)(t:SemE G sc names n o KJ):
  fO G sc names n (.Assign [.Attribute o name p] e pos) (aG KM λv=>aG KJ λo=>DC tab o v):=by
 intro c st w K Q M hd k;refine plainObj_wpAny_Assign_Attribute (u c st w _ _ M (wB hd) λv KD w1a v' j g s=>t c KD w1a _ _ g.sim (wB j) λa KI f a' h d l=>?_) (pl _ _ _);obtain⟨fl,s',e4,hk⟩:=h;obtain⟨KA,e3,e5⟩:=h8.mp e4;cases e5;cases a with
 |ref r=>
  obtain⟨ad,ha,rfl⟩:=l;dsimp only[wD]at e3;revert e3;cases hm:KI.mh[r]? with
  |none=>intro e3;exact nos e3
  |some x=>
   cases x with
   |inst C dd fs=>
    dsimp only;cases J:KI.mh[dd]? with
    |none=>intro e3;exact nos e3
    |some y=>
     cases y with
     |edict=>
      cases z:tab.lookup C with
      |none=>intro e3;exact nos e3
      |some i=>
       intro e3;cases e3;have S:SlotPut G.K C name i:=ht C _ z;obtain⟨dx,E,I,hs,H⟩:=vR d.sim.1 hm J ha;obtain⟨q,V,U,T⟩:=S.at_;obtain⟨m,o,pre,post,F,N,m1,Y,hr,back⟩:=d.sim.1.split hm ha;obtain⟨ah,O,L,rfl,af⟩:=hr;have N0:=(N (ad,_) (s5 _ (.head _))).1;have D:=I.at_.symm.trans N0;simp only[Option.some.injEq,Obj.mk.injEq,true_and]at D;obtain⟨rfl,rfl⟩:=D.imp id id;refine set_slot F c.ok.inK N I S.set S.over V U T S.small rfl rfl (sX m1 Y) λh' F' N'=>?_;refine k .next _ ⟨_,f.φ⟩ _ hk ((g.trans d).hp (back h' _ _ F' N' ⟨dx,_,H,rfl,?_⟩) (JD _ _)) rfl;have A:All2 (lp f.φ) (fs++List.replicate (i+1-fs.length) none) (E++Array.replicate (i+1-E.size) none).toList:=by
        have B:fs.length=E.size:=by rw[hs.len];simp
        rw[JF,Array.toList_replicate,B];refine hs.app ?_;generalize i+1-E.size=kk;induction kk with
        |zero=>exact .nil
        |succ kk ih=>exact .cons rfl ih
       have :=A.set (i:=i) (a:=some v) (b:=some _) ⟨_,rfl,s.mono d.pre⟩;simpa using this
     |_=>intro e3;exact nos e3
   |_=>intro e3;exact nos e3
 |_=>exact nos e3
end
variable{tab:List (Addr×AK)}
variable{C:Addr}
structure MakeOk(K:Frag)(C fI:Addr):Prop where
 keep:keepIn K (.ref C)=true
 make:makesIn K C=true
 init:findIn K (.ref C) "__init__"=some (some (.ref fI))
 fn:isFn K (.ref fI)=true
noncomputable abbrev Cx.making(c:Cx G sc (n+1))(C:Addr)(a:List Value):Cx G sc n:={c with
 A:=c.A.under (.builtin "type.__call__" ⟨.ref C::a,[]⟩)
 ok:=by
  have ok:=c.ok;obtain⟨A0a,base,KT,B,b⟩:=ok.below (x6 _);exact{ok with
   frame:=λ_=>ok.frame (x6 _)
   below:=λ_=>⟨A0a,base,KT,B,by with_unfolding_all exact b⟩
   depth:=by rw[depth_under_make];have :=ok.depth;lia
   units:=by
    have h1:(c.A.under (.builtin "type.__call__" ⟨.ref C::a,[]⟩)).units=c.A.units+1:=rfl;rw[h1];have :=ok.units;lia}}
noncomputable def u0(C:Addr)(J9:Spec):Spec:=λvs mh=>match J9 (.ref (mh.length+1)::vs) (mh++[.edict,.inst C mh.length []])with
 |some (.none,KA)=>some (.ref (mh.length+1),KA)
 |_=>none
theorem Nx.new2{st:LS}(f:Nx c names w st w1a){ax d:Addr}{m:Str->Option Value}{objs:List Obj}(v:Fr c.h0a c.L h' m)(l:News c.h0a c.L h' ((ax,instObj C d)::(d,dictOf [] 0)::(c.xs++w1a.φ.zip objs)))
  (r:((c.xs++w1a.φ.zip objs).map (·.1)).Nodup)(o:All2 (OR w1a.φ) st.mh objs)(le:w1a.φ.length=objs.length)(t:xG G w1a.φ m names st.ρ)(i:∀p∈c.xs++w1a.φ.zip objs,p.1<d)(h:d<ax):
  Nx c names w {st with mh:=st.mh++[.edict,.inst C st.mh.length []]} ⟨{w1a.s with heap:=h'},w1a.φ++[d,ax]⟩/\(w1a.φ++[d,ax])[st.mh.length+1]?=some ax:=by
 have j:=l (d,dictOf [] 0) (.tail _ (.head _));have k:=l (ax,instObj C d) (.head _);have e4:=j4 f.sim.1;have g:w1a.φ<+:w1a.φ++[d,ax]:=eh ..;have u:(w1a.φ++[d,ax])[st.mh.length]?=some d:=by rw[<-e4];simp
 refine⟨⟨f.pre.trans g,f.same.trans .heap,⟨m,objs++[emptyDict,instObj C d],v,?_,?_,(o.mono λ_ _=>OR.mono g).app (.cons rfl (.cons ⟨d,#[],u,rfl,.nil⟩ .nil)),by simp[le],t.mono g⟩,f.sim.2⟩,by rw[<-e4];simp⟩
 ·show News c.h0a c.L h' (c.xs++(w1a.φ++[d,ax]).zip (objs++[emptyDict,instObj C d]))
  rw[Ju le,<-kv];intro q hq;rcases j2.mp hq with hq|hq
  ·exact l q (.tail _ (.tail _ hq))
  ·have :q=(d,emptyDict)\/q=(ax,instObj C d):=by simpa using hq
   rcases this with rfl|rfl
   ·exact j
   ·exact k
 ·show((c.xs++(w1a.φ++[d,ax]).zip (objs++[emptyDict,instObj C d])).map (·.1)).Nodup
  rw[Ju le,<-kv,qi];refine yt.mpr ⟨r,?_,λa ha b hb e=>?_⟩
  ·have :d≠ax:=lz h
   simpa using this
  ·obtain⟨q,hq,rfl⟩:=nb.mp ha
   have n:=i q hq;have :b=d\/b=ax:=by simpa using hb
   rcases this with rfl|rfl
   ·exact absurd e (lz n)
   ·exact absurd e (lz (Nat.lt_trans n h))
theorem IT{x:Str}{fI:Addr}{args:List Expr}{p:Pos}(g:GName G sc x (.ref C))(hm:MakeOk G.K C fI)(hc:Con G n' fI J9)(D:n'+1<=n)(hl:SemL G sc names n args ds):
  SemE G sc names n (.Call (.Name x p) args [] pos) (aG ds (cp (u0 C J9))):=by
 intro c st w K Q t hd k;refine Call_ (fU g t (callWith_of (by rw[hl.plain];rfl) (keeps_K hm.keep) (bZ (hl.plain _ _) ?_)));refine hl.run pos c st w _ (λa f=>G.K.In f.heap/\wpAny G.M c.A (call (.ref C) ([]++a) []) Q NoE f) t (wB hd) λvs KD w1a a h d l=>⟨d.sim.inK,?_⟩;obtain⟨r,KA,e,hk⟩:=uW h;unfold u0 at e;split at e
 ·rename_i o e3
  cases e;obtain⟨m,objs,F,N,z,y,le,B⟩:=d.sim.1;refine call_cls F c.ok.inK N hm.make hm.init hm.fn λax I h' H E s q=>?_;obtain⟨u,v⟩:=d.new2 H E z y le B s q;refine hc sc names ((c.le D).making C ([]++a)) _ ⟨_,_⟩ (.ref (KD.mh.length+1)::vs) .none _ (.ref ax::([]++a)) _ u.sim (.cons ⟨ax,v,rfl⟩ (l.mono λ_ _=>VR.mono (eh ..))) e3 λi v' b j=>?_;cases j;exact⟨rfl,k _ _ i _ hk (u.trans ⟨b.pre,b.same,b.sim⟩) ⟨ax,aO b.pre v,rfl⟩⟩
 ·cases e
structure BaseAt(K:Frag)(C f:Addr)(name:Str):Prop where
 ga:specialIn K (.ref C) "__getattribute__"=some (some (.builtin "type.__getattribute__"))
 rd:∃mc,readsIn K C mc=true/\findCls K (.ref C) mc name=some (.val (.ref f))
 keep:keepIn K (.ref f)=true
def AV(o:Expr)(name:Str)(a pos:Pos)(args:List Expr):Prop:=∀env,∃pl,eval (.Call (.Attribute o name a) args [] pos) env=(do
   let b<-eval o env
   standAt a.atName
   let(f,first)<-holding [b] (getMethod b name pl)
   callWith pos f first (backTo pos (starEach args env)) (backToKw pos (keywordEach [] env)))
theorem Hu{x:Str}{f:Addr}{args:List Expr}{p t:Pos}(g:GName G sc x (.ref C))(hb:BaseAt G.K C f name)(hm:AV (.Name x p) name t pos args)
  (hc:Con G n' f J9)(u:n'<=n)(hl:SemL G sc names n args ds):SemE G sc names n (.Call (.Attribute (.Name x p) name t) args [] pos) (aG ds (cp J9)):=by
 intro c st w K Q o hd k;obtain⟨pl,q⟩:=hm c.env;obtain⟨mc,h1,h2⟩:=hb.rd;have X:=o.inK;refine methodCall_KW (pl:=pl) (fU g o (method_cls X hb.ga (cls_value X h1 h2 rfl (callWith_of (by rw[hl.plain];rfl) (keeps_K hb.keep) (bZ (hl.plain _ _) ?_))))) q;refine hl.run pos c st ⟨{w.s with toks:=w.s.toks+1},w.φ⟩ _ (λa d=>G.K.In d.heap/\wpAny G.M c.A (call (.ref f) ([]++a) []) Q NoE d) o.nx.tk1.sim (wB hd) λvs KD w1a a h b l=>⟨b.sim.inK,?_⟩;obtain⟨r,KA,e,hk⟩:=uW h;exact wpAny_call (hc sc names (c.le u) KD w1a vs r KA a _ b.sim l e λi v m j=>k r _ i v hk (o.nx.tk1.trans (b.trans m.up)) j)
theorem HW{e:Expr}(hp:∀l env,swapsWith e none l env=pure false)(h:SemE G sc names n e d):fO G sc names n (.Expr e pos) (aG d λ_=>bM .next):=by
 intro c st w K Q i hd k;have j:interactive c.env=false:=by unfold interactive;rw[c.fn];rfl
 show wpAny _ _ (exec (.Expr e pos) c.env) _ _ _;rw[exec_Expr c.env e pos j (hp _ _)];exact lu (wpAny_standAt (lu (h c st w _ _ i (wB hd) λa KD w1a a' b f g=>wpAny_dropValue (k _ _ w1a _ (wK b) f rfl))))
variable{b':Value}{q:Nat}
theorem bu{st:LS}{r:Nat}(a:W c names st w)(e:st.mh[r]?=some (.list items))(b:VR w.φ (.ref r) a'):
  ∃ad vs d,a'=.ref ad/\w.φ[r]?=some ad/\w.s.heap.get? ad=some {cls:=.type "list",data:=.seq vs d}/\All2 (VR w.φ) items vs.toList:=a.seq e (.inl ⟨rfl,rfl⟩) b
theorem fj{st:LS}{r:Nat}(a:W c names st w)(e:st.mh[r]?=some (.tuple items))(b:VR w.φ (.ref r) a'):
  ∃ad vs d,a'=.ref ad/\w.φ[r]?=some ad/\w.s.heap.get? ad=some {cls:=.type "tuple",data:=.seq vs d}/\All2 (VR w.φ) items vs.toList:=a.seq e (.inr ⟨rfl,rfl⟩) b
noncomputable def listAt{α:Type}(f:List MV->Option α):Option MO->Option α
 |some (.list xs)=>f xs
 |_=>none
theorem dv{f:List MV->Option α}{o:Option MO}{r:α}(h:listAt f o=some r):∃xs,o=some (.list xs)/\f xs=some r:=by
 cases o with
 |none=>exact nos h
 |some o=>cases o with
  |list xs=>exact⟨xs,rfl,h⟩
  |_=>exact nos h
def jY(mh:List MO):MV->Option Bool
 |.ref r=>listAt (λxs=>if xs.length<=16777216 then some (!xs.isEmpty) else none) mh[r]?
 |v=>iM mh v
def dk(v:MV):Den Bool:=λst=>(jY st.mh v).map (·,st)
theorem wp{b:Bool}{st:LS}(h:jY st.mh v=some b):Ev (dk v) st b st:=by
 unfold Ev dk;rw[h];rfl
theorem HR{e:Expr}(t:Gb e)(h:SemE G sc names n e d):SemT G sc names n e (aG d dk):=by
 intro c st w K Q p hd k;refine isTrue_plain (h c st w _ _ p (wB hd) λa KD w1a a' l f j=>?_) (t _ _);obtain⟨b,e,hk⟩:=wO (g:=λst=>jY st.mh a) l;cases a with
 |ref r=>
  obtain⟨items,hm,e⟩:=dv e;obtain⟨hsz,e⟩:=ifs e;cases e;obtain⟨ad,vs,q,rfl,_,s,hl⟩:=bu f.sim hm j;have i:items.length=vs.size:=hl.len;refine J0 (items:=vs) ⟨_,s,rfl,q,rfl⟩ (by lia) ?_;have :vs.isEmpty=items.isEmpty:=by
   cases items with
   |nil=>simpa[Array.isEmpty]using i.symm
   |cons _ _=>have :=i.symm;simp[Array.isEmpty];intro h;simp[h]at i
  rw[this];exact k _ _ ⟨_,w1a.φ⟩ hk f.tk2
 |_=>exact iL f.sim j e λm o=>k b KD m hk (f.trans o)
def rO(mh:List MO):List MV->Option MV
 |[.ref r]=>listAt (λxs=>if xs.length<=16777216 then some (.int xs.length) else none) mh[r]?
 |vs=>FV mh vs
theorem D6:np G (.builtin "len") rO:=by
 intro n sc names c st w vs r f Q d h hs k;cases h with
 |nil=>exact nos hs
 |@cons v _ _ _ a t=>
  cases t with
  |cons _ _=>exact Cm n sc names c st w _ r _ Q d (.cons a (.cons ‹_› ‹_›)) (by cases v<;>exact hs) k
  |nil=>
   cases v with
   |ref q=>
    obtain⟨items,hm,e⟩:=dv hs;obtain⟨hsz,e⟩:=ifs e;cases e;obtain⟨ad,ws,g,rfl,_,i,hl⟩:=bu d hm a;have b:items.length=ws.size:=hl.len;refine PyProof.Rows.len_list (items:=ws) ⟨_,i,rfl,g,rfl⟩ (by lia) ?_;rw[<-b];exact k ⟨_,w.φ⟩ _ d.nx.tk2 ⟨_,rfl⟩
   |_=>exact Cm n sc names c st w _ r _ Q d (.cons a .nil) hs k
noncomputable def eqV:MV->MV->Option Bool
 |.none,.none=>some true
 |.bool a,.bool b=>some (a==b)
 |.int a,.int b=>some (a==b)
 |.str a,.str b=>some (a==b)
 |.none,.str _=>some false
 |.str _,.none=>some false
 |_,_=>none
noncomputable def eqR:Value->Value->Bool
 |.none,.none=>true
 |.bool a,.bool b=>a==b
 |.int a _,.int b _=>a==b
 |.str a _,.str b _=>a==b
 |_,_=>false
theorem pP(a b:List Nat):((⟨a.toArray⟩:Str)==⟨b.toArray⟩)=(a==b):=by
 rw[<-PyProof.Rows.toList_beq,dK,dK]
theorem Dt{a b:MV}{r:Bool}(d:VR φ a a')(c:VR φ b b')(h:eqV a b=some r):PySem.SeqAt.EqAt A s a' b' (eqR a' b')/\eqR a' b'=r:=by
 cases a<;>cases b<;>first|exact nos h|(obtain rfl:=ec h)
 ·obtain rfl:a'=.none:=d;obtain rfl:b'=.none:=c;exact⟨PySem.SeqAt.EqAt.same _,rfl⟩
 ·obtain rfl:a'=.none:=d;obtain⟨u,rfl⟩:=c;exact⟨PySem.SeqAt.EqAt.none_str _ _,rfl⟩
 ·obtain rfl:a'=_:=d;obtain rfl:b'=_:=c;exact⟨PySem.SeqAt.EqAt.bool_bool _ _,rfl⟩
 ·obtain⟨t,rfl⟩:=d;obtain⟨u,rfl⟩:=c;exact⟨PySem.SeqAt.EqAt.int_int _ _ _ _,rfl⟩
 ·obtain⟨t,rfl⟩:=d;obtain rfl:b'=.none:=c;exact⟨PySem.SeqAt.EqAt.str_none _ _,rfl⟩
 ·obtain⟨t,rfl⟩:=d;obtain⟨u,rfl⟩:=c;exact⟨PySem.SeqAt.EqAt.str_str _ t _ u,pP _ _⟩
noncomputable def gg(x:MV):List MV->Option Bool
 |[]=>some false
 |y::l=>match eqV y x,gg x l with
  |some b,some c=>some (b||c)
  |_,_=>none
theorem nj{x:MV}{d:Value}(e:VR φ x d){vs:List Value}(hl:All2 (VR φ) items vs):∀{r:Bool},gg x items=some r->
  (∀y,y∈vs->PySem.SeqAt.EqAt A s y d (eqR y d))/\vs.any (eqR · d)=r:=by
 induction hl with
 |nil=>intro r h;exact⟨(by intro y h;exact absurd h Jp),(by simp[gg]at h⊢;exact h)⟩
 |cons f _ g=>
  intro r h;unfold gg at h;split at h
  ·rename_i b c hb hc
   obtain rfl:=ec h;obtain⟨i,a⟩:=g hc;obtain⟨h1,h2⟩:=Dt (A:=A) (s:=s) f e hb;refine⟨λy hy=>?_,by rw[List.any_cons,h2,a]⟩;rcases l9.mp hy with rfl|hy
   ·exact h1
   ·exact i y hy
  ·cases h
def iH(mh:List MO):MV->MV->Option Bool
 |x,.ref r=>match mh[r]? with
  |some (.list xs)|some (.tuple xs)=>gg x xs
  |_=>none
 |x,y=>sH mh x y
theorem sN(a:Array α)(p:α->Bool):a.any p=a.toList.any p:=by simp
theorem zv{st:LS}{a b:MV}{r:Bool}{P:Prop}(g:W c names st w)(hf:iH st.mh a b=some r)(i:VR w.φ a a')(h:VR w.φ b b')(e:sH st.mh a b=some r->P)
  (d:∀x T vs f,(T="list"\/T="tuple")->b'=.ref x->w.s.heap.get? x=some {cls:=.type T,data:=.seq vs f}->(∀y∈vs,PySem.SeqAt.EqAt c.A.in1 w.s y a' (eqR y a'))->vs.any (eqR · a')=r->P):P:=by
 have seq:∀{q x T items},b=.ref q->st.mh[q]?=some x->AW T x items->gg a items=some r->P:=λ{q x T items}hb hm hx hg=>by
  subst hb;obtain⟨ad,vs,f,rfl,_,j,hl⟩:=g.seq hm hx h;obtain⟨h1,h2⟩:=nj (A:=c.A.in1) (s:=w.s) i hl hg;exact d ad T vs f (hx.imp And.left And.left) rfl j (λy hy=>h1 y (Array.mem_toList_iff.mpr hy)) ((sN _ _).trans h2)
 cases b with
 |ref q=>
  dsimp only[iH]at hf;revert hf;cases hm:st.mh[q]? with
  |none=>intro hf;exact nos hf
  |some x=>
   intro hf;cases x with
   |list items=>exact seq rfl hm (.inl ⟨rfl,rfl⟩) hf
   |tuple items=>exact seq rfl hm (.inr ⟨rfl,rfl⟩) hf
   |_=>exact nos hf
 |_=>exact e hf
theorem IX:gE G .In iH:=by
 intro n sc names c st w a b r a' b' Q d hf f e k;refine zv d hf f e (λh=>Hy n sc names c st w a b r a' b' Q d h f e k) λx T vs g hT hx i j ha=>?_;subst hx;have hk:Q (.bool (vs.any (eqR · a'))) w.s:=ha▸k w d.nx;rcases hT with rfl|rfl
 ·exact PySem.SeqAt.in_listAt (items:=vs) (eqR · a') ⟨_,i,rfl,g,rfl⟩ j hk
 ·exact PySem.SeqAt.in_tupleAt (items:=vs) (eqR · a') ⟨_,i,rfl,g,rfl⟩ j hk
theorem GL:gE G .NotIn (yS iH):=by
 intro n sc names c st w a b r a' b' Q d hf f e k;obtain⟨q,hq,rfl⟩:=h8.mp hf;refine zv d hq f e (λh=>B6 n sc names c st w a b (!q) a' b' Q d (h8.mpr ⟨q,h,rfl⟩) f e k) λx T vs g hT hx i j ha=>?_;subst hx;have hk:Q (.bool (!vs.any (eqR · a'))) w.s:=ha▸k w d.nx;rcases hT with rfl|rfl
 ·exact PySem.SeqAt.notIn_listAt (items:=vs) (eqR · a') ⟨_,i,rfl,g,rfl⟩ j hk
 ·exact PySem.SeqAt.notIn_tupleAt (items:=vs) (eqR · a') ⟨_,i,rfl,g,rfl⟩ j hk
def oB(G:Glo)(f:Value)(J9:Spec):Prop:=
 ∀(n:Nat)(sc:Scope)(names:List Str)(c:Cx G sc n)(st:LS)(w:St)(vs:List MV)(r:MV)(KA:List MO)(a:List Value)(Q:Value->Shared->Prop),W c names st w->All2 (VR w.φ) vs a->J9 vs st.mh=some (r,KA)->(∀w' b,Nx c names w {st with mh:=KA} w'->VR w'.φ r b->Q b w'.s)->wpAny G.M c.A (call f a) Q NoE w.s
noncomputable def dI(f:List MO->List MV->Option MV):Spec:=λvs mh=>(f mh vs).map (·,mh)
theorem kq{f:Value}{g:List MO->List MV->Option MV}(h:np G f g):oB G f (dI g):=by
 intro n sc names c st w vs r KA a Q b d hs k;obtain⟨e,e1,e2⟩:=h8.mp hs;cases e2;exact h n sc names c st w vs _ a Q b d e1 k
noncomputable def we(T:String)(mh:List MO):MV->Bool
  |.str _=>T=="str"
  |.ref r=>match mh[r]? with
    |some (.list _)=>T=="list"
    |_=>false
  |_=>false
noncomputable def hV(T:String)(a:MV):Den Unit:=λst=>if we T st.mh a then some ((),st) else none
theorem Dq{T:String}{a:MV}{st:LS}(h:we T st.mh a=true):Ev (hV T a) st () st:=by
 unfold Ev hV;rw[h];rfl
theorem Es{T:String}{st:LS}{a:MV}(f:W c names st w)(b:VR w.φ a a')(h:we T st.mh a=true):
  w.s.TypeIs a' T/\∀x,a'=.ref x->∃ob,w.s.heap.get? x=some ob/\ob.dict=none:=by
 cases a with
 |str l=>
  obtain⟨t,rfl⟩:=b;cases ly.mp h;exact⟨I6 _ _ _,λ_ e=>by cases e⟩
 |ref r=>
  dsimp only[we]at h;revert h;cases hm:st.mh[r]? with
  |none=>intro h;cases h
  |some x=>
   intro h;cases x with
   |list items=>
    cases ly.mp h;obtain⟨ad,vs,g,rfl,_,d,hl⟩:=bu f hm b;exact⟨⟨_,d,rfl⟩,λx e=>by cases e;exact⟨_,d,rfl⟩⟩
   |_=>cases h
 |_=>cases h
theorem HP{T:String}{a:MV}{st:LS}{K:Unit->LS->Prop}(h:Wp (hV T a) st K):we T st.mh a=true/\K () st:=by
 obtain⟨_,_,e,q⟩:=h;obtain⟨h1,h2⟩:=ifs e;cases h2;exact⟨h1,q⟩
theorem ie{o:Expr}{T id:String}{D:Pos}{args:List Expr}(hb:eO o name)(J:PlainAttrs T)(slot:Slot T name id)(C:typeOf (.builtin id)=pure (.type "method_descriptor"))
  (L:oB G (.builtin id) J9)(hline:(D.endLine==pos.line)=true)(z:decide (args.length<29)=true)(h:SemE G sc names n o d)(hl:SemL G sc names n args ds):
  SemE G sc names n (.Call (.Attribute o name D) args [] pos) (aG d λa=>aG (hV T a) λ_=>aG ds λvs=>cp J9 (a::vs)):=by
 intro c st w K Q I hd k;refine JV (hb _ _) ?_ hline J slot C (h c st w _ _ I (wB hd) λa KD w1a a' b i j=>?_)
 ·have B:(backTo pos (starEach args c.env)).all (λx=>!x.1)=true:=by
   have :=hl.plain pos c.env;rw[List.any_eq_false]at this;rw[gb];intro x hx;have :=this x hx;simpa using this
  rw[B];have :=go z;exact g6 (p:=args.length+0+0<30) (by lia)
 ·obtain⟨hT,b⟩:=HP (wB b)
  obtain⟨H,E⟩:=Es i.sim j hT;refine⟨H,E,Ji (hl.plain _ _) (bZ (hl.plain _ _) ?_)⟩;refine hl.run pos c KD w1a _ (λf s=>wpAny G.M c.A (call (.builtin id) ([a']++f) []) Q NoE s) i.sim (wB b) λvs KI q f l g u=>?_;obtain⟨r,KA,e,hk⟩:=uW l;exact L n sc names c KI q (a::vs) r KA (a'::f) _ g.sim (.cons (j.mono g.pre) u) e λm v y t=>k r _ m v hk ((i.trans g).trans y) t
noncomputable def uM{α:Type}(f:MV->MV->Option α):List MV->Option α
 |[x,y]=>f x y
 |_=>none
@[elab_as_elim]theorem fV{α:Type}{f:MV->MV->Option α}{vs:List MV}{c:List Value}{r:α}{φ:List Addr}{P:List Value->Prop}(h:uM f vs=some r)(g:All2 (VR φ) vs c)(k:∀x y e d,f x y=some r->VR φ x e->VR φ y d->P [e,d]):P c:=by
 cases g with
 |nil=>exact nos h
 |cons a t=>cases t with
  |nil=>exact nos h
  |cons b t=>cases t with
   |nil=>exact k _ _ _ _ h a b
   |cons _ _=>exact nos h
noncomputable def D8{α:Type}(f:MV->MV->MV->Option α):List MV->Option α
 |[x,y,z]=>f x y z
 |_=>none
@[elab_as_elim]theorem pG{α:Type}{f:MV->MV->MV->Option α}{vs:List MV}{c:List Value}{r:α}{φ:List Addr}{P:List Value->Prop}(h:D8 f vs=some r)(j:All2 (VR φ) vs c)
  (k:∀x y z i g e,f x y z=some r->VR φ x i->VR φ y g->VR φ z e->P [i,g,e]):P c:=by
 cases j with
 |nil=>exact nos h
 |cons a t=>cases t with
  |nil=>exact nos h
  |cons b t=>cases t with
   |nil=>exact nos h
   |cons d t=>cases t with
    |nil=>exact k _ _ _ _ _ _ h a b d
    |cons _ _=>exact nos h
noncomputable def mn{α:Type}(mh:List MO)(f:Nat->List MV->Option α):MV->Option α
 |.ref r=>listAt (f r) mh[r]?
 |_=>none
@[elab_as_elim]theorem d5{α:Type}{f:Nat->List MV->Option α}{c:Cx G sc n}{st:LS}{w:St}{v:MV}{v':Value}{r:α}{P:Value->Prop}(h:mn st.mh f v=some r)(b:W c names st w)(d:VR w.φ v v')
  (k:∀q xs ad vs a,f q xs=some r->st.mh[q]?=some (.list xs)->w.φ[q]?=some ad->w.s.heap.get? ad=some {cls:=.type "list",data:=.seq vs a}->All2 (VR w.φ) xs vs.toList->P (.ref ad)):P v':=by
 cases v with
 |ref q=>
  obtain⟨items,hm,e⟩:=dv h;obtain⟨ad,vs,a,rfl,ha,g,hl⟩:=bu b hm d;exact k q items ad vs a e hm ha g hl
 |_=>exact nos h
theorem Nx.chg{st:LS}{x:MO}{ad:Addr}(a:W c names st w)(hm:st.mh[q]?=some x)(ha:w.φ[q]?=some ad)(hs:Heap.SameBut ad w.s.heap h')(d:h'.get? ad=some o')(b:OR w.φ mo o')(hk:1<=k):
  Nx c names w {st with mh:=st.mh.set q mo} ⟨{w.s with heap:=h',toks:=k},w.φ⟩:=a.nx.hp (a.1.change (fd.mp hm).1 ha hs d b) hk
noncomputable def jI:Spec:=λvs mh=>uM (λl x=>mn mh (λr xs=>if xs.length<=16777216 then some (.none,mh.set r (.list (xs++[x]))) else none) l) vs
theorem yb:oB G (.builtin "list.append") jI:=by
 intro n sc names c st w vs r KA f Q a h hs k;refine fV hs h λl x o j e hl hx=>d5 e a hl λq items ad ws m e hm ha i hw=>?_;obtain⟨hsz,e⟩:=ifs e;cases e;have g:items.length=ws.size:=hw.len;refine append_at (hsz:=by rw[JW];lia) i λh' b d=>k ⟨_,w.φ⟩ _ (Nx.chg a hm ha b d ⟨_,_,rfl,?_⟩ a.2) rfl;rw[Array.toList_push];exact hw.app (.cons hx .nil)
open PySem.Builtin PySem.Builtin.Str
noncomputable def eu:List MV->Option (List (List Nat))
 |[]=>some []
 |.str l::r=>(eu r).map (l::·)
 |_=>none
theorem lQ:∀{items:List MV}{ls:List (List Nat)}{vs:List Value},eu items=some ls->All2 (VR φ) items vs->
  ∃l:List (Str×Tok),vs=strValues l/\l.map (·.1)=ls.map λx=>(⟨x.toArray⟩:Str):=by
 intro items;induction items with
 |nil=>intro ls vs h hl;cases hl;obtain rfl:=ec h;exact⟨[],rfl,rfl⟩
 |cons a r d=>
  intro ls vs h hl;cases hl with
  |cons b rl=>
   cases a with
   |str x=>
    obtain⟨c,e,rfl⟩:=h8.mp h;obtain⟨t,rfl⟩:=b;obtain⟨l,rfl,h2⟩:=d e rl;exact⟨(_,t)::l,rfl,by simp[h2]⟩
   |_=>cases h
noncomputable def bQ(l p:List Nat)(a:Nat):Bool:=decide (a+p.length<=l.length)&&((l.drop a).take p.length==p)
theorem oM(l p:List Nat)(a:Nat):Txt.startswith3 ⟨l.toArray⟩ ⟨p.toArray⟩ (a:Int)=bQ l p a:=by
 have e1:fromIndex (⟨l.toArray⟩:Str).length (a:Int)=a:=by unfold fromIndex;lia
 have e2:((l.drop a).take p.length==p)=Builtin.Str.subAt ⟨l.toArray⟩ ⟨p.toArray⟩ a:=by
  rw[StrLaws.subAt_eq,dK,dK,bK]
 unfold Txt.startswith3 bQ;rw[e1,e2,bK,bK]
noncomputable def pT(l:List Nat)(i:Int):Option (List (List Nat))->Option MV
 |some ps=>if 0<=i then some (.bool (ps.any λp=>bQ l p i.toNat)) else none
 |none=>none
noncomputable def uh(l:List Nat)(i:Int):Option MO->Option MV
 |some (.tuple xs)=>pT l i (eu xs)
 |_=>none
def fE(mh:List MO):List MV->Option MV:=D8 λl p i=>onStr (λl=>j8 (λi=>match p with
 |.str p=>if 0<=i then some (.bool (bQ l p i.toNat))else none
 |.ref r=>uh l i mh[r]?
 |_=>none) i) l
theorem jh(x:Str)(i:Int)(t v:Tok)(a:Addr)(l:List (Str×Tok))(n:Nat):
    Meets (Builtin.«str.startswith» ⟨[.str x t,.ref a,.int i v],[]⟩)
      (λ_ R s=>s.heap.get? a=some {cls:=.type "tuple",data:=.seq (strValues l).toArray n}/\R (.ok (.ret (.bool (l.any λp=>Txt.startswith3 x p.1 i)))) s):=by
  refine .of_wp λprog w A R s h=>?_;obtain⟨e,h⟩:=h;show wpAny _ _ (do
    if let some p<-asStr? (.ref a)then return<-ret (.bool (fromIndex x.length i+p.length<=min x.length x.length&&subAt x p (fromIndex x.length i)))
    if<-isInstance (.ref a) (.type "tuple")then
      rule "str.startswith.tuple"
      let some items<-seqItems? (.ref a)|unsupported "internal:str.startswith"
      for y in items do
        match<-asStr? y with
        |some p=>if fromIndex x.length i+p.length<=min x.length x.length&&subAt x p (fromIndex x.length i)then return<-ret (.bool true)
        |none=>
          rule "str.startswith.tuple-item-not-str"
          raiseError"TypeError"s!"tuple for startswith must only contain str, not {←typeNameOf y}"
      return<-ret (.bool false)
    rule "str.startswith.bad-affix"
    raiseError"TypeError"s!"startswith first arg must be str or a tuple of str, not {←typeNameOf (.ref a)}") _ _ s
  refine lu (PySem.W.KPt.asStr_ref e rfl ?_);refine lu (wpAny_isInstance (T:="tuple") ⟨_,e,rfl⟩ PySem.W.KPt.sub_tt ?_);refine lu (wpAny_rule ?_);refine lu (wpAny_seqItems e rfl ?_);refine lu (MeetsSeq2.wpAny_forIn_array _ (λKC b d=>b.1=none/\d=s/\∃q,KC=strValues q/\(R (.ok (.ret (.bool (q.any λp=>Txt.startswith3 x p.1 i)))) s)) _ ?_ ?_ _ _ ⟨rfl,rfl,l,rfl,h⟩)
  · rintro y KC b d⟨hb,rfl,q,hq,c⟩
    cases q with
    |nil=>cases hq
    |cons p q=>
      obtain⟨rfl,rfl⟩:=f4 hq;refine lu (p5 ?_);rw[Nat.min_self];rw[List.any_cons]at c;show wpAny _ _ (if Txt.startswith3 x p.1 i=true then _ else _) _ _ _;cases hy:Txt.startswith3 x p.1 i with
      |true=>
        rw[hy]at c;exact lu (p5 (p5 (p5 ⟨_,rfl,c⟩)))
      |false=>
        rw[hy]at c;exact p5 ⟨rfl,rfl,q,rfl,c⟩
  · rintro⟨g,f⟩ d⟨hb,rfl,q,hq,c⟩
    cases q with
    |nil=>
      simp only at hb;subst hb;exact lu (p5 (p5 ⟨_,rfl,c⟩))
    |cons _ _=>cases hq
theorem uN(l:List Nat){q:List (Str×Tok)}{ps:List (List Nat)}(h:q.map (·.1)=ps.map λx=>(⟨x.toArray⟩:Str)):(q.any λp=>Txt.startswith3 ⟨l.toArray⟩ p.1 (a:Int))=ps.any λp=>bQ l p a:=by
 have e1:(q.any λp=>Txt.startswith3 ⟨l.toArray⟩ p.1 (a:Int))=(q.map (·.1)).any λp=>Txt.startswith3 ⟨l.toArray⟩ p (a:Int):=by rw[List.any_map];rfl
 rw[e1,h,List.any_map];congr 1;funext p;exact oM _ _ _
theorem ya:oB G (.builtin "str.startswith") (dI fE):=by
 refine kq ?_;intro n sc names c st w vs r g Q b m hs k;refine pG hs m λx y z B A v e hx hy j=>bj e hx λl t e=>dO e j λi u e=>?_;cases y with
 |str p=>
  obtain⟨h0,e⟩:=ifs e;cases e;obtain⟨a,rfl⟩:=ov h0;obtain⟨u,rfl⟩:=hy;refine SC.startswith3 ?_;rw[oM];exact k w _ b.nx rfl
 |ref q=>
  dsimp only at e;revert e;cases hm:st.mh[q]? with
  |none=>intro e;exact nos e
  |some o=>
   intro e;cases o with
   |tuple xs=>
    replace e:pT l i (eu xs)=some r:=e;revert e;cases f:eu xs with
    |none=>intro e;exact nos e
    |some ps=>
     intro e;obtain⟨h0,e⟩:=ifs e;cases e;obtain⟨a,rfl⟩:=ov h0;obtain⟨ad,ws,h,rfl,_,s,hl⟩:=fj b hm hy;obtain⟨q,hq,d⟩:=lQ f hl;obtain rfl:ws=(strValues q).toArray:=by rw[<-hq]
     refine call_meets F.slot_str_startswith (I6 _ _ _) F.entry_str_startswith (F.args_str_startswith_3 _ _ _) (jh _ _ _ _ _ q h) ⟨s,?_⟩;rw[uN _ d];exact k w _ b.nx rfl
   |_=>exact nos e
 |_=>exact nos e
open PySem.Builtin PySem.Builtin.Str
noncomputable def CS:Option (List (List Nat))->Option MV
 |some ls=>if ls.flatten.length<=16777216 then some (.str ls.flatten) else none
 |none=>none
def FX(mh:List MO):MV->MV->Option MV
 |.str [],.ref r=>listAt (λxs=>CS (eu xs)) mh[r]?
 |_,_=>none
def yw(mh:List MO):List MV->Option MV:=uM (FX mh)
theorem vN(ls:List (List Nat)):Txt.join ⟨([]:List Nat).toArray⟩ (ls.map λx=>(⟨x.toArray⟩:Str))=⟨ls.flatten.toArray⟩:=by
 unfold Txt.join;rw[StrLaws.glued_eq_join];induction ls with
 |nil=>rfl
 |cons a r c=>
  cases r with
  |nil=>simp[Str.join]
  |cons b r=>
   have :Str.join ⟨([]:List Nat).toArray⟩ ((a::b::r).map λx=>(⟨x.toArray⟩:Str))=(⟨a.toArray⟩:Str)++⟨([]:List Nat).toArray⟩++Str.join ⟨([]:List Nat).toArray⟩ ((b::r).map λx=>(⟨x.toArray⟩:Str)):=rfl;rw[this,c,ir,ir];simp
theorem vM(ls:List (List Nat))(h:ls.flatten.length<=16777216):JoinOk ⟨([]:List Nat).toArray⟩ (ls.map λx=>(⟨x.toArray⟩:Str))=true:=by
 have key:∀(ls:List (List Nat))(k:Nat),(ls.map λx=>(⟨x.toArray⟩:Str)).foldl (·+·.length+(⟨([]:List Nat).toArray⟩:Str).length) k=k+ls.flatten.length:=by
  intro ls;induction ls with
  |nil=>intro k;simp
  |cons a r b=>intro k;rw[rx,Iw,b,bK,bK,Jk,g8];simp;lia
 unfold JoinOk tooLong sizeLine;rw[List.foldl_toArray,key];simp only[Iq,Bool.not_eq_true',decide_eq_false_iff_not,gt_iff_lt,Nat.not_lt];exact h
theorem DR:oB G (.builtin "str.join") (dI yw):=by
 refine kq ?_;intro n sc names c st w vs r f Q g i hs k;refine fV hs i λx y o m e hx hy=>?_;cases x with
 |str x=>
  cases x with
  |nil=>
   cases y with
   |ref q=>
    obtain⟨items,hm,e⟩:=dv e;revert e;cases b:eu items with
    |none=>intro e;exact nos e
    |some ls=>
     intro e;obtain⟨hsz,e⟩:=ifs e;cases e;obtain⟨t,rfl⟩:=hx;obtain⟨ad,ws,h,rfl,_,j,hl⟩:=bu g hm hy;obtain⟨q,hq,a⟩:=lQ b hl;obtain rfl:ws=(strValues q).toArray:=by rw[<-hq]
     refine dU (ep _) (SC.join (l:=q) ⟨_,j,rfl,h,rfl⟩ a (vM ls hsz) λp kk d=>?_);rw[vN];exact k ⟨_,w.φ⟩ _ (g.nx.tk d) ⟨_,rfl⟩
   |_=>exact nos e
  |cons _ _=>exact nos e
 |_=>exact nos e
theorem All2.dropLast{R:α->β->Prop}:∀{l:List α}{m:List β},All2 R l m->All2 R l.dropLast m.dropLast:=by
 intro l m q;induction q with
 |nil=>exact .nil
 |cons a b d=>
  cases b with
  |nil=>exact .nil
  |cons b c=>exact .cons a d
theorem All2.last{R:α->β->Prop}:∀{l:List α}{m:List β},All2 R l m->∀{a},l.getLast?=some a->∃b,m.getLast?=some b/\R a b:=by
 intro l m q;induction q with
 |nil=>intro _ h;cases h
 |cons a b d=>
  intro x h;cases b with
  |nil=>exact⟨_,rfl,ec h▸a⟩
  |cons b c=>
   rw[r4]at h⊢;exact d h
theorem mz:∀{l:List Value}{y:Value},l.getLast?=some y->kl_last l=some (l.dropLast,y)
 |[],_,h=>by cases h
 |[x],_,h=>by obtain rfl:=ec h;rfl
 |x::z::r,y,h=>by
  rw[r4]at h;unfold kl_last;rw[mz h];rfl
def DE:Spec:=λvs mh=>sL (mn mh λr xs=>if xs.length<=16777216 then xs.getLast?.map λy=>(y,mh.set r (.list xs.dropLast)) else none) vs
theorem FT:oB G (.builtin "list.pop") DE:=by
 intro n sc names c st w vs r KA d Q a s hs k;refine eN hs s λx C e hx=>d5 e a hx λq items ad ws j e hm ha u hl=>?_;obtain⟨hsz,e⟩:=qE e;obtain⟨y,hy,e⟩:=h8.mp e;cases e;have f:items.length=ws.size:=hl.len;obtain⟨m,o,pre,post,F,N,p,l,t,back⟩:=a.1.split hm ha;obtain⟨vs',i,rfl,v⟩:=t;have z:=(N (ad,_) (j2.mpr (.inr (.head _)))).1;cases u.symm.trans z;obtain⟨g,b,h⟩:=hl.last hy;have hk:kl_last ws.toList=some (ws.toList.dropLast,g):=mz b;exact kl_pop (news':=pre++(ad,listOf ws.toList.dropLast.toArray (j+1))::post) F N hk (sX p l) (by unfold sizeLine;simp;lia) λh' B A=>k ⟨_,w.φ⟩ _ (a.nx.hp (back h' _ _ B A ⟨_,_,rfl,hl.dropLast⟩) a.2) h
variable{py:Pos}{y:List Nat}{z:List Nat}
open PySem.Builtin PySem.Builtin.Str
noncomputable def kG(l p:List Nat)(a b:Nat):Int:=match lastOccurrence ⟨l.toArray⟩ ⟨p.toArray⟩ a (min b l.length)with|some i=>(i:Int)|none=>-1
noncomputable def js(l p:List Nat)(a b:Nat):Nat:=(occurrences ⟨l.toArray⟩ ⟨p.toArray⟩ a (min b l.length) (l.length+1)).length
theorem ib(n a:Nat):fromIndex n (a:Int)=a:=by
 unfold fromIndex;lia
theorem qG(x y:Str)(i j:Int)(t u v z:Tok):Gives (Builtin.«str.rfind» ⟨[.str x t,.str y u,.int i v,.int j z],[]⟩)
  (.int (match lastOccurrence x y (fromIndex x.length i) (min (fromIndex x.length j) x.length)with|some k=>(k:Int)|none=>-1)):=by
 show Gives (match lastOccurrence x y (fromIndex x.length i) (min (fromIndex x.length j) x.length)with|some k=>retInt k|none=>(do rule "str.rfind.not-found";retInt (-1))) _;cases lastOccurrence x y (fromIndex x.length i) (min (fromIndex x.length j) x.length)with
 |none=>exact .rule (.of_eq rfl)
 |some k=>exact .of_eq rfl
theorem qH(x y:Str)(i j:Int)(t u v z:Tok):Gives (Builtin.«str.count» ⟨[.str x t,.str y u,.int i v,.int j z],[]⟩)
  (.int (occurrences x y (fromIndex x.length i) (min (fromIndex x.length j) x.length) (x.length+1)).length):=by
 show Gives (retInt (occurrences x y (fromIndex x.length i) (min (fromIndex x.length j) x.length) (x.length+1)).length) _;exact .of_eq rfl
def on4(F:List Nat->List Nat->Nat->Nat->MV):List MV->Option MV
 |a::b::r=>onStr (λl=>onStr (λp=>uM (λi j=>j8 (λi=>j8 (λj=>if 0<=i/\0<=j then some (F l p i.toNat j.toNat) else none) j) i) r) b) a
 |_=>none
def sp(_:List MO):List MV->Option MV:=on4 λl p i j=>.int (kG l p i j)
def tZ(_:List MO):List MV->Option MV:=on4 λl p i j=>.int (js l p i j)
@[elab_as_elim]theorem rE{vs:List MV}{r:MV}{F:List Nat->List Nat->Nat->Nat->MV}{φ:List Addr}{c:List Value}{P:List Value->Prop}(h:on4 F vs=some r)(d:All2 (VR φ) vs c)
  (k:∀l p(a b:Nat) t u v z,F l p a b=r->P [.str ⟨l.toArray⟩ t,.str ⟨p.toArray⟩ u,.int a v,.int b z]):P c:=by
 cases d with
 |nil=>exact nos h
 |cons ha d=>cases d with
  |nil=>exact nos h
  |cons hb d=>
   refine bj h ha λl t e=>bj e hb λp u e=>fV e d λx y g f e hx hy=>dO e hx λi v e=>dO e hy λj z e=>?_;obtain⟨⟨h0,h1⟩,e⟩:=ifs e;obtain⟨a,rfl⟩:=ov h0;obtain⟨b,rfl⟩:=ov h1;exact k _ _ a b t u v z e
theorem m_rfind:oB G (.builtin "str.rfind") (dI sp):=by
 refine kq ?_;intro n sc names c st w vs r d Q f g hs k;refine rE hs g λl p a b t u v z e=>?_;subst e;refine call_gives F.slot_str_rfind (I6 _ _ _) F.entry_str_rfind (F.args_str_rfind_4 _ _ _ _) (qG _ _ _ _ t u v z) ?_;rw[ib,ib,bK];exact k ⟨_,w.φ⟩ _ f.nx.tk1 ⟨_,rfl⟩
theorem BU:oB G (.builtin "str.count") (dI tZ):=by
 refine kq ?_;intro n sc names c st w vs r d Q f g hs k;refine rE hs g λl p a b t u v z e=>?_;subst e;refine call_gives F.slot_str_count (I6 _ _ _) F.entry_str_count (F.args_str_count_4 _ _ _ _) (qH _ _ _ _ t u v z) ?_;rw[ib,ib,bK];exact k ⟨_,w.φ⟩ _ f.nx.tk1 ⟨_,rfl⟩
noncomputable def j5(l y z:List Nat):List Nat:=(Txt.replace ⟨l.toArray⟩ ⟨y.toArray⟩ ⟨z.toArray⟩).cps.toList
noncomputable def oT(y z:List Nat):MV->Option MV
 |.str l=>if l.length+(l.length+1)*z.length<=16777216 then some (.str (j5 l y z)) else none
 |_=>none
noncomputable def uq(y z:List Nat)(a:MV):Den MV:=λst=>(oT y z a).map (·,st)
theorem Bp{a r:MV}{st:LS}(h:oT y z a=some r):Ev (uq y z a) st r st:=by
 unfold Ev uq;rw[h];rfl
theorem EW{o:Expr}{y z:Str}{m j:List Nat}{B kz:Nat}{A u:Pos}(hb:eO o "replace")(hy:SignsOf y m)(C:SignsOf z j)(p:(m==j)=false)(hline:(u.endLine==pos.line)=true)(h:SemE G sc names n o d):
  SemE G sc names n (.Call (.Attribute o "replace" u) [.Constant (.str y) B py,.Constant (.str z) kz A] [] pos) (aG d (uq m j)):=by
 intro c st w K Q x hd k;refine JV (hb _ _) rfl hline sg F.slot_str_replace F.type_str_replace (h c st w _ _ x (wB hd) λa KD w1a a' f b i=>?_);obtain⟨r,e,hk⟩:=wO (g:=λ_=>oT m j a) f;cases a with
 |str l=>
  obtain⟨hsz,e⟩:=ifs e;cases e;obtain⟨t,rfl⟩:=i;refine⟨I6 _ _ _,(λ_ e=>by cases e),Ji rfl (bZ rfl (spliced_cons (wpAny_mkText (spliced_cons (wpAny_mkText (spliced_nil ?_))))))⟩;have D:1<=w1a.s.toks:=b.sim.2;subst hy C;refine dU (ep _) (SC.replace (by show w1a.s.toks≠0;lia) (by show w1a.s.toks+1≠0;lia) (by show w1a.s.toks≠w1a.s.toks+1;lia) (by rw[pP];exact p) (by rw[bK,bK];exact hsz) λv kk q=>?_);exact k _ _ ⟨_,w1a.φ⟩ _ hk (b.tk (ml (tj _ 2) q)) ⟨v,by unfold j5;simp⟩
 |_=>exact nos e
variable{KC:List Expr}{ts:List Expr}{is:List Nat}
inductive Tgts(names:List Str):List Expr->List Nat->Prop
 |nil:Tgts names [] []
 |cons{x p i ts is:_}:Ix names x i->Tgts names ts is->Tgts names (.Name x p::ts) (i::is)
theorem Tgts.len(h:Tgts names ts is):ts.length=is.length:=by
 induction h with
 |nil=>rfl
 |cons _ _ a=>simp[a]
noncomputable def gq:List Nat->List MV->List (Option MV)->List (Option MV)
 |i::is,v::vs,ρ=>gq is vs (ρ.set i (some v))
 |_,_,ρ=>ρ
theorem oG(h:Tgts names ts is)(env:Env):(assignEach ts env).length=ts.length/\(assignEach ts env).findIdx? (·.1)=none:=by
 induction h with
 |nil=>exact⟨rfl,rfl⟩
 |cons _ _ a=>
  constructor
  ·show(_::assignEach _ env).length=_
   rw[g9,a.1];rfl
  ·show((false,_)::assignEach _ env).findIdx? (·.1)=none
   rw[List.findIdx?_cons];simp[a.2]
theorem uJ(lo:LocalsOk sc names)(h:Tgts names ts is):
  ∀{w:St}{st:LS}{items:List MV}{vs:List Value}{Q:Unit->Shared->Prop},W c names st w->All2 (VR w.φ) items vs->items.length=is.length->
   (∀w',Nx c names w {st with ρ:=gq is items st.ρ} w'->Q () w'.s)->wpAny G.M c.A (assignInOrder ((assignEach ts c.env).map (·.2)) vs) Q NoE w.s:=by
 induction h with
 |nil=>
  intro w st items vs Q e f hl k;cases f with
  |nil=>exact wpAny_assignInOrder_none (k w e.nx)
  |cons _ _=>cases hl
 |cons j l i=>
  intro w st items vs Q e f hl k;cases f with
  |nil=>cases hl
  |cons g rl=>exact wpAny_assignInOrder_more (JU (dL lo j e g λw1a a=>i a.sim (rl.mono λ_ _=>VR.mono a.pre) (JG hl) λb d=>k b (a.trans d)))
theorem uI{st:LS}{r:Nat}{Q:Unit->Shared->Prop}
  (lo:LocalsOk sc names)(h:Tgts names ts is)(a:W c names st w)(hm:st.mh[r]?=some (.tuple items))(d:VR w.φ (.ref r) a')(hl:items.length=is.length)
  (k:∀w',Nx c names w {st with ρ:=gq is items st.ρ} w'->Q () w'.s):wpAny G.M c.A (assign (.Tuple ts kk pos) c.env a') Q NoE w.s:=by
 obtain⟨ad,vs,f,rfl,_,j,b⟩:=fj a hm d;obtain⟨m,objs,F,N,g,e,le,i⟩:=a.1;refine unpackN_ F N ⟨_,j,rfl,f,rfl⟩ c.ok.hnd (by rw[(oG h c.env).1,h.len,<-hl];exact b.len) (oG h c.env).2 λh' n l=>?_;have nx:=a.nx.hp ⟨m,objs,n,l,g,e,le,i⟩ a.2;exact uJ lo h (w:=⟨_,w.φ⟩) nx.sim b hl λw' n'=>k w' (nx.trans n')
noncomputable def gl(is:List Nat)(a:MV):Den MF:=λst=>match a with
 |.ref r=>match st.mh[r]? with
  |some (.tuple items)=>if items.length=is.length then some (.next,{st with ρ:=gq is items st.ρ})else none
  |_=>none
 |_=>none
def uQ(a:List Expr)(value:Expr):Prop:=∀l env,swapsWithSole a value l env=pure false/\swappedStores a value env=pure none
theorem oE{st:LS}{a:MV}{Q:Unit->Shared->Prop}{K:MF->LS->Prop}
  (lo:LocalsOk sc names)(h:Tgts names ts is)(d:W c names st w)(g:VR w.φ a a')(hd:Wp (gl is a) st K)(k:∀KG w',K .next KG->Nx c names w KG w'->Q () w'.s):wpAny G.M c.A (assign (.Tuple ts kk pos) c.env a') Q NoE w.s:=by
 obtain⟨f,i,e,q⟩:=hd;cases a with
 |ref r=>
  dsimp only[gl]at e;revert e;cases hm:st.mh[r]? with
  |none=>intro e;exact nos e
  |some x=>
   intro e;cases x with
   |tuple items=>
    obtain⟨hl,e⟩:=ifs e;cases e;exact uI lo h d hm g hl λw1a b=>k _ w1a q b
   |_=>exact nos e
 |_=>exact nos e
theorem E5{b:Pos}{e:Expr}(lo:LocalsOk sc names)(h:Tgts names ts is)(pl:uQ [.Tuple ts kk b] e)(o:SemE G sc names n e d):
  fO G sc names n (.Assign [.Tuple ts kk b] e pos) (aG d (gl is)):=
 λc st w K Q m hd k=>Assign_Tuple (o c st w _ _ m (wB hd) λa KD w1a a' g f j=>oE lo h f.sim j g λKI i q l=>k _ KI i _ q (f.trans l) rfl) (pl pos.line c.env).1 (pl pos.line c.env).2
theorem v9{x y:Str}{e:Expr}(lo:LocalsOk sc names)(r:Ix names x i)(q:Ix names y j)(pl:uQ [.Name x px,.Name y py] e)(s:SemE G sc names n e d):
  fO G sc names n (.Assign [.Name x px,.Name y py] e pos) (aG d λv=>λst=>some (.next,{st with ρ:=(st.ρ.set i (some v)).set j (some v)})):=
 λc st w K Q p hd k=>wpAny_Assign_two (s c st w _ _ p (wB hd) λa KD w1a a' h g f=>JU (dL lo r g.sim f λo b=>JU (dL lo q b.sim (f.mono b.pre) λl m=>k _ _ l _ (wK h) ((g.trans b).trans m) rfl))) rfl (pl pos.line _).2
def GV(KM KJ:Den MV):Den MV:=aG KM λa=>aG (gm a) λc=>match c with|true=>KJ|false=>aj a
def orE(KM KJ:Den MV):Den MV:=aG KM λa=>aG (gm a) λc=>match c with|true=>aj a|false=>KJ
theorem IM{op:BoolOp}{e:Expr}(h:SemE G sc names n e d):SemE G sc names n (.BoolOp op [e] pos) d:=
 λc st w K Q a hd k=>BoolOp_one (h c st w K Q a hd k)
theorem IW{m l:Expr}(u:SemE G sc names n m KM)(t:SemE G sc names n (.BoolOp .And (l::KC) pos) KJ):SemE G sc names n (.BoolOp .And (m::l::KC) pos) (GV KM KJ):=by
 intro c st w K Q x hd k;refine BoolOp_and (u c st w _ _ x (wB hd) λa KD w1a a' o f j=>?_);obtain⟨b,e,h⟩:=wO (g:=λst=>iM st.mh a) (wB o);refine iL f.sim j e λi d=>?_;cases b with
 |true=>exact t c KD i _ _ d.sim h λv KW p v' q s r=>k v KW p v' q ((f.trans d).trans s) r
 |false=>exact k a KD i a' (wK h) (f.trans d) (j.mono d.pre)
theorem Ie{m l:Expr}(u:SemE G sc names n m KM)(t:SemE G sc names n (.BoolOp .Or (l::KC) pos) KJ):SemE G sc names n (.BoolOp .Or (m::l::KC) pos) (orE KM KJ):=by
 intro c st w K Q x hd k;refine BoolOp_or (u c st w _ _ x (wB hd) λa KD w1a a' o f j=>?_);obtain⟨b,e,h⟩:=wO (g:=λst=>iM st.mh a) (wB o);refine iL f.sim j e λi d=>?_;cases b with
 |false=>exact t c KD i _ _ d.sim h λv KW p v' q s r=>k v KW p v' q ((f.trans d).trans s) r
 |true=>exact k a KD i a' (wK h) (f.trans d) (j.mono d.pre)
def BO:MV->Option MV:=j8 λi=>some (.int (-i))
def BP(a:MV):Den MV:=λst=>(BO a).map (·,st)
theorem Dn{a r:MV}{st:LS}(h:BO a=some r):Ev (BP a) st r st:=by unfold Ev BP;rw[h];rfl
theorem IP{e:Expr}(h:SemE G sc names n e d):SemE G sc names n (.UnaryOp .USub e pos) (aG d BP):=by
 intro c st w K Q l hd k;refine UnaryOp_ (h c st w _ _ l (wB hd) λa KD w1a a' b j f=>?_);obtain⟨r,e,hk⟩:=wO (g:=λ_=>BO a) b;refine dO e f λi t e=>?_;cases e;exact PyProof.Rows.neg_int (k _ _ ⟨_,w1a.φ⟩ _ hk j.tk1 ⟨_,rfl⟩)
noncomputable def small(i:Int):Bool:=decide (-1073741824<i/\i<1073741824)
def DO:MV->MV->Option MV:=is2 (λa b=>if small a||small b then some (.int (a*b))else none) no2
theorem xp{i:Int}(h:small i=true):i.natAbs<1073741824:=by
 unfold small at h;have :=go h;lia
theorem ma{i:Int}(h:small i=true):Builtin.Int.intBits i<=64:=by
 have h1:=xp h;unfold Builtin.Int.intBits;split
 ·lia
 ·rename_i h0
  have :i.natAbs≠0:=by intro e;apply h0;simp;lia
  have :=(Nat.log2_lt this).mpr (show i.natAbs<2^60 by lia);lia
theorem FI:OpR G .Mult DO:=by
 intro A s φ a b r a' b' Q f hf d c k;refine dE hf d c (λi j t u e=>?_) λx y t u e=>nos e;obtain⟨hs,e⟩:=ifs e;cases e;rcases Iu.mp hs with h|h
 ·exact PyProof.Rows.mul_int (k _ _ ⟨_,rfl⟩) (IntMulOk.of_left (ma h))
 ·exact PyProof.Rows.mul_int (k _ _ ⟨_,rfl⟩) (IntMulOk.of_right (ma h))
variable{B:Den MF}{KZ:Expr}{T:MV->Den MF}{ty:String}
section
variable{prog:Program}{w:World}{A:Around}{s:Shared}
theorem nM{R:Result->Shared->Prop}{KN:Expr}{it:Value}(I:Nat->Shared->Prop)
  (i:∀n s,I n s->wpAny (model prog w) A (pyNext it) (λr c=>match r with
   |none=>R (.ok .next) c
   |some v=>wpAny (model prog w) A (letOwnedTupleGo KN it v) (λ_ e=>wpAny (model prog w) A (assign KN env v) (λ_ d=>wpAny (model prog w) A (execs body env) (λf a=>match f with
     |.next|.cont=>∃m,m<n/\I m a
     |.brk=>R (.ok .next) a
     |.ret v=>R (.ok (.ret v)) a) NoE d) NoE e) NoE c) NoE s)
  (n:Nat)(h:I n s):codeAny (model prog w) A (.forLoop KN it body [] env) R s:=by
 refine codeAny_loop' rfl I (λn s hI=>?_) n h;show wpAny _ _ ((forTurn KN it body [] env).onRaise (λx=>do noteFrame x env;theTreesLotGoes x)) _ _ s;refine wpAny_noted ?_;simp only[forTurn];refine lu (wpAny_standAt (lu (wpAny_onRaise (x5 (i n s hI) (λr c g=>?_) λ_ _ h'=>h'.elim))));cases r with
 |none=>exact p5 (.inr ⟨rfl,codeAny_block (wpAny_execs_nil g)⟩)
 |some v=>
  refine lu (x5 g (λ_ e h0a=>?_) λ_ _ h'=>h'.elim);refine lu (x5 h0a (λ_ d j=>lu (x5 j (λf a b=>?_) λ_ _ h'=>h'.elim)) λ_ _ h'=>h'.elim);cases f with
  |next=>exact p5 (.inl ⟨rfl,b⟩)
  |cont=>exact p5 (.inl ⟨rfl,b⟩)
  |brk=>exact p5 b
  |ret v=>exact p5 b
theorem lW{KN:Expr}{I:Addr}{v:Value}{o:Obj}{T:String}{Q:Unit->Shared->Prop}(b:s.heap.get? I=some o)(hc:o.cls=.type T)
    (hT:["enumerate","zip","dict_itemiterator","dict_reverseitemiterator","odict_iterator","itertools.zip_longest","itertools.pairwise"].contains T=false)(h:Q () s):wpAny (model prog w) A (letOwnedTupleGo KN (.ref I) v) Q NoE s:=by
  have key:wpAny (model prog w) A (do
    let(.ref r,.ref a):=(Value.ref I,v)|return
    let o<-load r
    match o.cls,o.data with
    |.type n,.fields vs=>
      if ["enumerate","zip","dict_itemiterator","dict_reverseitemiterator","odict_iterator","itertools.zip_longest","itertools.pairwise"].contains n&&vs[0]?==some (rawInt a)then
        rule "for.unpacks-the-owned-tuple"
        updateField r 0 .none
    |_,_=>pure ()) Q NoE s:=by
    cases v with
    |ref a=>
      refine lu (wpAny_load b ?_);obtain⟨oc,od,c,osl⟩:=o;obtain rfl:oc=_:=hc;cases c;case fields vs=>
        show wpAny _ _ (if(_&&_)=true then _ else _) _ _ _;rw[hT,Bool.false_and];exact p5 h
      all_goals exact p5 h
    |_=>exact p5 h
  cases KN;case Tuple=>exact key
  case List=>exact key
  all_goals exact p5 h
end
section
variable{G:Glo}{names:List Str}{φ:List Addr}{xs:List (Addr×Obj)}{st:LS}{h0a h h':Heap}{L I:Addr}{o:Obj}
theorem b7.addx(sim:b7 G names φ xs st h0a L h)(hf:o.isFreed=false):b7 G names φ ((h.objs.size,o)::xs) st h0a L (h.push o):=by
 obtain⟨m,objs,F,N,b,a,le,c⟩:=sim;refine⟨m,objs,F.push o,N.push F o hf,?_,a,le,c⟩;rw[rC,rx,hM];refine⟨λhm=>?_,b⟩;obtain⟨p,hp,e⟩:=nb.mp hm;exact absurd (ry (N p hp).1) (by rw[e];exact o4 _)
theorem b7.keepx(sim:b7 G names φ ((I,o)::xs) st h0a L h)(hk:∀b ob,b≠I->h.get? b=some ob->h'.get? b=some ob):
  b7 G names φ xs st h0a L h'/\∀o',h'.get? I=some o'->b7 G names φ ((I,o')::xs) st h0a L h':=by
 obtain⟨m,objs,F,N,f,d,le,g⟩:=sim;obtain⟨hI,hL,h0⟩:=N (I,o) (.head _);have j:Fr h0a L h' m:=⟨F.ns.at' λob e=>hk L ob (Ne.symm hL) e,λb ob e=>hk b ob (by rintro rfl;rw[h0]at e;cases e) (F.keep b ob e),F.above⟩;have a:=f;rw[rC,rx,hM]at a;have i:News h0a L h' (xs++φ.zip objs):=λp hp=>⟨hk _ _ (λe=>a.1 (nb.mpr ⟨p,hp,e⟩)) (N p (.tail _ hp)).1,(N p (.tail _ hp)).2⟩;refine⟨⟨m,objs,j,i,a.2,d,le,g⟩,λo' c=>⟨m,objs,j,?_,f,d,le,g⟩⟩;intro p hp;rcases l9.mp hp with rfl|hp
 ·exact⟨c,hL,h0⟩
 ·exact i p hp
theorem b7.atx(sim:b7 G names φ ((I,o)::xs) st h0a L h):h.get? I=some o:=by
 obtain⟨m,objs,F,N,b,a,le,c⟩:=sim;exact(N (I,o) (.head _)).1
end
section
variable{G:Glo}{sc:Scope}{names:List Str}{n:Nat}
def lM(G:Glo)(sc:Scope)(names:List Str)(n:Nat)(e:Expr)(T:MV->Den MF):Prop:=
 ∀(c:Cx G sc n)(st:LS)(w:St)(v:MV)(v':Value)(K:MF->LS->Prop)(Q:Unit->Shared->Prop),W c names st w->VR w.φ v v'->Wp (T v) st K->
  (∀f KG w',K f KG->Nx c names w KG w'->Q () w'.s)->wpAny G.M c.A (assign e c.env v') Q NoE w.s
theorem Hh{x:Str}{p:Pos}(lo:LocalsOk sc names)(c:Ix names x i):lM G sc names n (.Name x p) (cY i):=
 λ_ _ _ _ _ _ _ a b hd k=>JU (dL lo c a b λw' n'=>k _ _ w' (wK hd) n')
theorem IJ{p:Pos}(lo:LocalsOk sc names)(h:Tgts names ts is):lM G sc names n (.Tuple ts kk p) (gl is):=
 λ_ _ _ _ _ _ _ a b hd k=>oE lo h a b hd λKG w' q n'=>k _ KG w' q n'
def oF(F:Den MF)(f:MF):Den MF:=match f with
 |.next|.cont=>F
 |.brk=>bM .next
 |.ret v=>bM (.ret v)
noncomputable abbrev Cx.ax(c:Cx G sc n)(I:Addr)(o:Obj):Cx G sc n:={c with xs:=(I,o)::c.xs}
def Nw(w w':St):Prop:=w.φ<+:w'.φ/\Same w.s w'.s
theorem Nw.trans{a b d:St}(h:Nw a b)(h':Nw b d):Nw a d:=⟨h.1.trans h'.1,h.2.trans h'.2⟩
theorem Nx.nw{c:Cx G sc n}{w w':St}{st:LS}(h:Nx c names w st w'):Nw w w':=⟨h.pre,h.same⟩
theorem W.drop{c:Cx G sc n}{I:Addr}{o:Obj}{w:St}{st:LS}(h:W (c.ax I o) names st w):W c names st w:=⟨(h.1.keepx λ_ _ _ e=>e).1,h.2⟩
theorem q9{F:Den MF}{c:Cx G sc n}{I:Addr}{o:Obj}{w:St}{st:LS}{K:MF->LS->Prop}{J:Shared->Prop}{R:Result->Shared->Prop}
  (y:lM G sc names n KZ T)(hb:fD G sc names n body B)(q:W (c.ax I o) names st w)(hc:o.cls=.type ty)
  (hT:["enumerate","zip","dict_itemiterator","dict_reverseitemiterator","odict_iterator","itertools.zip_longest","itertools.pairwise"].contains ty=false)
  (t:VR w.φ v v')(hd:Wp (aG (T v) λ_=>aG B (oF F)) st K)
  (next:∀KG w',Nw w w'->W (c.ax I o) names KG w'->Wp F KG K->J w'.s)(stop:∀f KG w' p,K f KG->Nw w w'->W c names KG w'->FR w'.φ f p->R (.ok p) w'.s):
  wpAny G.M c.A (letOwnedTupleGo KZ (.ref I) v') (λ_ l=>wpAny G.M c.A (assign KZ c.env v') (λ_ k=>wpAny G.M c.A (execs body c.env) (λf h=>match f with
     |.next|.cont=>J h
     |.brk=>R (.ok .next) h
     |.ret v=>R (.ok (.ret v)) h) NoE k) NoE l) NoE w.s:=by
 refine lW q.1.atx hc hT (y (c.ax I o) st w v v' _ _ q t (wB hd) λg KD w1a j i=>hb (c.ax I o) KD w1a _ _ i.sim (wB j) λf KI d p a b e=>?_);have m:=(i.trans b).nw;cases f with
 |next=>cases e;exact next KI d m b.sim a
 |cont=>cases e;exact next KI d m b.sim a
 |brk=>cases e;exact stop _ _ d _ (wK a) m b.sim.drop rfl
 |ret u=>obtain⟨r,rfl,x⟩:=e;exact stop _ _ d _ (wK a) m b.sim.drop ⟨r,rfl,x⟩
def qI(T:MV->Den MF)(B:Den MF)(r:Nat):Nat->Nat->Den MF
 |0,_=>λ_=>none
 |N+1,i=>λst=>match st.mh[r]? with
  |some (.list items)=>match items[i]? with
   |none=>some (.next,st)
   |some v=>aG (T v) (λ_=>aG B (oF (qI T B r N (i+1)))) st
  |_=>none
theorem CK{r:Nat}{st:LS}{K:MF->LS->Prop}(h:Wp (qI T B r N i) st K):
  ∃M items,N=M+1/\st.mh[r]?=some (.list items)/\((items[i]?=none/\K .next st)\/∃v,items[i]?=some v/\Wp (aG (T v) λ_=>aG B (oF (qI T B r M (i+1)))) st K):=by
 obtain⟨f,s,e,q⟩:=h;cases N with
 |zero=>exact nos e
 |succ M=>
  unfold qI at e;revert e;cases hm:st.mh[r]? with
  |none=>intro e;exact nos e
  |some x=>
   cases x with
   |list items=>
    dsimp only;cases a:items[i]? with
    |none=>intro e;cases e;exact⟨M,items,rfl,rfl,.inl ⟨a,q⟩⟩
    |some v=>intro e;exact⟨M,items,rfl,rfl,.inr ⟨v,a,f,s,e,q⟩⟩
   |_=>intro e;exact nos e
def Di(T:MV->Den MF)(B:Den MF)(N:Nat)(a:MV):Den MF:=match a with
 |.ref r=>qI T B r N 0
 |_=>λ_=>none
theorem wX{c:Cx G sc n}{w:St}{r I:Nat}{o:Obj}{ad:Addr}{K:MF->LS->Prop}{R:Result->Shared->Prop}(ht:lM G sc names n KZ T)(hb:fD G sc names n body B)
  (nw:Nw w w1a)(D:VR w1a.φ (.ref r) (.ref ad))(sm:W (c.ax I o) names KD w1a)(oc:o.cls=.type "list_iterator")(od:o.data=.fields #[.ref ad,.int 0 0])(hd:Wp (qI T B r N 0) KD K)
  (k:∀f KG w' J,K f KG->Nx c names w KG w'->FR w'.φ f J->R (.ok J) w'.s):codeAny G.M c.A (.forLoop KZ (.ref I) body [] c.env) R w1a.s:=by
 refine nM (λE s'=>∃(i:Nat)(w':St)(KI:LS)(o:Obj),w'.s=s'/\Nw w w'/\VR w'.φ (.ref r) (.ref ad)/\W (c.ax I o) names KI w'/\o.cls=.type "list_iterator"/\o.data=.fields #[.ref ad,.int i 0]/\Wp (qI T B r E i) KI K)
  ?_ N ⟨0,w1a,KD,o,rfl,nw,D,sm,oc,od,hd⟩
 rintro E _ ⟨i,w',KI,o,rfl,nw,D,g,oc,od,hk⟩;obtain⟨E,H,rfl,V,m⟩:=CK hk;obtain⟨ak,vs',u,e',ai,x,y⟩:=bu g V D;cases e';have C:w'.s.heap.IsListIter I ad i:=⟨o,g.1.atx,oc,od⟩;rcases m with⟨hn,hk⟩|⟨v,hv,hk⟩
 ·refine wpAny_pyNext_list_end c.ok.hnd C ⟨_,x,rfl,u,rfl⟩ (by rw[<-yl,nh (y.len▸JK.mp hn)]) λh' Y=>?_
  exact k _ _ ⟨_,w'.φ⟩ _ hk ⟨nw.1,nw.2.trans .heap,(g.1.keepx λb ob hb e=>Y b ob hb e).1,g.2⟩ rfl
 ·obtain⟨v',O,rv⟩:=y.get hv
  refine wpAny_pyNext_list_item C ⟨_,x,rfl,u,rfl⟩ (by rw[<-yl];exact O) λh' z Q=>?_;obtain⟨o',U,t,L⟩:=z;refine q9 (c:=c) (I:=I) (o:=o') (w:=⟨{w'.s with heap:=h'},w'.φ⟩) ht hb ⟨(g.1.keepx λb ob hb e=>Q.extBut b ob hb e).2 o' U,g.2⟩ t (by decide+kernel) rv hk (λKW h a d l=>?_) λf KW h J q a d p=>?_
  ·exact⟨E,Ir _,i+1,h,KW,o',rfl,nw.trans ⟨a.1,(Same.heap (s:=w'.s)).trans a.2⟩,D.mono a.1,d,t,L,l⟩
  ·have j:=nw.trans ⟨a.1,(Same.heap (s:=w'.s)).trans a.2⟩
   exact k f KW h J q ⟨j.1,j.2,d⟩ p
theorem C7{iter:Expr}(h:∀env x,foldedSetIterable iter env x=pure x)(l:lM G sc names n KZ T)(o:SemE G sc names n iter d)(hb:fD G sc names n body B):
  fO G sc names n (.For KZ iter body [] pos) (aG d (Di T B N)):=by
 intro c st w K Q i hd k;refine wpAny_For (o c st w _ _ i (wB hd) λa KD w1a a' f b g=>?_) (λx=>h c.env x);cases a with
 |ref r=>
  obtain⟨M,items,rfl,hm,_⟩:=CK f;obtain⟨ad,vs,j,rfl,ha,m,hl⟩:=bu b.sim hm g;exact wpAny_pyIter_list (items:=vs) ⟨_,m,rfl,j,rfl⟩ (wX (w:=w) (w1a:=⟨_,w1a.φ⟩) l hb ⟨b.pre,b.same.trans .heap⟩ g ⟨b.sim.1.addx rfl,b.sim.2⟩ rfl rfl f k)
 |_=>obtain⟨_,_,e,_⟩:=f;exact nos e
end
variable{Sa:Nat->Heap->Prop}{I:Addr}
def wl(T:MV->Den MF)(B:Den MF):List MV->Den MF
 |[]=>bM .next
 |v::l=>aG (T v) λ_=>aG B (oF (wl T B l))
theorem oZ{st:LS}{K:MF->LS->Prop}{o:Obj}
  {P:Nat->Value->Prop}{R:Result->Shared->Prop}(ht:lM G sc names n KZ T)(hb:fD G sc names n body B)
  (U:Walks G.prog G.w c.A I [I] [I] items.length P Sa)(hP:∀i v,i<items.length->P i v->∃z,items[i]?=some z/\∀φ,VR φ z v)(O:∀i h,Sa i h->∃o,h.get? I=some o/\o.cls=.type ty)
  (hT:["enumerate","zip","dict_itemiterator","dict_reverseitemiterator","odict_iterator","itertools.zip_longest","itertools.pairwise"].contains ty=false)
  (V:W (c.ax I o) names st w)(h0:Sa 0 w.s.heap)(hd:Wp (wl T B items) st K)
  (k:∀f KG w' C,K f KG->Nx c names w KG w'->FR w'.φ f C->R (.ok C) w'.s):codeAny G.M c.A (.forLoop KZ (.ref I) body [] c.env) R w.s:=by
 refine nM (λE Y=>∃(i:Nat)(w':St)(KI:LS)(o:Obj),w'.s=Y/\E+i=items.length/\Nw w w'/\W (c.ax I o) names KI w'/\Sa i w'.s.heap/\Wp (wl T B (items.drop i)) KI K)
  ?_ items.length ⟨0,w,st,o,rfl,rfl,⟨la,.rfl⟩,V,h0,hd⟩
 rintro E _ ⟨i,w',KI,o,rfl,ae,nw,j,hst,hk⟩;by_cases l:i<items.length
 ·refine dU (ep _) (U.item i w'.s _ _ l hst λv h' tk Q p J r=>?_)
  obtain⟨z,H,rv⟩:=hP i v l Q;have u:items.drop i=z::items.drop (i+1):=by
   rw[e9 l];congr 1;exact ec ((fg l).symm.trans H)
  rw[u]at hk;obtain⟨o',y,D⟩:=O _ _ p;refine q9 (c:=c) (I:=I) (o:=o') (w:=⟨{w'.s with heap:=h',toks:=tk},w'.φ⟩) ht hb ⟨(j.1.keepx λb ob hb e=>J b ob (by simpa using hb) e).2 o' y,ml j.2 r⟩ D hT (rv _) hk (λKW g d a t=>?_) λf KW g C q d a x=>?_
  ·refine⟨E-1,by lia,i+1,g,KW,o',rfl,by lia,nw.trans ⟨d.1,(Same.heap (s:=w'.s)).trans d.2⟩,a,U.frame _ _ _ p λb hb ob e=>?_,t⟩
   have hb:b=I:=by simpa using hb
   subst hb;rw[y]at e;rw[<-e];exact a.1.atx
  ·have m:=nw.trans ⟨d.1,(Same.heap (s:=w'.s)).trans d.2⟩
   exact k f KW g C q ⟨m.1,m.2,a⟩ x
 ·have L:i=items.length:=by lia
  subst L;rw[pa]at hk;refine dU (ep _) (U.done w'.s _ _ hst λh' tk N r=>?_);exact k _ _ ⟨_,w'.φ⟩ _ (wK hk) ⟨nw.1,nw.2.trans .heap,(j.1.keepx λb ob hb e=>N b ob (by simpa using hb) e).1,ml j.2 r⟩ rfl
noncomputable def dH(l:List Nat):List MV:=l.map λc=>.str [c]
def Cd(T:MV->Den MF)(B:Den MF)(a:MV):Den MF:=match a with
 |.str l=>wl T B (dH l)
 |_=>λ_=>none
theorem gn{v:Value}(h:SignAt ⟨l.toArray⟩ i v):∃a,(dH l)[i]?=some a/\∀φ,VR φ a v:=by
 obtain⟨c,u,hc,rfl⟩:=h;have :l[i]?=some c:=by simpa using hc
 exact⟨.str [c],by simp[dH,this],λφ=>⟨u,rfl⟩⟩
theorem C6{iter:Expr}(u:∀env x,foldedSetIterable iter env x=pure x)(y:lM G sc names n KZ T)(A:SemE G sc names n iter d)(hb:fD G sc names n body B):
  fO G sc names n (.For KZ iter body [] pos) (aG d (Cd T B)):=by
 intro c st w K Q z hd k;refine wpAny_For (A c st w _ _ z (wB hd) λa KD w1a a' g b m=>?_) (λx=>u c.env x);cases a with
 |str l=>
  obtain⟨t,rfl⟩:=m;have j:(⟨l.toArray⟩:Str).cps.size=(dH l).length:=by simp[dH]
  have v:∀{o:Obj},Nw w ⟨{w1a.s with heap:=w1a.s.heap.push o},w1a.φ⟩:=⟨b.pre,b.same.trans .heap⟩;have fin:∀{o:Obj}(f:MF)(KG:LS)(w':St)(p:Flow),K f KG->Nx c names ⟨{w1a.s with heap:=w1a.s.heap.push o},w1a.φ⟩ KG w'->FR w'.φ f p->Q p w'.s:=λf KG w' p q n' r=>k f KG w' p q ⟨(v.trans n'.nw).1,(v.trans n'.nw).2,n'.sim⟩ r;cases ha:(⟨l.toArray⟩:Str).cps.all (·<128)
  ·exact wpAny_pyIter_wide ha (oZ (w:=⟨_,w1a.φ⟩) (ty:="str_iterator") y hb (j▸Walks.strWide c.ok.hnd w1a.s.heap.objs.size _ t) (λ_ _ _ h=>gn h) (λi h ⟨o,h1,h2,_⟩=>⟨o,h1,h2⟩) (by decide+kernel) ⟨b.sim.1.addx rfl,b.sim.2⟩ ⟨_,Jr _ rfl,rfl,rfl⟩ g fin)
  ·exact wpAny_pyIter_ascii ha (oZ (w:=⟨_,w1a.φ⟩) (ty:="str_ascii_iterator") y hb (j▸Walks.strAscii c.ok.hnd w1a.s.heap.objs.size _ t) (λ_ _ _ h=>gn h) (λi h ⟨o,h1,h2,_⟩=>⟨o,h1,h2⟩) (by decide+kernel) ⟨b.sim.1.addx rfl,b.sim.2⟩ ⟨_,Jr _ rfl,rfl,rfl⟩ g fin)
 |_=>obtain⟨_,_,e,_⟩:=g;exact nos e
open PySem PySem.W PySem.Calls PyProof.Rows PySem.NumText
noncomputable def cD(c:Nat):Bool:=(decide (48<=c)&&decide (c<=57))||(decide (97<=c)&&decide (c<=102))||(decide (65<=c)&&decide (c<=70))
noncomputable def jR(c:Nat):Nat:=if c<=57 then c-48 else if c<=70 then c-55 else c-87
noncomputable def di(l:List Nat):Nat:=l.foldl (λKQ c=>KQ*16+jR c) 0
theorem gR{c:Nat}(h:cD c=true):digit? c=some (jR c)/\jR c<16/\blank c=false/\c≠45/\c≠43/\c≠95/\c≠120/\c≠88/\c<128/\c≠0:=by
 unfold cD at h;simp only[ll,fi,s3]at h;have hb:blank c=false:=by unfold blank;simp;lia
 refine⟨?_,?_,hb,by lia,by lia,by lia,by lia,by lia,by lia,by lia⟩
 ·unfold digit? jR
  simp only[fi,s3];rcases h with(h|h)|h
  ·rw[dt h,dt h.2]
  ·rw[cw (by lia),dt (by lia),cw (by lia),cw (by lia)]
  ·rw[cw (by lia),cw (by lia),dt (by lia),cw (by lia),dt (by lia)]
 ·unfold jR;split
  ·lia
  ·split<;>lia
theorem vU:∀(l:List Nat)(ds:Array Nat)(b:Bool),l.all cD=true->l.foldlM (NumText.step 16) (ds,b)=some (ds++(l.map jR).toArray,b||!l.isEmpty)
 |[],ds,b,_=>by simp
 |c::l,ds,b,h=>by
  simp only[s6,fi]at h;obtain⟨h1,h2,_,_,_,a,_⟩:=gR h.1;have hs:NumText.step 16 (ds,b) c=some (ds.push (jR c),true):=by
   unfold NumText.step;rw[show(c==95)=false by simp[a]];simp[h1,h2]
  rw[List.foldlM_cons,hs];show List.foldlM (NumText.step 16) (ds.push (jR c),true) l=_;rw[vU l _ _ h.2];simp
theorem re:∀{l:List Nat},l.all cD=true->l.dropWhile blank=l
 |[],_=>rfl
 |c::l,h=>by
  simp only[s6,fi]at h;rw[List.dropWhile_cons,(gR h.1).2.2.1];rfl
theorem CU:∀{l:List Nat},l.all cD=true->l.takeWhile (· !=0)=l
 |[],_=>rfl
 |c::l,h=>by
  simp only[s6,fi]at h;rw[Jb,show(c !=0)=true by simpa using(gR h.1).2.2.2.2.2.2.2.2.2];simp only[I0];rw[CU h.2]
theorem Bg:∀{l:List Nat},l.all cD=true->sign l=(false,l)
 |[],_=>rfl
 |c::l,h=>by
  simp only[s6,fi]at h;obtain⟨_,_,_,h4,b,_⟩:=gR h.1;unfold sign;split
  ·rename_i a;exact absurd (f4 a).1 h4
  ·rename_i a;exact absurd (f4 a).1 b
  ·rfl
theorem wi(h:l.all cD=true){p:Nat}(hp:prefix? l=some p):p≠16:=by
 unfold prefix? at hp;split at hp
 ·rename_i c r
  simp only[s6,fi]at h;obtain⟨_,_,_,_,_,_,b,a,_⟩:=gR h.2.1;rw[show(c==120||c==88)=false by simp[b,a]]at hp;simp only[Bool.false_eq_true,if_false]at hp;split at hp
  ·cases hp;decide
  ·split at hp
   ·cases hp;decide
   ·cases hp
 ·cases hp
theorem y8(h:l.all cD=true):based 16 l=(16,false,l):=by
 unfold based;split
 ·rename_i p hp
  have a:((16:Nat)==0||(16:Nat)==p)=false:=ra.mpr ⟨rfl,o1.mpr λe=>wi h hp e.symm⟩;rw[a];rfl
 ·rfl
theorem BB(hl:l.all cD=true)(a:l≠[]):(int_private%"readNumeral") 0 16 l=(int_private%"Numeral.value") (di l:Int):=by
 rw[readNumeral_eq,re hl,Bg hl];dsimp only;rw[y8 hl];dsimp only;have b:l.reverse.all cD=true:=by rw[List.all_reverse];exact hl
 rw[re b,JY];have hd:digits? 16 l=some (l.map jR).toArray:=by
  unfold digits?;rw[vU l _ _ hl];cases l with
  |nil=>exact absurd rfl a
  |cons c l=>simp
 rw[hd];unfold judge;have e:((l.map jR).toArray.foldl (λKQ d=>KQ*16+d) 0)=di l:=by
  unfold di;rw[List.foldl_toArray,List.foldl_map]
 exact(cw (by simp)).trans ((cw (by simp)).trans (by rw[e];rfl))
theorem vo{M:Model}{Q:Value->Shared->Prop}{v:Value}{text:List Nat}{n:Int}
  (a:text.takeWhile (· !=0)=text)(hs:text.length<=640)(b:(int_private%"readNumeral") 0 16 text=(int_private%"Numeral.value") n)(h:Q (.int n s.toks) {s with toks:=s.toks+1}):
  wpAny M A ((int_private%"intFromText") v text 16) Q E s:=by
 obtain⟨hp,g,d,tk,os⟩:=s;rw[<-a]at hs b;have ha:((text.takeWhile (· !=0)).length==text.length)=true:=by rw[a];simp
 clear a;repeat(any_goals(first
  |assumption
  |(with_reducible refine Jh (g6 hs) ?_)
  |(with_reducible refine Jh (g6 ha) ?_)
  |wp_step))
 all_goals(try rw[b])
 all_goals(try dsimp only)
 repeat(any_goals(first
  |assumption
  |(with_reducible refine Jh (g6 hs) ?_)
  |(with_reducible refine Jh (g6 ha) ?_)
  |wp_step))
theorem gives_hex{x:PySem.Str}{u v:Tok}{n:Int}(a:x.cps.all (·<128)=true)(b:x.cps.toList.takeWhile (· !=0)=x.cps.toList)(hl:x.cps.toList.length<=640)(e:(int_private%"readNumeral") 0 16 x.cps.toList=(int_private%"Numeral.value") n):
  Gives (Builtin.«int.__new__» ⟨[.type "int",.str x u,.int 16 v],[]⟩) (.int n):=by
 refine .of_wp λM A E s Q h=>?_;obtain⟨hp,g,d,tk,os⟩:=s;have j:=F.conv_sub_int;have i:=F.madeHere_int;have f:typeOf (.str x u)=pure (.type "str"):=rfl;have hk:=PySem.W.KIN.Hid.mk (And.intro (And.intro a b) (And.intro hl e));clear a b hl e;have c:∀{M:Model}{A:Around}{E:Value->Shared->Prop}{s:Shared}{Q:Value->Shared->Prop}{v:Value},Q (.int n s.toks) {s with toks:=s.toks+1}->wpAny M A ((int_private%"intFromText") v (if(x.cps.all λx=>decide (x<128))=true then x.cps.toList else Unicode.numberText x.cps.toList) (Int.toNat 16)) Q E s:=by
  rw[dt hk.out.1.1];intro M A E s Q v hq;exact vo hk.out.1.2 hk.out.2.1 hk.out.2.2 hq
 repeat(any_goals(first
  |assumption
  |((with_reducible show wpAny _ _ ((int_private%"intFromText") _ _ _) _ _ _);refine c ?_)
  |wp_step))
 all_goals exact⟨_,rfl,h⟩
theorem mR(a b:Value):checkTypeCall "int" ⟨[a,b],[]⟩=pure ():=by kernel_rfl
theorem nu(a b:Value):checkBuiltinCall "int.__new__" ⟨[.type "int",a,b],[]⟩=pure ():=by kernel_rfl
def qC(_:List MO):List MV->Option MV:=uM λa b=>onStr (λl=>j8 (λb=>if b=16/\l.all cD=true/\1<=l.length/\l.length<=640 then some (.int (di l:Int))else none) b) a
theorem AF:np G (.type "int") qC:=by
 intro n sc names c st w vs r h Q i j hs k;refine fV hs j λx y o m e hx hy=>bj e hx λl t e=>dO e hy λb u e=>?_;obtain⟨⟨rfl,hx,f,d⟩,e2⟩:=ifs e;cases e2;have a:(⟨l.toArray⟩:Str).cps.all (·<128)=true:=by
  rw[List.all_toArray]<;>try rfl
  rw[gb];intro c hc;have :=(gR (gb.mp hx c hc)).2.2.2.2.2.2.2.2.1;simpa using this
 have g:=gives_hex (u:=t) (v:=u) (n:=(di l:Int)) a (by rw[dK];exact CU hx) (by rw[dK];exact d) (by rw[dK];exact BB hx (by rintro rfl;simp at f));exact callType_new F.called_int F.newNe_int (mR _ _) (nu _ _) (λobj=>F.args_object_init_3 obj _ _) F.entry_int_new g.meets ⟨typeIs_int _ _ _,k ⟨_,w.φ⟩ _ i.nx.tk1 ⟨_,rfl⟩⟩
variable{Kc:Den MV}{g:List MO->MV->MV->Option Bool}
def qT(f g:List MO->MV->MV->Option Bool)(KM KJ Kc:Den MV):Den Bool:=aG KM λa=>aG KJ λb=>aG (jQ f a b) λt=>match t with
 |true=>aG Kc λc=>jQ g b c
 |false=>λst=>some (false,st)
theorem Gp{m j:CmpOp}{l i h:Expr}(z:gE G m f)(y:gE G j g)(N:SemE G sc names n l KM)(M:SemE G sc names n i KJ)(L:SemE G sc names n h Kc)
  (hm:lastMarks [m,j] [i,h]=false):SemT G sc names n (.Compare l [m,j] [i,h] pos) (qT f g KM KJ Kc):=by
 intro c st w K Q T hd k;refine isTrue_chain (N c st w _ _ T (wB hd) λa KD w1a a' C v i=>test_link (M c KD w1a _ _ v.sim (wB C) λb KI H b' B q h=>?_)) hm;obtain⟨t,e,s⟩:=wO (g:=λst=>f st.mh a b) (wB B);refine z n sc names c KI H a b t a' b' _ q.sim e (i.mono q.pre) h λu p=>xt ?_;have O:=(v.trans q).trans p;cases t with
 |false=>exact k _ _ u (wK s) O
 |true=>
  refine test_last (L c KI u _ _ p.sim (wB s) λd x E U A o I=>?_);obtain⟨r,e,hk⟩:=wO (g:=λst=>g st.mh b d) A;exact y n sc names c x E b d r b' U _ o.sim e (h.mono (p.trans o).pre) I λD J=>xt (k r _ D hk ((O.trans o).trans J))
theorem wn{r:Nat}(hm:mh[r]?=some (.tuple items))(hl:items.length=is.length)(h:gq is items ρ=K6):Ev (gl is (.ref r)) ⟨ρ,mh⟩ .next ⟨K6,mh⟩:=by
 unfold Ev gl;simp only[hm,hl,I0,h]
theorem wNo{st:LS}{K:α->LS->Prop}{P:Prop}(h:Wp (λ_=>none) st K):P:=by
 obtain⟨_,_,e,_⟩:=h;cases e
def FM(d:Den MV):Den MV:=aG d λa=>aG (gm a) λb=>aj (.bool (!b))
theorem IN{e:Expr}(h:SemE G sc names n e d):SemE G sc names n (.UnaryOp .Not e pos) (FM d):=by
 intro c st w K Q o hd k;refine UnaryOp_ (h c st w _ _ o (wB hd) λa KD w1a a' i f l=>not_of ?_);obtain⟨b,e,hk⟩:=wO (g:=λst=>iM st.mh a) (wB i);exact iL f.sim l e λj m=>k _ _ j _ (wK hk) (f.trans m) rfl
variable{r:List Nat}
theorem dX(l:List Nat)(c a:Nat):bQ l [c] a=((l.drop a).head?==some c):=by
 unfold bQ;cases h:l.drop a with
 |nil=>simp
 |cons d r=>
  have hl:=ed List.length h;simp at hl;have :a+1<=l.length:=by lia
  simp[this]
theorem b9(l:List Nat)(c d a:Nat):bQ l [c,d] a=((l.drop a).head?==some c&&(l.drop (a+1)).head?==some d):=by
 unfold bQ;have h1:l.drop (a+1)=(l.drop a).drop 1:=by rw[eo]
 rw[h1];cases h:l.drop a with
 |nil=>simp
 |cons e r=>
  have hl:=ed List.length h;simp at hl;cases r with
  |nil=>simp
  |cons f q=>
   have :a+2<=l.length:=by simp at hl;lia
   simp[this]
theorem aM{c:Nat}(h:l.drop a=c::r):l.drop (a+1)=r/\a<l.length:=by
 have h1:l.drop (a+1)=(l.drop a).drop 1:=by rw[eo]
 have hl:=ed List.length h;simp at hl;exact⟨by rw[h1,h];rfl,by lia⟩
variable{Φ:Spec->Prop}{QU:Unit->LS->Prop}{xs:List MV}
def Got{α:Type}(o:Option α)(Q:α->Prop):Prop:=∃a,o=some a/\Q a
theorem ah{α:Type}{o:Option α}{a:α}{Q:α->Prop}(h:o=some a)(q:Q a):Got o Q:=⟨a,h,q⟩
def bG{α β:Type}(o:Option (α×β))(Q:α->β->Prop):Prop:=∃a b,o=some (a,b)/\Q a b
theorem cB{α β:Type}{o:Option (α×β)}{a:α}{b:β}{Q:α->β->Prop}(h:o=some (a,b))(q:Q a b):bG o Q:=⟨a,b,h,q⟩
theorem aE{α β:Type}{o:Option (α×β)}{Q Q':α->β->Prop}(h:bG o Q')(q:∀a b,Q' a b->Q a b):bG o Q:=let⟨a,b,e,h⟩:=h;⟨a,b,e,q a b h⟩
section
variable{α β:Type}{st KD:LS}{b c:Bool}{u v w r:MV}{ρ K6:List (Option MV)}{mh:List MO}{Q:α->LS->Prop}{QV:MV->LS->Prop}{QF:MF->LS->Prop}{QB:Bool->LS->Prop}{QL:List MV->LS->Prop}
def kB(f:β->Den α)(Q:α->LS->Prop):β->LS->Prop:=λa s=>Wp (f a) s Q
def kS(d:Den MF)(Q:MF->LS->Prop):MF->LS->Prop:=λf s=>Wp (goD f d) s Q
def kI(x y:Den α)(Q:α->LS->Prop):Bool->LS->Prop:=λb s=>Wp (jP b x y) s Q
def kD(f:List MO->MV->MV->Option Bool)(u:MV)(Q:Bool->LS->Prop):MV->LS->Prop:=λv s=>Wp (jQ f u v) s Q
def kC(f:List MO->MV->MV->Option Bool)(d:Den MV)(Q:Bool->LS->Prop):MV->LS->Prop:=λu s=>Wp d s (kD f u Q)
def kM(f:MV->MV->Option MV)(u:MV)(Q:MV->LS->Prop):MV->LS->Prop:=λv s=>Wp (ef f u v) s Q
def kN(f:MV->MV->Option MV)(d:Den MV)(Q:MV->LS->Prop):MV->LS->Prop:=λu s=>Wp d s (kM f u Q)
def kV(v:MV)(Q:List MV->LS->Prop):List MV->LS->Prop:=λvs s=>Q (v::vs) s
def kL(ds:Den (List MV))(Q:List MV->LS->Prop):MV->LS->Prop:=λv s=>Wp ds s (kV v Q)
def kA(ds:List (Den Bool))(Q:Bool->LS->Prop):Bool->LS->Prop:=λb s=>Wp (sO b ds) s Q
def kO(ds:List (Den Bool))(Q:Bool->LS->Prop):Bool->LS->Prop:=λb s=>Wp (orK b ds) s Q
def pO(Q:α->LS->Prop)(s:LS):α->Prop:=λa=>Q a s
def pM(Q:α->LS->Prop)(ρ:List (Option MV)):α->List MO->Prop:=λa mh=>Q a ⟨ρ,mh⟩
theorem uU{d:Den α}{a:α}(h:Ev d st a KD)(q:Q a KD):Wp d st Q:=⟨a,KD,h,q⟩
theorem aQ{d:Den α}{Q':α->LS->Prop}(h:Wp d st Q')(q:∀a KG,Q' a KG->Q a KG):Wp d st Q:=Eo h q
theorem aq{d:Den β}{f:β->Den α}(h:Wp d st (kB f Q)):Wp (aG d f) st Q:=by
 obtain⟨a,s,e,a',b,c,q⟩:=h;exact⟨a',b,by unfold aG;rw[e];exact c,q⟩
theorem Ab{a:α}(q:Q a st):Wp (λst=>some (a,st)) st Q:=⟨a,st,rfl,q⟩
theorem eU(q:QV v st):Wp (aj v) st QV:=⟨v,st,rfl,q⟩
theorem dT{f:MF}(q:QF f st):Wp (bM f) st QF:=⟨f,st,rfl,q⟩
theorem iK(h:At ρ i v)(q:QV v ⟨ρ,mh⟩):Wp (bF i) ⟨ρ,mh⟩ QV:=uU (Do h) q
theorem eT(h:Put ρ i v K6)(q:QF .next ⟨K6,mh⟩):Wp (cY i v) ⟨ρ,mh⟩ QF:=uU (zP h) q
theorem Cv{KM KJ:Den MF}(h:Wp KM st (kS KJ QF)):Wp (fq KM KJ) st QF:=by
 obtain⟨f,s,e,g,a,b,q⟩:=h;exact⟨g,a,Dk e b,q⟩
theorem Gc{d:Den MF}(h:Wp d st QF):Wp (fq d (bM .next)) st QF:=Cv (aQ h λf s q=>by cases f<;>exact⟨_,_,rfl,q⟩)
theorem CJ{d:Den MF}(h:Wp d st QF):Wp (goD .next d) st QF:=h
theorem EJ{d:Den MF}(q:QF (.ret v) st):Wp (goD (.ret v) d) st QF:=⟨_,_,rfl,q⟩
theorem EK{d:Den MF}(q:QF .brk st):Wp (goD .brk d) st QF:=⟨_,_,rfl,q⟩
theorem Cw{d:Den MF}(q:QF .cont st):Wp (goD .cont d) st QF:=⟨_,_,rfl,q⟩
theorem H4{t:Den Bool}{x y:Den α}(h:Wp t st (kI x y Q)):Wp (ifD t x y) st Q:=by
 obtain⟨b,s,e,g,a,c,q⟩:=h;exact⟨g,a,Ft e c,q⟩
theorem aI{x y:Den α}(c:b=true->Wp x st Q)(a:b=false->Wp y st Q):Wp (jP b x y) st Q:=by
 cases b
 ·exact a rfl
 ·exact c rfl
theorem wp_pick_t{x y:Den α}(hb:b=true)(h:Wp x st Q):Wp (jP b x y) st Q:=by subst hb;exact h
theorem wp_pick_f{x y:Den α}(hb:b=false)(h:Wp y st Q):Wp (jP b x y) st Q:=by subst hb;exact h
theorem xP(h:Wp KM st (kC f KJ QB)):Wp (gZ f KM KJ) st QB:=aq (aQ h λ_ _ q=>aq q)
theorem xS{f:MV->MV->Option MV}(h:Wp KM st (kN f KJ QV)):Wp (lJ f KM KJ) st QV:=aq (aQ h λ_ _ q=>aq q)
theorem uT{f:MV->MV->Option MV}(h:Got (f u v) (pO QV st)):Wp (ef f u v) st QV:=by
 obtain⟨r,e,q⟩:=h;exact⟨r,st,Bq e,q⟩
theorem qd(h:Got (f mh u v) (pO QB ⟨ρ,mh⟩)):Wp (jQ f u v) ⟨ρ,mh⟩ QB:=by
 obtain⟨r,e,q⟩:=h;exact⟨r,_,by unfold jQ;rw[e];rfl,q⟩
theorem qh{mh:List MO}{ρ:List (Option MV)}{Q:α->LS->Prop}{v:MV}{f:MV->Den α}(h:At ρ i v)(q:Wp (f v) ⟨ρ,mh⟩ Q):Wp (aG (bF i) f) ⟨ρ,mh⟩ Q:=aq (iK h q)
theorem Ej{f:MV->Den α}(q:Wp (f v) st Q):Wp (aG (aj v) f) st Q:=aq (eU q)
theorem Cu{mh:List MO}{ρ:List (Option MV)}{QF:MF->LS->Prop}{v:MV}{KJ:Den MF}{K6:List (Option MV)}(h:Put ρ i v K6)(q:Wp KJ ⟨K6,mh⟩ QF):Wp (cY i v) ⟨ρ,mh⟩ (kS KJ QF):=eT h (CJ q)
theorem EL{KJ:Den MF}(q:Wp KJ st QF):Wp (bM .next) st (kS KJ QF):=dT (CJ q)
theorem Gj{d:Den Bool}(h:Wp d st λb s=>QV (.bool b) s):Wp (sK d) st QV:=aq (aQ h λ_ _ q=>eU q)
theorem Gg(h:Got (d3 mh u v) (pO QV ⟨ρ,mh⟩)):Wp (lZ u v) ⟨ρ,mh⟩ QV:=by
 obtain⟨r,e,q⟩:=h;exact⟨r,_,Br e,q⟩
theorem Gh(h:Got (gW u v w) (pO QV st)):Wp (cutD u v w) st QV:=by
 obtain⟨r,e,q⟩:=h;exact⟨r,st,Dp e,q⟩
theorem Ea(h:Got (iM mh v) (pO QB ⟨ρ,mh⟩)):Wp (gm v) ⟨ρ,mh⟩ QB:=by
 obtain⟨r,e,q⟩:=h;exact⟨r,_,zO e,q⟩
theorem vm(h:Got (jY mh v) (pO QB ⟨ρ,mh⟩)):Wp (dk v) ⟨ρ,mh⟩ QB:=by
 obtain⟨r,e,q⟩:=h;exact⟨r,_,wp e,q⟩
theorem HJ{f:List MO->List MV->Option MV}(h:Got (f mh vs) (pO QV ⟨ρ,mh⟩)):Wp (ka f vs) ⟨ρ,mh⟩ QV:=by
 obtain⟨r,e,q⟩:=h;exact⟨r,_,Dr e,q⟩
theorem Ae{f:Spec}(h:bG (f vs mh) (pM QV ρ)):Wp (cp f vs) ⟨ρ,mh⟩ QV:=by
 obtain⟨r,KA,e,q⟩:=h;exact⟨r,_,Bs e,q⟩
theorem vp{f:List MO->List MV->Option MV}(h:Got (f mh vs) (pO QV ⟨ρ,mh⟩)):Wp (cp (dI f) vs) ⟨ρ,mh⟩ QV:=by
 obtain⟨r,e,q⟩:=h;exact Ae ⟨r,mh,by unfold dI;rw[e];rfl,q⟩
theorem pJ(h:Wp d st (kL ds QL)):Wp (dF d ds) st QL:=by
 obtain⟨v,s,e,vs,a,b,q⟩:=h;exact⟨_,a,vZ e b,q⟩
theorem xH(q:QL [] st):Wp (λst=>some (([]:List MV),st)) st QL:=⟨_,_,rfl,q⟩
theorem HG{f:List MV->MO}(h:vs.length<=16777216)(q:QV (.ref mh.length) ⟨ρ,mh++[f vs]⟩):Wp (tG f vs) ⟨ρ,mh⟩ QV:=uU (Dm h) q
theorem xM{mh:List MO}{ρ:List (Option MV)}{QL:List MV->LS->Prop}{v:MV}(h:At ρ i v)(q:Wp ds ⟨ρ,mh⟩ (kV v QL)):Wp (dF (bF i) ds) ⟨ρ,mh⟩ QL:=pJ (iK h q)
theorem xN(q:Wp ds st (kV v QL)):Wp (dF (aj v) ds) st QL:=pJ (eU q)
theorem Ei{mh:List MO}{ρ:List (Option MV)}{QB:Bool->LS->Prop}{u v:MV}(h:At ρ i u)(q:Got (f mh u v) (pO QB ⟨ρ,mh⟩)):Wp (gZ f (bF i) (aj v)) ⟨ρ,mh⟩ QB:=xP (iK h (eU (qd q)))
theorem Eh{mh:List MO}{ρ:List (Option MV)}{QB:Bool->LS->Prop}{u v:MV}(h:At ρ i u)(a:At ρ j v)(q:Got (f mh u v) (pO QB ⟨ρ,mh⟩)):Wp (gZ f (bF i) (bF j)) ⟨ρ,mh⟩ QB:=xP (iK h (iK a (qd q)))
theorem El{mh:List MO}{ρ:List (Option MV)}{QV:MV->LS->Prop}{f:MV->MV->Option MV}{u v:MV}(h:At ρ i u)(q:Got (f u v) (pO QV ⟨ρ,mh⟩)):Wp (lJ f (bF i) (aj v)) ⟨ρ,mh⟩ QV:=xS (iK h (eU (uT q)))
theorem Ek{mh:List MO}{ρ:List (Option MV)}{QV:MV->LS->Prop}{f:MV->MV->Option MV}{u v:MV}(h:At ρ i u)(a:At ρ j v)(q:Got (f u v) (pO QV ⟨ρ,mh⟩)):Wp (lJ f (bF i) (bF j)) ⟨ρ,mh⟩ QV:=xS (iK h (iK a (uT q)))
theorem Gm{d:Den Bool}{ds:List (Den Bool)}(h:Wp d st (kA ds QB)):Wp (gh (d::ds)) st QB:=by
 obtain⟨b,s,e,c,a,f,q⟩:=h;exact⟨_,a,Bt e f,q⟩
theorem HD{d:Den Bool}{ds:List (Den Bool)}(h:Wp d st (kO ds QB)):Wp (q7 (d::ds)) st QB:=by
 obtain⟨b,s,e,c,a,f,q⟩:=h;exact⟨_,a,Dl e f,q⟩
theorem wp_andK_nil(q:QB b st):Wp (sO b []) st QB:=⟨_,_,r5,q⟩
theorem wp_orK_nil(q:QB b st):Wp (orK b []) st QB:=⟨_,_,tV,q⟩
theorem wp_andK_t{ds:List (Den Bool)}(hb:b=true)(h:Wp (gh ds) st QB):Wp (sO b ds) st QB:=by subst hb;exact h
theorem wp_andK_f{ds:List (Den Bool)}(hb:b=false)(q:QB false st):Wp (sO b ds) st QB:=by
 subst hb;exact⟨_,_,rfl,q⟩
theorem wp_orK_f{ds:List (Den Bool)}(hb:b=false)(h:Wp (q7 ds) st QB):Wp (orK b ds) st QB:=by subst hb;exact h
theorem wp_orK_t{ds:List (Den Bool)}(hb:b=true)(q:QB true st):Wp (orK b ds) st QB:=by subst hb;exact⟨_,_,rfl,q⟩
theorem gj{ds:List (Den Bool)}(c:b=true->Wp (gh ds) st QB)(a:b=false->QB false st):Wp (sO b ds) st QB:=by
 cases b
 ·exact wp_andK_f rfl (a rfl)
 ·exact c rfl
theorem sV{ds:List (Den Bool)}(c:b=true->QB true st)(a:b=false->Wp (q7 ds) st QB):Wp (orK b ds) st QB:=by
 cases b
 ·exact a rfl
 ·exact wp_orK_t rfl (c rfl)
theorem wp_orK_all{ds:List (Den Bool)}(h:Wp (q7 ds) st λc s=>s=st/\QB (b||c) st):Wp (orK b ds) st QB:=by
 obtain⟨c,s,e,rfl,q⟩:=h;cases b
 ·exact⟨c,_,e,q⟩
 ·exact wp_orK_t rfl (by simpa using q)
theorem wp_andK_all{ds:List (Den Bool)}(h:Wp (gh ds) st λc s=>s=st/\QB (b&&c) st):Wp (sO b ds) st QB:=by
 obtain⟨c,s,e,rfl,q⟩:=h;cases b
 ·exact wp_andK_f rfl (by simpa using q)
 ·exact⟨c,_,e,q⟩
theorem HF{d:Den Bool}(h:Wp d st λb s=>QB (!b) s):Wp (FL d) st QB:=aq (aQ h λ_ _ q=>⟨_,_,rfl,q⟩)
theorem Gf(h:Wp d st λa s=>Wp (gm a) s λb s=>QV (.bool (!b)) s):Wp (FM d) st QV:=
 aq (aQ h λ_ _ q=>aq (aQ q λ_ _ q=>eU q))
theorem Gn(h:Wp KM st λa s=>Wp (gm a) s λb s=>Wp (jP b KJ (aj a)) s QV):Wp (GV KM KJ) st QV:=
 aq (aQ h λ_ _ q=>aq (aQ q λb _ q=>by cases b<;>exact q))
theorem HE(h:Wp KM st λa s=>Wp (gm a) s λb s=>Wp (jP b (aj a) KJ) s QV):Wp (orE KM KJ) st QV:=
 aq (aQ h λ_ _ q=>aq (aQ q λb _ q=>by cases b<;>exact q))
theorem HH(h:Got (BO v) (pO QV st)):Wp (BP v) st QV:=by
 obtain⟨r,e,q⟩:=h;exact⟨r,st,Dn e,q⟩
theorem xQ{T:String}(h:we T mh v=true)(q:QU () ⟨ρ,mh⟩):Wp (hV T v) ⟨ρ,mh⟩ QU:=⟨(),_,Dq h,q⟩
theorem sW(q:QU () ⟨ρ,mh⟩):Wp (hV "str" (.str l)) ⟨ρ,mh⟩ QU:=xQ (by show("str"=="str")=true;decide) q
theorem qf(h:mh[i]?=some (.list xs))(q:QU () ⟨ρ,mh⟩):Wp (hV "list" (.ref i)) ⟨ρ,mh⟩ QU:=xQ (by show(match mh[i]? with|some (MO.list xs)=>"list"=="list"|_=>false)=true;rw[h];exact(by decide:("list"=="list")=true)) q
theorem xR(h:Wp KM st λa s=>Wp KJ s λb s=>Wp (jQ f a b) s λt s=>Wp (jP t (aG Kc λc=>jQ g b c) λst=>some (false,st)) s QB):Wp (qT f g KM KJ Kc) st QB:=
 aq (aQ h λ_ _ q=>aq (aQ q λ_ _ q=>aq (aQ q λt _ q=>by cases t<;>exact q)))
theorem EM{w:MV}(h:Wp KM st λa s=>Wp KJ s λb s=>Wp (jQ f a b) s λt s=>Wp (jQ g b w) s λr c=>c=s/\QB (t&&r) s):Wp (qT f g KM KJ (aj w)) st QB:=
 xR (aQ h λa s q=>aQ q λb s q=>aQ q λt s q=>by
  cases t with
  |true=>exact aq (eU (aQ q λr c q=>by obtain⟨rfl,q⟩:=q;simpa using q))
  |false=>obtain⟨r,c,e,rfl,q⟩:=q;exact Ab (by simpa using q))
inductive PutAll:List Nat->List MV->List (Option MV)->List (Option MV)->Prop
 |nil{o:_}:PutAll [] [] o o
 |cons{i is x vs o o1a o2a:_}:Put o i x o1a->PutAll is vs o1a o2a->PutAll (i::is) (x::vs) o o2a
theorem PutAll.set{is:List Nat}{vs:List MV}{ρ K6:List (Option MV)}(h:PutAll is vs ρ K6):gq is vs ρ=K6/\vs.length=is.length:=by
 induction h with
 |nil=>exact⟨rfl,rfl⟩
 |cons h _ a=>exact⟨by rw[gq,h.set];exact a.1,by simp[a.2]⟩
theorem ED{r:Nat}(hm:mh[r]?=some (.tuple items))(hl:PutAll is items ρ K6)(q:QF .next ⟨K6,mh⟩):Wp (gl is (.ref r)) ⟨ρ,mh⟩ QF:=uU (wn hm hl.set.2 hl.set.1) q
theorem Gk(h:Got (ln tab mh v) (pO QV ⟨ρ,mh⟩)):Wp (AH tab v) ⟨ρ,mh⟩ QV:=by
 obtain⟨r,e,q⟩:=h;exact⟨r,_,by unfold AH;rw[e];rfl,q⟩
theorem HC{tab:List (Addr×Nat)}(h:Got (wD tab mh u v) λKA=>QF .next ⟨ρ,KA⟩):Wp (DC tab u v) ⟨ρ,mh⟩ QF:=by
 obtain⟨r,e,q⟩:=h;exact⟨.next,_,by unfold DC;simp only[e,yL],q⟩
def CG(I:LS->Prop)(QF:MF->LS->Prop):MF->LS->Prop
 |.next,s=>I s
 |.cont,s=>I s
 |.brk,s=>QF .next s
 |.ret v,s=>QF (.ret v) s
theorem bN{σ:Type}{t:Den Bool}{e:Den MF}(I:σ->LS->Prop)(a:σ->Nat)
  (step:∀x s,I x s->Wp t s λb s=>(b=false->Wp e s QF)/\(b=true->Wp bd s (CG (λs=>∃y,I y s/\a y<a x) QF))):
  ∀(K:Nat)(x:σ)(st:LS),I x st->a x<K->Wp (dq t bd e K) st QF:=by
 intro K;induction K with
 |zero=>intro x _ _ h;exact absurd h (JC _)
 |succ K c=>
  intro x st hI hx;refine aq (aQ (step x st hI) λb s q=>?_);cases b with
  |false=>exact q.1 rfl
  |true=>
   refine aq (aQ (q.2 rfl) λf s q=>?_);cases f with
   |next=>obtain⟨y,hy,hm⟩:=q;exact c y s hy (by lia)
   |cont=>obtain⟨y,hy,hm⟩:=q;exact c y s hy (by lia)
   |brk=>exact dT q
   |ret v=>exact dT q
theorem Ac(I:List MV->LS->Prop)
  (stop:∀s,I [] s->QF .next s)
  (step:∀v l s,I (v::l) s->Wp (T v) s λ_ s=>Wp B s (CG (I l) QF)):
  ∀(l:List MV)(st:LS),I l st->Wp (wl T B l) st QF:=by
 intro l;induction l with
 |nil=>intro st h;exact dT (stop st h)
 |cons v l a=>
  intro st h;refine aq (aQ (step v l st h) λg s q=>aq (aQ q λf s q=>?_));cases f with
  |next=>exact a s q
  |cont=>exact a s q
  |brk=>exact dT q
  |ret v=>exact dT q
theorem Ad{r:Nat}(I:List MV->LS->Prop)
  (b:∀l s,I l s->s.mh[r]?=some (.list items))
  (stop:∀s,I [] s->QF .next s)
  (step:∀v l s,I (v::l) s->Wp (T v) s λ_ s=>Wp B s (CG (I l) QF)):
  ∀(N i:Nat)(st:LS),I (items.drop i) st->items.length<N+i->i<=items.length->Wp (qI T B r N i) st QF:=by
 intro N;induction N with
 |zero=>intro i x _ h1 h2;lia
 |succ N c=>
  intro i x h h1 h2;unfold Wp qI;simp only[b _ x h];by_cases a:i<items.length
  ·have hd:items.drop i=items[i]::items.drop (i+1):=e9 a
   rw[hd]at h;simp only[fg a];refine aq (aQ (step _ _ x h) λg s q=>aq (aQ q λf s q=>?_));cases f with
   |next=>exact c (i+1) s q (by lia) (by lia)
   |cont=>exact c (i+1) s q (by lia) (by lia)
   |brk=>exact dT q
   |ret v=>exact dT q
  ·have d:i=items.length:=by lia
   subst d;rw[pa]at h;simp only[nh (ep _)];exact⟨_,_,rfl,stop x h⟩
def AT(Q:MV->List MO->Prop):MF->LS->Prop
 |.ret v,s=>Q v s.mh
 |.next,s=>Q .none s.mh
 |_,_=>False
def specOf(names:List Str)(k:Nat)(d:Den MF):Spec:=λvs mh=>if vs.length=k then(d (jm names vs mh)).bind uo else none
theorem mA{d:Den MF}{Q:MV->List MO->Prop}(hl:vs.length=k)(h:Wp d (jm names vs mh) (AT Q)):bG (specOf names k d vs mh) Q:=by
 obtain⟨f,s,e,q⟩:=h;unfold specOf;rw[dt hl,e];cases f with
 |ret v=>exact⟨v,s.mh,rfl,q⟩
 |next=>exact⟨.none,s.mh,rfl,q⟩
 |brk=>exact q.elim
 |cont=>exact q.elim
theorem mZ{d:Den MF}{r:MV}(e:specOf names k d vs mh=some (r,KA)):vs.length=k/\Wp d (jm names vs mh) λa s=>uo (a,s)=some (r,KA):=by
 obtain⟨hl,e⟩:=qE e;obtain⟨p,h1,h2⟩:=Iz.mp e;exact⟨hl,p.1,p.2,h1,h2⟩
theorem D2{f:Addr}{ps:List Str}{d:Den MF}
  (hf:FunAt G f params body scope dV)(hs:ScopeOk scope ps names)(hp:dp params body scope dV ps)(hb:LocalsOk scope names->fD G scope names n body d)
  (hd:Φ (specOf names ps.length d)):∃J9,Con G (n+1) f J9/\Φ J9:=
 ⟨specOf names ps.length d,wy hf hs hp hb λ_ _ _ _ e=>mZ e,hd⟩
end
theorem bV{mh:List MO}(h:mh<+:KA){r:Nat}(a:mh.length<=r)(x:MO):mh<+:KA.set r x:=by
 obtain⟨t,rfl⟩:=h;rw[JX _ _ a];exact eh ..
theorem aT{mh:List MO}(h:mh<+:KA)(l:List MO):mh<+:KA++l:=h.trans (eh ..)
theorem bW{mh:List MO}{r:Nat}{x y:MO}(h:mh[r]?=some x):(mh.set r y)[r]?=some y:=x7 (fd.mp h).1
theorem aW{mh:List MO}{x:MO}:(mh++[x])[mh.length]?=some x:=by
 simp
theorem ag{mh l:List MO}{r:Nat}{x:MO}(h:mh[r]?=some x):(mh++l)[r]?=some x:=aO (eh ..) h
theorem dJ{mh:List MO}{r:Nat}{x y:MO}(a:q≠r)(h:mh[r]?=some x):(mh.set q y)[r]?=some x:=by rw[v2 a];exact h
theorem aZ{mh:List MO}{r:Nat}{x:MO}(h:mh[r]?=some x):r<mh.length:=(fd.mp h).1
variable{Q:MV->Prop}{ls:List (List Nat)}{b:List Nat}{J8:List Nat}
theorem len_str(h:l.length<=16777216):rO mh [.str l]=some (.int (l.length:Int)):=by
 exact dt (e:=none) h
theorem len_list{r:Nat}(h:mh[r]?=some (.list xs))(hl:xs.length<=16777216):rO mh [.ref r]=some (.int (xs.length:Int)):=by
 exact(ed (listAt _) h).trans (dt (e:=none) hl)
theorem sY{r:Nat}(h:mh[r]?=some (.list xs))(hl:xs.length<=16777216):jY mh (.ref r)=some (!xs.isEmpty):=by
 exact(ed (listAt _) h).trans (dt (e:=none) hl)
theorem y4{r:Nat}{b:Bool}(h:mh[r]?=some (.tuple xs))(hb:gg v xs=some b):iH mh v (.ref r)=some b:=by
 unfold iH;simp only[h];exact hb
theorem in_str{c:Nat}:iH mh (.str [c]) (.str l)=some (l.contains c):=rfl
theorem yR{b:Bool}(h:f mh u v=some b):yS f mh u v=some (!b):=by unfold yS;rw[h];rfl
theorem sM(x:List Nat):∀(ls:List (List Nat)),gg (.str x) (ls.map .str)=some (ls.any (·==x))
 |[]=>rfl
 |y::ls=>by
  show(match eqV (.str y) (.str x),gg (.str x) (ls.map .str)with|some b,some c=>some (b||c)|_,_=>none)=_;rw[sM x ls];rfl
theorem sb{q:List Nat}{p:Nat}:fE mh [.str J8,.str q,.int (p:Int)]=some (.bool (bQ J8 q p)):=by
 exact dt (e:=none) (ky p)
theorem sa{p r:Nat}{ps:List (List Nat)}(h:mh[r]?=some (.tuple xs))(hs:eu xs=some ps):fE mh [.str J8,.ref r,.int (p:Int)]=some (.bool (ps.any λq=>bQ J8 q p)):=by
 show uh J8 p mh[r]?=_;rw[h];show pT J8 p (eu xs)=_;rw[hs];exact dt (e:=none) (ky p)
theorem append_at{r:Nat}(h:mh[r]?=some (.list xs))(hl:xs.length<=16777216):jI [.ref r,v] mh=some (.none,mh.set r (.list (xs++[v]))):=by
 exact(ed (listAt _) h).trans (dt (e:=none) hl)
theorem strs_map:∀(ls:List (List Nat)),eu (ls.map .str)=some ls
 |[]=>rfl
 |l::ls=>by
  show(eu (ls.map .str)).map (l::·)=_;rw[strs_map ls];rfl
theorem i5{r:Nat}(h:mh[r]?=some (.list (ls.map .str)))(hl:ls.flatten.length<=16777216):yw mh [.str [],.ref r]=some (.str ls.flatten):=by
 exact(ed (listAt _) h).trans ((ed CS (strs_map ls)).trans (dt (e:=none) hl))
theorem Bz{b:Nat}(hl:l.length<=16777216):gW (.str l) (.int (a:Int)) (.int (b:Int))=some (.str ((l.drop a).take (b-a))):=by
 rw[za hl,oN]
theorem item_list{r:Nat}(h:mh[r]?=some (.list xs))(b:xs[i]?=some v)(hl:xs.length<=16777216):d3 mh (.ref r) (.int (i:Int))=some v:=by
 have a:=(fd.mp b).1;have c:ssz (i:Int)=true:=by unfold ssz;simp;lia
 show(match mh[r]? with|some (.list xs)|some (.tuple xs)=>if ssz (i:Int)then(seqIndex? (i:Int) xs.length).bind λk=>xs[k]? else none|_=>none)=_;rw[h];simp only[c,I0,pd,a,v4,b]
theorem rY{r:Nat}(h:mh[r]?=some (.tuple xs))(b:xs[i]?=some v)(hl:xs.length<=16777216):d3 mh (.ref r) (.int (i:Int))=some v:=by
 have a:=(fd.mp b).1;have c:ssz (i:Int)=true:=by unfold ssz;simp;lia
 show(match mh[r]? with|some (.list xs)|some (.tuple xs)=>if ssz (i:Int)then(seqIndex? (i:Int) xs.length).bind λk=>xs[k]? else none|_=>none)=_;rw[h];simp only[c,I0,pd,a,v4,b]
theorem add_str{a:List Nat}(h:a.length+b.length<=16777216):fC (.str a) (.str b)=some (.str (a++b)):=by
 exact dt (e:=none) h
theorem i7(h:l.all cD=true)(a:1<=l.length)(hl:l.length<=640):qC mh [.str l,.int 16]=some (.int (di l:Int)):=by
 exact dt (e:=none) ⟨rfl,h,a,hl⟩
theorem D3(h:i<=1114111):B5 mh [.int (i:Int)]=some (.str [i]):=by
 show(if 0<=(i:Int)/\(i:Int)<=1114111 then some (MV.str [(i:Int).toNat]) else none)=_;rw[dt ⟨ky _,by lia⟩];rfl
theorem zA{p r:Nat}{ps:List (List Nat)}(h:mh[r]?=some (.tuple xs))(hs:eu xs=some ps)(q:Q (.bool (ps.any λq=>bQ J8 q p))):Got (fE mh [.str J8,.ref r,.int (p:Int)]) Q:=ah (sa h hs) q
theorem Df{r:Nat}{b:Bool}{Q:Bool->Prop}(h:mh[r]?=some (.tuple xs))(hb:gg v xs=some b)(q:Q b):Got (iH mh v (.ref r)) Q:=ah (y4 h hb) q
theorem AZ{r:Nat}{b:Bool}{Q:Bool->Prop}(h:mh[r]?=some (.tuple xs))(hb:gg v xs=some b)(q:Q (!b)):Got (yS iH mh v (.ref r)) Q:=ah (yR (y4 h hb)) q
theorem Bj{r:Nat}(h:mh[r]?=some (.list xs))(hl:xs.length<=16777216)(q:Q (.int (xs.length:Int))):Got (rO mh [.ref r]) Q:=ah (len_list h hl) q
theorem iZ{r:Nat}{Q:Bool->Prop}(h:mh[r]?=some (.list xs))(hl:xs.length<=16777216)(q:Q (!xs.isEmpty)):Got (jY mh (.ref r)) Q:=ah (sY h hl) q
theorem Cb{r:Nat}{Q:MV->List MO->Prop}(h:mh[r]?=some (.list xs))(hl:xs.length<=16777216)(q:Q .none (mh.set r (.list (xs++[v])))):bG (jI [.ref r,v] mh) Q:=cB (append_at h hl) q
variable{P:Params}
abbrev HK(G:Glo)(P:Params):Prop:=G.K=Internal.hd.heap_39 P
noncomputable def bR(c:Nat):Bool:=[48,49,50,51,52,53,54,55,56,57,97,98,99,100,101,102,65,66,67,68,69,70].contains c
noncomputable def aH:Nat->List Nat->Nat
 |0,_=>0
 |_,[]=>0
 |k+1,c::l=>if bR c then aH k l+1 else 0
noncomputable def fz(c:Nat):Bool:=([97,98,99,100,101,102,103,104,105,106,107,108,109,110,111,112,113,114,115,116,117,118,119,120,121,122,65,66,67,68,69,70,71,72,73,74,75,76,77,78,79,80,81,82,83,84,85,86,87,88,89,90,95]:List Nat).contains c||decide (127<c)
noncomputable def aJ(l:List Nat):Bool:=match l with
 |[]=>false
 |c::r=>fz c||(if c=45 then(match r with
  |[]=>false
  |d::q=>fz d||d==45||(d==92&&!(q.head?==some 10)))else c==92&&!(r.head?==some 10))
theorem i9{o:Option (α×β)}{a:α}{b:β}(h:bG o λx y=>x=a/\y=b):o=some (a,b):=by
 obtain⟨x,y,e,rfl,rfl⟩:=h;exact e
theorem ei(c:Nat):bR c=cD c:=by
 by_cases h:c<103
 ·have key:∀c:Nat,c<103->bR c=cD c:=by decide
  exact key c h
 ·have h1:cD c=false:=by unfold cD;simp;lia
  have h2:bR c=false:=by
   cases q:bR c with
   |false=>rfl
   |true=>
    unfold bR at q;have hm:=n9.mp q;have :∀x∈([48,49,50,51,52,53,54,55,56,57,97,98,99,100,101,102,65,66,67,68,69,70]:List Nat),x<103:=by decide
    exact absurd (this c hm) h
  rw[h1,h2]
theorem bT:∀(k:Nat)(l:List Nat),aH k l<=k/\aH k l<=l.length
 |0,_=>⟨ep _,oL _⟩
 |k+1,[]=>⟨oL _,oL _⟩
 |k+1,c::l=>by
  unfold aH;have :=bT k l;split
  ·simp;lia
  ·simp
theorem cf:∀(k:Nat)(l:List Nat),(l.take (aH k l)).all cD=true
 |0,_=>rfl
 |k+1,[]=>rfl
 |k+1,c::l=>by
  unfold aH;split
  ·rename_i h
   rw[ei]at h;simp[h];simpa using cf k l
  ·rfl
noncomputable def jb(n:Nat):Nat:=if 0<n/\n<=1114111 then n else 65533
noncomputable def isBl(c:Nat):Bool:=c==32||c==10||c==9
noncomputable def bP(l:List Nat)(k:Nat):Nat:=match l.drop k with|[]=>k|c::_=>if isBl c then k+1 else k
def escOf(l:List Nat):Nat×Nat:=
 if 0<aH 6 l then(jb (di (l.take (aH 6 l))),bP l (aH 6 l))
 else(l.headD 65533,if l.isEmpty then 0 else 1)
theorem wq(l:List Nat)(k:Nat)(h:k<=l.length):bP l k<=l.length:=by
 unfold bP;cases e:l.drop k with
 |nil=>exact h
 |cons c r=>
  have :=ed List.length e;simp at this;simp only;split<;>lia
theorem dS(l:List Nat):(escOf l).2<=l.length:=by
 unfold escOf;have h:=(bT 6 l).2;by_cases h0:0<aH 6 l
 ·rw[dt h0];exact wq l _ h
 ·rw[cw h0]
  cases l<;>simp
theorem aw(h:mh<+:KA){x:MO}:mh<+:KA++[x]/\∃i,MV.ref KA.length=.ref i/\(KA++[x])[i]?=some x:=⟨aT h _,_,rfl,aW⟩
structure GF(G:Glo)(sc:Scope)(x:Str)(f:Addr):Prop where
 g:GName G sc x (.ref f)
 k:keepIn G.K (.ref f)=true
abbrev GI(sc:Scope)(x:Str):Prop:=sc.names.lookup x=some .globalImplicit
section
variable{G:Glo}{P:Params}{sc:Scope}(hK:HK G P)
include hK
theorem Ic{x:Str}{f:Addr}(k:GI sc x)(h:(nsIn (Internal.hd.heap_39 P) mainGlobals x,(x==("__debug__":Str)),keepIn (Internal.hd.heap_39 P) (.ref f))=(some (some (.ref f)),false,true)):GF G sc x f:=by
 rw[<-hK]at h;exact⟨⟨k,ed (·.1) h,ed (·.2.1) h⟩,ed (·.2.2) h⟩
theorem IG:True:=by
 run_tac do
  for s in ["theorem Internal.gf_#1{G:Glo}{P:Params}{sc:Scope}(hK:HK G P)(k:GI sc \"#0\"):GF G sc \"#0\" #2:=Ic hK k (by kernel_rfl)|ascii_lower 26;serialize_string_value 34;serialize_url 41;Node 74;ParseError 104;Comment 134;WhitespaceToken 163;LiteralToken 206;IdentToken 235;AtKeywordToken 265;HashToken 295;StringToken 325;URLToken 355;UnicodeRangeToken 385;NumberToken 415;PercentageToken 447;DimensionToken 479;ParenthesesBlock 513;SquareBracketsBlock 542;CurlyBracketsBlock 571;FunctionBlock 600;_number_end 613;_hex_end 620;parse_component_value_list 628;_is_name_start 635;_is_ident_start 642;_consume_ident 649;_consume_quoted_string 656;_consume_escape 663;_consume_url 670;_consume_unicode_range 677;_law_SHUTS 705;_law_is 712;_law_head 719;_law_body 726;_law_bent 733;_law_opens 740;_law_escape 747;_law_word 754;_law_figures 761;_law_number 768;_law_range 775;_law_quoted 782;_law_address 789;_law_remark 796;_law_named 803;_law_part 810;_law_scan 817;_law_flat 824;_law_where 831;_law_ENDS 684;_law_STARTS 691;_law_PIECES 698;_law_thirsty 838;_law_name_stands 845;_law_range_stands 852;_law_sign_stands 859;_law_stands 866;_law_ended 873",
   "theorem Internal.gn_#1{G:Glo}{P:Params}{sc:Scope}(hK:HK G P)(k:GI sc \"#0\"):GName G sc \"#0\" (.ref #2):=(gf_#1 hK k).g|Node 74;ParseError 104;Comment 134;WhitespaceToken 163;LiteralToken 206;IdentToken 235;AtKeywordToken 265;HashToken 295;StringToken 325;URLToken 355;UnicodeRangeToken 385;NumberToken 415;PercentageToken 447;DimensionToken 479;ParenthesesBlock 513;SquareBracketsBlock 542;CurlyBracketsBlock 571;FunctionBlock 600"]do
   let t:=s.splitOn "|"
   for r in(t.getD 1 "").splitOn ";"do
    let w:=r.splitOn " "
    let T:=(w.drop 1).map (·.splitOn ",")
    let g(l:List String)(i:Nat):String:=l.getD i ""
    let j(f:List String->String):String:=",".intercalate (T.map f)
    let c:=[("#0",g w 0),("#1",((g w 0).dropWhile (·=='_')).toString),("#2",g w 1),("#3",g w 2),("#P",j λl=>s!"({g l 0},{g l 1})"),("#S",j λl=>s!"({g l 0},.slot {g l 1})"),("#T",j λl=>s!"({g l 0},{g l 1},{g l 2})")].foldl (λt p=>t.replace p.1 p.2) ("open PySem PySem.W PySem.Calls PyProof.Rows Internal in "++t.getD 0 "")
    match Lean.Parser.runParserCategory (<-Lean.getEnv) `command c with
    |.ok x=>Lean.liftCommandElabM (Lean.Elab.Command.elabCommand x)
    |.error e=>throwError e
 trivial
theorem bn_len(k:GI sc "len"):BName G sc "len" (.builtin "len"):=⟨k,by rw[hK];kernel_rfl,by kernel_rfl,by decide+kernel,by kernel_rfl⟩
theorem bn_ord(k:GI sc "ord"):BName G sc "ord" (.builtin "ord"):=⟨k,by rw[hK];kernel_rfl,by kernel_rfl,by decide+kernel,by kernel_rfl⟩
theorem bn_chr(k:GI sc "chr"):BName G sc "chr" (.builtin "chr"):=⟨k,by rw[hK];kernel_rfl,by kernel_rfl,by decide+kernel,by kernel_rfl⟩
theorem bn_int(k:GI sc "int"):BName G sc "int" (.type "int"):=⟨k,by rw[hK];kernel_rfl,by kernel_rfl,by decide+kernel,by kernel_rfl⟩
theorem bn_min(k:GI sc "min"):BName G sc "min" (.builtin "min"):=⟨k,by rw[hK];kernel_rfl,by kernel_rfl,by decide+kernel,by kernel_rfl⟩
theorem bn_enumerate(k:GI sc "enumerate"):BName G sc "enumerate" (.type "enumerate"):=⟨k,by rw[hK];kernel_rfl,by kernel_rfl,by decide+kernel,by kernel_rfl⟩
end
variable{args:List PySem.Expr}{iter:PySem.Expr}{o:PySem.Expr}
section
theorem G5{x:Str}{f:Addr}{p:Pos}(a:GF G sc x f)(hc:Con G n' f J9)(b:n'<=n)(hl:SemL G sc names n args ds):
    SemE G sc names n (.Call (.Name x p) args [] pos) (aG ds (cp J9)):=Bw a.g a.k hc b hl
noncomputable def nN(T:MV->Den MF)(B:Den MF)(N:Nat)(a:MV):Den MF:=match a with
  |.str l=>Cd T B (.str l)
  |a=>Di T B N a
theorem C8{KZ:PySem.Expr}(b:∀env x,foldedSetIterable iter env x=pure x)(m:lM G sc names n KZ T)(o:SemE G sc names n iter d)(hb:fD G sc names n body B):
    fO G sc names n (.For KZ iter body [] pos) (aG d (nN T B N)):=by
  intro c st w K Q j hd k;obtain⟨a,KD,e1,i⟩:=wB hd;have back:∀{f:MV->Den MF},f a=nN T B N a->Wp (aG d f) st K:=λ{f}h=>by
    obtain⟨g,s,e,q⟩:=i;exact⟨g,s,by unfold aG;rw[e1];exact(congrFun h KD).trans e,q⟩
  cases a with
  |str l=>exact C6 b m o hb c st w K Q j (back rfl) k
  |_=>exact C7 (N:=N) b m o hb c st w K Q j (back rfl) k
theorem E4{e:PySem.Expr}{b o:List Stmt}{d:Den Bool}{KM KJ:Den MF}(h:SemT G sc names n e d)(c:fD G sc names n b KM)(a:fD G sc names n o KJ):fO G sc names n (.While e b o pos) (dq d KM KJ NN):=A4 h c a
theorem HU{KZ:PySem.Expr}(a:∀env x,foldedSetIterable iter env x=pure x)(b:lM G sc names n KZ T)(c:SemE G sc names n iter d)(hb:fD G sc names n body B):
    fO G sc names n (.For KZ iter body [] pos) (aG d (nN T B NN)):=C8 a b c hb
theorem HY{x:Str}{e:PySem.Expr}(lo:LocalsOk sc names)(c:Ix names x i)(h:SemE G sc names n e d):
    fO G sc names n (.AugAssign (.Name x px) .Add e pos) (aG (bF i) λa=>aG d λb=>aG (ef fC a b) (cY i)):=E6 lo c Fa h
theorem IR{p:Pos}(g:BName G sc "len" (.builtin "len"))(hl:SemL G sc names n args ds):SemE G sc names n (.Call (.Name "len" p) args [] pos) (aG ds (ka rO)):=kW g D6 hl
theorem IL{p:Pos}(g:BName G sc "ord" (.builtin "ord"))(hl:SemL G sc names n args ds):SemE G sc names n (.Call (.Name "ord" p) args [] pos) (aG ds (ka FG)):=kW g GP hl
theorem IU{p:Pos}(g:BName G sc "chr" (.builtin "chr"))(hl:SemL G sc names n args ds):SemE G sc names n (.Call (.Name "chr" p) args [] pos) (aG ds (ka B5)):=kW g GR hl
theorem F4{p:Pos}(g:BName G sc "int" (.type "int"))(hl:SemL G sc names n args ds):SemE G sc names n (.Call (.Name "int" p) args [] pos) (aG ds (ka qC)):=vd g AF hl
theorem Aa{c:Pos}(hb:eO o "startswith")(hline:(c.endLine==pos.line)=true)(b:decide (args.length<29)=true)(h:SemE G sc names n o d)(hl:SemL G sc names n args ds):
    SemE G sc names n (.Call (.Attribute o "startswith" c) args [] pos) (aG d λa=>aG (hV "str" a) λ_=>aG ds λvs=>cp (dI fE) (a::vs)):=ie hb sg PySem.F.slot_str_startswith PySem.F.type_str_startswith ya hline b h hl
theorem Gy{c:Pos}(hb:eO o "join")(hline:(c.endLine==pos.line)=true)(b:decide (args.length<29)=true)(h:SemE G sc names n o d)(hl:SemL G sc names n args ds):
    SemE G sc names n (.Call (.Attribute o "join" c) args [] pos) (aG d λa=>aG (hV "str" a) λ_=>aG ds λvs=>cp (dI yw) (a::vs)):=ie hb sg PySem.F.slot_str_join PySem.F.type_str_join DR hline b h hl
theorem Fv{c:Pos}(hb:eO o "rfind")(hline:(c.endLine==pos.line)=true)(b:decide (args.length<29)=true)(h:SemE G sc names n o d)(hl:SemL G sc names n args ds):
    SemE G sc names n (.Call (.Attribute o "rfind" c) args [] pos) (aG d λa=>aG (hV "str" a) λ_=>aG ds λvs=>cp (dI sp) (a::vs)):=ie hb sg PySem.F.slot_str_rfind PySem.F.type_str_rfind m_rfind hline b h hl
theorem Fx{c:Pos}(hb:eO o "count")(hline:(c.endLine==pos.line)=true)(b:decide (args.length<29)=true)(h:SemE G sc names n o d)(hl:SemL G sc names n args ds):
    SemE G sc names n (.Call (.Attribute o "count" c) args [] pos) (aG d λa=>aG (hV "str" a) λ_=>aG ds λvs=>cp (dI tZ) (a::vs)):=ie hb sg PySem.F.slot_str_count PySem.F.type_str_count BU hline b h hl
theorem EU{c:Pos}(hb:eO o "append")(hline:(c.endLine==pos.line)=true)(b:decide (args.length<29)=true)(h:SemE G sc names n o d)(hl:SemL G sc names n args ds):
    SemE G sc names n (.Call (.Attribute o "append" c) args [] pos) (aG d λa=>aG (hV "list" a) λ_=>aG ds λvs=>cp jI (a::vs)):=ie hb PySem.F.plainAttrs_list PySem.F.slot_list_append PySem.F.type_list_append yb hline b h hl
noncomputable def pR(i j:Nat)(v:MV):Den MF:=λst=>some (.next,{st with ρ:=(st.ρ.set i (some v)).set j (some v)})
theorem EO{x y:Str}{e:PySem.Expr}(lo:LocalsOk sc names)(b:Ix names x i)(a:Ix names y j)(pl:uQ [.Name x px,.Name y py] e)(c:SemE G sc names n e d):
    fO G sc names n (.Assign [.Name x px,.Name y py] e pos) (aG d (pR i j)):=v9 lo b a pl c
end
variable{Kf:List (Option MV)}{Ke:List (Option MV)}{QF:MF->LS->Prop}{QV:MV->LS->Prop}
section
theorem Gw{b:Nat}(q:Q (.int ((a+b:Nat):Int))):Got (fC (.int (a:Int)) (.int (b:Int))) Q:=⟨_,rfl,q⟩
theorem Fm{b:Nat}(q:Q (.int ((a+OfNat.ofNat b:Nat):Int))):Got (fC (.int (a:Int)) (.int (OfNat.ofNat b:Int))) Q:=⟨_,rfl,q⟩
theorem Ca{a:List Nat}(h:a.length+b.length<=16777216)(q:Q (.str (a++b))):Got (fC (.str a) (.str b)) Q:=ah (add_str h) q
theorem CY(h:l.length<=16777216)(q:Q (.int (l.length:Int))):Got (rO mh [.str l]) Q:=ah (len_str h) q
theorem Dg{c:Nat}{Q:Bool->Prop}(q:Q (l.contains c)):Got (iH mh (.str [c]) (.str l)) Q:=ah in_str q
theorem nI{p:List Nat}(q:Q (.bool (bQ J8 p a))):Got (fE mh [.str J8,.str p,.int (a:Int)]) Q:=ah sb q
theorem ro{b:Int}(hb:b=(a:Int)+1)(h:l.length<=16777216)(q:Q (.str ((l.drop a).take 1))):Got (gW (.str l) (.int (a:Int)) (.int b)) Q:=ah (By hb h) q
theorem Gu{b:Nat}(h:l.length<=16777216)(q:Q (.str ((l.drop a).take (b-a)))):Got (gW (.str l) (.int (a:Int)) (.int (b:Int))) Q:=ah (Bz h) q
theorem gz{c:Nat}(hd:l.drop a=c::r)(h:l.length<=16777216)(q:Q (.str [c])):Got (d3 mh (.str l) (.int (a:Int))) Q:=ah (yx hd h) q
theorem Gv(h:i<=1114111)(q:Q (.str [i])):Got (B5 mh [.int (i:Int)]) Q:=ah (D3 h) q
theorem Fi(h:l.length+(l.length+1)*z.length<=16777216)(q:Q (.str (j5 l y z))):Got (oT y z (.str l)) Q:=ah (by unfold oT;simp only[h,I0]) q
theorem Gd{a:MV}(h:Got (oT y z a) λr=>QV r ⟨ρ,mh⟩):Wp (uq y z a) ⟨ρ,mh⟩ QV:=by
  obtain⟨r,e,q⟩:=h;exact⟨r,_,Bp e,q⟩
theorem EP{p:List Nat}{b:Nat}(q:Q (.int (kG l p a b))):Got (sp mh [.str l,.str p,.int (a:Int),.int (b:Int)]) Q:=ah (show(if 0<=(a:Int)/\0<=(b:Int) then some (MV.int (kG l p a b)) else none)=some (MV.int (kG l p a b))from dt ⟨ky a,ky b⟩) q
theorem ER{p:List Nat}{b:Nat}(q:Q (.int (js l p a b))):Got (tZ mh [.str l,.str p,.int (a:Int),.int (b:Int)]) Q:=ah (show(if 0<=(a:Int)/\0<=(b:Int) then some (MV.int (js l p a b)) else none)=some (MV.int (js l p a b))from dt ⟨ky a,ky b⟩) q
theorem EF(b:Put ρ i v Kf)(a:Put Kf j v Ke)(q:QF .next ⟨Ke,mh⟩):Wp (pR i j v) ⟨ρ,mh⟩ QF:=
  ⟨_,_,by unfold pR;simp only[b.set,a.set],q⟩
theorem CZ{b:Int}(h:l.length<=16777216)(q:Q (.str (cZ l none (some b)))):Got (gW (.str l) .none (.int b)) Q:=ah (by simp[gW,uE,h]) q
theorem oo{r:Nat}(h:mh[r]?=some (.tuple (v::xs)))(hl:(v::xs).length<=16777216)(q:Q v):Got (d3 mh (.ref r) (.int 0)) Q:=ah (rY (i:=0) h rfl hl) q
theorem ol{r:Nat}(h:mh[r]?=some (.tuple (u::v::xs)))(hl:(u::v::xs).length<=16777216)(q:Q v):Got (d3 mh (.ref r) (.int 1)) Q:=ah (rY (i:=1) h rfl hl) q
theorem Fk{b:Nat}(hb:(OfNat.ofNat b:Nat)≠0)(q:Q (.int ((a%OfNat.ofNat b:Nat):Int))):Got (FQ (.int (a:Int)) (.int (OfNat.ofNat b:Int))) Q:=by
  have c:(OfNat.ofNat b:Int)≠0:=λe=>hb (JP e);refine ah (a:=.int ((a%OfNat.ofNat b:Nat):Int)) ?_ q;show(if(OfNat.ofNat b:Int)≠0 then some (MV.int ((a:Int).fmod (OfNat.ofNat b)))else none)=_;rw[dt c];exact ed (λz=>some (MV.int z)) (J7 (a:Int) (ky b))
theorem ES{b:Nat}(q:Q (.int ((OfNat.ofNat b+a:Nat):Int))):Got (fC (.int (OfNat.ofNat b:Int)) (.int (a:Int))) Q:=⟨_,rfl,q⟩
theorem gB{r:Nat}(h:mh[r]?=some (.list (ls.map MV.str)))(a:i<ls.length)(hl:ls.length<=16777216)(q:Q (.str (ls.getD i []))):Got (d3 mh (.ref r) (.int (i:Int))) Q:=
  ah (item_list h (v:=.str (ls.getD i [])) (by simp[I4,E0,fg a]) (by simpa using hl)) q
theorem Ff(h:1<=a)(q:Q (.int ((a-1:Nat):Int))):Got (xn (.int (a:Int)) (.int 1)) Q:=by
  have e:((a-1:Nat):Int)=(a:Int)-1:=by omega
  rw[e]at q;exact⟨_,rfl,q⟩
theorem IZ{P:Prop}(h:P):true=true/\P:=⟨rfl,h⟩
theorem Hg{s:LS}{P:Prop}(h:P):s=s/\P:=⟨rfl,h⟩
theorem wp_pick_tt{x y:Den α}{st:LS}{Q:α->LS->Prop}(h:Wp x st Q):Wp (jP true x y) st Q:=h
theorem wp_pick_ff{x y:Den α}{st:LS}{Q:α->LS->Prop}(h:Wp y st Q):Wp (jP false x y) st Q:=h
theorem Ee{st:LS}{Q:MF->LS->Prop}(h:Wp (wl T B (dH l)) st Q):Wp (nN T B N (.str l)) st Q:=h
theorem xK{r:Nat}{st:LS}{Q:MF->LS->Prop}(h:Wp (Di T B N (.ref r)) st Q):Wp (nN T B N (.ref r)) st Q:=h
def kP(r:Nat)(Q:MV->LS->Prop):MV->LS->Prop:=λv s=>Wp (cp jI [.ref r,v]) s Q
theorem Gl{Q:MV->LS->Prop}{r:Nat}{b:Den MV}(h:At ρ i (.ref r))(hm:mh[r]?=some (.list xs))(q:Wp b ⟨ρ,mh⟩ (kP r Q)):
    Wp (aG (bF i) λa=>aG (hV "list" a) λ_=>aG (dF b λst=>some ([],st)) λvs=>cp jI (a::vs)) ⟨ρ,mh⟩ Q:=
  qh h (aq (qf hm (aq (pJ (aQ q λ_ _ q=>xH q)))))
theorem EG{Q:MV->LS->Prop}{p:List Nat}(h:At ρ i (.str J8))(b:At ρ j (.int (a:Int)))(q:Q (.bool (bQ J8 p a)) ⟨ρ,mh⟩):
    Wp (aG (bF i) λa=>aG (hV "str" a) λ_=>aG (dF (aj (.str p)) (dF (bF j) λst=>some ([],st))) λvs=>cp (dI fE) (a::vs)) ⟨ρ,mh⟩ Q:=
  qh h (aq (sW (aq (xN (xM b (xH (vp (nI q))))))))
theorem EE{b:Bool}{st:LS}{Q:Bool->LS->Prop}(q:Q b st):Wp (dk (.bool b)) st Q:=vm (ah rfl q)
open Lean Meta Elab Tactic
theorem cl2:True:=by
 run_tac do
  let tR:XE->Name:=λe=>e.getAppFn.constName?.getD .anonymous
  let hs:XE->String:=λe=>match tR e with
    |.str _ s=>s
    |_=>""
  let bt:XE->Nat->XE:=λe i=>e.getAppArgs.getD i e
  let strOf:XE->String:=λe=>match e with
    |.lit (.strVal s)=>s
    |_=>""
  let lab:XE->String:=λe=>
    let h:=hs e;if h=="ofString"then strOf (bt e 0) else h
  let DF:XE->String->XE:=λe p=>p.foldl (λe c=>bt e (c.toNat-48)) e
  let Be:Nat->XE->List XE:=it (λ_=>[]) λ_ self e=>if hs e=="cons"then bt e 1::self (bt e 2) else []
  let qA:XE->List XE:=λe=>Be 10000 e
  let rZ:XE->MetaM XE:=λe=>instantiateMVars e
  let dj:MVarId->MetaM XE:=λg=>do rZ (<-g.getType)
  let gU:{α:Type}->String->MetaM α:=λs=>throw (.error .missing s)
  let CO:(XE->XE->MetaM Bool)->List XE->List XE->MetaM Bool:=λf=>fxz λqz=>have CO:=λ(_:XE->XE->MetaM Bool)=>qz;fun
    |a::as,b::bs=>do if<-f a b then CO f as bs else return false
    |_,_=>return true
  let xy:XE->XE->Bool:=λp t=>p.getAppFn.isConst&&t.getAppFn.isConst&&tR p==tR t&&p.getAppNumArgs==t.getAppNumArgs
  let mt:Nat->XE->XE->MetaM Bool:=it (λ_ _=>return false) λ_ self p t=>do
      let p<-rZ p
      let t<-rZ t
      if p.isMVar then
        if p !=t then p.mvarId!.assign t
        return true
      if t.isMVar then
        t.mvarId!.assign p
        return true
      if xy p t then CO (self) p.getAppArgs.toList t.getAppArgs.toList
      else withReducible (isDefEq p t)
  let tF:MVarId->MetaM Bool:=λg=>do return !(<-g.isAssigned)
  let ap:MVarId->Name->MetaM (List MVarId):=λg n=>do
    let info<-getConstInfo n
    let(ms,_,c)<-forallMetaTelescope info.type
    unless<-mt 60 c (<-dj g) do gU "no match"
    g.assign (mkAppN (mkConst n) ms)
    (ms.toList.map (·.mvarId!)).filterM tF
  let cT:{α:Type}->TacticM α->TacticM α->TacticM α:=λx y=>do
    let s<-Term.saveState
    try x catch _=>do
      s.restore
      y
  let FS:String->Name:=λs=>.str `Internal s
  let eS:MVarId->List String->TacticM (List MVarId):=λg=>fxz λqz=>have eS:=λ(_:MVarId)=>qz;fun
    |[]=>gU "no rule"
    |n::ns=>cT (ap g (`Internal++n.toName)) (eS g ns)
  let zS:MVarId->MetaM Unit:=λg=>do
    let t<-dj g
    if hs t !="Eq"then gU "no equation"
    let a:=bt t 1
    let b:=bt t 2
    let ok<-if a.hasExprMVar||b.hasExprMVar then withTransparency .all (isDefEq a b) else pure true
    if ok then g.assign (mkExpectedPropHint (<-mkEqRefl a) t) else gU "no equation"
  let sh:Nat->List MVarId->MetaM Unit:=fxz λsh=>fun
    |_,[]=>return()
    |0,_=>gU "A0"
    |k+1,g::r=>do
      if hs (<-dj g)=="And"then sh k ((<-g.apply (mkConst `And.intro))++r)
      else
        zS g
        sh k r
  let A0:MVarId->MetaM Unit:=λg=>do
    let(_,g)<-g.intros
    let t<-g.withContext (do whnfD (<-dj g))
    let g<-g.replaceTargetDefEq t
    let(_,g)<-g.intros
    g.withContext (sh 8 [g])
  let iF:MVarId->MetaM Unit:=λg=>g.withContext (withReducible g.assumption)
  let xg:MVarId->XE->MetaM Unit:=λg ty=>do
    let s:=(lab (bt ty 0)).toList
    unless<-isDefEq (bt ty 1) (toExpr (s.map (·.toNat))) do gU "text"
    g.assign (mkExpectedPropHint (mkApp (mkConst `PySem.W.Fast.ofString_ofList) (toExpr s)) (<-rZ ty))
  let AD:XE->List MVarId->MetaM Unit:=λlst=>fxz λqz=>have AD:=λ(_:XE)=>qz;fun
    |[]=>return()
    |h::r=>do
      let ht<-dj h
      if hs ht=="lM"then h.withContext (do discard<|isDefEq (bt ht 2) lst)
      AD lst r
  let zn:MVarId->XE->TacticM (List MVarId):=λg e=>do
    let KZ:=DF e "110"
    let nm:=if hs KZ=="Name"then[bt KZ 0]else(qA (bt KZ 0)).map (bt · 0)
    let free:=(bt e 2).find? (·.isConstOf `PySem.NameKind.free)
    let gs<-eS g (if free.isSome then["e_compC","e_compFC"]else["Hs"])
    AD (<-mkListLit (mkConst `PySem.Str) nm) gs
    return gs
  let Ha:MVarId->String->TacticM (List MVarId):=λg s=>do
    setGoals [g]
    tacS s
    getUnsolvedGoals
  let FU:String:="fD 4=cons : Hz
fD : IY
SwapT : SwapT.nil SwapT.cons
fO 4=Assign 402=nil 401=Tuple 41=Tuple : HT
fO 4=Assign : E7 E5 EO H9
fO 4=Return : H8
fO 4=AugAssign 41=Add 42=ListComp : HZ
fO 4=AugAssign 41=Add 4200=_law_flat : HZ
fO 4=AugAssign 41=Add : HY
fO 4=If : Ib
fO 4=While : E4
fO 4=For 4100=enumerate : HV
fO 4=For : HU
fO 4=Break : IA
fO 4=Continue : HX
fO 4=Expr : HW
fO 4=Try : H7
fO 4=Assert : E8
SemT 4=BoolOp : H6 Ia
SemT 4=UnaryOp : H5 HR
SemT 4=Compare 4210=_DIGITS : Ew
SemT 4=Compare 40=Compare : Ex
SemT 4=Compare : Ey Gp
SemT 4=Name 40=script : Go HR
SemT : HR
SemE 4=Name 40^_law_ : Hr
SemE 4=Name : zU
SemE 4=Constant 40=str : IK
SemE 4=Constant : IS Ht Hn
SemE 4=BinOp 400=left : Hw IV
SemE 4=BinOp 4000=left : Hw IV
SemE 4=BinOp : IV
SemE 4=Compare 422=nil 421=List : Ce
SemE 4=Compare 422=nil 421=Name 4000=_law_told : Ce
SemE 4=Compare 422=nil 40=Compare : F7
SemE 4=Compare 422=nil 400=joined : F6
SemE 4=Compare 422=nil 4000=_law_flat : F6
SemE 4=Compare 422=cons : G4
SemE 4=Compare : Ce
SemE 4=IfExp : Ig
SemE 4=Subscript 400=script 41=Slice : EV Fy G1
SemE 4=Subscript 400=script : G2 Hl Hq
SemE 4=Subscript 41=Slice : Fy G1
SemE 4=Subscript : Hl Hq
SemE 4=BoolOp : IW Ie IM
SemE 4=UnaryOp 410=shuts : Hm
SemE 4=UnaryOp : IP IN
SemE 4=Tuple : G0
SemE 4=List : Ho
SemE 4=JoinedStr : Fz
SemE 4=FormattedValue : G3
SemE 4=Attribute 41?ta_ : Hv
SemE 4=Call 40=Name 400=len 4110=script : Hp
SemE 4=Call 40=Name 400=len : IR
SemE 4=Call 40=Name 400=ord : IL
SemE 4=Call 40=Name 400=chr : IU
SemE 4=Call 40=Name 400=int 412=nil : F5
SemE 4=Call 40=Name 400=int : F4
SemE 4=Call 40=Name 400=min : IQ
SemE 4=Call 40=Name 400*CLASS : IT
SemE 4=Call 40=Name 400?gf_ : G5
SemE 4=Call 40=Attribute 4000*CLASS : Hu
SemE 4=Call 40=Attribute 401=startswith : Aa
SemE 4=Call 40=Attribute 401=join : Gy
SemE 4=Call 40=Attribute 401=rfind : Fv
SemE 4=Call 40=Attribute 401=count : Fx
SemE 4=Call 40=Attribute 401=append : EU
SemE 4=Call 40=Attribute 401=pop : Gx
SemE 4=Call 40=Attribute 401=find 412=nil : Fw
SemE 4=Call 40=Attribute 401=find : Gz
SemE 4=Call 40=Attribute 401=replace : EW
SemL 4=cons : DX
SemL : FW
SemTs 4=cons : SemTs.cons
SemTs : SemTs.nil
SemJ 4=cons : SemJ.cons
SemJ : SemJ.nil
sU : Hc Hb
Tgts : Tgts.nil Tgts.cons
lM : Hh IJ
Ix : Ix.head Ix.tail
BaseAt : ba_Node
MakeOk : mo_104 mo_134 mo_163 mo_206 mo_235 mo_265 mo_295 mo_325 mo_355 mo_385 mo_415 mo_447 mo_479 mo_513 mo_542 mo_571 mo_600
OpR 1=Add : ID
OpR 1=Sub : IB
OpR 1=Mod : IC
OpR 1=Mult : Hf
gE 1=Eq : Io
gE 1=NotEq : Ih
gE 1=Lt : Ii
gE 1=Gt : Il
gE 1=LtE : Ij
gE 1=GtE : Im
gE 1=In : IX
gE 1=NotIn : GL
gE 1=Is : Ik
gE 1=IsNot : G6
BName : bn_@2
pH : ta_@1
Cp : po_@1
GName : gn_@2
GF : gf_@2
AV ! exact fun _ => ⟨_, rfl⟩
Con ! first | (with_reducible assumption) | exact GB (n := 0)
LocalsOk ! first | (with_reducible assumption) | exact ⟨by decide +kernel, by decide +kernel⟩
EB ! (intro l env h; cases env; cases h; exact ⟨by kernel_rfl, by kernel_rfl⟩)
CompOk ! exact ⟨by decide +kernel, by decide +kernel, rfl⟩
le ! first | assumption | exact Nat.le_of_ble_eq_true rfl | (run_tac om)
ConW ! with_reducible assumption
GY ! with_reducible assumption"
  let B4:String:=" Node ParseError Comment WhitespaceToken LiteralToken IdentToken AtKeywordToken HashToken StringToken URLToken UnicodeRangeToken NumberToken PercentageToken DimensionToken ParenthesesBlock SquareBracketsBlock CurlyBracketsBlock FunctionBlock "
  let strip:String->String:=λs=>(s.dropWhile λ(c:Char)=>c=='_').toString
  let CT:List String->XE->Bool:=λnames x=>names.contains (lab (bt x 0))
  let zG:List String->XE->Bool:=λnames x=>if hs x=="Tuple"then(qA (bt x 0)).any λy=>hs y=="Name"&&!CT names y else hs x=="Name"&&hs (bt x 0)=="ofString"&&!CT names x
  let has:String->String->Bool:=λs sub=>(s.splitOn sub).length>1
  let HQ:Environment->XE->String->Bool:=λenv t w=>
    let p:=(w.takeWhile λ(c:Char)=>c.isDigit).toString;let c:=String.Pos.Raw.get w p.rawEndPos;let v:=(w.drop (p.length+1)).toString;let e:=DF t p;let s:=lab e;if c=='=' then s==v
    else if c=='^' then s.startsWith v
    else if c=='!' then zG ((qA (bt t 2)).map lab) e
    else if c=='?' then env.contains (FS (v++strip s))
    else has B4 (" "++s++" ")
  let ub:Environment->XE->List String->Bool:=λenv t=>fxz λqz=>have ub:=λ(_:Environment)=>λ(_:XE)=>qz;fun
    |[]=>true
    |w::r=>HQ env t w&&ub env t r
  let xz:XE->String->String:=λt w=>match w.splitOn "@"with
    |[a,p]=>a++strip (lab (DF t p))
    |_=>w
  let xT:String->List String:=λs=>(s.splitOn " ").filter (· !="")
  let yj:Environment->XE->String->List String->String:=λenv t h=>fxz λqz=>have yj:=λ(_:Environment)=>λ(_:XE)=>λ(_:String)=>qz;fun
    |[]=>""
    |l::r=>if l.startsWith h&&ub env t ((xT ((l.splitOn " : ").headD "")).drop 1) then l else yj env t h r
  let yi:String->List String:=λtab=>tab.splitOn "\n"
  let um:String->String->List String:=λtab key=>(xT (((yi tab).find? λl=>l.startsWith (key++" ")).getD "")).drop 1
  let FP:MVarId->TacticM (List MVarId):=λg=>g.withContext do
    let t<-dj g
    let h:=hs t
    let e:=bt t 4
    if h=="SemE"&&hs e=="ListComp"then cT (zn g e) (gU "no rule")
    else if h=="SignsOf"then
      xg g t
      return []
    else if h=="Eq"||h=="HK"then
      cT (iF g) (zS g)
      return []
    else
      let tac:=(yi FU).find? (·.startsWith (h++" ! "))
      if tac.isSome then Ha g (tac.get!.drop (h.length+3)).toString
      else
        let l:=yj (<-getEnv) t (h++" ") (yi FU)
        if l==""then
          A0 g
          return []
        else eS g ((xT ((l.splitOn " : ").getD 1 "")).map (xz t))
  let rL:Nat->List MVarId->List MVarId->List MVarId->TacticM (List MVarId):=fxz λrL=>fun
    |0,todo,stuck,later=>return todo++stuck++later
    |_,[],stuck,later=>do return stuck.reverse++(<-later.filterM λg=>tF g)
    |k+1,g::todo,stuck,later=>do
      if<-g.isAssigned then rL k todo stuck later
      else if<-g.withContext (do return !(<-Meta.isProp (<-dj g)))then rL k todo stuck (g::later)
      else
        let r<-cT (some<$>FP g) (pure none)
        match r with
        |some new=>rL k (new++todo) stuck later
        |none=>rL k todo (g::stuck) later
  let mwalk:TacticM Unit:=do
    let g0<-getMainGoal
    let t:=(<-dj g0).consumeMData
    let g0<-if hs t=="fD"&&hs (bt t 4)=="ysB"then do g0.replaceTargetDefEq (mkAppN t.getAppFn (t.getAppArgs.set! 4 (<-whnfD (bt t 4)))) else pure g0
    let others:=(<-getGoals).tail!
    setGoals ((<-rL 1000000 [g0] [] [])++others)
  let GS:Nat->List MVarId->TacticM Unit:=fxz λGS=>fun
    |_,[]=>return()
    |0,_=>gU "at"
    |k+1,g::r=>do
      let new<-cT (do iF g;return[]) (eS g ["At.head","At.tail","Put.head","Put.tail","PutAll.nil","PutAll.cons"])
      GS k ((<-new.filterM λh=>do Meta.isProp (<-dj h))++r)
  let se:MVarId->String->TacticM Unit:=λg s=>do
    setGoals [g]
    tacS s
  let apC:MVarId->String->TacticM (List MVarId):=λg n=>do withReducible (g.apply (mkConst (FS n)))
  let Bl:MVarId->TacticM (List MVarId):=λg=>g.withContext do
    cT (do iF g;return[])<|cT (do discard<|apC g "aW";return[]) do
      let c:=bt (<-dj g).consumeMData 1
      if c.getAppNumArgs<7 then gU "get"
      else if hs (bt c 5)=="set"then cT (do return(<-apC g "bW").take 1) do
        let gs<-apC g "dJ"
        let ne<-gs.filterM λh=>do return hs (<-dj h)=="Ne"
        let h<-match ne with
          |h::_=>pure h
          |[]=>gU "get"
        se h "run_tac om"
        return(gs.take 2).filter (· !=h)
      else return(<-apC g "ag").take 1
  let Cc:Nat->List MVarId->TacticM Unit:=fxz λCc=>fun
    |_,[]=>return()
    |0,_=>gU "get"
    |k+1,g::r=>do Cc k ((<-Bl g)++r)
  let CQ:XE->Name->MetaM Bool:=λb v=>do(<-getLocalHyps).toList.anyM λh=>do
    let t<-rZ (<-inferType h)
    return hs t=="Eq"&&(bt t 2).isConstOf v&&bt t 1==b
  let qp:MVarId->TacticM Unit:=λh=>h.withContext do
    let t<-dj h
    let n:=hs t
    if["At","Put","PutAll"].contains n then GS 400 [h]
    else if["le","lt","Ne"].contains n then se h "first | assumption | (run_tac om) | exact (by decide) | (simp; done) | (simp; (run_tac om))"
    else if n=="Eq"then
      let l:=bt t 1
      if hs l=="getElem?"then Cc 200 [h]
      else cT (iF h) do
        if<-isDefEq l (bt t 2) then h.assign (<-mkEqRefl l) else se h "run_tac om"
    else iF h
  let Et:Name->String:=fun
    |.str _ s=>s
    |_=>""
  let iu:(MVarId->TacticM Unit)->List MVarId->TacticM (List MVarId):=λf=>fxz λqz=>have iu:=λ(_:MVarId->TacticM Unit)=>qz;fun
    |[]=>return[]
    |h::r=>do
      let t<-dj h
      if(<-h.isAssigned)||!(<-Meta.isProp t)then iu f r
      else if["Wp","Got","bG"].contains (hs t.headBeta)||["q","k"].contains (Et (<-h.getTag))then return h::(<-iu f r)
      else
        f h
        if<-tF h then gU "open A0 goal"else iu f r
  let kc:MVarId->(MVarId->TacticM Unit)->List String->TacticM (List MVarId):=λg f=>fxz λqz=>have kc:=λ(_:MVarId)=>λ(_:MVarId->TacticM Unit)=>qz;fun
    |[]=>gU "no rule"
    |n::ns=>cT (do iu f (<-eS g [n])) (kc g f ns)
  let HM:String:="Bx HI
aG Gl EG qh Ej aq
aj eU
bF iK
cY Cu eT
fq Gc Cv
bM EL dT
goD CJ EJ EK Cw
gZ Ei Eh xP
jQ qd
lJ El Ek xS
ef uT
sK Gj
lZ Gg
cutD Gh
dk EE vm
gm Ea
ka HJ
dF xM xN pJ
tG HG
ifD H4
gh Gm
q7 HD
FL HF
FM Gf
FK Ge
GV Gn
orE HE
BP HH
hV sW qf
qT EM xR
gl ED
oK Ec Eb
cp vp Ae
nN Ee xK
zo Eg
zM Ef
jD Ed EI
jK H3
vj EN
Fs Cy
uk EH
Cg Gi
pR EF
uq Gd
AH Gk
DC HC"
  let Hi:String:="fC Gw Fm ES Ca
xn Ff Fe
DO
FO rn
DQ Gr
zK Fl
tU EQ
t8 Gq
uA Gs
qD De
FQ Fk
rO CY Bj
jY iZ
iH Dg Df
yS AZ
fE nI zA
oT Fi
sp EP
tZ ER
B5 Gv
wD Fj Bi
ln aX nz
gW ro Gu CZ
d3 gB gz oo ol"
  let FN:String:=" d3 oT sp tZ wD ln B5 qC rO fE gW yw "
  let uB:MVarId->String->XE->TacticM (List MVarId):=λg pre b=>do
    let b'<-whnfD b
    if b'.isConstOf `Bool.true||(<-CQ b `Bool.true) then kc g qp [pre++"t"]
    else if b'.isConstOf `Bool.false||(<-CQ b `Bool.false) then kc g qp [pre++"f"]
    else gU "open HQ"
  let Er:XE->MVarId->TacticM Unit:=λv h=>do
    let ht<-dj h
    unless hs ht=="Eq"&&(<-mt 5 (bt ht 2) v) do gU "value"
    h.assign (mkExpectedPropHint (<-mkEqRefl v) (<-dj h))
  let Bk:MVarId->XE->TacticM (List MVarId):=λg o=>
    cT (kc g qp (um Hi (hs o)))<|cT (kc g (λh=>iF h) ["ah"]) do
      let v<-if has FN (" "++hs o++" ")then gU "no value"else whnfD o
      if hs v=="some"then kc g (Er v) ["ah"] else gU "no value"
  let Bu:MVarId->XE->XE->TacticM (List MVarId):=λg t e=>do
    if hs e=="Eq"&&(bt e 0).isConstOf `Internal.LS then eS g ["Hg"]
    else if hs e=="Eq"&&(bt e 2).isConstOf `Bool.true&&(<-whnfD (bt e 1)).isConstOf `Bool.true then
      let tt:=bt e 2
      eS (<-g.replaceTargetDefEq (mkApp2 (mkConst `And) (<-mkEq tt tt) (bt t 1))) ["IZ"]
    else gU "end"
  let HL:Nat->XE->MetaM XE:=it (λt=>return t) λ_ self t=>do
    let t<-whnfCore t
    if ["kB","kS","kI","kC","kD","kM","kN","kL","kV","kA","kO","pO","pM","kP"].contains (hs t) then self ((<-unfoldDefinition? t).getD t) else return t
  let Em:MVarId->TacticM MVarId:=λg=>g.withContext do
    let t<-HL 60 (<-dj g)
    let t:=if hs t=="Wp"then mkAppN t.getAppFn (t.getAppArgs.modify 1 (·.headBeta)) else t
    g.replaceTargetDefEq t
  let EZ:MVarId->TacticM (List MVarId):=λg=>g.withContext do
    let t<-dj g
    let h:=hs t
    let d:=bt t 1
    if h=="Wp"then
      let k:=hs d
      if k=="jP"then
        cT (eS g [if(bt d 1).isConstOf `Bool.true then"wp_pick_tt"else"wp_pick_ff"]) (uB g "wp_pick_" (bt d 1))
      else if k=="sO"then cT (eS g ["wp_andK_nil"]) (uB g "wp_andK_" (bt d 0))
      else if k=="orK"then cT (eS g ["wp_orK_nil"]) (uB g "wp_orK_" (bt d 0))
      else kc g qp (if d.isLambda then["xH","Ab"] else um HM k)
    else if h=="Got"then Bk g d.headBeta
    else if h=="bG"then cT (kc g qp ["Cb","got2_pop0","ET"]) (kc g (λh=>iF h) ["cB"])
    else if h=="And"then Bu g t (bt t 0)
    else gU "end"
  let Ep:Nat->MVarId->TacticM MVarId:=it (λg=>return g) λ_ self g=>do
    let g<-Em g
    let r<-cT (do
      let l<-EZ g
      if l.length !=1 then gU "goals"
      return l) (pure [])
    match r with
    |h::_=>self h
    |[]=>return g
  let yh:Nat->XE->MetaM (List XE):=it (λ_=>return []) λ_ self e=>do
    let e<-whnfD e
    if hs e=="cons"then return(<-whnfD (bt e 1))::(<-self (bt e 2)) else return []
  let wcon:TacticM Unit:=do
    let g<-getMainGoal
    setGoals [g]
    tacS "(apply D2 (ps := ?ps) (names := ?ns) (hf := nK hK ?e); case e => exact rfl)"
    for g in<-getGoals do
      let t<-dj g
      if hs t=="ScopeOk"then
        let l<-yh 1000 (mkApp (mkConst `PySem.Scope.names) (bt t 0))
        (bt t 2).mvarId!.assign (<-mkListLit (mkConst `PySem.Str) ((l.filter λx=>hs (bt x 3)=="local").map (bt · 2)))
    let mut k:=0
    for g in<-getGoals do
      let t<-dj g
      if hs t=="dp"then
        let a:=(<-yh 100 (mkApp (mkConst `PySem.Arguments.args) (bt t 0))).map (bt · 0)
        (bt t 4).mvarId!.assign (<-mkListLit (mkConst `PySem.Str) a)
        k:=a.length
    tacS ("((case hs => exact ⟨⟨by decide +kernel, by decide +kernel⟩, ⟨_, rfl⟩, by decide +kernel, rfl, rfl, rfl⟩); (case hp => exact plainly"++toString k++" fun"++String.join (List.replicate (8+k) " _")++" => rfl); (case hb => (intro lo; run_tac mwalk)))")
  let wwalk:TacticM Unit:=do
    let t:=(<-dj (<-getMainGoal)).consumeMData
    if hs t=="bG"&&hs (bt t 2)=="specOf"then tacS "apply mA rfl"
    let g0<-getMainGoal
    let t:=(<-dj g0).consumeMData
    let g0<-if hs (bt t 2)=="jm"then do
      let s<-whnfD (bt t 2)
      g0.replaceTargetDefEq (mkAppN t.getAppFn (t.getAppArgs.set! 2 (mkAppN s.getAppFn #[<-mkListLit (mkApp (mkConst `Option [.zero]) (mkConst `Internal.MV)) (<-yh 1000 (bt s 0)),bt s 1])))
      else pure g0
    let others:=(<-getGoals).tail!
    let g<-Ep 100000 g0
    setGoals (g::others)
  let old<-PySem.W.leftPieces.get
  PySem.W.leftPieces.set<|some λg c p l=>do
   let s:=l.headD ""
   if s=="m"||s=="w"||s=="c" then
    let r<-(Tactic.run g (withoutRecover (if s=="m" then mwalk else if s=="c" then wcon else wwalk))).run'
    c.mvarId!.assign (mkAppN (mkConst `Nat) (r.map Lean.mkMVar).toArray)
   else (old.getD λ_ _ _ _=>return ()) g c p l
 trivial
def mwalk:=hk "m"
def wwalk:=hk "w"
def wcon:=hk "c"
end
local macro_rules | `(tactic| cbv) => `(tactic| run_tac Internal.wwalk)
variable{scope0:Scope}{KF:List Str}{use:Option (Value->Sem Unit)}{KY:PySem.Expr}{KN:PySem.Expr}{D:Nat}
section
variable{prog:Program}{w:World}{A:Around}{s:Shared}
theorem tz{R:Result->Shared->Prop}{it KQ:Value}(I:Nat->Shared->Prop)
  (g:∀n s,I n s->wpAny (model prog w) A (pyNext it) (λr a=>match r with
   |none=>R (.ok .next) a
   |some v=>wpAny (model prog w) A (letOwnedTupleGo KN it v) (λ_ e=>wpAny (model prog w) A (assign KN env v) (λ_ d=>wpAny (model prog w) A (eval KY env) (λx c=>
     wpAny (model prog w) A (call (.builtin "list.append") [KQ,x]) (λ_ b=>∃m,m<n/\I m b) NoE c) NoE d) NoE e) NoE a) NoE s)
  (n:Nat)(h:I n s):codeAny (model prog w) A (.compLoop (.ListComp KY [⟨KN,iter,[],0⟩] scope pos) 0 it KQ env) R s:=by
 refine codeAny_loop rfl I (λn s hI=>?_) n h;show wpAny _ _ ((compTurn (.ListComp KY [⟨KN,iter,[],0⟩] scope pos) 0 it KQ env).onRaise (λx=>do noteFrame x env;theTreesLotGoes x)) _ _ s;refine wpAny_noted ?_;rw[compTurn_list1];refine lu (wpAny_standAt (lu (x5 (g n s hI) (λr a f=>?_) λ_ _ h'=>h'.elim)));cases r with
 |none=>exact p5 f
 |some v=>
  refine lu (x5 f (λ_ e h0a=>?_) λ_ _ h'=>h'.elim);refine lu (x5 h0a (λ_ d k=>lu (lu (x5 k (λx c j=>?_) λ_ _ h'=>h'.elim))) λ_ _ h'=>h'.elim);exact lu (x5 j (λ_ b i=>p5 (p5 ⟨rfl,i⟩)) λ_ _ h'=>h'.elim)
end
section
variable{G:Glo}{names:List Str}{φ:List Addr}{xs:List (Addr×Obj)}{st:LS}{h0a h:Heap}{L:Addr}
theorem b7.comp(sim:b7 G names φ xs st h0a L h):∃g:Heap,h0a.StaysIn g/\
  (∀KF a o',a.Ns h.objs.size (λx=>([]:List (Str×Value)).reverse.lookup x)->Heap.SameBut h.objs.size (h.push o') a->b7 G KF φ xs ⟨KF.map λ_=>none,st.mh⟩ g h.objs.size a)/\
  (∀KF K8 d KG h',b7 G KF K8 d KG g h.objs.size h'->φ<+:K8->∃s u,h'.Ns h.objs.size u/\b7 G names K8 ((h.objs.size,s)::d) ⟨st.ρ,KG.mh⟩ h0a L h'):=by
 obtain⟨m,objs,F,N,J,H,le,E⟩:=sim;have nm:∀b o,h0a.get? b=some o->b∉(xs++φ.zip objs).map (·.1):=λb o e q=>by
  obtain⟨p,hp,rfl⟩:=nb.mp q;rw[(N p hp).2.2]at e;cases e
 have c:h0a.StaysIn (hideAll h ((xs++φ.zip objs).map (·.1))):=λb o e=>hideAll_get _ (F.keep b o e) (nm b o e);obtain⟨I,es,Q,hL,B,z,A⟩:=F.ns;have M:L∉(xs++φ.zip objs).map (·.1):=λq=>by
  obtain⟨p,hp,e⟩:=nb.mp q;exact(N p hp).2.1 e
 have k:=hideAll_get _ hL M;have C:L≠h.objs.size:=lz (ry hL);have hC:h0a.get? h.objs.size=none:=by
  cases q:h0a.get? h.objs.size with
  |none=>rfl
  |some o=>exact absurd (ry (F.keep _ _ q)) (o4 _)
 refine⟨_,c,λKF a o' y w=>?_,λKF K8 d KG h' i hp=>?_⟩
 ·have j:∀b o,h.get? b=some o->a.get? b=some o:=λb o e=>w.extBut b o (lz (ry e)) (y0 _ e)
  exact⟨_,objs,⟨y,λb o e=>j b o (of_hideAll _ e),JT (hideAll_size _ _)⟩,λp hp=>⟨j _ _ (N p hp).1,lz (ry (N p hp).1),hideAll_none _ (List.mem_map_of_mem hp)⟩,J,H,le,kw KF,E.2⟩
 ·obtain⟨u,f,n,l,t,r,v,O⟩:=i
  have ns:=n.ns;obtain⟨s,_,_,D,_⟩:=n.ns;refine⟨s,u,ns,m,f,⟨⟨I,es,Q,n.keep _ _ k,B,z,A⟩,λb o e=>n.keep _ _ (c b o e),F.above⟩,λp hp=>?_,?_,r,v,E.mono hp⟩
  ·rcases l9.mp hp with rfl|hp
   ·exact⟨D,Ne.symm C,hC⟩
   ·refine⟨(l p hp).1,λq=>?_,?_⟩
    ·have :=(l p hp).2.2;rw[q,k]at this;cases this
    ·cases q:h0a.get? p.1 with
     |none=>rfl
     |some o=>have :=(l p hp).2.2;rw[c _ _ q]at this;cases this
  ·rw[rC,rx,hM]
   refine⟨λq=>?_,t⟩;obtain⟨p,hp,e⟩:=nb.mp q;exact(l p hp).2.1 e
end
section
variable{G:Glo}{sc:Scope}{names:List Str}{n:Nat}
def D9(D:Nat)(y:MV):Den Unit:=λst=>listAt (λxs=>if xs.length<=16777216 then some ((),{st with mh:=st.mh.set D (.list (xs++[y]))}) else none) st.mh[D]?
def jw(T:MV->Den MF)(E:Den MV)(D:Nat):List MV->Den Unit
 |[]=>λst=>some ((),st)
 |v::l=>aG (T v) λ_=>aG E λy=>aG (D9 D y) λ_=>jw T E D l
noncomputable def DG(D:Nat)(ρ:List (Option MV))(o:Option (Unit×LS)):Option (MV×LS):=o.map λp=>(.ref D,⟨ρ,p.2.mh⟩)
theorem HO{d:Den Unit}{s:LS}{K:MV->LS->Prop}(h:DG D ρ (d s)=some (v,KG))(q:K v KG):Wp d s λ_ a=>K (.ref D) ⟨ρ,a.mh⟩:=by
 obtain⟨⟨u,a⟩,e1,e2⟩:=h8.mp h;cases e2;exact⟨u,a,e1,q⟩
def zo(KF:List Str)(T:MV->Den MF)(E:Den MV)(N:Nat)(a:MV):Den MV:=λst=>match a with
 |.str l=>DG st.mh.length st.ρ (jw T E st.mh.length (dH l) ⟨KF.map λ_=>none,st.mh++[.list []]⟩)
 |_=>none
theorem AJ{c:Cx G sc n}{w:St}{st:LS}{aD:Addr}{y:MV}{f:Value}{K:Unit->LS->Prop}{Q:Value->Shared->Prop}
  (a:W c names st w)(j:w.φ[D]?=some aD)(h:VR w.φ y f)(hd:Wp (D9 D y) st K)(k:∀KG w',K () KG->Nx c names w KG w'->Q .none w'.s):wpAny G.M c.A (call (.builtin "list.append") [.ref aD,f]) Q NoE w.s:=by
 obtain⟨_,_,e,q⟩:=hd;obtain⟨items,hm,e⟩:=dv e;obtain⟨hsz,e⟩:=ifs e;cases e;obtain⟨ad,ws,l,e1,ha,i,hl⟩:=bu a hm ⟨aD,j,rfl⟩;cases e1;have g:items.length=ws.size:=hl.len;refine PyProof.Rows.append_at (hsz:=by rw[JW];lia) i λh' b d=>k _ ⟨_,w.φ⟩ q (Nx.chg a hm ha b d ⟨_,_,rfl,?_⟩ a.2);rw[Array.toList_push];exact hl.app (.cons h .nil)
theorem t6{E:Den MV}{c:Cx G sc n}{aD:Addr}{w:St}{st:LS}{o:Obj}{K:Unit->LS->Prop}
  {P:Nat->Value->Prop}{R:Result->Shared->Prop}(ht:lM G sc names n KN T)(he:SemE G sc names n KY E)
  (Wk:Walks G.prog G.w c.A I [I] [I] items.length P Sa)(hP:∀i v,i<items.length->P i v->∃N,items[i]?=some N/\∀φ,VR φ N v)(af:∀i h,Sa i h->∃o,h.get? I=some o/\o.cls=.type ty)
  (hT:["enumerate","zip","dict_itemiterator","dict_reverseitemiterator","odict_iterator","itertools.zip_longest","itertools.pairwise"].contains ty=false)
  (sm:W (c.ax I o) names st w)(hD:w.φ[D]?=some aD)(h0:Sa 0 w.s.heap)(hd:Wp (jw T E D items) st K)
  (k:∀KG w',K () KG->Nx c names w KG w'->R (.ok .next) w'.s):codeAny G.M c.A (.compLoop (.ListComp KY [⟨KN,iter,[],0⟩] scope0 pos) 0 (.ref I) (.ref aD) c.env) R w.s:=by
 refine tz (λV s'=>∃(i:Nat)(w':St)(KI:LS)(o:Obj),w'.s=s'/\V+i=items.length/\Nw w w'/\W (c.ax I o) names KI w'/\Sa i w'.s.heap/\Wp (jw T E D (items.drop i)) KI K)
  ?_ items.length ⟨0,w,st,o,rfl,rfl,⟨la,.rfl⟩,sm,h0,hd⟩
 rintro V _ ⟨i,w',KI,o,rfl,an,nw,d,hst,hk⟩;by_cases f:i<items.length
 ·refine dU (ep _) (Wk.item i w'.s _ _ f hst λv h' tk ag m aa r=>?_)
  obtain⟨N,Y,rv⟩:=hP i v f ag;have z:items.drop i=N::items.drop (i+1):=by
   rw[e9 f];congr 1;exact ec ((fg f).symm.trans Y)
  rw[z]at hk;obtain⟨o',q,U⟩:=af _ _ m;have Q:W (c.ax I o') names KI ⟨{w'.s with heap:=h',toks:=tk},w'.φ⟩:=⟨(d.1.keepx λb ob hb e=>aa b ob (by simpa using hb) e).2 o' q,ml d.2 r⟩;refine lW (s:={w'.s with heap:=h',toks:=tk}) q U hT (ht (c.ax I o') KI ⟨_,w'.φ⟩ N v _ _ Q (rv _) (wB hk) λg KW C x l=>he (c.ax I o') KW C _ _ l.sim (wB x) λy O ai y' u j H=>?_);have L:=l.trans j;refine AJ (c:=c.ax I o') j.sim (aO (nw.1.trans L.pre) hD) H (wB u) λp B t a=>?_;have J:=L.trans a;refine⟨V-1,by lia,i+1,B,p,o',rfl,by lia,nw.trans ⟨J.pre,(Same.heap (s:=w'.s)).trans J.same⟩,a.sim,Wk.frame _ _ _ m λb hb ob e=>?_,t⟩;have hb:b=I:=by simpa using hb
  subst hb;rw[q]at e;rw[<-e];exact a.sim.1.atx
 ·have ab:i=items.length:=by lia
  subst ab;rw[pa]at hk;refine dU (ep _) (Wk.done w'.s _ _ hst λh' tk ae r=>?_);exact k _ ⟨_,w'.φ⟩ (wK hk) ⟨nw.1,nw.2.trans .heap,(d.1.keepx λb ob hb e=>ae b ob (by simpa using hb) e).1,ml d.2 r⟩
structure CompOk(scope:Scope):Prop where
 kinds:(scope.names.all λx=>decide (x.2≠.free)&&decide (x.2≠.cell))=true
 locs:(scope.names.all λx=>decide (x.2=.local->scope.names.lookup x.1=some .local))=true
 kind:scope.kind=.function
theorem ph(h:∀x∈scope.names,x.2≠.free)(env:Env):relabel scope env=scope:=by
 unfold relabel;rw[map_eq_self];rintro⟨n,k⟩ hx;have :(k==NameKind.free)=false:=by simpa using h _ hx
 simp[this]
theorem t0{d:Scope}{Y:PySem.Expr}{cl:List (Str×Addr)}{Q:Value->Shared->Prop}{c:Cx G sc n}{w:St}{o:Obj}{K:List MO->Prop}
    (q:∀x∈scope.names,x.2≠.cell)(kk:scope.kind=.function)(T:d.kind=.function)(B:relabel scope c.env=d)
    (l:∀x i,G.cl.lookup x=some i->d.names.lookup x=some .cell->∃a,cl.lookup x=some a/\G.φ0[i]?=some a)
    (nw:Nw w w1a)(E:W (c.ax I o) names KD w1a)
    (run:∀(r:Cx G d 0)(aD:Addr)(k:St)(R:Result->Shared->Prop),r.A=c.A->r.env=compEnvC scope cl r.L c.env->W (r.ax I o) KF ⟨KF.map λ_=>none,KD.mh++[.list []]⟩ k->k.φ=w1a.φ++[aD]->(∀b ob,w1a.s.heap.get? b=some ob->k.s.heap.get? b=some ob)->
      (∀KG w',K KG.mh->Nx r KF k KG w'->R (.ok .next) w'.s)->codeAny G.M r.A (.compStart Y 0 (.ref I) (.ref aD) r.env) R k.s)
    (post:∀(C aD:Addr)(N:Obj)(O:Str->Option Value)(KA:List MO)(w':St),w'.s.heap.Ns C O->W (c.ax C N) names ⟨KD.ρ,KA⟩ w'->K KA->Nw w w'->VR w'.φ (.ref KD.mh.length) (.ref aD)->compPost G.M c.A NoE use Q (.ref aD) C (.ok .next) w'.s):
    wpAny G.M c.A (newList []) (λKQ v=>wpAny G.M c.A (newFunctionEnv scope c.env.globals cl [] c.env.qual none .none (some c.env)) (λp u=>
        codeAny G.M c.A (.compStart Y 0 (.ref I) KQ {p with scope:=relabel scope c.env}) (compPost G.M c.A NoE use Q KQ p.locals) u) NoE v) NoE w1a.s:=by
  refine J1 (wpAny_newFunctionEnv q (by intro y hy;simp at hy) (λz j f=>?_) kk);dsimp only at j f⊢;have m:b7 G names (w1a.φ++[w1a.s.heap.objs.size]) ((I,o)::c.xs) {KD with mh:=KD.mh++[.list []]} c.h0a c.L (w1a.s.heap.push {cls:=.type "list",dict:=none,data:=.seq ([]:List Value).toArray}):=E.1.alloc rfl ⟨#[],_,rfl,.nil⟩;generalize V:w1a.s.heap.push {cls:=.type "list",dict:=none,data:=.seq ([]:List Value).toArray}=H at j f m⊢;obtain⟨g,hst,U,D⟩:=m.comp;have ok:=c.ok;have J:Fok G 0 d (compEnvC scope cl H.objs.size c.env) H.objs.size g c.A:=
    {scope:=B,kind:=T,loc:=rfl,glob:=ok.glob,blt:=ok.blt,frame:=λh=>absurd h (o4 _),below:=λh=>absurd h (o4 _),
      cells:=l,inK:=ok.inK.keeps hst,top:=ok.top.keeps hst,bm:=(let ⟨b,o,x⟩:=ok.bm;⟨b,o,x.keeps hst⟩),hnd:=ok.hnd,pre:=G.pmono hst ok.pre,depth:=by have :=ok.depth;lia,units:=by have :=ok.units;lia}
  refine run ⟨c.A,_,H.objs.size,g,c.xs,J⟩ w1a.s.heap.objs.size ⟨_,w1a.φ++[w1a.s.heap.objs.size]⟩ _ rfl rfl ⟨U KF z _ j f,ml E.2 (tj _ _)⟩ rfl
    (λb ob e=>f.extBut b ob (lz (by rw[<-V,Heap.size_push];exact Jj (ry e))) (y0 _ (V▸y0 _ e))) λKG w' hK t=>?_
  obtain⟨N,O,ns,back⟩:=D KF w'.φ c.xs _ _ t.sim.1 t.pre;exact post H.objs.size _ N O KG.mh w' ns ⟨back,t.sim.2⟩ hK (nw.trans ⟨(eh _ _).trans t.pre,(Same.heap (s:=w1a.s)).trans t.same⟩) ⟨_,aO t.pre (by rw[<-j4 E.1];simp),rfl⟩
theorem Hs{E:Den MV}(m:CompOk scope)(Y:∀env x,foldedSetIterable iter env x=pure x)(hi:SemE G sc names n iter d)
  (ht:lM G scope KF 0 KN T)(he:SemE G scope KF 0 KY E):SemE G sc names n (.ListComp KY [⟨KN,iter,[],0⟩] scope pos) (aG d (zo KF T E NN)):=by
 intro c st w K Q sm hd k;have kinds:∀x∈scope.names,x.2≠.free/\x.2≠.cell:=λx hx=>by have :=gb.mp m.kinds x hx;simpa using this
 have g:=λx hx=>(kinds x hx).2;show wpAny _ _ (eval (.ListComp KY [⟨KN,iter,[],0⟩] scope pos) c.env) _ _ _;rw[eval_ListComp];refine wpAny_comprehension_free (use:=none) rfl (Y c.env) (closureFor_none λx hx=>(kinds x hx).1) m.kind (λx hx=>go (gb.mp m.locs x hx)) (hi c st w _ _ sm (wB hd) λa KD w1a a' z f N=>?_);obtain⟨v,s',e,q⟩:=z;cases a with
 |str l=>
  obtain⟨t,rfl⟩:=N;have hE:=HO e q;have r:(⟨l.toArray⟩:Str).cps.size=(dH l).length:=by simp[dH]
  have j:∀{ty:String}{P:Nat->Value->Prop}{Sa:Nat->Heap->Prop}{o:Obj},(∀B:Cx G scope 0,B.A=c.A->Walks G.prog G.w B.A w1a.s.heap.objs.size [w1a.s.heap.objs.size] [w1a.s.heap.objs.size] (dH l).length P Sa)->(∀i v,P i v->∃mv,(dH l)[i]?=some mv/\∀φ,VR φ mv v)->
    (∀i h,Sa i h->∃o,h.get? w1a.s.heap.objs.size=some o/\o.cls=.type ty)->(∀h:Heap,h.get? w1a.s.heap.objs.size=some o->Sa 0 h)->o.isFreed=false->
    ["enumerate","zip","dict_itemiterator","dict_reverseitemiterator","odict_iterator","itertools.zip_longest","itertools.pairwise"].contains ty=false->wpAny G.M c.A (newList []) (λKQ J=>wpAny G.M c.A (newFunctionEnv scope c.env.globals [] [] c.env.qual none .none (some c.env)) (λu I=>
    codeAny G.M c.A (.compStart (.ListComp KY [⟨KN,iter,[],0⟩] scope pos) 0 (.ref w1a.s.heap.objs.size) KQ {u with scope:=relabel scope c.env}) (compPost G.M c.A NoE none Q KQ u.locals) I) NoE J) NoE {w1a.s with heap:=w1a.s.heap.push o}:=λ{ty P Sa o}Wk hP aa ab hf hT=>
   t0 (KF:=KF) (w:=w) (w1a:=⟨{w1a.s with heap:=w1a.s.heap.push o},w1a.φ⟩) (K:=λKA=>K (.ref KD.mh.length) ⟨KD.ρ,KA⟩) g m.kind m.kind (ph (λx hx=>(kinds x hx).1) c.env) (λx i _ hx=>absurd rfl (g _ (mem_of_lookup hx)))
    ⟨f.pre,f.same.trans .heap⟩ ⟨f.sim.1.addx hf,f.sim.2⟩
    (λB aD ae R H ag y hφ V kR=>by
     have h0:=ab _ (V _ _ (Jr _ hf));have p:=t6 (scope0:=scope) (iter:=iter) (pos:=pos) (D:=KD.mh.length) ht he (Wk B H) (λi v _ h=>hP i v h) aa hT y (aD:=aD) (by rw[hφ,<-j4 f.sim.1];simp) h0 hE (λKG w' q nx=>kR KG w' q nx);exact codeAny_compStart_list p ((Wk B H).self 0 _ _ _ h0 p))
    λC aD oC m' KA w' ns L hK O rv=>⟨m',ns,λaq U=>k _ _ ⟨_,w'.φ⟩ _ hK ⟨O.1,O.2.trans .heap,(L.1.keepx λb ob hb e=>U.extBut b ob hb e).1,L.2⟩ rv⟩
  cases ha:(⟨l.toArray⟩:Str).cps.all (·<128)
  ·exact wpAny_pyIter_wide ha (j (ty:="str_iterator") (λB H=>r▸Walks.strWide (H▸c.ok.hnd) w1a.s.heap.objs.size ⟨l.toArray⟩ t) (λ_ _ h=>gn h) (λi h ⟨o,h1,h2,_⟩=>⟨o,h1,h2⟩) (λh e=>⟨_,e,rfl,rfl⟩) rfl (by decide+kernel))
  ·exact wpAny_pyIter_ascii ha (j (ty:="str_ascii_iterator") (λB H=>r▸Walks.strAscii (H▸c.ok.hnd) w1a.s.heap.objs.size ⟨l.toArray⟩ t) (λ_ _ h=>gn h) (λi h ⟨o,h1,h2,_⟩=>⟨o,h1,h2⟩) (λh e=>⟨_,e,rfl,rfl⟩) rfl (by decide+kernel))
 |_=>exact nos e
end
theorem plainly3{a b c:Str}(h:∀name qual kV doc pm an cdv ct v w x,bindArgs (fnOf name qual params body scope dV kV doc pm an cdv ct) ⟨[v,w,x],[]⟩=pure [(a,v),(b,w),(c,x)]):dp params body scope dV [a,b,c]:=by
 intro name qual kV doc pm an cdv ct d hl;have hl:d.length=3:=hl;obtain⟨v,r,rfl,h1⟩:=f9 hl;obtain⟨w,r,rfl,h2⟩:=f9 h1;obtain⟨x,rfl⟩:=rP h2;exact h ..
theorem plainly5{a b c d e:Str}(h:∀name qual kV doc pm an cdv ct v w x y z,bindArgs (fnOf name qual params body scope dV kV doc pm an cdv ct) ⟨[v,w,x,y,z],[]⟩=pure [(a,v),(b,w),(c,x),(d,y),(e,z)]):dp params body scope dV [a,b,c,d,e]:=by
 intro name qual kV doc pm an cdv ct f hl;have hl:f.length=5:=hl;obtain⟨v,r,rfl,h1⟩:=f9 hl;obtain⟨w,r,rfl,h2⟩:=f9 h1;obtain⟨x,r,rfl,g⟩:=f9 h2;obtain⟨y,r,rfl,h4⟩:=f9 g;obtain⟨z,rfl⟩:=rP h4;exact h ..
section
variable{st:LS}{ρ:List (Option MV)}{mh:List MO}{QV:MV->LS->Prop}{QU:Unit->LS->Prop}
theorem Eg{E:Den MV}(h:Wp (jw T E mh.length (dH l)) ⟨KF.map λ_=>none,mh++[.list []]⟩ λ_ s=>QV (.ref mh.length) ⟨ρ,s.mh⟩):Wp (zo KF T E N (.str l)) ⟨ρ,mh⟩ QV:=by
 obtain⟨u,s,e,q⟩:=h;exact⟨_,_,by unfold zo DG;simp only[e,yL],q⟩
theorem Cz{y:MV}(h:mh[D]?=some (.list xs))(hl:xs.length<=16777216)(q:QU () ⟨ρ,mh.set D (.list (xs++[y]))⟩):Wp (D9 D y) ⟨ρ,mh⟩ QU:=
 ⟨(),_,(ed (listAt _) h).trans (dt (e:=none) hl),q⟩
theorem xO{f:MV->MV}{E:Den MV}(hE:∀v mh,v∈items->Wp E ⟨[some v],mh⟩ λy s=>y=f v/\s=⟨[some v],mh⟩)(b:items.length<=16777216)(k:∀o,QU () ⟨[o],mh++[.list (items.map f)]⟩):
  Wp (jw (cY 0) E mh.length items) ⟨[none],mh++[.list []]⟩ QU:=by
 have key:∀(l done:List MV)(o:Option MV),items=done++l->Wp (jw (cY 0) E mh.length l) ⟨[o],mh++[.list (done.map f)]⟩ QU:=by
  intro l;induction l with
  |nil=>intro done o e;refine⟨(),_,rfl,?_⟩;rw[e,m4]at k;exact k o
  |cons v l a=>
   intro done o e;refine aq (eT .head ?_);refine aq (aQ (hE v _ (by rw[e];simp)) ?_);rintro y s ⟨rfl,rfl⟩;refine aq (Cz (xs:=done.map f) aW (by have :=ed List.length e;simp at this⊢;lia) ?_);have e2:(mh++[MO.list (done.map f)]).set mh.length (.list (done.map f++[f v]))=mh++[.list ((done++[v]).map f)]:=by
    rw[JX _ _ (ep _)];simp
   rw[e2];exact a (done++[v]) _ (by rw[e];simp)
 exact key items [] none rfl
end
theorem vt{K:Frag}:pH K name []:=λ_ _ h=>by cases h
theorem bH{K:Frag}{k:AK}(h:AY K C name k)(t:pH K name tab):pH K name ((C,k)::tab):=by
 intro a b e;rw[v5]at e;cases q:a==C with
 |true=>rw[q]at e;obtain rfl:=ec e;obtain rfl:=eq_of_beq q;exact h
 |false=>rw[q]at e;exact t a b e
theorem ji{f:Addr×Nat×Addr->β}{k:β}:∀{L:List (Addr×Nat×Addr)},(L.map λq=>(q.1,f q)).lookup C=some k->∃q∈L,q.1=C/\f q=k
 |[],h=>by cases h
 |q::L,h=>by
  rw[rx,v5]at h;cases e:C==q.1 with
  |true=>rw[e]at h;exact⟨q,wo,(eq_of_beq e).symm,ec h⟩
  |false=>
   rw[e]at h;obtain⟨x,m,h1,h2⟩:=ji h;exact⟨x,tu _ m,h1,h2⟩
noncomputable def Fo(K:Frag)(name:Str)(q:Addr×Nat×Addr):Bool×Bool×Option (Option Value)×Option (Option Value)×Option Bool×Option Nat:=(plainGet K q.1 name,isClsIn K q.1,findIn K (.ref q.1) name,specialIn K (.ref q.2.2) "__get__",takesIn K (.ref q.2.2),slotIn K q.2.2 q.1)
noncomputable def Fp(q:Addr×Nat×Addr):Bool×Bool×Option (Option Value)×Option (Option Value)×Option Bool×Option Nat:=(true,true,some (some (.ref q.2.2)),some (some (.builtin "member_descriptor.__get__")),some true,some q.2.1)
noncomputable def FC(K:Frag)(name:Str)(q:Addr×Nat×Addr):Option (Option Value)×Bool×Bool×Option (Option Value)×Option Value×Option Nat:=(findIn K (.ref q.1) "__setattr__",plainOver K q.1,Nat.blt q.2.1 1000,takerIn K q.1 name,typeIn K (.ref q.2.2),slotIn K q.2.2 q.1)
noncomputable def FD(q:Addr×Nat×Addr):Option (Option Value)×Bool×Bool×Option (Option Value)×Option Value×Option Nat:=(some (some (.builtin "object.__setattr__")),true,true,some (some (.ref q.2.2)),some (.type "member_descriptor"),some q.2.1)
theorem Eu{K:Frag}(L:List (Addr×Nat×Addr))(h:L.map (Fo K name)=L.map Fp):pH K name (L.map λq=>(q.1,.slot q.2.1)):=by
 intro C k e;obtain⟨q,m,rfl,rfl⟩:=ji (f:=λq=>AK.slot q.2.1) e;have :=List.map_inj_left.mp h q m;simp only[Fo,Fp,Prod.mk.injEq]at this;obtain⟨h1,h2,c,h4,b,a⟩:=this;exact⟨h1,h2,_,c,h4,b,a⟩
theorem FB{K:Frag}(L:List (Addr×Nat×Addr))(h:L.map (FC K name)=L.map FD):Cp K name (L.map λq=>(q.1,q.2.1)):=by
 intro C k e;obtain⟨q,m,rfl,rfl⟩:=ji (f:=λq=>q.2.1) e;have :=List.map_inj_left.mp h q m;simp only[FC,FD,Prod.mk.injEq]at this;obtain⟨h1,h2,c,h4,b,a⟩:=this;exact⟨h1,h2,v0 c,_,h4,b,a⟩
section
variable{G:Glo}{P:Params}(hK:HK G P)
include hK
theorem IF:True:=by
 run_tac do
  for s in ["theorem Internal.po_#0{G:Glo}{P:Params}(hK:HK G P):Cp G.K \"#0\" [#P]:=FB [#T] (by rw[hK];kernel_rfl)|kind 104,0,105;message 104,1,106;source_column 104,2,75 134,1,75 163,1,75 206,1,75 235,2,75 265,2,75 295,2,75 325,2,75 355,2,75 385,2,75 415,4,75 447,4,75 479,6,75 513,1,75 542,1,75 571,1,75 600,3,75;source_line 104,3,76 134,2,76 163,2,76 206,2,76 235,3,76 265,3,76 295,3,76 325,3,76 355,3,76 385,3,76 415,5,76 447,5,76 479,7,76 513,2,76 542,2,76 571,2,76 600,4,76;value 134,0,135 163,0,164 206,0,207 235,1,237 265,1,267 295,1,297 325,1,327 355,1,357 415,3,419 447,3,451 479,5,485;lower_value 235,0,236 265,0,266;is_identifier 295,0,296;representation 325,0,326 355,0,356 415,2,418 447,2,450 479,3,483;end 385,0,386;start 385,1,387;int_value 415,0,416 447,0,448 479,0,480;is_integer 415,1,417 447,1,449 479,1,481;lower_unit 479,2,482;unit 479,4,484;content 513,0,514 542,0,543 571,0,572;arguments 600,0,601;lower_name 600,1,602;name 600,2,603",
   "theorem Internal.ta_#0{G:Glo}{P:Params}(hK:HK G P):pH G.K \"#0\" [#S]:=Eu [#T] (by rw[hK];kernel_rfl)|kind 104,0,105;source_column 104,2,75 134,1,75 163,1,75 206,1,75 235,2,75 265,2,75 295,2,75 325,2,75 355,2,75 385,2,75 415,4,75 447,4,75 479,6,75 513,1,75 542,1,75 571,1,75 600,3,75;source_line 104,3,76 134,2,76 163,2,76 206,2,76 235,3,76 265,3,76 295,3,76 325,3,76 355,3,76 385,3,76 415,5,76 447,5,76 479,7,76 513,2,76 542,2,76 571,2,76 600,4,76;value 134,0,135 163,0,164 206,0,207 235,1,237 265,1,267 295,1,297 325,1,327 355,1,357 415,3,419 447,3,451 479,5,485;is_identifier 295,0,296;representation 325,0,326 355,0,356 415,2,418 447,2,450 479,3,483;end 385,0,386;start 385,1,387;int_value 415,0,416 447,0,448 479,0,480;unit 479,4,484;content 513,0,514 542,0,543 571,0,572;arguments 600,0,601;name 600,2,603"]do
   let t:=s.splitOn "|"
   for r in(t.getD 1 "").splitOn ";"do
    let w:=r.splitOn " "
    let T:=(w.drop 1).map (·.splitOn ",")
    let g(l:List String)(i:Nat):String:=l.getD i ""
    let j(f:List String->String):String:=",".intercalate (T.map f)
    let c:=[("#0",g w 0),("#1",((g w 0).dropWhile (·=='_')).toString),("#2",g w 1),("#3",g w 2),("#P",j λl=>s!"({g l 0},{g l 1})"),("#S",j λl=>s!"({g l 0},.slot {g l 1})"),("#T",j λl=>s!"({g l 0},{g l 1},{g l 2})")].foldl (λt p=>t.replace p.1 p.2) ("open PySem PySem.W PySem.Calls PyProof.Rows Internal in "++t.getD 0 "")
    match Lean.Parser.runParserCategory (<-Lean.getEnv) `command c with
    |.ok x=>Lean.liftCommandElabM (Lean.Elab.Command.elabCommand x)
    |.error e=>throwError e
 trivial
theorem II:True:=by
 run_tac do
  for s in["theorem Internal.ct_#0{G:Glo}{P:Params}(hK:HK G P):ClsStr G.K #0 \"type\" [#2]:=by\n run_tac packS\n refine ⟨by rw[hK];kernel_rfl,Str.ofString (String.ofList [#3]),?t,?h,Fast.ofString_ofList _⟩\n case h=>rw[hK];with_unfolding_all exact rfl\n run_tac packE|104 101,114,114,111,114 'e','r','r','o','r';134 99,111,109,109,101,110,116 'c','o','m','m','e','n','t';163 119,104,105,116,101,115,112,97,99,101 'w','h','i','t','e','s','p','a','c','e';206 108,105,116,101,114,97,108 'l','i','t','e','r','a','l';235 105,100,101,110,116 'i','d','e','n','t';265 97,116,45,107,101,121,119,111,114,100 'a','t','-','k','e','y','w','o','r','d';295 104,97,115,104 'h','a','s','h';325 115,116,114,105,110,103 's','t','r','i','n','g';355 117,114,108 'u','r','l';385 117,110,105,99,111,100,101,45,114,97,110,103,101 'u','n','i','c','o','d','e','-','r','a','n','g','e';415 110,117,109,98,101,114 'n','u','m','b','e','r';447 112,101,114,99,101,110,116,97,103,101 'p','e','r','c','e','n','t','a','g','e';479 100,105,109,101,110,115,105,111,110 'd','i','m','e','n','s','i','o','n';513 40,41,32,98,108,111,99,107 '(',')','\\x20','b','l','o','c','k';571 123,125,32,98,108,111,99,107 '{','}','\\x20','b','l','o','c','k';600 102,117,110,99,116,105,111,110 'f','u','n','c','t','i','o','n'"]do
   let t:=s.splitOn "|"
   for r in(t.getD 1 "").splitOn ";"do
    let w:=r.splitOn " "
    let T:=(w.drop 1).map (·.splitOn ",")
    let g(l:List String)(i:Nat):String:=l.getD i ""
    let j(f:List String->String):String:=",".intercalate (T.map f)
    let c:=[("#0",g w 0),("#1",((g w 0).dropWhile (·=='_')).toString),("#2",g w 1),("#3",g w 2),("#P",j λl=>s!"({g l 0},{g l 1})"),("#S",j λl=>s!"({g l 0},.slot {g l 1})"),("#T",j λl=>s!"({g l 0},{g l 1},{g l 2})")].foldl (λt p=>t.replace p.1 p.2) ("open PySem PySem.W PySem.Calls PyProof.Rows Internal in "++t.getD 0 "")
    match Lean.Parser.runParserCategory (<-Lean.getEnv) `command c with
    |.ok x=>Lean.liftCommandElabM (Lean.Elab.Command.elabCommand x)
    |.error e=>throwError e
 trivial
theorem ct_542:ClsStr G.K 542 "type" [91,93,32,98,108,111,99,107]:=by
 refine⟨by rw[hK];kernel_rfl,Str.ofString (String.ofList ['[',']',' ','b','l','o','c','k']),?t,?h,Fast.ofString_ofList _⟩;case h=>rw[hK];with_unfolding_all exact rfl
theorem ta_type:pH G.K "type" [(104,.text [101,114,114,111,114]),(134,.text [99,111,109,109,101,110,116]),(163,.text [119,104,105,116,101,115,112,97,99,101]),(206,.text [108,105,116,101,114,97,108]),(235,.text [105,100,101,110,116]),(265,.text [97,116,45,107,101,121,119,111,114,100]),(295,.text [104,97,115,104]),(325,.text [115,116,114,105,110,103]),(355,.text [117,114,108]),(385,.text [117,110,105,99,111,100,101,45,114,97,110,103,101]),(415,.text [110,117,109,98,101,114]),(447,.text [112,101,114,99,101,110,116,97,103,101]),(479,.text [100,105,109,101,110,115,105,111,110]),(513,.text [40,41,32,98,108,111,99,107]),(542,.text [91,93,32,98,108,111,99,107]),(571,.text [123,125,32,98,108,111,99,107]),(600,.text [102,117,110,99,116,105,111,110])]:=(bH (k:=.text [101,114,114,111,114]) (ct_104 hK) (bH (k:=.text [99,111,109,109,101,110,116]) (ct_134 hK) (bH (k:=.text [119,104,105,116,101,115,112,97,99,101]) (ct_163 hK) (bH (k:=.text [108,105,116,101,114,97,108]) (ct_206 hK) (bH (k:=.text [105,100,101,110,116]) (ct_235 hK) (bH (k:=.text [97,116,45,107,101,121,119,111,114,100]) (ct_265 hK) (bH (k:=.text [104,97,115,104]) (ct_295 hK) (bH (k:=.text [115,116,114,105,110,103]) (ct_325 hK) (bH (k:=.text [117,114,108]) (ct_355 hK) (bH (k:=.text [117,110,105,99,111,100,101,45,114,97,110,103,101]) (ct_385 hK) (bH (k:=.text [110,117,109,98,101,114]) (ct_415 hK) (bH (k:=.text [112,101,114,99,101,110,116,97,103,101]) (ct_447 hK) (bH (k:=.text [100,105,109,101,110,115,105,111,110]) (ct_479 hK) (bH (k:=.text [40,41,32,98,108,111,99,107]) (ct_513 hK) (bH (k:=.text [91,93,32,98,108,111,99,107]) (ct_542 hK) (bH (k:=.text [123,125,32,98,108,111,99,107]) (ct_571 hK) (bH (k:=.text [102,117,110,99,116,105,111,110]) (ct_600 hK) vt)))))))))))))))))
theorem ba_Node:BaseAt G.K 74 56 "__init__":=⟨by rw[hK];kernel_rfl,⟨.type "type",by rw[hK];kernel_rfl,by rw[hK];kernel_rfl⟩,by rw[hK];kernel_rfl⟩
theorem IE:True:=by
 run_tac do
  for s in["theorem Internal.mo_#0{G:Glo}{P:Params}(hK:HK G P):MakeOk G.K #0 #2:=⟨by rw[hK];kernel_rfl,by rw[hK];kernel_rfl,by rw[hK];kernel_rfl,by rw[hK];kernel_rfl⟩|104 93;134 123;163 152;206 181;235 224;265 254;295 284;325 314;355 344;385 374;415 404;447 436;479 468;513 502;542 531;571 560;600 589"]do
   let t:=s.splitOn "|"
   for r in(t.getD 1 "").splitOn ";"do
    let w:=r.splitOn " "
    let T:=(w.drop 1).map (·.splitOn ",")
    let g(l:List String)(i:Nat):String:=l.getD i ""
    let j(f:List String->String):String:=",".intercalate (T.map f)
    let c:=[("#0",g w 0),("#1",((g w 0).dropWhile (·=='_')).toString),("#2",g w 1),("#3",g w 2),("#P",j λl=>s!"({g l 0},{g l 1})"),("#S",j λl=>s!"({g l 0},.slot {g l 1})"),("#T",j λl=>s!"({g l 0},{g l 1},{g l 2})")].foldl (λt p=>t.replace p.1 p.2) ("open PySem PySem.W PySem.Calls PyProof.Rows Internal in "++t.getD 0 "")
    match Lean.Parser.runParserCategory (<-Lean.getEnv) `command c with
    |.ok x=>Lean.liftCommandElabM (Lean.Elab.Command.elabCommand x)
    |.error e=>throwError e
 trivial
end
theorem ET{Q:MV->List MO->Prop}(h:bG (J9 (.ref (mh.length+1)::vs) (mh++[.edict,.inst C mh.length []])) λr KA=>r=.none/\Q (.ref (mh.length+1)) KA):bG (u0 C J9 vs mh) Q:=by
 obtain⟨r,KA,e,rfl,q⟩:=h;exact⟨_,_,by unfold u0;rw[e],q⟩
theorem Bi{tab:List (Addr×Nat)}{r d:Nat}{Q:List MO->Prop}(h:mh[r]?=some (.inst C d fs))(hd:mh[d]?=some .edict)(a:tab.lookup C=some i)(q:Q (mh.set r (.inst C d ((fs++List.replicate (i+1-fs.length) none).set i (some v))))):Got (wD tab mh (.ref r) v) Q:=
 ah (by unfold wD;simp only[h,hd,a]) q
theorem Fj{tab:List (Addr×Nat)}{r d:Nat}{Q:List MO->Prop}(h:mh[r]?=some (.inst C d fs))(hd:mh[d]?=some .edict)(b:tab.lookup C=some i)(a:i<fs.length)(q:Q (mh.set r (.inst C d (fs.set i (some v))))):Got (wD tab mh (.ref r) v) Q:=
 Bi h hd b (by rw[I7 a,Jc,m4];exact q)
theorem aX{r d:Nat}(h:mh[r]?=some (.inst C d fs))(hd:mh[d]?=some .edict)(b:tab.lookup C=some (.slot i))(a:fs[i]?=some (some v))(q:Q v):Got (ln tab mh (.ref r)) Q:=
 ah (by unfold ln;simp only[h,hd,b,a,Option.join_some]) q
theorem nz{r d:Nat}(h:mh[r]?=some (.inst C d fs))(hd:mh[d]?=some .edict)(a:tab.lookup C=some (.text l))(q:Q (.str l)):Got (ln tab mh (.ref r)) Q:=
 ah (by unfold ln;simp only[h,hd,a]) q
variable{QB:Bool->LS->Prop}
section
variable{G:Glo}{sc:Scope}{names:List Str}{n:Nat}
theorem Hr{x:Str}{t:Tok}(g:GName G sc x (.str ⟨l.toArray⟩ t)):SemE G sc names n (.Name x pos) (aj (.str l)):= 
 λ_ _ w _ _ a hd k=>fU g a (k _ _ w _ (wK hd) a.nx ⟨t,rfl⟩)
def GY(G:Glo)(a:Addr)(items:List MV):Prop:=∃vs b,G.K.lookup a=some {cls:=.type "tuple",data:=.seq vs b}/\∀φ,All2 (VR φ) items vs.toList
noncomputable def vf:List MV:=[.str [48],.str [49],.str [50],.str [51],.str [52],.str [53],.str [54],.str [55],.str [56],.str [57]]
def Bx(a:MV):Den Bool:=λst=>(gg a vf).map (·,st)
theorem Ew{l:PySem.Expr}{p:Pos}(hs:GY G 606 vf)(g:GName G sc "_DIGITS" (.ref 606))(h:SemE G sc names n l d):
  SemT G sc names n (.Compare l [.In] [.Name "_DIGITS" p] pos) (aG d Bx):=by
 intro c st w K Q m hd k;refine Je (h c st w _ _ m (wB hd) λa KD w1a a' f b i=>fU g b.sim ?_) rfl;obtain⟨r,e,hk⟩:=wO (g:=λ_=>gg a vf) f;obtain⟨vs,o,j,hl⟩:=hs;obtain⟨h1,h2⟩:=nj (A:=c.A.in1) (s:=w1a.s) i (hl w1a.φ) e;exact PySem.SeqAt.in_tupleAt (items:=vs) (eqR · a') ⟨_,b.sim.inK _ _ j,rfl,o,rfl⟩ (λy hy=>h1 y (Array.mem_toList_iff.mpr hy)) (by rw[sN,h2];exact xt (k r _ w1a hk b))
end
section
variable{G:Glo}{P:Params}{sc:Scope}
theorem wZ(hK:HK G P):GY G 606 vf:=by
 refine⟨_,_,by rw[hK];exact rfl,λφ=>?_⟩;exact .cons ⟨_,rfl⟩ (.cons ⟨_,rfl⟩ (.cons ⟨_,rfl⟩ (.cons ⟨_,rfl⟩ (.cons ⟨_,rfl⟩ (.cons ⟨_,rfl⟩ (.cons ⟨_,rfl⟩ (.cons ⟨_,rfl⟩ (.cons ⟨_,rfl⟩ (.cons ⟨_,rfl⟩ .nil)))))))))
theorem gn_DIGITS(hK:HK G P)(kind:sc.names.lookup ("_DIGITS":Str)=some .globalImplicit):GName G sc "_DIGITS" (.ref 606):=⟨kind,by rw[hK];kernel_rfl,by kernel_rfl⟩
noncomputable def em:List Nat:=[48,49,50,51,52,53,54,55,56,57,97,98,99,100,101,102,65,66,67,68,69,70]
noncomputable def qZ:List Nat:=[97,98,99,100,101,102,103,104,105,106,107,108,109,110,111,112,113,114,115,116,117,118,119,120,121,122,65,66,67,68,69,70,71,72,73,74,75,76,77,78,79,80,81,82,83,84,85,86,87,88,89,90,95]
theorem gn_law_HEX(hK:HK G P)(kind:sc.names.lookup ("_law_HEX":Str)=some .globalImplicit):GName G sc "_law_HEX" (.str ⟨em.toArray⟩ 1262):=⟨kind,by rw[hK];kernel_rfl,by kernel_rfl⟩
theorem gn_law_ALPHA(hK:HK G P)(kind:sc.names.lookup ("_law_ALPHA":Str)=some .globalImplicit):GName G sc "_law_ALPHA" (.str ⟨qZ.toArray⟩ 1264):=⟨kind,by rw[hK];kernel_rfl,by kernel_rfl⟩
end
noncomputable def m8(s:List Nat):Bool:=([[48],[49],[50],[51],[52],[53],[54],[55],[56],[57]]:List (List Nat)).any (·==s)
noncomputable def cF(c:Nat):Bool:=decide (48<=c)&&decide (c<=57)
theorem oY{P:Nat->Prop}(h:∀c:Fin 128,P c.1)(q:∀c,127<c->P c)(c:Nat):P c:=by
 by_cases hc:c<128
 ·exact h ⟨c,hc⟩
 ·exact q c (Nat.le_of_not_lt hc)
theorem ii(h:(l.all (Nat.blt · 128))=true){c:Nat}(hc:127<c):l.contains c=false:=by
 cases e:l.contains c with
 |false=>rfl
 |true=>exact absurd (v6 (v0 (gb.mp h c (n9.mp e))) hc) (o4 _)
theorem vO{c:Nat}(hc:127<c):cF c=false:=by
 unfold cF;rw[f3 (show¬c<=57 by lia),Bool.and_false]
theorem eF(c:Nat):([48,49,50,51,52,53,54,55,56,57]:List Nat).contains c=cF c:=
 oY (P:=λc=>([48,49,50,51,52,53,54,55,56,57]:List Nat).contains c=cF c) (by decide) (λc hc=>by rw[ii rfl hc,vO hc]) c
theorem zW(c:Nat):m8 [c]=cF c:=by
 refine oY (P:=λc=>m8 [c]=cF c) (by decide) (λc hc=>?_) c;rw[vO hc];unfold m8;rw[List.any_eq_false];intro x hx hb;have :∀x∈([[48],[49],[50],[51],[52],[53],[54],[55],[56],[57]]:List (List Nat)),x.headD 0<128:=by decide
 have h2:=this x hx;rw[eq_of_beq hb]at h2;exact absurd (v6 h2 hc) (o4 _)
noncomputable def bY:List Nat->Bool
 |c::_=>cF c
 |[]=>false
theorem lC(l:List Nat):m8 (l.take 1)=bY l:=by
 cases l with
 |nil=>rfl
 |cons c r=>exact zW c
theorem HI{s:List Nat}{st:LS}(q:QB (m8 s) st):Wp (Bx (.str s)) st QB:=by
 refine⟨_,st,?_,q⟩;unfold Bx;exact ed (·.map (·,st)) (sM s [[48],[49],[50],[51],[52],[53],[54],[55],[56],[57]])
variable{m:Nat}
def qD(_:List MO):List MV->Option MV:=sL (onStr λl=>if l.length<=640 then(PySem.intText? ⟨l.toArray⟩).map .int else none)
theorem AG:np G (.type "int") qD:=by
 intro n sc names c st w vs r a Q b d hs k;refine eN hs d λx g e hx=>bj e hx λl t e=>?_;obtain⟨hl,e⟩:=qE e;obtain⟨i,f,e⟩:=h8.mp e;cases e;exact PySem.W.KIN.call_text f (by rw[bK];exact hl) (k ⟨_,w.φ⟩ _ b.nx.tk1 ⟨_,rfl⟩)
theorem F5{p:Pos}(g:BName G sc "int" (.type "int"))(hl:SemL G sc names n args ds):SemE G sc names n (.Call (.Name "int" p) args [] pos) (aG ds (ka qD)):=vd g AG hl
def DQ(_:List MO):List MV->Option MV:=uM (is2 (λa b=>some (.int (if b<a then b else a))) no2)
theorem GQ:np G (.builtin "min") DQ:=by
 intro n sc names c st w vs r d Q a o hs k;refine fV hs o λx y v s e hx hy=>dE e hx hy (λi j t u e=>?_) λ_ _ _ _ e=>nos e;cases e;obtain⟨m,objs,F,N,h,g,le,l⟩:=a.1;exact dU a.2 (min_two_N c.ok.hnd F N λh' f q p b=>k ⟨_,w.φ⟩ _ (a.nx.hp ⟨m,objs,q,p,h,g,le,l⟩ b) ⟨_,rfl⟩)
theorem IQ{p:Pos}(g:BName G sc "min" (.builtin "min"))(hl:SemL G sc names n args ds):SemE G sc names n (.Call (.Name "min" p) args [] pos) (aG ds (ka DQ)):=kW g GQ hl
noncomputable def jU(l p:List Nat)(a:Nat):Int:=match PySem.Builtin.Str.occurrences ⟨l.toArray⟩ ⟨p.toArray⟩ a l.length 1 with
 |k::_=>(k:Int)
 |[]=>-1
def zK(_:List MO):List MV->Option MV:=D8 λa b i=>onStr (λl=>onStr (λp=>j8 (λi=>if 0<=i then some (.int (jU l p i.toNat)) else none) i) b) a
theorem m_find:oB G (.builtin "str.find") (dI zK):=by
 refine kq ?_;intro n sc names c st w vs r b Q d g hs k;refine pG hs g λx y z m j h e hx hy f=>bj e hx λl t e=>bj e hy λp u e=>dO e f λi v e=>?_;obtain⟨h0,e⟩:=ifs e;cases e;obtain⟨a,rfl⟩:=ov h0;refine call_gives F.slot_str_find (I6 _ _ _) F.entry_str_find (F.args_str_find_3 _ _ _) (gives_str_find_from _ _ _ t u v) ?_;rw[ib,bK];exact k ⟨_,w.φ⟩ _ d.nx.tk1 ⟨_,rfl⟩
theorem Gz{c:Pos}(hb:eO o "find")(hline:(c.endLine==pos.line)=true)(b:decide (args.length<29)=true)(h:SemE G sc names n o d)(hl:SemL G sc names n args ds):
  SemE G sc names n (.Call (.Attribute o "find" c) args [] pos) (aG d λa=>aG (hV "str" a) λ_=>aG ds λvs=>cp (dI zK) (a::vs)):=ie hb sg PySem.F.slot_str_find PySem.F.type_str_find m_find hline b h hl
theorem Gx{c:Pos}(hb:eO o "pop")(hline:(c.endLine==pos.line)=true)(b:decide (args.length<29)=true)(h:SemE G sc names n o d)(hl:SemL G sc names n args ds):
  SemE G sc names n (.Call (.Attribute o "pop" c) args [] pos) (aG d λa=>aG (hV "list" a) λ_=>aG ds λvs=>cp DE (a::vs)):=ie hb PySem.F.plainAttrs_list PySem.F.slot_list_pop PySem.F.type_list_pop FT hline b h hl
def FO:MV->MV->Option MV
 |.str [c],.int n=>if 1<=n/\n<=1000 then some (.str (List.replicate n.toNat c)) else none
 |a,b=>DO a b
theorem Hf:OpR G .Mult FO:=by
 intro A s φ a b r a' b' Q l hf i g k;have f:DO a b=some r->wpAny G.M A (binaryOp .Mult a' b') Q NoE s:=λh=>FI A s φ a b r a' b' Q l h i g k;cases a with
 |str x=>cases x with
  |nil=>exact f hf
  |cons c x=>cases x with
   |cons _ _=>exact f hf
   |nil=>cases b with
    |int n=>
     obtain⟨⟨h1,h2⟩,e⟩:=ifs hf;cases e;obtain⟨t,rfl⟩:=i;obtain⟨u,rfl⟩:=g;have d:(⟨[c].toArray⟩:Str).length=1:=bK [c];refine PySem.P.mul_str ?_ ?_ ?_ ?_
     ·rw[f3 (by lia),f3 (by lia)];rfl
     ·intro _ _
      rw[d];have :=Int.le_ediv_of_mul_le (a:=1) (b:=2^63-1) (c:=n) (by lia) (by lia);lia
     ·intro _ _;rw[d];unfold PySem.Builtin.Str.tooLong sizeLine;simp;lia
     ·rw[cw (by lia)]
      have e:∀(k:Nat),(List.replicate k (⟨[c].toArray⟩:Str).cps).foldl (·++·) #[]=(List.replicate k c).toArray:=by
       intro k;induction k with
       |zero=>rfl
       |succ k j=>
        rw[List.replicate_succ',v3,j];apply Array.ext';simp[List.replicate_succ']
      by_cases h:n=1
      ·subst h
       rw[dt (by rfl)];exact k _ _ ⟨_,rfl⟩
      ·rw[cw (by rw[d];simpa using h),e]
       refine⟨?_,k _ _ ⟨_,rfl⟩⟩;rw[bK];unfold sizeLine;simp;lia
    |_=>exact f hf
 |_=>exact f hf
theorem rn{c:Nat}(h:1<=m/\m<=1000)(q:Q (.str (List.replicate m c))):Got (FO (.str [c]) (.int (m:Int))) Q:=
 ah (show(if 1<=(m:Int)/\(m:Int)<=1000 then some (MV.str (List.replicate (m:Int).toNat c)) else none)=some (.str (List.replicate m c))from dt (by lia)) q
theorem Gr{b:Nat}(q:Q (.int ((min a b:Nat):Int))):Got (DQ mh [.int (a:Int),.int (b:Int)]) Q:=by
 refine ah (a:=.int ((min a b:Nat):Int)) ?_ q;show some (MV.int (if(b:Int)<(a:Int) then(b:Int) else a))=_;congr 2;split<;>lia
theorem Fl{p:List Nat}(q:Q (.int (jU l p a))):Got (zK mh [.str l,.str p,.int (a:Int)]) Q:=
 ah (show(if 0<=(a:Int) then some (MV.int (jU l p a)) else none)=some (.int (jU l p a))from dt (ky a)) q
theorem De{i:Int}(hl:l.length<=640)(h:PySem.intText? ⟨l.toArray⟩=some i)(q:Q (.int i)):Got (qD mh [.str l]) Q:=
 ah (show(if l.length<=640 then(PySem.intText? ⟨l.toArray⟩).map MV.int else none)=some (.int i)by rw[dt hl,h];rfl) q
theorem Fe{b:Nat}(h:b<=a)(q:Q (.int ((a-b:Nat):Int))):Got (xn (.int (a:Int)) (.int (b:Int))) Q:=by
 have e:((a-b:Nat):Int)=(a:Int)-b:=by lia
 rw[e]at q;exact⟨_,rfl,q⟩
def pV(names:List Str)(d:Den MF):Spec:=λvs mh=>if vs.length=1 then specOf names 2 d (vs++[.bool false]) mh else none
theorem B0{f:Addr}{a b:Str}{d:Den MF}
  (hf:FunAt G f params body scope dV)(hs:ScopeOk scope [a,b] names)
  (hp:∀name qual kV doc pm an cdv ct v S,peek G.K S (bindArgs (fnOf name qual params body scope dV kV doc pm an cdv ct) ⟨[v],[]⟩)=some [(a,v),(b,.bool false)])(hb:LocalsOk scope names->fD G scope names n body d)
  (hd:Φ (pV names d)):∃J9,Con G (n+1) f J9/\Φ J9:=by
 refine⟨pV names d,lc (full:=λvs=>vs++[.bool false]) hf hs (λvs r mh KA φ i h e k X=>?_) (hb hs.lo) λvs mh r KA e=>(mZ (qE e).2).2,hd⟩;obtain⟨x,rfl⟩:=rP (qE e).1;cases k with
 |@cons _ v _ _ j c=>
  cases c;exact⟨[v,.bool false],.cons j (.cons rfl .nil),rfl,λs oc od osl name qual kV doc pm an cdv ct g _=>kp_binds (K:=G.K) (g▸X) (hp name qual kV doc pm an cdv ct v)⟩
theorem xo{d:Den MF}{x:MV}{Q:MV->List MO->Prop}(h:Wp d (jm names [x,.bool false] mh) (AT Q)):bG (pV names d [x] mh) Q:=mA rfl h
variable{es:List PySem.Expr}{KQ:List Nat}
theorem H7{b:List Stmt}{h:ExceptHandler}{hs:List ExceptHandler}{d:Den MF}(hb:fD G sc names n b d):fO G sc names n (.Try b (h::hs) [] [] pos) d:=by
 intro c st w K Q i hd k;refine wpAny_Try_except (IH (hb c st w _ _ i hd λf KD w1a g q e a=>?_));have :=k f KD w1a g q e a;cases g with
 |next=>exact wpAny_execs_nil this
 |_=>exact this
def vj(d:Den Bool):Den MF:=aG d λb=>match b with|true=>bM .next|false=>λ_=>none
theorem E8{t:PySem.Expr}{f:Option PySem.Expr}{d:Den Bool}(h:SemT G sc names n t d):fO G sc names n (.Assert t f pos) (vj d):=by
 intro c st w K Q g hd k;refine wpAny_Assert_holds (h c st w _ _ g (wB hd) λb KD w1a a e=>?_);cases b with
 |false=>exact wNo a
 |true=>exact⟨rfl,k _ _ w1a _ (wK a) e rfl⟩
def zL:MV->Option MV:=onStr λl=>if l.length<=16777216 then some (.str l)else none
def zM(v:MV):Den MV:=λst=>(zL v).map (·,st)
theorem G3{e:PySem.Expr}(h:SemE G sc names n e d):SemE G sc names n (.FormattedValue e (-1) none pos) (aG d zM):=by
 intro c st w K Q j hd k;refine wpAny_FormattedValue_plain (h c st w _ _ j (wB hd) λa KD w1a a' f b i=>?_);obtain⟨r,e,hk⟩:=wO (g:=λ_=>zL a) f;refine bj e i λl t e=>?_;obtain⟨hl,e⟩:=ifs e;cases e;exact wpAny_formatField_str (k _ _ w1a _ hk b ⟨_,rfl⟩) (k _ _ ⟨_,w1a.φ⟩ _ hk b.tk1 ⟨_,rfl⟩) (by rw[bK];exact hl)
noncomputable def FY(KQ:List Nat):Option MV:=if KQ.length<=16777216 then some (.str KQ) else none
def jD:List Nat->List (Den MV)->Den MV
 |KQ,[]=>λst=>(FY KQ).map (·,st)
 |KQ,d::ds=>aG d λv=>match v with
  |.str l=>if KQ.length+l.length<=16777216 then jD (KQ++l) ds else λ_=>none
  |_=>λ_=>none
inductive SemJ(G:Glo)(sc:Scope)(names:List Str)(n:Nat):List PySem.Expr->List (Den MV)->Prop
 |nil:SemJ G sc names n [] []
 |cons{e es d ds:_}:SemE G sc names n e d->SemJ G sc names n es ds->SemJ G sc names n (e::es) (d::ds)
theorem DY{ds:List (Den MV)}(h:SemJ G sc names n es ds):
  ∀(KQ:List Nat)(st:LS)(w:St)(K:MV->LS->Prop)(Q:Value->Shared->Prop),W c names st w->Wp (jD KQ ds) st K->(∀v KG w' a,K v KG->Nx c names w KG w'->VR w'.φ v a->Q a w'.s)->
   wpAny G.M c.A (joinParts ⟨KQ.toArray⟩ (evalEach es c.env)) Q NoE w.s:=by
 induction h with
 |nil=>
  intro KQ st w K Q o hd k;obtain⟨r,e,hk⟩:=wO (g:=λ_=>FY KQ) hd;obtain⟨hl,e⟩:=ifs e;cases e;exact joinParts_nil (k _ _ ⟨_,w.φ⟩ _ hk o.nx.tk1 ⟨_,rfl⟩) (by rw[bK];exact hl)
 |cons u _ p=>
  intro KQ st w K Q o hd k;refine joinParts_cons (u c st w _ _ o (wB hd) λa KD w1a a' b d j=>?_);cases a with
  |str l=>
   dsimp only at b;by_cases hl:KQ.length+l.length<=16777216
   ·rw[dt hl]at b
    obtain⟨t,rfl⟩:=j;refine⟨by rw[ir,bK,g8];exact hl,?_⟩;rw[ir];exact p (KQ++l) KD w1a K Q d.sim b λv KI f v' q m i=>k v KI f v' q (d.trans m) i
   ·rw[cw hl]at b;exact wNo b
  |_=>exact wNo b
theorem Fz{b a:PySem.Expr}{ds:List (Den MV)}(h:SemJ G sc names n (b::a::es) ds):SemE G sc names n (.JoinedStr (b::a::es) pos) (jD [] ds):=
 λc st w K Q d hd k=>JoinedStr_many (DY h [] st w K Q d hd k)
section
variable{ρ:List (Option MV)}{mh:List MO}{st:LS}{QV:MV->LS->Prop}{QF:MF->LS->Prop}
theorem Ef(h:l.length<=16777216)(q:QV (.str l) ⟨ρ,mh⟩):Wp (zM (.str l)) ⟨ρ,mh⟩ QV:=⟨_,_,ed (Option.map (·,(⟨ρ,mh⟩:LS))) (dt (e:=none) h),q⟩
theorem Ed(h:KQ.length<=16777216)(q:QV (.str KQ) st):Wp (jD KQ []) st QV:=⟨_,_,ed (Option.map (·,st)) (dt (e:=none) h),q⟩
def jK(KQ:List Nat)(ds:List (Den MV))(v:MV):Den MV:=match v with
 |.str l=>if KQ.length+l.length<=16777216 then jD (KQ++l) ds else λ_=>none
 |_=>λ_=>none
theorem EI{ds:List (Den MV)}(h:Wp d st λv s=>Wp (jK KQ ds v) s QV):Wp (jD KQ (d::ds)) st QV:=by
 unfold jD;exact aq (aQ h λv s q=>by cases v<;>exact q)
theorem H3{ds:List (Den MV)}(h:KQ.length+l.length<=16777216)(q:Wp (jD (KQ++l) ds) st QV):Wp (jK KQ ds (.str l)) st QV:=by
 unfold jK;simp only[h,I0];exact q
theorem EN{d:Den Bool}(h:Wp d st λb s=>b=true/\QF .next s):Wp (vj d) st QF:=aq (aQ h λb s q=>by obtain⟨rfl,q⟩:=q;exact dT q)
end
theorem tx(hK:HK G P):∃J9,Con G 1 620 J9/\∀(J8:List Nat)(p:Nat)(mh:List MO),J8.length<=100000->p<=J8.length->J9 [.str J8,.int (p:Int)] mh=some (.int ((p+aH 6 (J8.drop p):Nat):Int),mh):=by
 run_tac wcon
 intro J8 p mh hl hp;refine i9 (mA rfl ?_);have b:J8.length<=16777216:=by lia
 show Wp _ ⟨[some _,some _,none],_⟩ _;cbv;refine bN (σ:=Nat) (λj s=>j<=6/\p+j<=J8.length/\j+aH (6-j) (J8.drop (p+j))=aH 6 (J8.drop p)/\s=⟨[some (.str J8),some (.int (p:Int)),some (.int ((p+j:Nat):Int))],mh⟩) (λj=>6-j) ?_ NN 0 _ ⟨by lia,by lia,by simp,rfl⟩ (by rw[de];lia);rintro j _⟨g,d,hs,rfl⟩;cbv;have stop:j=aH 6 (J8.drop p)->MV.int ((p+j:Nat):Int)=MV.int ((p+aH 6 (J8.drop p):Nat):Int)/\mh=mh:=λe=>by rw[<-e];exact⟨rfl,rfl⟩
 by_cases h:j<6
 ·refine wp_andK_t (by simp;lia) ?_
  cbv;have e6:6-j=(6-(j+1))+1:=by lia
  cases hd:J8.drop (p+j)with
  |nil=>
   rw[hd,e6]at hs;refine wp_andK_f (by rfl) ⟨λ_=>?_,λhb=>by cases hb⟩;cbv;exact stop hs
  |cons c r=>
   have a:=(aM hd).1;have f:=(aM hd).2;rw[hd,e6]at hs;refine wp_andK_t (by rfl) ?_;cbv;refine⟨λhb=>?_,λhb=>?_⟩
   ·cbv
    refine stop ?_;rw[<-hs];show j=j+if bR c then aH (6-(j+1)) r+1 else 0;rw[cw (by rw[show bR c=false from hb];exact hX)];rfl
   ·cbv
    refine⟨j+1,⟨by lia,by lia,?_,by rw[k4]⟩,by lia⟩;rw[<-k4,a,<-hs];show j+1+aH (6-(j+1)) r=j+if bR c then aH (6-(j+1)) r+1 else 0;rw[dt (show bR c=true from hb)];lia
 ·have e6:j=6:=by lia
  subst e6;refine wp_andK_f (by simp) ⟨λ_=>?_,λhb=>by cases hb⟩;cbv;exact stop (by rw[<-hs];rfl)
theorem jt(hK:HK G P):∃J9,Con G 2 663 J9/\∀(J8:List Nat)(p:Nat)(mh:List MO),J8.length<=100000->p<=J8.length->
  bG (J9 [.str J8,.int (p:Int)] mh) λr KA=>mh<+:KA/\∃i,r=.ref i/\KA[i]?=some (.tuple [.str [(escOf (J8.drop p)).1],.int ((p+(escOf (J8.drop p)).2:Nat):Int)]):=by
 obtain⟨b,e,h1⟩:=tx hK;run_tac wcon
 intro J8 p mh hl hp;have a:J8.length<=16777216:=by lia
 cbv;refine cB (h1 J8 p _ hl hp) ?_;cbv;have hk:=bT 6 (J8.drop p);rw[ea]at hk;have ha:=cf 6 (J8.drop p);unfold escOf;have d:aH 6 (J8.drop p)=aH 6 (J8.drop p):=rfl;revert ha;generalize aH 6 (J8.drop p)=k at hk⊢;intro ha;by_cases h0:0<k
 ·refine wp_pick_t (by simp;lia) ?_
  simp only[h0,I0];cbv;have e1:p+k-p=k:=by lia
  rw[e1];refine ah (i7 ha (by simp;lia) (by simp;lia)) ?_;generalize di (List.take k (List.drop p J8))=v;cbv;refine aQ (Q':=λw s=>w=MV.str [jb v]/\s=LS.mk [some (MV.str J8),some (MV.int p),some (MV.int ↑(p+k)),some (.int v)] mh) ?_ ?_
  ·refine aI (λhb=>?_) (λhb=>?_)
   ·simp at hb
    cbv;have :0<v/\v<=1114111:=by lia
    simp[jb,this]
   ·simp at hb
    cbv;have :¬(0<v/\v<=1114111):=by lia
    simp[jb,this]
  ·rintro _ _ ⟨rfl,rfl⟩
   cbv;refine aQ (Q':=λw s=>w=MV.int ((p+bP (J8.drop p) k:Nat):Int)/\∃x,s=LS.mk [some (MV.str J8),some (MV.int p),some (MV.int ↑(p+k)),some (.int v)] (mh++[x])) ?_ ?_
   ·have e2:J8.drop (p+k)=(J8.drop p).drop k:=by rw[eo]
    rw[e2];unfold bP;cases hd:(J8.drop p).drop k with
    |nil=>
     refine wp_pick_f (by rfl) ?_;cbv;exact⟨rfl,_,rfl⟩
    |cons c r=>
     refine aI (λhb=>?_) (λhb=>?_)
     ·cbv
      have :isBl c=true:=by simp at hb;simp[isBl];lia
      exact⟨by simp[this];lia,_,rfl⟩
     ·cbv
      have :isBl c=false:=by simp at hb;simp[isBl];lia
      exact⟨by simp[this],_,rfl⟩
   ·rintro _ _ ⟨rfl,x,rfl⟩
    cbv;exact aw (aT (fa _) _)
 ·refine wp_pick_f (by simp;lia) ?_
  simp only[h0,if_false];cbv;cases hd:J8.drop p with
  |nil=>
   have :=ed List.length hd;simp at this;refine wp_pick_f (by simp;lia) ?_;cbv;exact aw (fa _)
  |cons c r=>
   have :=(aM hd).2;refine wp_pick_t (by simp;lia) ?_;cbv;exact aw (fa _)
noncomputable abbrev uz:List Nat:=[97,98,99,100,101,102,103,104,105,106,107,108,109,110,111,112,113,114,115,116,117,118,119,120,121,122,45,95,48,49,50,51,52,53,54,55,56,57,65,66,67,68,69,70,71,72,73,74,75,76,77,78,79,80,81,82,83,84,85,86,87,88,89,90]
noncomputable def isNm(c:Nat):Bool:=uz.contains c||decide (127<c)
inductive IdentR:List Nat->List Nat->Nat->Prop
 |nil:IdentR [] [] 0
 |stop{c r:_}:isNm c=false->(c==92&&!(r.head?==some 10))=false->IdentR (c::r) [] 0
 |name{c r v k:_}:isNm c=true->IdentR r v k->IdentR (c::r) (c::v) (k+1)
 |esc{r v k:_}:(r.head?==some 10)=false->IdentR (r.drop (escOf r).2) v k->IdentR (92::r) ((escOf r).1::v) (1+(escOf r).2+k)
theorem yU(c:Nat):(uz.contains c||decide ((127:Int)<(c:Int)))=isNm c:=by
 have :decide ((127:Int)<(c:Int))=decide (127<c):=by congr 1;apply propext;lia
 rw[this];rfl
theorem IdentR.le{v:List Nat}(h:IdentR l v k):k<=l.length/\v.length<=k:=by
 induction h with
 |nil=>simp
 |stop=>simp
 |name _ _ a=>simp;lia
 |@esc r v k _ _ a=>have :=dS r;simp at a⊢;lia
theorem cW{x:List Nat}:ls.map MV.str++[MV.str x]=(ls++[x]).map MV.str:=by
 simp
theorem B9{c:Nat}(hd:J8.drop q=c::r):([c]==[92]&&!bQ J8 [92,10] q)=(c==92&&!(r.head?==some 10)):=by
 rw[b9,hd,(aM hd).1];by_cases h:c=92
 ·subst h;simp
 ·have h2:(c==92)=false:=by simpa using h
  simp[h2]
theorem iq{c:Nat}(ha:a<=q)(h:l.drop q=c::r):(l.drop a).take (q+1-a)=(l.drop a).take (q-a)++[c]:=by
 have e:q+1-a=(q-a)+1:=by lia
 rw[e,List.take_add_one];have :(l.drop a)[q-a]?=some c:=by
  rw[gf];have h1:=ed (·[0]?) h;simp at h1;rw[<-h1];congr 1;lia
 rw[this];rfl
theorem w5(hK:HK G P):∃J9,Con G 3 649 J9/\∀(J8:List Nat)(p:Nat)(mh:List MO)(v:List Nat)(k:Nat),J8.length<=100000->p<=J8.length->IdentR (J8.drop p) v k->
  bG (J9 [.str J8,.int (p:Int)] mh) λr KA=>mh<+:KA/\∃i,r=.ref i/\KA[i]?=some (.tuple [.str v,.int ((p+k:Nat):Int)]):=by
 obtain⟨C,I,h1⟩:=jt hK;run_tac wcon
 intro J8 p mh v k hl hp hI;have B:J8.length<=16777216:=by lia
 cbv;refine aQ (Q':=λf s=>f=MF.next/\∃(KA:List MO)(a:Nat)(ls:List (List Nat))(o:Option MV),s=LS.mk [some (.str J8),some (.int ((p+k:Nat):Int)),some (.ref mh.length),some (.int J8.length),some (.int (a:Int)),o] KA/\mh<+:KA/\KA[mh.length]?=some (.list (ls.map .str))/\a<=p+k/\ls.flatten++(J8.drop a).take (p+k-a)=v/\ls.length<=400000) ?_ ?_
 ·refine bN (σ:=Nat) (λq s=>q<=J8.length/\∃(KA:List MO)(a:Nat)(ls:List (List Nat))(o:Option MV)(v':List Nat)(y:Nat),s=LS.mk [some (.str J8),some (.int (q:Int)),some (.ref mh.length),some (.int J8.length),some (.int (a:Int)),o] KA/\mh<+:KA/\KA[mh.length]?=some (.list (ls.map .str))/\a<=q/\IdentR (J8.drop q) v' y/\q+y=p+k/\ls.flatten++(J8.drop a).take (q-a)++v'=v/\ls.length<=2*q) (λq=>J8.length-q) ?_ NN p _ ?_ ?_
  ·rintro q _⟨hq,KA,a,ls,o,v',y,rfl,b,d,m,hI,hk,l,z⟩
   cbv;refine⟨λhb=>?_,λhb=>?_⟩
   ·simp at hb
    cbv;have D:J8.drop q=[]:=f6 hb;rw[D]at hI;cases hI;obtain rfl:q=p+k:=by lia
    exact⟨rfl,KA,a,ls,o,rfl,b,d,m,by simpa using l,by lia⟩
   ·simp at hb
    obtain⟨c,r,hd⟩:∃c r,J8.drop q=c::r:=⟨_,_,e9 hb⟩;cbv;have g:=(aM hd).1;refine wp_orK_all ?_;cbv;rw[hd]at hI;cases hI with
    |stop w u=>
     refine wp_pick_f ((yU c).trans w) ?_;cbv;refine wp_andK_all ?_;cbv;refine wp_pick_f ((B9 hd).trans u) ?_;cbv;obtain rfl:q=p+k:=by lia
     exact⟨rfl,KA,a,ls,_,rfl,b,d,m,by simpa using l,by lia⟩
    |@name _ _ h j w u=>
     refine wp_pick_t ((yU c).trans w) ?_;cbv;refine⟨q+1,⟨by lia,KA,a,ls,_,h,j,rfl,b,d,by lia,by rw[g];exact u,by lia,?_,by lia⟩,by lia⟩;rw[iq m hd,<-l];simp
    |@esc _ h j w u=>
     refine wp_pick_f ((yU 92).trans (by decide)) ?_;cbv;refine wp_pick_t ?_ ?_
     ·rw[b9,hd,g,w];rfl
     cbv;refine aE (h1 J8 (q+1) _ hl (by lia)) ?_;rintro _ x⟨n,i,rfl,E⟩;rw[g]at E;have t:x[mh.length]?=some (.list ((ls++[List.take (q-a) (List.drop a J8)]).map .str)):=by
      rw[<-cW];exact aO n (bW d)
     have A:((ls++[List.take (q-a) (List.drop a J8)]).map MV.str).length<=16777216:=by simp;lia
     cbv;rw[cW];refine⟨q+1+(escOf r).2,⟨?_,_,q+1+(escOf r).2,_,_,h,j,rfl,bV ((bV b (ep _) _).trans n) (ep _) _,bW t,ep _,?_,by lia,?_,by simp;lia⟩,by lia⟩
     ·have :=dS r
      have H:=ed List.length g;simp at H;lia
     ·have :J8.drop (q+1+(escOf r).2)=(J8.drop (q+1)).drop (escOf r).2:=by rw[eo]
      rw[this,g];exact u
     ·rw[<-l];simp
  ·exact⟨hp,_,p,[],none,v,k,rfl,aT (fa _) _,aW,ep _,hI,rfl,by simp,by simp⟩
  ·rw[de];lia
 ·rintro _ _⟨rfl,KA,a,ls,o,rfl,b,d,ha,l,z⟩
  cbv;rw[cW];refine ah (i5 (bW d) ?_) ?_
  ·have :=hI.le
   simp only[List.flatten_append,Jk,List.flatten_nil,m4,l];simp at this;lia
  ·cbv
   have e:(ls++[List.take (p+k-a) (List.drop a J8)]).flatten=v:=by simp[l]
   rw[e];exact aw (bV b (ep _) _)
def aK:List Nat->Nat
 |[]=>0
 |c::r=>if cF c then aK r+1 else 0
noncomputable def aF:List Nat->Nat
 |[]=>0
 |c::_=>if c=45\/c=43 then 1 else 0
def ae:List Nat->Nat
 |[]=>0
 |c::r=>if(c=101\/c=69)/\bY (r.drop (aF r))=true then 1+aF r+aK (r.drop (aF r)) else 0
def cb(s:List Nat):Option (Nat×Bool):=
 let a:=aF s;let k:=aK (s.drop a);if(s.drop (a+k)).head?=some 46/\bY (s.drop (a+k+1))=true then some (a+k+1+aK (s.drop (a+k+1)),false)
 else if k=0 then none else some (a+k,true)
def bD(s:List Nat):Option (Nat×Bool):=(cb s).map λp=>(p.1+ae (s.drop p.1),p.2&&ae (s.drop p.1)==0)
noncomputable def FJ(p:Nat):Option (Nat×Bool)->List MV
 |none=>[.none,.bool false]
 |some (m,b)=>[.int ((p+m:Nat):Int),.bool b]
theorem db(l:List Nat):aK l<=l.length:=by
 induction l with
 |nil=>exact ep _
 |cons c r a=>unfold aK;split<;>simp<;>lia
theorem bv(a c:Nat):([a]==[c])=decide (c=a):=by
 rw[hH,ly,Iy];exact⟨λh=>(f4 h).1.symm,λh=>by rw[h]⟩
theorem oQ(l:List Nat):([45]==l.take 1||([43]==l.take 1||false))=decide (aF l=1):=by
 cases l with
 |nil=>rfl
 |cons c r=>
  show([45]==[c]||([43]==[c]||false))=_;rw[bv,bv,t4];by_cases h1:c=45
  ·subst h1;rfl
  ·by_cases h2:c=43
   ·subst h2;rfl
   ·have e:aF (c::r)=0:=cw (by lia)
    rw[f3 h1,f3 h2,e];rfl
theorem dM(l:List Nat):aF l<=1/\aF l<=l.length:=by
 cases l with
 |nil=>exact⟨oL _,oL _⟩
 |cons c r=>
  show(if c=45\/c=43 then 1 else 0)<=1/\(if c=45\/c=43 then 1 else 0)<=r.length+1;split<;>lia
theorem Dw{c:Nat}:([101]==List.take 1 (c::r)||([69]==List.take 1 (c::r)||false))=decide (c=101\/c=69):=by
 show([101]==[c]||([69]==[c]||false))=_;rw[bv,bv,t4,<-Bool.decide_or]
theorem ig(h:bY l=true):aK l=aK (l.drop 1)+1:=by
 cases l with
 |nil=>exact absurd h (by decide)
 |cons c r=>exact dt h
theorem nU{x:Option MV}(hl:J8.length<=100000)(hq:q<=J8.length)
  (h:QF .next ⟨some (.str J8)::x::some (.int ((q+aK (J8.drop q):Nat):Int))::ρ,mh⟩):
  Wp (dq (aG (aG (bF 0) λa=>aG (bF 2) λl=>aG (lJ fC (bF 2) (aj (.int 1))) λu=>cutD a l u) Bx)
   (fq (aG (bF 2) λa=>aG (aj (.int 1)) λb=>aG (ef fC a b) (cY 2)) (bM .next)) (bM .next) NN)
   ⟨some (.str J8)::x::some (.int (q:Int))::ρ,mh⟩ QF:=by
 have e:J8.length<=16777216:=by lia
 refine bN (σ:=Nat) (λj s=>j<=J8.length/\j+aK (J8.drop j)=q+aK (J8.drop q)/\s=⟨some (.str J8)::x::some (.int (j:Int))::ρ,mh⟩) (λj=>J8.length-j) ?_ NN q _ ⟨hq,rfl,rfl⟩ ?_
 ·rintro j _ ⟨g,hs,rfl⟩
  cbv;rw[lC];cases hd:J8.drop j with
  |nil=>
   rw[hd]at hs;refine⟨λ_=>?_,λhb=>by cases hb⟩;cbv;have :j=q+aK (J8.drop q):=by simpa [aK] using hs
   rw[<-this]at h;exact h
  |cons c r=>
   have d:=(aM hd).1;have f:=(aM hd).2;rw[hd]at hs;refine⟨λhb=>?_,λhb=>?_⟩
   ·cbv
    have :j=q+aK (J8.drop q):=by
     rw[<-hs];unfold aK;rw[cw (by rw[show cF c=false from hb];exact hX)];rfl
    rw[<-this]at h;exact h
   ·cbv
    refine⟨j+1,⟨by lia,?_,rfl⟩,by lia⟩;rw[d,<-hs];conv=>rhs;unfold aK
    rw[dt (show cF c=true from hb)];lia
 ·rw[de];lia
theorem tr(hK:HK G P):∃J9,Con G 1 613 J9/\∀(J8:List Nat)(p:Nat)(mh:List MO),J8.length<=100000->p<=J8.length->
  bG (J9 [.str J8,.int (p:Int)] mh) λr KA=>mh<+:KA/\∃i,r=.ref i/\KA[i]?=some (.tuple (FJ p (bD (J8.drop p)))):=by
 have L:=wZ hK;run_tac wcon
 intro J8 p mh hl hp;have C:J8.length<=16777216:=by lia
 cbv;have D:=oQ (J8.drop p);have B:=dM (J8.drop p);rw[ea]at B;rw[D];refine aQ (Q':=λf s=>f=.next/\s=⟨[some (.str J8),some (.int p),some (.int ((p+aF (J8.drop p):Nat):Int)),none,none,none],mh++[.tuple [.str [45],.str [43]]]⟩) ?_ ?_
 ·refine aI (λhb=>?_) (λhb=>?_)
  ·rw[go hb]
   cbv;exact⟨rfl,rfl⟩
  ·have :=ku hb
   have e:aF (J8.drop p)=0:=by lia
   rw[e];cbv;exact⟨rfl,rfl⟩
 ·rintro _ _⟨rfl,rfl⟩
  cbv;refine nU hl (by lia) ?_;have A:=db (J8.drop (p+aF (J8.drop p)));rw[ea]at A;obtain⟨a,ha⟩:∃a,a=aF (J8.drop p):=⟨_,rfl⟩;obtain⟨k,hk⟩:∃k,k=aK (J8.drop (p+a)):=⟨_,rfl⟩;rw[<-ha]at B A⊢;rw[<-hk]at A⊢;have b:cb (J8.drop p)=if(J8.drop (p+a+k)).head?=some 46/\bY (J8.drop (p+a+k+1))=true then some (a+k+1+aK (J8.drop (p+a+k+1)),false)else if k=0 then none else some (a+k,true):=by
   unfold cb;simp only[<-ha,eo,<-hk,<-k4]
  have l:(List.take 1 (List.drop (p+a+k) J8)==[46])=decide ((J8.drop (p+a+k)).head?=some 46):=by
   cases J8.drop (p+a+k)with
   |nil=>rfl
   |cons c r=>rw[hH];simp
  cbv;refine wp_andK_all ?_;cbv;rw[lC,l];refine aQ (Q':=λf s=>(f=.next/\∃m pl,cb (J8.drop p)=some (m,pl)/\p+m<=J8.length/\s=⟨[some (.str J8),some (.int p),some (.int ((p+m:Nat):Int)),some (.int ((p+a:Nat):Int)),some (.bool pl),none],mh++[.tuple [.str [45],.str [43]]]⟩)\/
   (cb (J8.drop p)=none/\∃i,f=.ret (.ref i)/\mh<+:s.mh/\s.mh[i]?=some (.tuple [.none,.bool false]))) ?_ ?_
  ·refine aI (λhb=>?_) (λhb=>?_)
   ·simp only[fi,s3]at hb
    have u:p+a+k+1<J8.length:=by
     apply n7;intro I;rw[f6 (Nat.le_of_not_lt I)]at hb;exact absurd hb.2 (by decide)
    have M:aK (J8.drop (p+a+k+1))=aK (J8.drop (p+a+k+2))+1:=by
     have h:=ig hb.2;rwa[eo]at h
    have E:=db (J8.drop (p+a+k+2));rw[ea]at E;cbv;refine nU hl (by lia) ?_;have y:p+a+k+2+aK (List.drop (p+a+k+2) J8)=p+(a+k+1+aK (J8.drop (p+a+k+1))):=by rw[M];lia
    rw[y];cbv;exact .inl ⟨rfl,_,false,by rw[b,dt hb],by lia,rfl⟩
   ·have x:¬((J8.drop (p+a+k)).head?=some 46/\bY (J8.drop (p+a+k+1))=true):=by
     intro h;rw[h.2,g6 h.1]at hb;exact absurd hb (by decide)
    rw[cw x]at b;cbv;by_cases h0:k=0
    ·rw[dt h0]at b
     refine wp_pick_t (by simp;lia) ?_;cbv;exact .inr ⟨b,_,rfl,aT (aT (fa _) _) _,aW⟩
    ·rw[cw h0]at b
     refine wp_pick_f (by simp;lia) ?_;cbv;exact .inl ⟨rfl,_,true,b,by lia,by rw[show p+(a+k)=p+a+k by lia]⟩
  ·rintro f s(⟨rfl,m,pl,hm,t,rfl⟩|⟨hm,i,rfl,d,J⟩)
   ·have g:bD (J8.drop p)=some (m+ae (J8.drop (p+m)),pl&&ae (J8.drop (p+m))==0):=by
     unfold bD;rw[hm];simp only[yL,eo]
    rw[g];generalize hq:p+m=q at t⊢;cbv;cases hd:J8.drop q with
    |nil=>
     refine wp_pick_f rfl ?_;have N:m+ae ([]:List Nat)=m:=rfl;have e1:(pl&&ae ([]:List Nat)==0)=pl:=by cases pl<;>rfl
     rw[N,e1];cbv;rw[<-hq];exact aw (aT (aT (fa _) _) _)
    |cons c r=>
     rw[Dw];have j:=(aM hd).1;have u:=(aM hd).2;have hx:ae (c::r)=if(c=101\/c=69)/\bY (r.drop (aF r))=true then 1+aF r+aK (r.drop (aF r))else 0:=rfl;refine aQ (Q':=λf s=>f=.next/\mh<+:s.mh/\∃z w,s.ρ=[some (.str J8),some (.int p),some (.int ((p+(m+ae (c::r)):Nat):Int)),z,some (.bool (pl&&ae (c::r)==0)),w]) ?_ ?_
     ·refine aI (λhb=>?_) (λhb=>?_)
      ·have v:c=101\/c=69:=go hb
       cbv;rw[oQ,j];have O:=dM r;have H:r.length+(q+1)=J8.length:=by
        have h:=ed List.length j;rw[ea]at h;lia
       refine aQ (Q':=λf s=>f=.next/\s=⟨[some (.str J8),some (.int p),some (.int q),some (.int ((p+a:Nat):Int)),some (.bool pl),some (.int ((q+1+aF r:Nat):Int))],mh++[.tuple [.str [45],.str [43]]]++[.tuple [.str [101],.str [69]]]++[.tuple [.str [45],.str [43]]]⟩) ?_ ?_
       ·refine aI (λhb=>?_) (λhb=>?_)
        ·rw[go hb]
         cbv;exact⟨rfl,rfl⟩
        ·have :=ku hb
         have e:aF r=0:=by lia
         rw[e];cbv;exact⟨rfl,rfl⟩
       ·rintro _ _⟨rfl,rfl⟩
        cbv;have e3:J8.drop (q+1+aF r)=r.drop (aF r):=by rw[<-eo,j]
        rw[lC,e3];refine aI (λhb=>?_) (λhb=>?_)
        ·rw[hx,dt ⟨v,hb⟩]
         cbv;refine nU hl (by lia) ?_;rw[e3];cbv;have e4:p+(m+(1+aF r+aK (r.drop (aF r))))=q+1+aF r+aK (r.drop (aF r)):=by lia
         have e5:(pl&&1+aF r+aK (r.drop (aF r))==0)=false:=by
          rw[o1.mpr (by lia),Bool.and_false]
         rw[e4,e5];exact⟨rfl,aT (aT (aT (fa _) _) _) _,_,_,rfl⟩
        ·rw[hx,cw (λh=>by rw[h.2]at hb;exact absurd hb (by decide))]
         cbv;exact⟨rfl,aT (aT (aT (fa _) _) _) _,_,_,by rw[<-hq];cases pl<;>rfl⟩
      ·have v:¬(c=101\/c=69):=ku hb
       rw[hx,cw (λh=>v h.1)];cbv;exact⟨rfl,aT (aT (fa _) _) _,_,_,by rw[<-hq];cases pl<;>rfl⟩
     ·rintro _⟨ρ,n⟩⟨rfl,d,z,w,o⟩
      obtain rfl:ρ=_:=o;replace d:mh<+:n:=d;cbv;exact aw d
   ·have g:bD (J8.drop p)=none:=by unfold bD;rw[hm];rfl
    rw[g];cbv;exact⟨d,i,rfl,J⟩
inductive StrR(q:Nat):List Nat->List Nat->Nat->Nat->Prop
 |eof:StrR q [] [] 0 2
 |shut{r:_}:StrR q (q::r) [] 1 0
 |bad{r:_}:StrR q (10::r) [] 0 1
 |escEnd:StrR q [92] [] 1 2
 |escNl{r v k e:_}:StrR q r v k e->StrR q (92::10::r) v (2+k) e
 |esc{c r v k e:_}:c≠10->StrR q ((c::r).drop (escOf (c::r)).2) v k e->StrR q (92::c::r) ((escOf (c::r)).1::v) (1+(escOf (c::r)).2+k) e
 |ch{c r v k e:_}:c≠q->c≠92->c≠10->StrR q r v k e->StrR q (c::r) (c::v) (k+1) e
theorem StrR.le{v:List Nat}{e:Nat}(h:StrR q l v k e):k<=l.length/\v.length<=k:=by
 induction h with
 |eof=>simp
 |shut=>simp
 |bad=>simp
 |escEnd=>simp
 |escNl _ a=>simp;lia
 |@esc c r v k e _ _ a=>have :=dS (c::r);simp at a this⊢;lia
 |ch _ _ _ _ a=>simp;lia
noncomputable def mX:Nat->List MV
 |1=>[.str [98,97,100,45,115,116,114,105,110,103],.str [66,97,100,32,115,116,114,105,110,103,32,116,111,107,101,110]]
 |_=>[.str [101,111,102,45,105,110,45,115,116,114,105,110,103],.str [69,79,70,32,105,110,32,115,116,114,105,110,103]]
def AS(KA:List MO)(r:MV)(v:List Nat)(n e:Nat):Prop:=
 ∃i w,r=.ref i/\KA[i]?=some (.tuple [if e=1 then .none else .str v,.int (n:Int),w])/\
  ((e=0/\w=.none)\/(e≠0/\∃j,w=.ref j/\KA[j]?=some (.tuple (mX e))))
theorem ta(hK:HK G P):∃J9,Con G 3 656 J9/\∀(J8:List Nat)(p:Nat)(mh:List MO)(q:Nat)(r v:List Nat)(k e:Nat),J8.length<=100000->q=34\/q=39->J8.drop p=q::r->StrR q r v k e->
  bG (J9 [.str J8,.int (p:Int)] mh) λr KA=>mh<+:KA/\AS KA r v (p+1+k) e:=by
 obtain⟨ae,c1,h1⟩:=jt hK;run_tac wcon
 intro J8 p mh q r v k e hl hq hd hS;have aa:J8.length<=16777216:=by lia
 have Q:=(aM hd).1;have ak:=(aM hd).2;cbv;refine⟨by rcases hq with rfl|rfl<;>rfl,?_⟩;cbv;have V:J8.drop (p+1)=r:=Q;refine aQ (Q':=λf s=>(f=.next/\e≠1/\∃(KA:List MO)(ls:List (List Nat))(o:Option MV)(a:MV)(w:MV),s=⟨[some (.str J8),some (.int ((p+1+k:Nat):Int)),some w,some (.str [q]),some (.ref (mh.length+1)),some (.int J8.length),some a,o],KA⟩/\
   mh<+:KA/\KA[mh.length+1]?=some (.list (ls.map .str))/\ls.flatten=v/\ls.length<=400000/\((e=0/\w=.none)\/(e≠0/\∃j,w=.ref j/\KA[j]?=some (.tuple (mX e)))))\/
  (e=1/\∃i,f=.ret (.ref i)/\mh<+:s.mh/\AS s.mh (.ref i) v (p+1+k) 1)) ?_ ?_
 ·refine bN (σ:=Nat) (λx s=>x<=J8.length/\∃(KA:List MO)(a:Nat)(ls:List (List Nat))(o:Option MV)(v':List Nat)(J:Nat),s=⟨[some (.str J8),some (.int (x:Int)),some .none,some (.str [q]),some (.ref (mh.length+1)),some (.int J8.length),some (.int (a:Int)),o],KA⟩/\mh<+:KA/\KA[mh.length+1]?=some (.list (ls.map .str))/\a<=x/\StrR q (J8.drop x) v' J e/\x+J=p+1+k/\ls.flatten++(J8.drop a).take (x-a)++v'=v/\ls.length<=2*x) (λx=>J8.length-x) ?_ NN (p+1) _ ?_ ?_
  ·rintro x _ ⟨hx,KA,a,ls,o,v',J,rfl,b,d,T,hI,hk,l,M⟩
   cbv;refine⟨λhb=>?_,λhb=>?_⟩
   ·simp at hb
    have hn:J8.drop x=[]:=f6 hb;rw[hn]at hI;cases hI;cbv;have A:=aZ d;have n:x=p+1+k:=hk;subst n;rw[cW];exact .inl ⟨rfl,by decide,_,_,o,_,_,rfl,bV (aT b _) (nl _) _,bW (ag d),by rw[<-l];simp,by simp;lia,.inr ⟨by decide,_,rfl,dJ (by lia) aW⟩⟩
   ·simp at hb
    obtain⟨c,r',hd⟩:∃c r,J8.drop x=c::r:=⟨_,_,e9 hb⟩;have g:=(aM hd).1;rw[hd]at hI;cbv;have A:=aZ d;have m:([92]==[q])=false:=by rcases hq with rfl|rfl<;>rfl
    have H:([10]==[q])=false:=by rcases hq with rfl|rfl<;>rfl
    cases hI with
    |shut=>
     refine wp_pick_t (by simp) ?_;cbv;rw[cW];refine .inl ⟨rfl,by decide,_,_,_,_,_,by rw[show p+1+k=x+1 from hk.symm],bV b (nl _) _,bW d,by rw[<-l];simp,by simp;lia,.inl ⟨rfl,rfl⟩⟩
    |bad=>
     refine wp_pick_f H ?_;cbv;have n:x=p+1+k:=hk;subst n;exact .inr ⟨rfl,_,rfl,aT (aT b _) _,_,_,rfl,aW,.inr ⟨by decide,_,rfl,ag aW⟩⟩
    |escEnd=>
     refine wp_pick_f m ?_;cbv;have y:=ed List.length g;simp at y;refine wp_pick_f (by simp;lia) ?_;cbv;rw[cW];exact⟨x+1,⟨by lia,_,x+1,_,_,_,0,rfl,bV b (nl _) _,bW d,ep _,by rw[g];exact .eof,by lia,by rw[<-l];simp,by simp;lia⟩,by lia⟩
    |@escNl t D u e2 C=>
     refine wp_pick_f m ?_;cbv;have y:=ed List.length g;simp at y;have O:=(aM g).1;refine wp_pick_t (by simp;lia) ?_;cbv;rw[cW];exact⟨x+2,⟨by lia,_,x+2,_,_,v',u,rfl,bV b (nl _) _,bW d,ep _,by rw[show x+2=x+1+1 from rfl,O];exact C,by lia,by rw[<-l];simp,by simp;lia⟩,by lia⟩
    |@esc E t D u e2 C U=>
     refine wp_pick_f m ?_;cbv;have y:=ed List.length g;simp at y;refine wp_pick_t (by simp;lia) ?_;cbv;refine wp_pick_f (by rw[bv];exact f3 (λh=>C h.symm)) ?_;cbv;refine aE (h1 J8 (x+1) _ hl (by lia)) ?_;rintro _ I ⟨z,i,rfl,N⟩;rw[g]at N;have B:I[mh.length+1]?=some (.list ((ls++[List.take (x-a) (List.drop a J8)]).map .str)):=by
      rw[<-cW];exact aO z (bW d)
     have Y:((ls++[List.take (x-a) (List.drop a J8)]).map MV.str).length<=16777216:=by simp;lia
     cbv;rw[cW];have al:=dS (E::t);have af:(escOf (E::t)).2<=J8.length-(x+1):=by
      have h:=ed List.length g;rw[ea]at h;lia
     refine⟨x+1+(escOf (E::t)).2,⟨by lia,_,x+1+(escOf (E::t)).2,_,_,D,u,rfl,bV ((bV b (nl _) _).trans z) (nl _) _,bW B,ep _,?_,by lia,?_,by simp;lia⟩,by lia⟩
     ·rw[<-eo,g];exact U
     ·rw[<-l];simp
    |@ch _ _ D u e2 C U g3 g4=>
     refine wp_pick_f (by rw[bv];exact f3 (λh=>C h.symm)) ?_;cbv;refine wp_pick_f (by rw[bv];exact f3 (λh=>U h.symm)) ?_;cbv;refine wp_pick_f (by rw[bv];exact f3 (λh=>g3 h.symm)) ?_;cbv;refine⟨x+1,⟨by lia,KA,a,ls,_,D,u,rfl,b,d,by lia,by rw[g];exact g4,by lia,?_,by lia⟩,by lia⟩;rw[iq T hd,<-l];simp
  ·exact⟨by lia,mh++[.tuple [.str [34],.str [39]]]++[.list []],p+1,[],none,v,k,by rw[g8];rfl,aT (aT (fa _) _) _,by simp,ep _,by rw[V];exact hS,rfl,by simp,by simp⟩
  ·rw[de];lia
 ·rintro f s(⟨rfl,he,KA,ls,o,a,w,rfl,b,d,l,M,hw⟩|⟨rfl,i,rfl,b,N⟩)
  ·cbv
   have ai:=hS.le;have L:=ed List.length V;rw[ea]at L;refine ah (i5 d (by rw[l];lia)) ?_;cbv;rw[l];refine⟨aT b _,_,w,rfl,by rw[cw he];exact aW,?_⟩;rcases hw with hw|⟨hw,j,rfl,hj⟩
   ·exact .inl hw
   ·exact .inr ⟨hw,j,rfl,ag hj⟩
  ·cbv
   exact⟨b,N⟩
noncomputable def aa:Nat->List Nat->Nat
 |0,_=>0
 |_,[]=>0
 |k+1,c::l=>if c=63 then aa k l+1 else 0
def bo:List Nat->Bool
 |c::_=>bR c
 |[]=>false
def b8(s:List Nat):List Nat×List Nat×Nat:=
 let h:=aH 6 s;let q:=aa (6-h) (s.drop h);if q≠0 then(s.take h++List.replicate q 48,s.take h++List.replicate q 70,h+q)
 else if(s.drop h).head?=some 45/\bo (s.drop (h+1))=true then(s.take h,(s.drop (h+1)).take (aH 6 (s.drop (h+1))),h+1+aH 6 (s.drop (h+1)))
 else(s.take h,s.take h,h)
theorem nH(k:Nat)(l:List Nat):aH (min k l.length) l=aH k l:=by
 induction k generalizing l with
 |zero=>simp[aH]
 |succ k a=>
  cases l with
  |nil=>simp[aH]
  |cons c r=>
   rw[g9,Nat.succ_min_succ];show(if bR c then aH (min k r.length) r+1 else 0)=(if bR c then aH k r+1 else 0);rw[a]
theorem uK(k:Nat)(l:List Nat):aa (min k l.length) l=aa k l:=by
 induction k generalizing l with
 |zero=>simp[aa]
 |succ k a=>
  cases l with
  |nil=>simp[aa]
  |cons c r=>
   rw[g9,Nat.succ_min_succ];show(if c=63 then aa (min k r.length) r+1 else 0)=(if c=63 then aa k r+1 else 0);rw[a]
theorem gd(k:Nat)(l:List Nat):aa k l<=k/\aa k l<=l.length:=by
 induction k generalizing l with
 |zero=>simp[aa]
 |succ k a=>
  cases l with
  |nil=>simp[aa]
  |cons c r=>
   have :=a r;show(if c=63 then aa k r+1 else 0)<=k+1/\(if c=63 then aa k r+1 else 0)<=r.length+1;split<;>lia
theorem rh{M:Nat}{x y:Option MV}(hl:J8.length<=100000)(hq:q<=M)(k:M<=J8.length)
  (h:QF .next ⟨some (.str J8)::some (.int ((q+aH (M-q) (J8.drop q):Nat):Int))::x::y::some (.int (M:Int))::ρ,mh⟩):
  Wp (dq (gh [gZ lj (bF 1) (bF 4),gZ iH (aG (bF 0) λa=>aG (bF 1) λb=>lZ a b) (aj (.str [48,49,50,51,52,53,54,55,56,57,97,98,99,100,101,102,65,66,67,68,69,70]))])
   (fq (aG (bF 1) λa=>aG (aj (.int 1)) λb=>aG (ef fC a b) (cY 1)) (bM .next)) (bM .next) NN)
   ⟨some (.str J8)::some (.int (q:Int))::x::y::some (.int (M:Int))::ρ,mh⟩ QF:=by
 have g:J8.length<=16777216:=by lia
 refine bN (σ:=Nat) (λj s=>j<=M/\j+aH (M-j) (J8.drop j)=q+aH (M-q) (J8.drop q)/\s=⟨some (.str J8)::some (.int (j:Int))::x::y::some (.int (M:Int))::ρ,mh⟩) (λj=>M-j) ?_ NN q _ ⟨hq,rfl,rfl⟩ ?_
 ·rintro j _ ⟨i,hs,rfl⟩
  cbv;by_cases d:j<M
  ·refine wp_andK_t (by simpa using d) ?_
   obtain⟨c,r,hd⟩:∃c r,J8.drop j=c::r:=⟨_,_,e9 (by lia)⟩;have f:=(aM hd).1;cbv;rw[hd,show M-j=(M-(j+1))+1 by lia]at hs;refine⟨λhb=>?_,λhb=>?_⟩
   ·cbv
    have e:j=q+aH (M-q) (J8.drop q):=by
     rw[<-hs];show j=j+if bR c then aH (M-(j+1)) r+1 else 0;rw[cw (by rw[show bR c=false by simpa [bR]using hb];exact hX)];rfl
    rw[<-e]at h;exact h
   ·cbv
    refine⟨j+1,⟨by lia,?_,rfl⟩,by lia⟩;rw[f,<-hs];show j+1+aH (M-(j+1)) r=j+if bR c then aH (M-(j+1)) r+1 else 0;rw[dt (show bR c=true by simpa [bR]using hb)];lia
  ·refine wp_andK_f (by simpa using d) ?_
   obtain rfl:j=M:=by lia
   refine⟨λhb=>?_,λhb=>by cases hb⟩;cbv;have e:j=q+aH (j-q) (J8.drop q):=by
    rw[<-hs,I1];rfl
   rw[<-e]at h;exact h
 ·rw[de];lia
theorem AI{M:Nat}{x y:Option MV}(hl:J8.length<=100000)(hq:q<=M)(k:M<=J8.length)
  (h:QF .next ⟨some (.str J8)::some (.int ((q+aa (M-q) (J8.drop q):Nat):Int))::x::y::some (.int (M:Int))::ρ,mh⟩):
  Wp (dq (gh [gZ lj (bF 1) (bF 4),gZ o0 (aG (bF 0) λa=>aG (bF 1) λb=>lZ a b) (aj (.str [63]))])
   (fq (aG (bF 1) λa=>aG (aj (.int 1)) λb=>aG (ef fC a b) (cY 1)) (bM .next)) (bM .next) NN)
   ⟨some (.str J8)::some (.int (q:Int))::x::y::some (.int (M:Int))::ρ,mh⟩ QF:=by
 have g:J8.length<=16777216:=by lia
 refine bN (σ:=Nat) (λj s=>j<=M/\j+aa (M-j) (J8.drop j)=q+aa (M-q) (J8.drop q)/\s=⟨some (.str J8)::some (.int (j:Int))::x::y::some (.int (M:Int))::ρ,mh⟩) (λj=>M-j) ?_ NN q _ ⟨hq,rfl,rfl⟩ ?_
 ·rintro j _ ⟨i,hs,rfl⟩
  cbv;by_cases d:j<M
  ·refine wp_andK_t (by simpa using d) ?_
   obtain⟨c,r,hd⟩:∃c r,J8.drop j=c::r:=⟨_,_,e9 (by lia)⟩;have f:=(aM hd).1;cbv;rw[bv];rw[hd,show M-j=(M-(j+1))+1 by lia]at hs;refine⟨λhb=>?_,λhb=>?_⟩
   ·cbv
    have e:j=q+aa (M-q) (J8.drop q):=by
     rw[<-hs];show j=j+if c=63 then aa (M-(j+1)) r+1 else 0;rw[cw (λh=>ku hb h.symm)];rfl
    rw[<-e]at h;exact h
   ·cbv
    refine⟨j+1,⟨by lia,?_,rfl⟩,by lia⟩;rw[f,<-hs];show j+1+aa (M-(j+1)) r=j+if c=63 then aa (M-(j+1)) r+1 else 0;rw[dt (go hb).symm];lia
  ·refine wp_andK_f (by simpa using d) ?_
   obtain rfl:j=M:=by lia
   refine⟨λhb=>?_,λhb=>by cases hb⟩;cbv;have e:j=q+aa (j-q) (J8.drop q):=by
    rw[<-hs,I1];cases J8.drop j<;>rfl
   rw[<-e]at h;exact h
 ·rw[de];lia
theorem wx(hK:HK G P):∃J9,Con G 1 677 J9/\∀(J8:List Nat)(p:Nat)(mh:List MO),J8.length<=100000->p<J8.length->bo (J8.drop p)=true\/(J8.drop p).head?=some 63->
  bG (J9 [.str J8,.int (p:Int)] mh) λr KA=>mh<+:KA/\∃i,r=.ref i/\KA[i]?=some (.tuple [.int (di (b8 (J8.drop p)).1),.int (di (b8 (J8.drop p)).2.1),.int ((p+(b8 (J8.drop p)).2.2:Nat):Int)]):=by
 run_tac wcon
 intro J8 p mh hl hp E;have D:J8.length<=16777216:=by lia
 cbv;refine rh hl (by lia) (by lia) ?_;have C:=bT 6 (J8.drop p);rw[ea]at C;have e1:aH (min (p+6) J8.length-p) (J8.drop p)=aH 6 (J8.drop p):=by
  rw[<-nH 6,ea];congr 1;lia
 rw[e1];obtain⟨h,g⟩:∃h,h=aH 6 (J8.drop p):=⟨_,rfl⟩;rw[<-g]at C⊢;cbv;refine AI hl (by lia) (by lia) ?_;have ar:=gd (6-h) (J8.drop (p+h));rw[ea]at ar;have e2:aa (min (p+6) J8.length-(p+h)) (J8.drop (p+h))=aa (6-h) (J8.drop (p+h)):=by
  rw[<-uK (6-h),ea];congr 1;lia
 rw[e2];obtain⟨q,l⟩:∃q,q=aa (6-h) (J8.drop (p+h)):=⟨_,rfl⟩;rw[<-l]at ar⊢;have e:b8 (J8.drop p)=if q≠0 then((J8.drop p).take h++List.replicate q 48,(J8.drop p).take h++List.replicate q 70,h+q)
   else if(J8.drop (p+h)).head?=some 45/\bo (J8.drop (p+h+1))=true then((J8.drop p).take h,(J8.drop (p+h+1)).take (aH 6 (J8.drop (p+h+1))),h+1+aH 6 (J8.drop (p+h+1)))
   else((J8.drop p).take h,(J8.drop p).take h,h):=by
  unfold b8;simp only[<-g,eo,<-l,<-k4]
 have y:1<=h+q:=by
  cases hd:J8.drop p with
  |nil=>
   have :=ed List.length hd;simp at this;lia
  |cons c r=>
   rw[hd]at E g;rcases E with hx|hx
   ·have :h=aH 5 r+1:=g.trans (dt hx)
    lia
   ·obtain rfl:c=63:=ec hx
    have h0:h=0:=g;subst h0;rw[xl,hd]at l;have :q=aa 5 r+1:=l;lia
 cbv;rw[show p+h+q-(p+h)=q by lia];have ha:=cf 6 (J8.drop p);rw[<-g]at ha;refine aQ (Q':=λf s=>f=.next/\s.mh=mh/\(b8 (J8.drop p)).1.all cD=true/\(b8 (J8.drop p)).2.1.all cD=true/\1<=(b8 (J8.drop p)).1.length/\1<=(b8 (J8.drop p)).2.1.length/\(b8 (J8.drop p)).1.length<=100/\(b8 (J8.drop p)).2.1.length<=100/\
   ∃a b c d,s.ρ=[some (.str J8),some (.int ((p+(b8 (J8.drop p)).2.2:Nat):Int)),a,b,c,some (.str (b8 (J8.drop p)).1),d,some (.str (b8 (J8.drop p)).2.1)]) ?_ ?_
 ·have L:((J8.drop p).take h).length=h:=by rw[g7,ea];lia
  refine aI (λhb=>?_) (λhb=>?_)
  ·have h0:q≠0:=by simpa using hb
   rw[e,dt h0];cbv;rw[show p+h-p=h by lia];refine rn ⟨by lia,by lia⟩ ?_;cbv;refine rn ⟨by lia,by lia⟩ ?_;cbv;refine⟨rfl,rfl,?_,?_,by simp;lia,by simp;lia,by simp;lia,by simp;lia,_,_,_,_,by rw[k4]⟩
   ·rw[Jw,ha,Iv,gb]
    intro x hx;rw[(List.mem_replicate.mp hx).2];rfl
   ·rw[Jw,ha,Iv,gb]
    intro x hx;rw[(List.mem_replicate.mp hx).2];rfl
  ·have h0:q=0:=by simpa using hb
   rw[cw (λh=>h h0)]at e;cbv;rw[show p+h-p=h by lia];subst h0;simp only[xl]at y;by_cases h1:p+h+1<J8.length
   ·obtain⟨c,r,hd⟩:∃c r,J8.drop (p+h)=c::r:=⟨_,_,e9 (by lia)⟩
    obtain⟨u,B,j⟩:∃c r,J8.drop (p+h+1)=c::r:=⟨_,_,e9 (by lia)⟩;have N:J8.drop (p+h+0)=c::r:=hd;have M:J8.drop (p+h+0+1)=u::B:=j;have I:=ed List.length j;rw[ea]at I;refine wp_andK_t (by simp;lia) ?_;cbv;refine wp_andK_all ?_;cbv;rw[bv];rw[hd,j]at e;refine aI (λhb=>?_) (λhb=>?_)
    ·simp only[fi,s3]at hb
     rw[dt ⟨by rw[<-hb.1];rfl,hb.2⟩]at e;rw[e];cbv;refine rh hl (by lia) (by lia) ?_;have m:=bT 6 (J8.drop (p+h+1));rw[ea]at m;have e3:aH (min (p+h+0+1+6) J8.length-(p+h+0+1)) (J8.drop (p+h+0+1))=aH 6 (J8.drop (p+h+1)):=by
      rw[<-nH 6,ea];congr 1;lia
     rw[e3];have n:1<=aH 6 (J8.drop (p+h+1)):=by
      rw[j];show 1<=if bR u then aH 5 B+1 else 0;rw[dt (show bR u=true from hb.2)];lia
     have o:=cf 6 (J8.drop (p+h+1));rw[<-j];have A:((J8.drop (p+h+1)).take (aH 6 (J8.drop (p+h+1)))).length=aH 6 (J8.drop (p+h+1)):=by rw[g7,ea];lia
     generalize aH 6 (J8.drop (p+h+1))=k at m n o A⊢;cbv;have e4:List.take (p+h+0+1+k-(p+h+0+1)) (List.drop (p+h+0+1) J8)=List.take k (List.drop (p+h+1) J8):=by congr 1;lia
     rw[e4,show p+h+0+1+k=p+(h+1+k)by lia];exact⟨rfl,rfl,ha,o,by dsimp only;lia,by dsimp only;lia,by dsimp only;lia,by dsimp only;lia,_,_,_,_,rfl⟩
    ·rw[cw (λh=>by
      obtain⟨Q,t⟩:=h;obtain rfl:c=45:=ec Q;have H:bR u=true:=t;unfold bR at H;rw[H]at hb;exact absurd hb (by decide))]at e
     rw[e];cbv;exact⟨rfl,rfl,ha,ha,by dsimp only;lia,by dsimp only;lia,by dsimp only;lia,by dsimp only;lia,_,_,_,_,rfl⟩
   ·refine wp_andK_f (by simp;lia) ?_
    have J:¬((J8.drop (p+h)).head?=some 45/\bo (J8.drop (p+h+1))=true):=by
     rintro⟨_,t⟩;rw[f6 (by lia)]at t;exact absurd t (by decide)
    rw[cw J]at e;rw[e];cbv;exact⟨rfl,rfl,ha,ha,by dsimp only;lia,by dsimp only;lia,by dsimp only;lia,by dsimp only;lia,_,_,_,_,rfl⟩
 ·rintro _ ⟨ρ,v⟩⟨rfl,z,h1,h2,O,h4,U,T,a,b,c,d,w⟩
  obtain rfl:v=mh:=z;obtain rfl:ρ=_:=w;cbv;refine ah (i7 h1 O (by lia)) ?_;cbv;refine ah (i7 h2 h4 (by lia)) ?_;cbv;exact aw (fa _)
noncomputable def isS:List Nat->List Nat->Bool
 |[c],l=>l.contains c
 |_,_=>false
def hdC(c:Nat):Bool:=qZ.contains c||decide (127<c)
def bdC(c:Nat):Bool:=hdC c||([45,48,49,50,51,52,53,54,55,56,57]:List Nat).contains c
noncomputable def tC(f:Nat->Bool):List Nat->Bool
 |[c]=>f c
 |_=>false
noncomputable def oneH(f:Nat->Bool):List Nat->Bool
 |c::_=>f c
 |[]=>false
theorem ko(f:Nat->Bool)(l:List Nat):tC f (l.take 1)=oneH f l:=by cases l<;>rfl
theorem cn(l s:List Nat):isS (l.take 1) s=oneH (s.contains ·) l:=by cases l<;>rfl
noncomputable def bentL:List Nat->Bool
 |c::r=>c==92&&!(r.head?==some 10)
 |[]=>false
def ao(l:List Nat):Bool:=if l.head?=some 45 then((l.drop 1).head?==some 45||(oneH hdC (l.drop 1)||bentL (l.drop 1)))else oneH hdC l||bentL l
theorem fm(hK:HK G P):∃J9,Con G 1 712 J9/\∀(s l:List Nat)(mh:List MO),s.length<=1->
  bG (J9 [.str s,.str l] mh) λr KA=>r=.bool (isS s l)/\KA=mh:=by
 run_tac wcon
 intro s l mh hs;cbv;cases s with
 |nil=>
  refine wp_pick_f rfl ?_;cbv;exact⟨rfl,rfl⟩
 |cons c s=>
  cases s with
  |nil=>
   refine wp_pick_t rfl ?_;cbv;exact⟨rfl,rfl⟩
  |cons _ _=>simp at hs
theorem nY(hK:HK G P):∃J9,Con G 1 719 J9/\∀(s:List Nat)(mh:List MO),s.length<=1->bG (J9 [.str s] mh) λr KA=>r=.bool (tC hdC s)/\KA=mh:=by
 run_tac wcon
 intro s mh hs;cbv;cases s with
 |nil=>
  refine wp_pick_f rfl ?_;cbv;exact⟨rfl,rfl⟩
 |cons c s=>
  cases s with
  |nil=>
   refine wp_pick_t rfl ?_;cbv;refine aI (λhb=>?_) (λhb=>?_)
   ·cbv
    exact⟨ed MV.bool (by show _=(qZ.contains c||_);rw[hb];rfl),rfl⟩
   ·cbv
    refine⟨ed MV.bool ?_,rfl⟩;show _=(qZ.contains c||decide (127<c));rw[hb,yk];congr 1;apply propext;lia
  |cons _ _=>simp at hs
theorem kY(hK:HK G P):∃J9,Con G 2 726 J9/\∀(s:List Nat)(mh:List MO),s.length<=1->bG (J9 [.str s] mh) λr KA=>r=.bool (tC bdC s)/\KA=mh:=by
 obtain⟨KS,d,h1⟩:=fm hK;obtain⟨a,b,h2⟩:=nY hK;run_tac wcon
 intro s mh hs;cbv;refine aE (h2 s mh hs) ?_;rintro _ KA⟨rfl,rfl⟩;cbv;have e:tC bdC s=(tC hdC s||isS s [45,48,49,50,51,52,53,54,55,56,57]):=by
  cases s with
  |nil=>rfl
  |cons c s=>cases s<;>rfl
 refine aI (λhb=>?_) (λhb=>?_)
 ·cbv
  exact⟨by rw[e,hb];rfl,rfl⟩
 ·cbv
  refine aE (h1 s _ KA hs) ?_;rintro _ _⟨rfl,rfl⟩;cbv;exact⟨by rw[e,hb];rfl,rfl⟩
theorem ij(hK:HK G P):∃J9,Con G 1 733 J9/\∀(J8:List Nat)(p:Nat)(mh:List MO),J8.length<=100000->bG (J9 [.str J8,.int (p:Int)] mh) λr KA=>r=.bool (bentL (J8.drop p))/\KA=mh:=by
 run_tac wcon
 intro J8 p mh hl;have b:J8.length<=16777216:=by lia
 cbv;cases hd:J8.drop p with
 |nil=>
  refine wp_pick_f rfl ?_;cbv;exact⟨rfl,rfl⟩
 |cons c r=>
  have a:=(aM hd).1;rw[show(List.take 1 (c::r)==[92])=decide (c=92)by rw[hH];simp];refine aI (λhb=>?_) (λhb=>?_)
  ·obtain rfl:=go hb
   cbv;rw[a];refine⟨ed MV.bool ?_,rfl⟩;cases r with
   |nil=>rfl
   |cons d r=>
    show(!([d]==[10]))=(true&&!(some d==some 10));rw[Iv];congr 1;rw[hH];simp
  ·cbv
   refine⟨ed MV.bool ?_,rfl⟩;have :(c==92)=false:=by simpa using hb
   show _=(c==92&&_);rw[this,hb];rfl
theorem lD(hK:HK G P):∃J9,Con G 2 740 J9/\∀(J8:List Nat)(p:Nat)(mh:List MO),J8.length<=100000->bG (J9 [.str J8,.int (p:Int)] mh) λr KA=>r=.bool (ao (J8.drop p))/\KA=mh:=by
 obtain⟨e,m,h2⟩:=nY hK;obtain⟨g,l,k⟩:=ij hK;run_tac wcon
 intro J8 p mh hl;have i:J8.length<=16777216:=by lia
 cbv;refine aQ (Q':=λf s=>(f=.next/\∃x:Nat,s=⟨[some (.str J8),some (.int (x:Int))],mh⟩/\ao (J8.drop p)=(oneH hdC (J8.drop x)||bentL (J8.drop x)))\/(f=.ret (.bool true)/\s.mh=mh/\ao (J8.drop p)=true)) ?_ ?_
 ·refine aI (λhb=>?_) (λhb=>?_)
  ·have b:(J8.drop p).head?=some 45:=by
    cases hd:J8.drop p with
    |nil=>rw[hd]at hb;exact absurd hb (by decide)
    |cons c r=>rw[hd]at hb;simpa using hb
   have a:ao (J8.drop p)=((J8.drop (p+1)).head?==some 45||(oneH hdC (J8.drop (p+1))||bentL (J8.drop (p+1)))):=by
    unfold ao;rw[dt b,eo]
   cbv;have j:(List.take 1 (List.drop (p+1) J8)==[45])=((J8.drop (p+1)).head?==some 45):=by
    cases J8.drop (p+1)with
    |nil=>rfl
    |cons c r=>rw[hH];simp
   rw[j];refine aI (λhc=>?_) (λhc=>?_)
   ·rw[hc]at a
    cbv;exact .inr ⟨rfl,rfl,a⟩
   ·rw[hc,yk]at a
    cbv;exact .inl ⟨rfl,p+1,rfl,a⟩
  ·have b:¬(J8.drop p).head?=some 45:=by
    cases hd:J8.drop p with
    |nil=>exact λh=>by cases h
    |cons c r=>rw[hd]at hb;simpa using hb
   cbv;exact .inl ⟨rfl,p,rfl,by unfold ao;rw[cw b]⟩
 ·rintro f s(⟨rfl,x,rfl,a⟩|⟨rfl,d,a⟩)
  ·cbv
   refine aE (h2 _ mh (by rw[g7];lia)) ?_;rintro _ KA ⟨rfl,rfl⟩;rw[ko];cbv;refine aI (λhc=>?_) (λhc=>?_)
   ·cbv
    exact⟨by rw[a,hc];rfl,rfl⟩
   ·cbv
    refine aE (k J8 x KA hl) ?_;rintro _ _ ⟨rfl,rfl⟩;cbv;exact⟨by rw[a,hc];rfl,rfl⟩
  ·cbv
   exact⟨by rw[a],d⟩
theorem sE(hK:HK G P):∃J9,Con G 2 761 J9/\∀(J8:List Nat)(p:Nat)(mh:List MO),J8.length<=100000->p<=J8.length+5->bG (J9 [.str J8,.int (p:Int)] mh) λr KA=>r=.int ((p+aK (J8.drop p):Nat):Int)/\KA=mh:=by
 obtain⟨KS,h,h1⟩:=fm hK;run_tac wcon
 intro J8 p mh hl hp;have b:J8.length<=16777216:=by lia
 cbv;refine aQ (Q':=λf s=>f=.next/\s=⟨[some (.str J8),some (.int ((p+aK (J8.drop p):Nat):Int))],mh⟩) ?_ ?_
 ·refine bN (σ:=Nat) (λj s=>j<=J8.length+5/\j+aK (J8.drop j)=p+aK (J8.drop p)/\s=⟨[some (.str J8),some (.int (j:Int))],mh⟩) (λj=>J8.length+5-j) ?_ NN p _ ⟨hp,rfl,rfl⟩ ?_
  ·rintro j _ ⟨g,hs,rfl⟩
   cbv;refine aE (h1 _ _ mh (by rw[g7];lia)) ?_;rintro _ KA ⟨rfl,rfl⟩;rw[cn];cbv;cases hd:J8.drop j with
   |nil=>
    rw[hd]at hs;refine⟨λ_=>?_,λhb=>by cases hb⟩;cbv;exact⟨rfl,by rw[show p+aK (J8.drop p)=j from hs.symm]⟩
   |cons c r=>
    have a:=(aM hd).1;have d:=(aM hd).2;rw[hd]at hs;refine⟨λhb=>?_,λhb=>?_⟩
    ·cbv
     have e:cF c=false:=by rw[<-eF];exact hb
     have :aK (c::r)=0:=cw (by rw[e];exact hX);rw[this]at hs;exact⟨rfl,by rw[show p+aK (J8.drop p)=j from hs.symm]⟩
    ·cbv
     have e:cF c=true:=by rw[<-eF];exact hb
     have :aK (c::r)=aK r+1:=dt e;exact⟨j+1,⟨by lia,by rw[a,<-hs,this];lia,rfl⟩,by lia⟩
  ·rw[de];lia
 ·rintro _ _ ⟨rfl,rfl⟩
  cbv;exact⟨rfl,rfl⟩
theorem plainly4{a b c d:Str}(h:∀name qual kV doc pm an cdv ct j i g f,bindArgs (fnOf name qual params body scope dV kV doc pm an cdv ct) ⟨[j,i,g,f],[]⟩=pure [(a,j),(b,i),(c,g),(d,f)]):dp params body scope dV [a,b,c,d]:=by
 intro name qual kV doc pm an cdv ct e hl;have h0:e.length=4:=hl;obtain⟨j,r,rfl,h1⟩:=f9 h0;obtain⟨i,r,rfl,h2⟩:=f9 h1;obtain⟨g,r,rfl,k⟩:=f9 h2;obtain⟨f,rfl⟩:=rP k;exact h ..
theorem plainly6{a b c d e f:Str}(h:∀name qual kV doc pm an cdv ct n m l k j i,bindArgs (fnOf name qual params body scope dV kV doc pm an cdv ct) ⟨[n,m,l,k,j,i],[]⟩=pure [(a,n),(b,m),(c,l),(d,k),(e,j),(f,i)]):dp params body scope dV [a,b,c,d,e,f]:=by
 intro name qual kV doc pm an cdv ct g hl;have h0:g.length=6:=hl;obtain⟨n,r,rfl,h1⟩:=f9 h0;obtain⟨m,r,rfl,h2⟩:=f9 h1;obtain⟨l,r,rfl,p⟩:=f9 h2;obtain⟨k,r,rfl,h4⟩:=f9 p;obtain⟨j,r,rfl,o⟩:=f9 h4;obtain⟨i,rfl⟩:=rP o;exact h ..
theorem plainly7{a b c d e f g:Str}(h:∀name qual kV doc pm an cdv ct p o n m l k j,bindArgs (fnOf name qual params body scope dV kV doc pm an cdv ct) ⟨[p,o,n,m,l,k,j],[]⟩=pure [(a,p),(b,o),(c,n),(d,m),(e,l),(f,k),(g,j)]):dp params body scope dV [a,b,c,d,e,f,g]:=by
 intro name qual kV doc pm an cdv ct i hl;have h0:i.length=7:=hl;obtain⟨p,r,rfl,h1⟩:=f9 h0;obtain⟨o,r,rfl,h2⟩:=f9 h1;obtain⟨n,r,rfl,t⟩:=f9 h2;obtain⟨m,r,rfl,h4⟩:=f9 t;obtain⟨l,r,rfl,s⟩:=f9 h4;obtain⟨k,r,rfl,q⟩:=f9 s;obtain⟨j,rfl⟩:=rP q;exact h ..
theorem BN(k:Nat)(l c:MV):((([]++List.replicate (k+2-0) none:List (Option MV)).set (k+1) (some l))++List.replicate (k+1-(k+2)) none).set k (some c)=List.replicate k none++[some c,some l]:=by
 induction k with
 |zero=>rfl
 |succ k a=>
  have e1:k+1+1-(k+1+2)=0:=by lia
  have e2:k+1-(k+2)=0:=by lia
  rw[e1];rw[e2]at a;simp only[Jc,m4,JE,Nat.sub_zero]at a⊢;rw[show k+1+2=(k+2)+1 from rfl,List.replicate_succ,Jf,Jf,a,List.replicate_succ,rC]
inductive SwapT(names:List Str):List PySem.Expr->List Str->List Nat->Prop
 |nil:SwapT names [] [] []
 |cons{x p i ts xs is:_}:Ix names x i->SwapT names ts xs is->SwapT names (.Name x p::ts) (x::xs) (i::is)
theorem SwapT.ix{ts:List PySem.Expr}{xs:List Str}(h:SwapT names ts xs is):All2 (Ix names) xs is:=by
 induction h with
 |nil=>exact .nil
 |cons h _ a=>exact .cons h a
theorem All2.rev{R:α->β->Prop}{l:List α}{m:List β}(h:All2 R l m):All2 R l.reverse m.reverse:=by
 induction h with
 |nil=>exact .nil
 |cons h _ a=>
  rw[I3,I3];exact a.app (.cons h .nil)
theorem qX(lo:LocalsOk sc names){ys:List Str}(h:All2 (Ix names) ys is):
  ∀{w:St}{st:LS}{items:List MV}{vs:List Value}{Q:Unit->Shared->Prop},W c names st w->All2 (VR w.φ) items vs->items.length=is.length->
   (∀w',Nx c names w {st with ρ:=gq is items st.ρ} w'->Q () w'.s)->wpAny G.M c.A (assignInOrder (ys.map λx=>bindName c.env x) vs) Q NoE w.s:=by
 induction h with
 |nil=>
  intro w st items vs Q e f hl k;cases f with
  |nil=>exact wpAny_assignInOrder_none (k w e.nx)
  |cons _ _=>cases hl
 |cons j l i=>
  intro w st items vs Q e f hl k;cases f with
  |nil=>cases hl
  |cons g rl=>exact wpAny_assignInOrder_more (bindName_ (dL lo j e g λw1a a=>i a.sim (rl.mono λ_ _=>VR.mono a.pre) (JG hl) λb d=>k b (a.trans d)))
def oK(is:List Nat)(a:MV):Den MF:=λst=>match a with
 |.ref r=>match st.mh[r]? with
  |some (.tuple items)=>if items.length=is.length then some (.next,{st with ρ:=gq is.reverse items.reverse st.ρ}) else none
  |_=>none
 |_=>none
def EB(sc:Scope)(a:List PySem.Expr)(value:PySem.Expr)(ys:List Str):Prop:=∀l env,env.scope=sc->swapsWithSole a value l env=pure false/\swappedStores a value env=pure (some ys)
theorem HT{ts:List PySem.Expr}{ys:List Str}{g:Pos}{e:PySem.Expr}(lo:LocalsOk sc names)(h:SwapT names ts ys is)(pl:EB sc [.Tuple ts kk g] e ys)(C:SemE G sc names n e d):
  fO G sc names n (.Assign [.Tuple ts kk g] e pos) (aG d (oK is)):=by
 intro c st w K Q u hd k;refine Assign_Tuple_swapped (names:=ys) (C c st w _ _ u (wB hd) λa KD w1a a' i b l=>?_) (pl pos.line c.env c.ok.scope).1 (pl pos.line c.env c.ok.scope).2;obtain⟨f,H,e1,q⟩:=i;cases a with
 |ref r=>
  dsimp only[oK]at e1;revert e1;cases hm:KD.mh[r]? with
  |none=>intro e1;exact nos e1
  |some x=>
   intro e1;cases x with
   |tuple items=>
    obtain⟨hl,e1⟩:=ifs e1;cases e1;obtain⟨ad,vs,y,rfl,_,B,t⟩:=fj b.sim hm l;obtain⟨m,objs,F,N,z,v,le,A⟩:=b.sim.1;have p:=h.ix;refine unpackItemsN_ F N ⟨_,B,rfl,y,rfl⟩ c.ok.hnd (by rw[p.len,<-hl];exact t.len) λh' E D=>?_;have nx:=b.hp (k:=w1a.s.toks) ⟨m,objs,E,D,z,v,le,A⟩ b.sim.2;exact qX lo p.rev (w:=⟨_,w1a.φ⟩) nx.sim t.rev (by rw[s1,s1,hl]) λj o=>k _ _ j _ q (nx.trans o) rfl
   |_=>exact nos e1
 |_=>exact nos e1
theorem Ec{r:Nat}{a b:MV}(hm:mh[r]?=some (.tuple [a,b]))(h1:Put ρ j b Kf)(h2:Put Kf i a Ke)(q:QF .next ⟨Ke,mh⟩):Wp (oK [i,j] (.ref r)) ⟨ρ,mh⟩ QF:=by
 refine⟨.next,_,?_,q⟩;unfold oK;simp only[hm];show some (MF.next,(⟨(ρ.set j (some b)).set i (some a),mh⟩:LS))=_;rw[h1.set,h2.set]
theorem Eb{r:Nat}{a b c:MV}{d:List (Option MV)}(hm:mh[r]?=some (.tuple [a,b,c]))(h0:Put ρ k c Kf)(h1:Put Kf j b Ke)(h2:Put Ke i a d)(q:QF .next ⟨d,mh⟩):Wp (oK [i,j,k] (.ref r)) ⟨ρ,mh⟩ QF:=by
 refine⟨.next,_,?_,q⟩;unfold oK;simp only[hm];show some (MF.next,(⟨((ρ.set k (some c)).set j (some b)).set i (some a),mh⟩:LS))=_;rw[h0.set,h1.set,h2.set]
variable{KS:Spec}
theorem k5(h1:∀(s l:List Nat)(mh:List MO),s.length<=1->bG (KS [.str s,.str l] mh) λr KA=>r=.bool (isS s l)/\KA=mh)
  (hl:J8.length<=100000)(hk:k<=J8.length)(hq:q<=k+6)(hc:q<=J8.length)
  (h:QF .next ⟨some (.str J8)::some (.int (k:Int))::some (.int ((q+aH (k+6-q) (J8.drop q):Nat):Int))::ρ,mh⟩):
  Wp (dq (gh [gZ lj (bF 2) (lJ fC (bF 1) (aj (.int 6))),aG (aG (dF (aG (bF 0) λa=>aG (bF 2) λl=>aG (lJ fC (bF 2) (aj (.int 1))) λu=>cutD a l u) (dF (aj (.str em)) λst=>some ([],st))) (cp KS)) dk])
   (fq (aG (bF 2) λa=>aG (aj (.int 1)) λb=>aG (ef fC a b) (cY 2)) (bM .next)) (bM .next) NN)
   ⟨some (.str J8)::some (.int (k:Int))::some (.int (q:Int))::ρ,mh⟩ QF:=by
 have f:J8.length<=16777216:=by lia
 refine bN (σ:=Nat) (λj s=>j<=k+6/\j<=J8.length/\j+aH (k+6-j) (J8.drop j)=q+aH (k+6-q) (J8.drop q)/\s=⟨some (.str J8)::some (.int (k:Int))::some (.int (j:Int))::ρ,mh⟩) (λj=>k+6-j) ?_ NN q _ ⟨hq,hc,rfl,rfl⟩ ?_
 ·rintro j _ ⟨n,m,hs,rfl⟩
  cbv;by_cases i:j<k+6
  ·refine wp_andK_t (by simp;lia) ?_
   cbv;refine aE (h1 _ _ mh (by rw[g7];lia)) ?_;rintro _ KA ⟨rfl,rfl⟩;rw[cn];cbv;cases hd:J8.drop j with
   |nil=>
    rw[hd,show k+6-j=(k+6-(j+1))+1 by lia]at hs;refine⟨λ_=>?_,λhb=>by cases hb⟩;cbv;have e:j=q+aH (k+6-q) (J8.drop q):=hs;rw[<-e]at h;exact h
   |cons c r=>
    have d:=(aM hd).1;have g:=(aM hd).2;rw[hd,show k+6-j=(k+6-(j+1))+1 by lia]at hs;refine⟨λhb=>?_,λhb=>?_⟩
    ·cbv
     have e:j=q+aH (k+6-q) (J8.drop q):=by
      rw[<-hs];show j=j+if bR c then aH (k+6-(j+1)) r+1 else 0;rw[cw (by rw[show bR c=false from hb];exact hX)];rfl
     rw[<-e]at h;exact h
    ·cbv
     refine⟨j+1,⟨by lia,by lia,?_,rfl⟩,by lia⟩;rw[d,<-hs];show j+1+aH (k+6-(j+1)) r=j+if bR c then aH (k+6-(j+1)) r+1 else 0;rw[dt (show bR c=true from hb)];lia
  ·refine wp_andK_f (by simp;lia) ?_
   refine⟨λhb=>?_,λhb=>by cases hb⟩;cbv;have e:j=q+aH (k+6-q) (J8.drop q):=by
    rw[<-hs,show k+6-j=0 by lia];rfl
   rw[<-e]at h;exact h
 ·rw[de];lia
def lawEsc(l:List Nat):Nat:=
 if 0<aH 6 l then(if di (l.take (aH 6 l))=0\/1114111<di (l.take (aH 6 l))\/(55296<=di (l.take (aH 6 l))/\di (l.take (aH 6 l))<=57343) then 65533 else di (l.take (aH 6 l)))
 else l.headD 65533
theorem f7(c:Nat):([32,10,9]:List Nat).contains c=isBl c:=by
 unfold isBl;rw[hH];simp;lia
theorem li(hK:HK G P):∃J9,Con G 2 747 J9/\∀(J8:List Nat)(p:Nat)(mh:List MO),J8.length<=100000->p<=J8.length->bG (J9 [.str J8,.int (p:Int)] mh) λr KA=>mh<+:KA/\∃i,r=.ref i/\KA[i]?=some (.tuple [.str [lawEsc (J8.drop p)],.int ((p+(escOf (J8.drop p)).2:Nat):Int)]):=by
 obtain⟨KS,h,h1⟩:=fm hK;run_tac wcon
 intro J8 p mh hl hp;have b:J8.length<=16777216:=by lia
 cbv;refine k5 h1 hl hp (by lia) hp ?_;rw[show p+6-p=6 by lia];have hk:=bT 6 (J8.drop p);rw[ea]at hk;have ha:=cf 6 (J8.drop p);unfold lawEsc escOf;revert ha;generalize aH 6 (J8.drop p)=k at hk⊢;intro ha;cbv;refine wp_andK_all ?_;cbv;by_cases h0:0<k
 ·refine wp_pick_f (by simp;lia) ?_
  cbv;refine wp_pick_f (by simp;lia) ?_;cbv;rw[show p+k-p=k by lia];refine ah (i7 ha (by simp;lia) (by simp;lia)) ?_;rw[dt h0,dt h0];generalize di (List.take k (List.drop p J8))=v;cbv;refine aE (h1 _ _ mh (by rw[g7];lia)) ?_;rintro _ KA ⟨rfl,rfl⟩;rw[cn];cbv;refine aQ (Q':=λf s=>f=.next/\s=⟨[some (.str J8),some (.int p),some (.int ((p+bP (J8.drop p) k:Nat):Int)),some (.int v)],KA⟩) ?_ ?_
  ·cases hd:J8.drop (p+k)with
   |nil=>
    have e:bP (J8.drop p) k=k:=by unfold bP;rw[eo,hd]
    rw[e];refine wp_pick_f rfl ?_;cbv;exact⟨rfl,rfl⟩
   |cons c r=>
    rw[show oneH (([32,10,9]:List Nat).contains ·) (c::r)=isBl c from f7 c];refine aI (λhb=>?_) (λhb=>?_)
    ·have e:bP (J8.drop p) k=k+1:=by unfold bP;rw[eo,hd];exact dt hb
     rw[e];cbv;exact⟨rfl,rfl⟩
    ·have e:bP (J8.drop p) k=k:=by unfold bP;rw[eo,hd];exact cw (by rw[hb];exact hX)
     rw[e];cbv;exact⟨rfl,rfl⟩
  ·rintro _ _ ⟨rfl,rfl⟩
   cbv;refine wp_orK_all ?_;cbv;refine wp_orK_all ?_;cbv;refine aI (λhb=>?_) (λhb=>?_)
   ·have a:v=0\/1114111<v\/(55296<=v/\v<=57343):=by simp at hb;lia
    rw[dt a];cbv;exact aw (fa _)
   ·have a:¬(v=0\/1114111<v\/(55296<=v/\v<=57343)):=by simp at hb;lia
    have d:v<=1114111:=by lia
    rw[cw a];cbv;exact aw (fa _)
 ·obtain rfl:k=0:=by lia
  cases hd:J8.drop p with
  |nil=>
   have :=ed List.length hd;simp at this;refine wp_pick_f (by simp;lia) ?_;cbv;refine wp_pick_t (by simp) ?_;cbv;exact aw (fa _)
  |cons c r=>
   have g:=(aM hd).2;refine wp_pick_t (by simp;lia) ?_;cbv;exact aw (fa _)
inductive WordR:List Nat->List Nat->Nat->Prop
 |stop{l:_}:oneH bdC l=false->bentL l=false->WordR l [] 0
 |name{c r v k:_}:c≠92->bdC c=true->WordR r v k->WordR (c::r) (c::v) (k+1)
 |esc{r v k:_}:(r.head?==some 10)=false->WordR (r.drop (escOf r).2) v k->WordR (92::r) (lawEsc r::v) (1+(escOf r).2+k)
theorem WordR.le{v:List Nat}(h:WordR l v k):k<=l.length/\v.length<=k:=by
 induction h with
 |stop=>simp
 |name _ _ _ a=>simp;lia
 |@esc r v k _ _ a=>have :=dS r;simp at a⊢;lia
theorem sC(hK:HK G P):∃J9,Con G 3 754 J9/\∀(J8:List Nat)(p:Nat)(mh:List MO)(v:List Nat)(k:Nat),J8.length<=100000->p<=J8.length->WordR (J8.drop p) v k->bG (J9 [.str J8,.int (p:Int)] mh) λr KA=>mh<+:KA/\∃i,r=.ref i/\KA[i]?=some (.tuple [.str v,.int ((p+k:Nat):Int)]):=by
 obtain⟨A,V,h1⟩:=kY hK;obtain⟨B,U,h2⟩:=ij hK;obtain⟨E,T,N⟩:=li hK;run_tac wcon
 intro J8 p mh v k hl hp D;have C:J8.length<=16777216:=by lia
 cbv;have x:=D.le;rw[ea]at x;refine aQ (Q':=λf s=>f=.next/\∃(KA:List MO)(o:Option MV),s=⟨[some (.str J8),some (.int ((p+k:Nat):Int)),some (.str v),o],KA⟩/\mh<+:KA) ?_ ?_
 ·refine bN (σ:=Nat) (λq s=>q<=J8.length/\∃(KA:List MO)(w v':List Nat)(u:Nat)(o:Option MV),s=⟨[some (.str J8),some (.int (q:Int)),some (.str w),o],KA⟩/\mh<+:KA/\WordR (J8.drop q) v' u/\q+u=p+k/\w++v'=v) (λq=>J8.length-q) ?_ NN p _ ⟨hp,mh,[],v,k,none,rfl,fa _,D,rfl,rfl⟩ ?_
  ·rintro q _⟨hq,KA,w,v',u,o,rfl,a,hI,hk,e⟩
   have J:w.length<=100000:=by
    have :=ed List.length e;rw[g8]at this;lia
   cbv;refine aE (h1 _ KA (by rw[g7];lia)) ?_;rintro _ n⟨rfl,rfl⟩;rw[ko];cbv;refine wp_orK_all ?_;cbv;refine aE (h2 J8 q n hl) ?_;rintro _ I⟨rfl,rfl⟩;cbv;obtain⟨l,hd⟩:∃l,J8.drop q=l:=⟨_,rfl⟩;rw[hd]at hI⊢;cases hI with
   |stop j g=>
    refine⟨λhb=>?_,λhb=>by rw[j,g]at hb;exact absurd hb (by decide)⟩;cbv;have :q=p+k:=hk;subst this;rw[m4]at e;subst e;exact⟨rfl,_,_,rfl,a⟩
   |@name c r m t j g O=>
    have b:=(aM hd).1;have z:=(aM hd).2;refine⟨λhb=>absurd ((show oneH bdC (c::r)=true from g).symm.trans (ra.mp hb).1) (by decide),λhb=>?_⟩;cbv;refine wp_pick_f (by rw[bv];exact f3 (λh=>j h.symm)) ?_;cbv;exact⟨q+1,⟨by lia,_,w++[c],m,t,_,rfl,aT a _,by rw[b];exact O,by lia,by rw[<-e];simp⟩,by lia⟩
   |@esc r m t j g=>
    have b:=(aM hd).1;have z:=(aM hd).2;have d:bentL (92::r)=true:=by
     show(true&&!(r.head?==some 10))=true;rw[j];rfl
    refine⟨λhb=>absurd (d.symm.trans (ra.mp hb).2) (by decide),λhb=>?_⟩;have L:=dS r;have Q:(escOf r).2<=J8.length-(q+1):=by
     have h:=ed List.length b;rw[ea]at h;lia
    cbv;refine aE (N J8 (q+1) _ hl (by lia)) ?_;rintro _ H⟨y,i,rfl,M⟩;rw[b]at M;cbv;exact⟨q+1+(escOf r).2,⟨by lia,_,w++[lawEsc r],m,t,_,rfl,a.trans y,by rw[<-eo,b];exact g,by lia,by rw[<-e];simp⟩,by lia⟩
  ·rw[de];lia
 ·rintro _ _⟨rfl,KA,o,rfl,a⟩
  cbv;exact aw a
theorem qm(l:List Nat):isS (l.take 1) [43,45]=decide (aF l=1):=by
 cases l with
 |nil=>rfl
 |cons c r=>
  show([43,45]:List Nat).contains c=decide ((if c=45\/c=43 then 1 else 0)=1);rw[hH];simp;lia
theorem F0(c:Nat)(r:List Nat):isS (List.take 1 (c::r)) [101,69]=decide (c=101\/c=69):=by
 show([101,69]:List Nat).contains c=_;rw[hH];simp
theorem r9(l:List Nat):bY l=decide (0<aK l):=by
 cases l with
 |nil=>rfl
 |cons c r=>
  show cF c=decide (0<if cF c then aK r+1 else 0);cases cF c
  ·rfl
  ·rfl
def af(l:List Nat):Nat:=match bD l with
 |some p=>p.1
 |none=>0
theorem lh(hK:HK G P):∃J9,Con G 3 768 J9/\∀(J8:List Nat)(p:Nat)(mh:List MO),J8.length<=100000->p<=J8.length->bG (J9 [.str J8,.int (p:Int)] mh) λr KA=>r=.int ((p+af (J8.drop p):Nat):Int)/\KA=mh:=by
 obtain⟨KS,H,h1⟩:=fm hK;obtain⟨y,E,h2⟩:=sE hK;run_tac wcon
 intro J8 p mh hl hp;have w:J8.length<=16777216:=by lia
 cbv;refine aE (h1 _ _ mh (by rw[g7];lia)) ?_;rintro _ l ⟨rfl,rfl⟩;rw[qm];have u:=dM (J8.drop p);rw[ea]at u;cbv;refine aQ (Q':=λv s=>v=.int ((p+aF (J8.drop p):Nat):Int)/\s=⟨[some (.str J8),some (.int p),none,none],l⟩) ?_ ?_
 ·refine aI (λhb=>?_) (λhb=>?_)
  ·rw[go hb]
   cbv;exact⟨rfl,rfl⟩
  ·have :=ku hb
   have e:aF (J8.drop p)=0:=by lia
   rw[e];cbv;exact⟨rfl,rfl⟩
 ·rintro _ _ ⟨rfl,rfl⟩
  cbv;refine aE (h2 J8 (p+aF (J8.drop p)) l hl (by lia)) ?_;rintro _ mh ⟨rfl,rfl⟩;have t:=db (J8.drop (p+aF (J8.drop p)));rw[ea]at t;obtain⟨a,ha⟩:∃a,a=aF (J8.drop p):=⟨_,rfl⟩;obtain⟨k,hk⟩:∃k,k=aK (J8.drop (p+a)):=⟨_,rfl⟩;rw[<-ha]at u t⊢;rw[<-hk]at t⊢;have b:cb (J8.drop p)=if(J8.drop (p+a+k)).head?=some 46/\bY (J8.drop (p+a+k+1))=true then some (a+k+1+aK (J8.drop (p+a+k+1)),false)else if k=0 then none else some (a+k,true):=by
   unfold cb;simp only[<-ha,eo,<-hk,<-k4]
  have n:(List.take 1 (List.drop (p+a+k) J8)==[46])=decide ((J8.drop (p+a+k)).head?=some 46):=by
   cases J8.drop (p+a+k)with
   |nil=>rfl
   |cons c r=>rw[hH];simp
  cbv;refine wp_andK_all ?_;cbv;refine aE (h2 J8 (p+a+k+1) mh hl (by lia)) ?_;rintro _ mh ⟨rfl,rfl⟩;cbv;have j:(List.take 1 (List.drop (p+a+k) J8)==[46]&&decide (((p+a+k+1:Nat):Int)<((p+a+k+1+aK (List.drop (p+a+k+1) J8):Nat):Int)))=decide ((J8.drop (p+a+k)).head?=some 46/\bY (J8.drop (p+a+k+1))=true):=by
   rw[n,r9,Jy];congr 1;rw[hH];simp;lia
  rw[j];have z:=db (J8.drop (p+a+k+1));rw[ea]at z;refine aQ (Q':=λf s=>f=.next/\∃x:Nat,s=⟨[some (.str J8),some (.int p),some (.int ((p+a:Nat):Int)),some (.int (x:Int))],mh⟩/\x<=J8.length/\((∃m pl,cb (J8.drop p)=some (m,pl)/\x=p+m/\x≠p+a)\/(cb (J8.drop p)=none/\x=p+a))) ?_ ?_
  ·refine aI (λhb=>?_) (λhb=>?_)
   ·have hb:=go hb
    have o:p+a+k+1<J8.length:=by
     apply n7;intro C;rw[f6 (Nat.le_of_not_lt C)]at hb;exact absurd hb.2 (by decide)
    cbv;refine aE (h2 J8 (p+a+k+1) mh hl (by lia)) ?_;rintro _ mh ⟨rfl,rfl⟩;cbv;rw[dt hb]at b;exact⟨rfl,_,rfl,by lia,.inl ⟨_,_,b,by lia,by lia⟩⟩
   ·have hb:=ku hb
    rw[cw hb]at b;cbv;by_cases h0:k=0
    ·rw[dt h0]at b
     exact⟨rfl,_,rfl,by lia,.inr ⟨b,by lia⟩⟩
    ·rw[cw h0]at b
     exact⟨rfl,_,rfl,by lia,.inl ⟨_,_,b,by lia,by lia⟩⟩
  ·rintro _ _ ⟨rfl,x,rfl,hx,hm⟩
   cbv;rcases hm with⟨m,pl,hm,d,B⟩|⟨hm,d⟩
   ·have g:af (J8.drop p)=m+ae (J8.drop x):=by
     unfold af bD;rw[hm];simp only[yL,eo,<-d]
    rw[g];refine wp_pick_f (by simp;lia) ?_;cbv;refine aE (h1 _ _ mh (by rw[g7];lia)) ?_;rintro _ mh ⟨rfl,rfl⟩;cbv;cases hd:J8.drop x with
    |nil=>
     refine wp_pick_f rfl ?_;cbv;exact⟨by rw[show p+(m+ae [])=x by rw[d];rfl],rfl⟩
    |cons c r=>
     have i:=(aM hd).1;have o:=(aM hd).2;rw[F0];have hex:ae (c::r)=if(c=101\/c=69)/\bY (r.drop (aF r))=true then 1+aF r+aK (r.drop (aF r))else 0:=rfl;refine aI (λhb=>?_) (λhb=>?_)
     ·have q:=go hb
      cbv;refine aE (h1 _ _ mh (by rw[g7];lia)) ?_;rintro _ mh ⟨rfl,rfl⟩;rw[qm,i];have D:=dM r;have A:r.length+(x+1)=J8.length:=by
       have h:=ed List.length i;rw[ea]at h;lia
      cbv;refine aQ (Q':=λv s=>v=.int ((x+1+aF r:Nat):Int)/\s=⟨[some (.str J8),some (.int p),some (.int ((p+a:Nat):Int)),some (.int (x:Int))],mh⟩) ?_ ?_
      ·refine aI (λhb=>?_) (λhb=>?_)
       ·rw[go hb]
        cbv;exact⟨rfl,rfl⟩
       ·have :=ku hb
        have e:aF r=0:=by lia
        rw[e];cbv;exact⟨rfl,rfl⟩
      ·rintro _ _ ⟨rfl,rfl⟩
       cbv;have e3:J8.drop (x+1+aF r)=r.drop (aF r):=by rw[<-eo,i]
       refine aE (h2 J8 (x+1+aF r) mh hl (by lia)) ?_;rintro _ mh ⟨rfl,rfl⟩;rw[e3];cbv;have hg:bY (r.drop (aF r))=decide (0<aK (r.drop (aF r))):=r9 _;by_cases h0:0<aK (r.drop (aF r))
       ·rw[dt ⟨q,hg.trans (g6 h0)⟩]at hex
        refine wp_pick_t (by simp;lia) ?_;cbv;refine aE (h2 J8 (x+1+aF r) mh hl (by lia)) ?_;rintro _ mh ⟨rfl,rfl⟩;rw[e3];cbv;exact⟨by rw[hex,show p+(m+(1+aF r+aK (r.drop (aF r))))=x+1+aF r+aK (r.drop (aF r))by lia],rfl⟩
       ·rw[cw (λh=>h0 (go (hg.symm.trans h.2)))]at hex
        refine wp_pick_f (by simp;lia) ?_;cbv;exact⟨by rw[hex,d];rfl,rfl⟩
     ·have q:=ku hb
      rw[cw (λh=>q h.1)]at hex;cbv;exact⟨by rw[hex,d];rfl,rfl⟩
   ·have g:af (J8.drop p)=0:=by unfold af bD;rw[hm];rfl
    rw[g];refine wp_pick_t (by simp;lia) ?_;cbv;exact⟨rfl,rfl⟩
theorem wY(hl:J8.length<=100000)(hk:k<=J8.length)(hq:q<=k+6)
  (h:QF .next ⟨some (.str J8)::some (.int (k:Int))::some (.int ((q+aa (k+6-q) (J8.drop q):Nat):Int))::ρ,mh⟩):
  Wp (dq (gh [gZ lj (bF 2) (lJ fC (bF 1) (aj (.int 6))),gZ o0 (aG (bF 0) λa=>aG (bF 2) λl=>aG (lJ fC (bF 2) (aj (.int 1))) λu=>cutD a l u) (aj (.str [63]))])
   (fq (aG (bF 2) λa=>aG (aj (.int 1)) λb=>aG (ef fC a b) (cY 2)) (bM .next)) (bM .next) NN)
   ⟨some (.str J8)::some (.int (k:Int))::some (.int (q:Int))::ρ,mh⟩ QF:=by
 have f:J8.length<=16777216:=by lia
 refine bN (σ:=Nat) (λj s=>j<=k+6/\j+aa (k+6-j) (J8.drop j)=q+aa (k+6-q) (J8.drop q)/\s=⟨some (.str J8)::some (.int (k:Int))::some (.int (j:Int))::ρ,mh⟩) (λj=>k+6-j) ?_ NN q _ ⟨hq,rfl,rfl⟩ ?_
 ·rintro j _⟨m,hs,rfl⟩
  cbv;by_cases i:j<k+6
  ·refine wp_andK_t (by simp;lia) ?_
   cbv;cases hd:J8.drop j with
   |nil=>
    rw[hd,show k+6-j=(k+6-(j+1))+1 by lia]at hs;refine⟨λ_=>?_,λhb=>by cases hb⟩;cbv;have e:j=q+aa (k+6-q) (J8.drop q):=hs;rw[<-e]at h;exact h
   |cons c r=>
    have d:=(aM hd).1;have g:=(aM hd).2;rw[hd,show k+6-j=(k+6-(j+1))+1 by lia]at hs;rw[show(List.take 1 (c::r)==[63])=decide (c=63)by rw[hH];simp];refine⟨λhb=>?_,λhb=>?_⟩
    ·cbv
     have e:j=q+aa (k+6-q) (J8.drop q):=by
      rw[<-hs];show j=j+if c=63 then aa (k+6-(j+1)) r+1 else 0;rw[cw (ku hb)];rfl
     rw[<-e]at h;exact h
    ·cbv
     refine⟨j+1,⟨by lia,?_,rfl⟩,by lia⟩;rw[d,<-hs];show j+1+aa (k+6-(j+1)) r=j+if c=63 then aa (k+6-(j+1)) r+1 else 0;rw[dt (go hb)];lia
  ·refine wp_andK_f (by simp;lia) ?_
   refine⟨λhb=>?_,λhb=>by cases hb⟩;cbv;have e:j=q+aa (k+6-q) (J8.drop q):=by
    rw[<-hs,show k+6-j=0 by lia];rfl
   rw[<-e]at h;exact h
 ·rw[de];lia
theorem tw(hK:HK G P):∃J9,Con G 2 775 J9/\∀(J8:List Nat)(p:Nat)(mh:List MO),J8.length<=100000->p<=J8.length->bG (J9 [.str J8,.int (p:Int)] mh) λr KA=>r=.int ((p+(b8 (J8.drop p)).2.2:Nat):Int)/\KA=mh:=by
 obtain⟨KS,l,h1⟩:=fm hK;run_tac wcon
 intro J8 p mh hl hp;have g:J8.length<=16777216:=by lia
 cbv;refine k5 h1 hl hp (by lia) hp ?_;rw[show p+6-p=6 by lia];have f:=bT 6 (J8.drop p);rw[ea]at f;obtain⟨h,d⟩:∃h,h=aH 6 (J8.drop p):=⟨_,rfl⟩;obtain⟨q,a⟩:∃q,q=aa (6-h) (J8.drop (p+h)):=⟨_,rfl⟩;have ar:=gd (6-h) (J8.drop (p+h));rw[<-d]at f⊢;rw[<-a]at ar;have b:(b8 (J8.drop p)).2.2=if q≠0 then h+q else if(J8.drop (p+h)).head?=some 45/\bo (J8.drop (p+h+1))=true then h+1+aH 6 (J8.drop (p+h+1)) else h:=by
  unfold b8;simp only[<-d,eo,<-a,<-k4];split
  ·rfl
  ·split<;>rfl
 rw[b];cbv;refine wp_andK_all ?_;cbv;have e:(decide (((p+h:Nat):Int)<((p+6:Nat):Int))&&List.take 1 (List.drop (p+h) J8)==[63])=decide (q≠0):=by
  rw[a];by_cases k:h<6
  ·rw[g6 (show((p+h:Nat):Int)<((p+6:Nat):Int)by lia),Iv,show 6-h=(5-h)+1 by lia]
   cases J8.drop (p+h)with
   |nil=>rfl
   |cons c r=>
    rw[show(List.take 1 (c::r)==[63])=decide (c=63)by rw[hH];simp];congr 1;apply propext;show c=63↔(if c=63 then aa (5-h) r+1 else 0)≠0;split
    ·rename_i hc;exact⟨λ_=>by lia,λ_=>hc⟩
    ·rename_i hc;exact⟨λh=>absurd h hc,λh=>absurd rfl h⟩
  ·rw[f3 (show¬((p+h:Nat):Int)<((p+6:Nat):Int)by lia),show 6-h=0 by lia]
   rfl
 rw[e];refine aI (λhb=>?_) (λhb=>?_)
 ·have h0:=go hb
  cbv;refine wY hl hp (by lia) ?_;rw[show p+6-(p+h)=6-h by lia,<-a];cbv;exact⟨by rw[dt h0,k4],rfl⟩
 ·have h0:=ku hb
  rw[cw h0];cbv;refine wp_andK_all ?_;cbv;refine aE (h1 _ _ mh (by rw[g7];lia)) ?_;rintro _ mh ⟨rfl,rfl⟩;rw[cn];cbv;have hc:(List.take 1 (List.drop (p+h) J8)==[45]&&oneH (em.contains ·) (J8.drop (p+h+1)))=decide ((J8.drop (p+h)).head?=some 45/\bo (J8.drop (p+h+1))=true):=by
   rw[Jy];congr 1
   ·cases J8.drop (p+h)with
    |nil=>rfl
    |cons c r=>rw[hH];simp
   ·cases J8.drop (p+h+1)with
    |nil=>rfl
    |cons c r=>
     show bR c=decide (bR c=true);cases bR c<;>rfl
  rw[hc];refine aI (λhb=>?_) (λhb=>?_)
  ·have hb:=go hb
   rw[dt hb];have j:p+h+1<J8.length:=by
    apply n7;intro i;rw[f6 (Nat.le_of_not_lt i)]at hb;exact absurd hb.2 (by decide)
   cbv;refine k5 h1 hl (by lia) (by lia) (by lia) ?_;rw[show p+h+1+6-(p+h+1)=6 by lia];cbv;exact⟨by rw[show p+(h+1+aH 6 (J8.drop (p+h+1)))=p+h+1+aH 6 (J8.drop (p+h+1))by lia],rfl⟩
  ·rw[cw (ku hb)]
   cbv;exact⟨rfl,rfl⟩
noncomputable def place(l:List Nat):Nat×Nat:=l.foldl (λp c=>if c=10 then(p.1+1,1) else(p.1,p.2+1)) (1,1)
section
open PySem.StrLaws PySem.Builtin PySem.Builtin.Str
theorem xB{a:Nat}(b:a<=l.length):PySem.StrLaws.At (⟨l.toArray⟩:Str) (⟨#[10]⟩:Str) a i↔i<a/\l[i]?=some 10:=by
 have h:=subAt_one (⟨l.toArray⟩:Str) 10 i;have e:(⟨#[10]⟩:Str).length=1:=rfl;constructor
 ·rintro⟨h1,h2⟩
  rw[e]at h1;exact⟨by lia,by simpa using h.mp ⟨by show i+1<=l.toArray.size;simp;lia,h2⟩⟩
 ·rintro⟨h1,h2⟩
  exact⟨by rw[e];lia,(h.mpr (by simpa using h2)).2⟩
noncomputable def iY(s sub:Str)(a:Nat)(i:Nat)(st:Option Nat):Id (ForInStep (Option Nat)):=
 if i+sub.length<=a/\subAt s sub i=true then pure (ForInStep.yield (some i)) else pure (ForInStep.yield st)
theorem vH(s sub:Str)(lo a:Nat):lastOccurrence s sub lo a=(forIn (List.range' lo (a+1-lo)) none (iY s sub a)).run:=by
 unfold lastOccurrence iY;simp
theorem rQ(s sub:Str)(c:Nat):∀(m a:Nat)(st:Option Nat),((forIn (List.range' a m) st (iY s sub c)).run=st/\∀k,a<=k->k<a+m->¬PySem.StrLaws.At s sub c k)\/
  ∃i,(forIn (List.range' a m) st (iY s sub c)).run=some i/\a<=i/\PySem.StrLaws.At s sub c i/\∀k,i<k->k<a+m->¬PySem.StrLaws.At s sub c k:=by
 intro m;induction m with
 |zero=>exact λa st=>.inl ⟨rfl,λk h1 h2=>by lia⟩
 |succ m g=>
  intro a st;rw[List.range'_succ,List.forIn_cons];unfold iY;split
  ·rename_i hc
   rcases g (a+1) (some a)with⟨h1,h2⟩|⟨i,h1,h2,d,h4⟩
   ·exact .inr ⟨a,h1,ep _,hc,λk hk b=>h2 k hk (by lia)⟩
   ·exact .inr ⟨i,h1,by lia,d,λk hk b=>h4 k hk (by lia)⟩
  ·rename_i hc
   rcases g (a+1) st with⟨h1,h2⟩|⟨i,h1,h2,d,h4⟩
   ·refine .inl ⟨h1,λk hk b f=>?_⟩
    by_cases e:k=a
    ·subst e;exact hc f
    ·exact h2 k (by lia) (by lia) f
   ·exact .inr ⟨i,h1,by lia,d,λk hk b=>h4 k hk (by lia)⟩
theorem qy(h:10∉l)(p:Nat×Nat):l.foldl (λp c=>if c=10 then(p.1+1,1) else(p.1,p.2+1)) p=(p.1,p.2+l.length):=by
 induction l generalizing p with
 |nil=>rfl
 |cons c r a=>
  have hc:c≠10:=λe=>h (e▸wo);rw[Iw,cw hc,a (λe=>h (tu _ e))];simp;lia
theorem sy(l:List Nat)(p:Nat×Nat):(l.foldl (λp c=>if c=10 then(p.1+1,1) else(p.1,p.2+1)) p).1=p.1+l.count 10:=by
 induction l generalizing p with
 |nil=>rfl
 |cons c r a=>
  rw[Iw,a,List.count_cons];by_cases e:c=10
  ·simp[e];lia
  ·simp[e]
theorem sB(l:List Nat)(g:Nat)(n:g<=l.length):∀(b:List Nat)(a f:Nat),a<=g->ChainG (⟨l.toArray⟩:Str) (⟨#[10]⟩:Str) g a b f->(∀k,f<=k->k<g->¬PySem.StrLaws.At (⟨l.toArray⟩:Str) (⟨#[10]⟩:Str) g k)->b.length=((l.drop a).take (g-a)).count 10:=by
 intro b;induction b with
 |nil=>
  intro a f ha h m;have e:f=a:=h;subst e;symm;show _=0;rw[List.count_eq_zero];intro hm;obtain⟨j,i⟩:=JB hm;have d:j<g-f:=by
   have h1:=(fd.mp i).1;simp at h1;lia
  rw[hQ d,gf]at i;exact m (f+j) (by lia) (by lia) ((xB n).mpr ⟨by lia,i⟩)
 |cons c r u=>
  intro a f ha h m;obtain⟨h1,h2,s,h4⟩:=h;have p:=(xB n).mp h2;have q:=u (c+1) f (by lia) h4 m;have t:((l.drop a).take (c-a)).count 10=0:=by
   rw[List.count_eq_zero];intro hm;obtain⟨j,i⟩:=JB hm;have d:j<c-a:=by
    have h1:=(fd.mp i).1;simp at h1;lia
   rw[hQ d,gf]at i;exact s (a+j) (by lia) (by lia) ((xB n).mpr ⟨by lia,i⟩)
  have o:l.drop c=10::l.drop (c+1):=by
   have d:=(fd.mp p.2);rw[e9 d.1,d.2]
  have e1:(l.drop a).take (g-a)=(l.drop a).take (c-a)++10::(l.drop (c+1)).take (g-(c+1)):=by
   have e2:g-a=(c-a)+((g-(c+1))+1):=by lia
   rw[e2,rf,eo,show a+(c-a)=c by lia,o,eg]
  rw[g9,q,e1,List.count_append,List.count_cons_self,t];lia
theorem wu(ha:a<=k)(hk:k<=l.length):js l [10] a k=((l.drop a).take (k-a)).count 10:=by
 unfold js;rw[pB hk,occ_eq];have key:=tight_run (⟨l.toArray⟩:Str) (⟨#[10]⟩:Str) k (l.length+1) a (ep 1) (k+1-a) a ((#[]:Array Nat),a) rfl (λj _ h=>by lia) (by simp;lia);refine sB l k hk _ a _ ha key.1 λj h1 h2=>key.2 j h1 (by lia)
theorem sx(h:kG J8 [10] a q=-1)(ha:a<=q)(hq:q<=J8.length):place (J8.take q)=((place (J8.take a)).1,(place (J8.take a)).2+(q-a)):=by
 unfold kG at h;rw[pB hq,vH]at h;have key:=rQ (⟨J8.toArray⟩:Str) (⟨#[10]⟩:Str) q (q+1-a) a none;rcases key with⟨h1,h2⟩|⟨i,h1,h2,d,h4⟩
 ·have e:J8.take q=J8.take a++(J8.drop a).take (q-a):=by
   rw[<-rf,show a+(q-a)=q by lia]
  rw[e];unfold place;rw[v3,qy]
  ·simp;lia
  ·intro hm
   obtain⟨j,c⟩:=JB hm;have b:j<q-a:=by
    have h1:=(fd.mp c).1;simp at h1;lia
   rw[hQ b,gf]at c;exact h2 (a+j) (by lia) (by lia) ((xB hq).mpr ⟨by lia,c⟩)
 ·rw[show(⟨([10]:List Nat).toArray⟩:Str)=(⟨#[10]⟩:Str)from rfl,h1]at h
  simp at h
theorem sw(h:kG J8 [10] a q≠-1)(ha:a<=q)(hq:q<=J8.length):∃k:Nat,kG J8 [10] a q=(k:Int)/\k<q/\place (J8.take q)=((place (J8.take a)).1+(1+js J8 [10] a k),q-k):=by
 unfold kG at h⊢;rw[pB hq,vH]at h⊢;have key:=rQ (⟨J8.toArray⟩:Str) (⟨#[10]⟩:Str) q (q+1-a) a none;rw[show(⟨([10]:List Nat).toArray⟩:Str)=(⟨#[10]⟩:Str)from rfl]at h⊢;rcases key with⟨h1,h2⟩|⟨i,h1,h2,g,h4⟩
 ·rw[h1]at h;exact absurd rfl h
 ·rw[h1]
  have c:=(xB hq).mp g;refine⟨i,rfl,c.1,?_⟩;have f:J8.drop i=10::J8.drop (i+1):=by
   have b:=(fd.mp c.2);rw[e9 b.1,b.2]
  have e:J8.take q=J8.take a++((J8.drop a).take (i-a)++(10::(J8.drop (i+1)).take (q-(i+1)))):=by
   have e2:q=a+((i-a)+((q-(i+1))+1)):=by lia
   have e3:i-a+(q-(i+1)+1)=(i-a)+(q-(i+1)+1):=rfl;rw[show J8.take q=J8.take (a+((i-a)+((q-(i+1))+1)))from by rw[<-e2],rf,rf (i:=i-a),eo,show a+(i-a)=i by lia,f,eg]
  rw[e];unfold place;rw[v3,v3,Iw,dt rfl,qy,wu h2 (by lia),sy]
  ·simp;lia
  ·intro hm
   obtain⟨j,d⟩:=JB hm;have b:j<q-(i+1):=by
    have h1:=(fd.mp d).1;simp at h1;lia
   rw[hQ b,gf]at d;exact h4 (i+1+j) (by lia) (by lia) ((xB hq).mpr ⟨by lia,d⟩)
end
noncomputable def bA:List Nat:=[117,110,101,110,100,101,100]
noncomputable def eD:List Nat:=[97,100,100,114,101,115,115]
noncomputable def dD:List Nat:=[99,111,109,109,101,110,116]
noncomputable def ca:List Nat->Option Nat
 |[]=>none
 |c::r=>if c=42/\r.head?=some 47 then some 0 else(ca r).map (·+1)
noncomputable def bg:Nat->List Nat->Option Nat
 |_,[]=>none
 |b,c::r=>if c=41/\b≠92 then some 0 else(bg c r).map (·+1)
noncomputable def r7(n:Nat)(kind:List Nat)(k:Nat):Option Nat->List MV
 |none=>[.str bA,.int (n:Int),.int (n:Int)]
 |some m=>[.str kind,.int ((m+k:Nat):Int),.int ((m+k:Nat):Int)]
theorem wJ(c:Nat)(r:List Nat):(List.take 2 (c::r) !=[42,47])=!decide (c=42/\r.head?=some 47):=by
 rw[bne];congr 1;rw[hH];cases r<;>simp
theorem tm(hK:HK G P):∃J9,Con G 1 796 J9/\∀(J8:List Nat)(p:Nat)(mh:List MO),J8.length<=100000->p<=J8.length->bG (J9 [.str J8,.int (p:Int)] mh) λr KA=>mh<+:KA/\∃i,r=.ref i/\KA[i]?=some (.tuple (r7 J8.length dD 2 ((ca (J8.drop p)).map (·+p)))):=by
 run_tac wcon
 intro J8 p mh hl hp;have e:J8.length<=16777216:=by lia
 cbv;refine aQ (Q':=λf s=>f=.next/\∃x:Nat,s=⟨[some (.str J8),some (.int (x:Int))],mh⟩/\((x=J8.length/\(ca (J8.drop p)).map (·+p)=none)\/(x<J8.length/\(ca (J8.drop p)).map (·+p)=some x))) ?_ ?_
 ·refine bN (σ:=Nat) (λj s=>j<=J8.length/\(ca (J8.drop j)).map (·+j)=(ca (J8.drop p)).map (·+p)/\s=⟨[some (.str J8),some (.int (j:Int))],mh⟩) (λj=>J8.length-j) ?_ NN p _ ⟨hp,rfl,rfl⟩ ?_
  ·rintro j _ ⟨g,hs,rfl⟩
   cbv;by_cases b:j<J8.length
   ·obtain⟨c,r,hd⟩:∃c r,J8.drop j=c::r:=⟨_,_,e9 b⟩
    have d:=(aM hd).1;refine wp_andK_t (by simp;lia) ?_;cbv;rw[show j+2-j=2 by lia,hd,wJ];rw[hd]at hs;have a:ca (c::r)=if c=42/\r.head?=some 47 then some 0 else(ca r).map (·+1):=rfl;by_cases hc:c=42/\r.head?=some 47
    ·rw[g6 hc]
     refine⟨λ_=>?_,λhb=>by cases hb⟩;cbv;rw[a,dt hc]at hs;exact⟨rfl,j,rfl,.inr ⟨b,by rw[<-hs];simp⟩⟩
    ·rw[f3 hc]
     refine⟨(λhb=>by cases hb),λ_=>?_⟩;cbv;rw[a,cw hc]at hs;refine⟨j+1,⟨by lia,?_,rfl⟩,by lia⟩;rw[d,<-hs];cases ca r with
     |none=>rfl
     |some m=>exact ed some (by show m+(j+1)=m+1+j;lia)
   ·refine wp_andK_f (by simp;lia) ?_
    refine⟨λhb=>?_,λhb=>by cases hb⟩;cbv;obtain rfl:j=J8.length:=by lia
    rw[pa]at hs;exact⟨rfl,_,rfl,.inl ⟨rfl,hs.symm⟩⟩
  ·rw[de];lia
 ·rintro _ _ ⟨rfl,x,rfl,hx⟩
  cbv;rcases hx with⟨hx,hm⟩|⟨hx,hm⟩
  ·rw[hm]
   refine wp_pick_t (by simp;lia) ?_;cbv;rw[hx];exact aw (fa _)
  ·rw[hm]
   refine wp_pick_f (by simp;lia) ?_;cbv;exact aw (fa _)
theorem sF(hK:HK G P):∃J9,Con G 1 789 J9/\∀(J8:List Nat)(p b:Nat)(mh:List MO),J8.length<=100000->p<=J8.length->1<=p->J8[p-1]?=some b->bG (J9 [.str J8,.int (p:Int)] mh) λr KA=>mh<+:KA/\∃i,r=.ref i/\KA[i]?=some (.tuple (r7 J8.length eD 1 ((bg b (J8.drop p)).map (·+p)))):=by
 run_tac wcon
 intro J8 p b mh hl hp h1 hb;have l:J8.length<=16777216:=by lia
 cbv;refine aQ (Q':=λf s=>f=.next/\∃x:Nat,s=⟨[some (.str J8),some (.int (x:Int))],mh⟩/\((x=J8.length/\(bg b (J8.drop p)).map (·+p)=none)\/(x<J8.length/\(bg b (J8.drop p)).map (·+p)=some x))) ?_ ?_
 ·refine bN (σ:=Nat) (λj s=>j<=J8.length/\1<=j/\(∃e,J8[j-1]?=some e/\(bg e (J8.drop j)).map (·+j)=(bg b (J8.drop p)).map (·+p))/\s=⟨[some (.str J8),some (.int (j:Int))],mh⟩) (λj=>J8.length-j) ?_ NN p _ ⟨hp,h1,⟨b,hb,rfl⟩,rfl⟩ ?_
  ·rintro j _⟨t,n,⟨e,o,hs⟩,rfl⟩
   cbv;by_cases d:j<J8.length
   ·obtain⟨c,r,hd⟩:∃c r,J8.drop j=c::r:=⟨_,_,e9 d⟩
    have g:=(aM hd).1;have k:J8[j]?=some c:=by
     have h:=ed (·[0]?) hd;simpa using h
    have q:J8.drop (j-1)=e::c::r:=by
     rw[e9 (by lia),show j-1+1=j by lia,hd];congr 1;exact(fd.mp o).2
    refine wp_andK_t (by simp;lia) ?_;cbv;refine wp_orK_all ?_;cbv;rw[hd]at hs;have a:bg e (c::r)=if c=41/\e≠92 then some 0 else(bg c r).map (·+1):=rfl;rw[show([c]!=[41]||[e]==[92])=!decide (c=41/\e≠92)by
     rw[bne,bv,bv,hH];simp;lia]
    by_cases hc:c=41/\e≠92
    ·rw[g6 hc]
     refine⟨λ_=>?_,λhb=>by cases hb⟩;cbv;rw[a,dt hc]at hs;exact⟨rfl,j,rfl,.inr ⟨d,by rw[<-hs];simp⟩⟩
    ·rw[f3 hc]
     refine⟨(λhb=>by cases hb),λ_=>?_⟩;cbv;rw[a,cw hc]at hs;refine⟨j+1,⟨by lia,by lia,⟨c,k,?_⟩,rfl⟩,by lia⟩;rw[g,<-hs];cases bg c r with
     |none=>rfl
     |some m=>exact ed some (by show m+(j+1)=m+1+j;lia)
   ·refine wp_andK_f (by simp;lia) ?_
    refine⟨λhb=>?_,λhb=>by cases hb⟩;cbv;obtain rfl:j=J8.length:=by lia
    rw[pa]at hs;exact⟨rfl,_,rfl,.inl ⟨rfl,hs.symm⟩⟩
  ·rw[de];lia
 ·rintro _ _⟨rfl,x,rfl,hx⟩
  cbv;rcases hx with⟨hx,hm⟩|⟨hx,hm⟩
  ·rw[hm]
   refine wp_pick_t (by simp;lia) ?_;cbv;rw[hx];exact aw (fa _)
  ·rw[hm]
   refine wp_pick_f (by simp;lia) ?_;cbv;exact aw (fa _)
theorem wv(hK:HK G P):∃J9,Con G 1 831 J9/\∀(J8:List Nat)(mh:List MO),J8.length<=100000->bG (J9 [.str J8] mh) λr KA=>mh<+:KA/\∃i,r=.ref i/\KA[i]?=some (.tuple [.int ((place J8).1:Int),.int ((place J8).2:Int)]):=by
 run_tac wcon
 intro J8 mh hl;have g:J8.length<=16777216:=by lia
 cbv;refine aQ (Q':=λf s=>f=.next/\∃o,s=⟨[some (.str J8),some (.int ((place J8).1:Int)),some (.int ((place J8).2:Int)),o],mh⟩) ?_ ?_
 ·refine Ac (λl s=>∃(d e:List Nat)(o:Option MV),J8=d++e/\l=dH e/\s=⟨[some (.str J8),some (.int ((place d).1:Int)),some (.int ((place d).2:Int)),o],mh⟩) ?_ ?_ _ _ ⟨[],J8,none,rfl,rfl,rfl⟩
  ·rintro _ ⟨d,e,o,hc,b,rfl⟩
   cases e with
   |nil=>
    rw[m4]at hc;subst hc;exact⟨rfl,o,rfl⟩
   |cons _ _=>cases b
  ·rintro v l _ ⟨d,e,o,hc,b,rfl⟩
   cases e with
   |nil=>cases b
   |cons c e=>
    obtain⟨rfl,rfl⟩:=f4 (show v::l=MV.str [c]::dH e from b);have a:place (d++[c])=if c=10 then((place d).1+1,1) else((place d).1,(place d).2+1):=by
     unfold place;rw[v3];rfl
    cbv;rw[bv];refine aI (λhb=>?_) (λhb=>?_)
    ·rw[dt (go hb).symm]at a
     cbv;exact⟨d++[c],e,_,by rw[hc];simp,rfl,by rw[a];rfl⟩
    ·rw[cw (λh=>ku hb h.symm)]at a
     cbv;exact⟨d++[c],e,_,by rw[hc];simp,rfl,by rw[a]⟩
 ·rintro _ _ ⟨rfl,o,rfl⟩
  cbv;exact aw (fa _)
noncomputable def gw:List Nat:=[115,116,114,105,110,103]
noncomputable def gx:List Nat:=[98,114,111,107,101,110]
def pj(n e:Nat):List MV:=
 if e=0 then [.str gw,.int (n:Int),.int (n:Int)]
 else if e=1 then [.str gx,.int (n:Int),.int ((n+1:Nat):Int)]
 else [.str bA,.int (n:Int),.int (n:Int)]
theorem tn(hK:HK G P):∃J9,Con G 3 782 J9/\∀(J8:List Nat)(p:Nat)(mh:List MO)(q:Nat)(r v:List Nat)(k e:Nat),J8.length<=100000->q=34\/q=39->J8.drop p=q::r->StrR q r v k e->bG (J9 [.str J8,.int (p:Int)] mh) λr KA=>mh<+:KA/\∃i,r=.ref i/\KA[i]?=some (.tuple (pj (p+1+k) e)):=by
 obtain⟨L,V,Q⟩:=li hK;run_tac wcon
 intro J8 p mh q r v k e hl hq hd O;have J:J8.length<=16777216:=by lia
 have H:=(aM hd).1;have C:=(aM hd).2;cbv;have j:q≠92:=by rcases hq with rfl|rfl<;>decide
 have u:q≠10:=by rcases hq with rfl|rfl<;>decide
 refine aQ (Q':=λf s=>f=.next/\∃(x:Nat)(KA:List MO),s=⟨[some (.str J8),some (.int (x:Int)),some (.str [q])],KA⟩/\mh<+:KA/\((e=0/\x+1=p+1+k/\∃g,J8.drop x=q::g)\/(e=1/\x=p+1+k/\∃g,J8.drop x=10::g)\/(e=2/\x=p+1+k/\x=J8.length))) ?_ ?_
 ·refine bN (σ:=Nat) (λx s=>x<=J8.length/\∃(KA:List MO)(v':List Nat)(y:Nat),s=⟨[some (.str J8),some (.int (x:Int)),some (.str [q])],KA⟩/\mh<+:KA/\StrR q (J8.drop x) v' y e/\x+y=p+1+k) (λx=>J8.length-x) ?_ NN (p+1) _ ⟨C,mh,v,k,rfl,fa _,by rw[H];exact O,rfl⟩ ?_
  ·rintro x _ ⟨hx,KA,v',y,rfl,a,hI,hk⟩
   cbv;by_cases m:x<J8.length
   ·refine wp_andK_t (by simp;lia) ?_
    obtain⟨c,g,b⟩:∃c r,J8.drop x=c::r:=⟨_,_,e9 m⟩;have d:=(aM b).1;rw[b]at hI;have z:g.length+(x+1)=J8.length:=by
     have h:=ed List.length d;rw[ea]at h;lia
    cbv;refine wp_andK_all ?_;cbv;rw[show([c]!=[q]&&[c]!=[10])=decide (c≠q/\c≠10)by
     rw[bne,bne,bv,bv,<-decide_not,<-decide_not,<-Jy];congr 1;apply propext;constructor<;>(rintro⟨h1,h2⟩;exact⟨λh=>h1 h.symm,λh=>h2 h.symm⟩)]
    cases hI with
    |shut=>
     rw[f3 (λh=>h.1 rfl)];refine⟨λ_=>?_,λhb=>by cases hb⟩;cbv;exact⟨rfl,x,KA,rfl,a,.inl ⟨rfl,hk,g,b⟩⟩
    |bad=>
     rw[f3 (λh=>h.2 rfl)];refine⟨λ_=>?_,λhb=>by cases hb⟩;cbv;exact⟨rfl,x,KA,rfl,a,.inr (.inl ⟨rfl,hk,g,b⟩)⟩
    |escEnd=>
     rw[g6 (show 92≠q/\92≠10 from⟨λh=>j h.symm,by decide⟩)];refine⟨(λhb=>by cases hb),λ_=>?_⟩;cbv;refine wp_pick_f (by simp at z;simp;lia) ?_;cbv;exact⟨x+1,⟨by lia,KA,[],0,rfl,a,by rw[d];exact .eof,hk⟩,by lia⟩
    |@escNl t o l e2 n=>
     have E:=(aM d).1;simp only[g9]at z;rw[g6 (show 92≠q/\92≠10 from⟨λh=>j h.symm,by decide⟩)];refine⟨(λhb=>by cases hb),λ_=>?_⟩;cbv;refine wp_pick_t (by simp;lia) ?_;cbv;exact⟨x+2,⟨by lia,KA,v',l,rfl,a,by rw[show x+2=x+1+1 from rfl,E];exact n,by lia⟩,by lia⟩
    |@esc M t o l e2 n I=>
     simp only[g9]at z;have D:=dS (M::t);simp only[g9]at D;rw[g6 (show 92≠q/\92≠10 from⟨λh=>j h.symm,by decide⟩)];refine⟨(λhb=>by cases hb),λ_=>?_⟩;cbv;refine wp_pick_t (by simp;lia) ?_;cbv;refine wp_pick_f (by rw[bv];exact f3 (λh=>n h.symm)) ?_;cbv;refine aE (Q J8 (x+1) KA hl (by lia)) ?_;rintro _ w ⟨A,i,rfl,N⟩;rw[d]at N;cbv;exact⟨x+1+(escOf (M::t)).2,⟨by lia,w,o,l,rfl,a.trans A,by rw[<-eo,d];exact I,by lia⟩,by lia⟩
    |@ch _ _ o l e2 n I U T=>
     rw[g6 (show c≠q/\c≠10 from⟨n,U⟩)];refine⟨(λhb=>by cases hb),λ_=>?_⟩;cbv;refine wp_andK_f (by rw[bv];exact f3 (λh=>I h.symm)) ?_;cbv;exact⟨x+1,⟨by lia,KA,o,l,rfl,a,by rw[d];exact T,by lia⟩,by lia⟩
   ·refine wp_andK_f (by simp;lia) ?_
    refine⟨λhb=>?_,λhb=>by cases hb⟩;cbv;rw[f6 (by lia)]at hI;cases hI;exact⟨rfl,x,KA,rfl,a,.inr (.inr ⟨rfl,hk,by lia⟩)⟩
  ·rw[de];lia
 ·rintro _ _ ⟨rfl,x,KA,rfl,a,hx⟩
  cbv;rcases hx with⟨rfl,hx,g,b⟩|⟨rfl,hx,g,b⟩|⟨rfl,hx,m⟩
  ·have B:=(aM b).2
   refine wp_pick_f (by simp;lia) ?_;cbv;refine wp_pick_t (by simp) ?_;cbv;rw[<-hx];exact aw a
  ·have B:=(aM b).2
   refine wp_pick_f (by simp;lia) ?_;cbv;refine wp_pick_f (by rw[bv];exact f3 u) ?_;cbv;rw[<-hx];exact aw a
  ·refine wp_pick_t (by simp;lia) ?_
   cbv;rw[<-hx];exact aw a
noncomputable def cg:List Nat:=[119,111,114,100]
noncomputable def bh:List Nat:=[99,97,108,108]
def ai:List Nat->Nat
 |[]=>0
 |c::r=>if isBl c then ai r+1 else 0
theorem ni(l:List Nat):ai l<=l.length:=by
 induction l with
 |nil=>exact ep _
 |cons c r a=>
  show(if isBl c then ai r+1 else 0)<=r.length+1;split<;>lia
noncomputable def ce:List Nat->Bool
 |[a,b,c]=>([117,85]:List Nat).contains a&&(([114,82]:List Nat).contains b&&([108,76]:List Nat).contains c)
 |_=>false
def j9(J8:List Nat)(m:Nat)(v:List Nat):List MV:=
 if(J8.drop m).head?≠some 40 then[.str cg,.int (m:Int),.int (m:Int)]
 else if ce v=false then[.str bh,.int ((m+1:Nat):Int),.int ((m+1:Nat):Int)]
 else if oneH (([34,39]:List Nat).contains ·) (J8.drop (m+1+ai (J8.drop (m+1))))=true then[.str bh,.int ((m+1:Nat):Int),.int ((m+1+ai (J8.drop (m+1))+1:Nat):Int)]
 else r7 J8.length eD 1 ((bg 40 (J8.drop (m+1))).map (·+(m+1)))
theorem B8(h1:∀(s l:List Nat)(mh:List MO),s.length<=1->bG (KS [.str s,.str l] mh) λr KA=>r=.bool (isS s l)/\KA=mh)
  {a b c:Option MV}(hl:J8.length<=100000)(hq:q<=J8.length)
  (h:QF .next ⟨some (.str J8)::a::b::c::some (.int ((q+ai (J8.drop q):Nat):Int))::ρ,mh⟩):
  Wp (dq (aG (aG (dF (aG (bF 0) λa=>aG (bF 4) λl=>aG (lJ fC (bF 4) (aj (.int 1))) λu=>cutD a l u) (dF (aj (.str [32,10,9])) λst=>some ([],st))) (cp KS)) dk)
   (fq (aG (bF 4) λa=>aG (aj (.int 1)) λb=>aG (ef fC a b) (cY 4)) (bM .next)) (bM .next) NN)
   ⟨some (.str J8)::a::b::c::some (.int (q:Int))::ρ,mh⟩ QF:=by
 have g:J8.length<=16777216:=by lia
 refine bN (σ:=Nat) (λj s=>j<=J8.length/\j+ai (J8.drop j)=q+ai (J8.drop q)/\s=⟨some (.str J8)::a::b::c::some (.int (j:Int))::ρ,mh⟩) (λj=>J8.length-j) ?_ NN q _ ⟨hq,rfl,rfl⟩ ?_
 ·rintro j _ ⟨k,hs,rfl⟩
  cbv;refine aE (h1 _ _ mh (by rw[g7];lia)) ?_;rintro _ KA ⟨rfl,rfl⟩;rw[cn];cbv;cases hd:J8.drop j with
  |nil=>
   rw[hd]at hs;refine⟨λ_=>?_,λhb=>by cases hb⟩;cbv;have e:j=q+ai (J8.drop q):=hs;rw[<-e]at h;exact h
  |cons c r=>
   have f:=(aM hd).1;have i:=(aM hd).2;rw[hd]at hs;have d:ai (c::r)=if isBl c then ai r+1 else 0:=rfl;rw[show oneH (([32,10,9]:List Nat).contains ·) (c::r)=isBl c from f7 c];refine⟨λhb=>?_,λhb=>?_⟩
   ·cbv
    rw[d,cw (by rw[hb];exact hX)]at hs;have e:j=q+ai (J8.drop q):=hs;rw[<-e]at h;exact h
   ·cbv
    rw[d,dt hb]at hs;exact⟨j+1,⟨by lia,by rw[f,<-hs];lia,rfl⟩,by lia⟩
 ·rw[de];lia
theorem w0(hK:HK G P):∃J9,Con G 4 803 J9/\∀(J8:List Nat)(p:Nat)(mh:List MO)(v:List Nat)(k:Nat),J8.length<=100000->p<=J8.length->WordR (J8.drop p) v k->bG (J9 [.str J8,.int (p:Int)] mh) λr KA=>mh<+:KA/\∃i,r=.ref i/\KA[i]?=some (.tuple (j9 J8 (p+k) v)):=by
 obtain⟨KS,O,h1⟩:=fm hK;obtain⟨s,N,h2⟩:=sC hK;obtain⟨A,M,J⟩:=sF hK;run_tac wcon
 intro J8 p mh v k hl hp C;have B:J8.length<=16777216:=by lia
 have w:=C.le;rw[ea]at w;cbv;refine aE (h2 J8 p mh v k hl hp C) ?_;rintro _ u ⟨d,i,rfl,L⟩;cbv;obtain⟨m,hm⟩:∃m,m=p+k:=⟨_,rfl⟩;rw[<-hm];have E:m<=J8.length:=by lia
 unfold j9;cases hd:J8.drop m with
 |nil=>
  rw[dt (by exact λh=>by cases h)];refine wp_pick_t rfl ?_;cbv;exact aw d
 |cons c r=>
  have I:=(aM hd).1;have z:=(aM hd).2;rw[show(List.take 1 (c::r) !=[40])=!decide (c=40)by rw[bne];congr 1;rw[hH];simp];by_cases hc:c=40
  ·subst hc
   rw[cw (by exact λh=>h rfl)];refine wp_pick_f rfl ?_;cbv;refine B8 h1 hl (by lia) ?_;cbv;by_cases q:v.length=3
   ·obtain⟨l,g,f,rfl⟩:∃a b c,v=[a,b,c]:=by
     rcases v with _|⟨a,_|⟨b,_|⟨c,_|⟨_,_⟩⟩⟩⟩;all_goals first|exact⟨_,_,_,rfl⟩|(simp at q)
    refine wp_orK_f (by simp) ?_;cbv;refine ah (a:=.str [l]) rfl ?_;cbv;refine wp_orK_all ?_;cbv;refine ah (a:=.str [g]) rfl ?_;cbv;refine wp_orK_all ?_;cbv;refine ah (a:=.str [f]) rfl ?_;cbv;have e:((λx=>!x) (([117,85]:List Nat).contains l)||((λx=>!x) (([114,82]:List Nat).contains g)||(λx=>!x) (([108,76]:List Nat).contains f)))=!ce [l,g,f]:=by
     show(!_||(!_||!_))=!(_&&(_&&_));rw[Bool.not_and,Bool.not_and]
    rw[e];refine aI (λhb=>?_) (λhb=>?_)
    ·have n:ce [l,g,f]=false:=by simpa using hb
     cbv;rw[dt n];exact aw d
    ·have n:¬ce [l,g,f]=false:=by simpa using hb
     rw[cw n];cbv;refine aE (h1 _ _ u (by rw[g7];lia)) ?_;rintro _ t ⟨rfl,rfl⟩;rw[cn];cbv;refine aI (λhq=>?_) (λhq=>?_)
     ·rw[dt hq]
      cbv;exact aw d
     ·rw[cw (by rw[hq];exact hX)]
      cbv;have o:J8[m+1-1]?=some 40:=by
       have h:=ed (·[0]?) hd;simpa using h
      refine aE (J J8 (m+1) 40 t hl z (by lia) o) ?_;rintro _ D ⟨y,j,rfl,H⟩;cbv;exact⟨d.trans y,j,rfl,H⟩
   ·have n:ce v=false:=by
     rcases v with _|⟨a,_|⟨b,_|⟨c,_|⟨_,_⟩⟩⟩⟩;all_goals first|rfl|(simp at q)
    refine sV (λ_=>?_) (λhb=>by simp at hb;lia);cbv;rw[dt n];exact aw d
  ·rw[dt (by intro h;exact hc (ec h))]
   refine wp_pick_t (by rw[f3 hc];rfl) ?_;cbv;exact aw d
noncomputable def dw:List Nat:=[98,108,97,110,107]
noncomputable def fh:List Nat:=[114,97,110,103,101]
noncomputable def au:List Nat:=[115,105,103,110]
noncomputable def dC:List Nat:=[115,105,122,101]
noncomputable def jk:List Nat:=[115,104,97,114,101]
noncomputable def dm:List Nat:=[110,117,109,98,101,114]
noncomputable def kAt:List Nat:=[97,116]
noncomputable def gP:List Nat:=[104,97,115,104]
theorem wm(l:List Nat):ae l<=l.length:=by
 cases l with
 |nil=>exact ep _
 |cons c r=>
  have e:ae (c::r)=if(c=101\/c=69)/\bY (r.drop (aF r))=true then 1+aF r+aK (r.drop (aF r)) else 0:=rfl;rw[e,g9];have h1:=dM r;have h2:=db (r.drop (aF r));rw[ea]at h2;split<;>lia
theorem BR{b:Bool}(h:cb l=some (m,b)):m<=l.length:=by
 have h1:=dM l;have h2:=db (l.drop (aF l));rw[ea]at h2;have d:=db (l.drop (aF l+aK (l.drop (aF l))+1));rw[ea]at d;unfold cb at h;dsimp only at h;split at h
 ·rename_i hc
  obtain⟨rfl,_⟩:=v1 (ec h);have c:aF l+aK (l.drop (aF l))+1<l.length:=by
   apply n7;intro a;rw[f6 (Nat.le_of_not_lt a)]at hc;exact absurd hc.2 (by decide)
  lia
 ·split at h
  ·cases h
  ·obtain⟨rfl,_⟩:=v1 (ec h)
   lia
theorem i0(l:List Nat):af l<=l.length:=by
 unfold af bD;cases hm:cb l with
 |none=>exact oL _
 |some p=>
  obtain⟨m,b⟩:=p;have h1:=BR hm;have h2:=wm (l.drop m);rw[ea]at h2;show m+ae (l.drop m)<=l.length;lia
theorem mW(l:List Nat)(x:Nat):(l.take 1==[x])=decide (l.head?=some x):=by
 cases l with
 |nil=>rfl
 |cons c r=>rw[hH];simp
def lP:Nat->List Nat->List Nat×Nat
 |0,_=>([],0)
 |_+1,[]=>([],0)
 |n+1,c::r=>
  if c=92 then(if r.head?=some 10 then([],0) else(lawEsc r::(lP n (r.drop (escOf r).2)).1,1+(escOf r).2+(lP n (r.drop (escOf r).2)).2))
  else if bdC c=true then(c::(lP n r).1,(lP n r).2+1) else([],0)
theorem Af(n:Nat)(l:List Nat)(h:l.length<=n):WordR l (lP n l).1 (lP n l).2:=by
 induction n generalizing l with
 |zero=>
  obtain rfl:l=[]:=on.mp (by lia);exact .stop rfl rfl
 |succ n b=>
  cases l with
  |nil=>exact .stop rfl rfl
  |cons c r=>
   have d:r.length<=n:=by simpa using h
   unfold lP;by_cases hc:c=92
   ·subst hc
    rw[dt rfl];by_cases a:r.head?=some 10
    ·rw[dt a]
     exact .stop rfl (by show(true&&!(r.head?==some 10))=false;rw[a];rfl)
    ·rw[cw a]
     exact .esc (by simpa using a) (b _ (by rw[ea];lia))
   ·rw[cw hc]
    by_cases hb:bdC c=true
    ·rw[dt hb]
     exact .name hc hb (b r d)
    ·rw[cw hb]
     refine .stop (by show bdC c=false;simpa using hb) ?_;show(c==92&&_)=false;rw[show(c==92)=false by simpa using hc];rfl
def av(l:List Nat):List Nat×Nat:=lP l.length l
theorem gk(l:List Nat):WordR l (av l).1 (av l).2:=Af _ _ (ep _)
def ey(q:Nat):Nat->List Nat->List Nat×Nat×Nat
 |0,_=>([],0,2)
 |_+1,[]=>([],0,2)
 |n+1,c::r=>
  if c=q then([],1,0)
  else if c=10 then([],0,1)
  else if c=92 then(match r with
   |[]=>([],1,2)
   |d::w=>if d=10 then((ey q n w).1,2+(ey q n w).2.1,(ey q n w).2.2)
    else((escOf (d::w)).1::(ey q n ((d::w).drop (escOf (d::w)).2)).1,1+(escOf (d::w)).2+(ey q n ((d::w).drop (escOf (d::w)).2)).2.1,(ey q n ((d::w).drop (escOf (d::w)).2)).2.2))
  else(c::(ey q n r).1,(ey q n r).2.1+1,(ey q n r).2.2)
theorem C4(q:Nat)(n:Nat)(l:List Nat)(h:l.length<=n):StrR q l (ey q n l).1 (ey q n l).2.1 (ey q n l).2.2:=by
 induction n generalizing l with
 |zero=>
  obtain rfl:l=[]:=on.mp (by lia);exact .eof
 |succ n e=>
  cases l with
  |nil=>exact .eof
  |cons c r=>
   have f:r.length<=n:=by simpa using h
   unfold ey;by_cases hq:c=q
   ·subst hq;rw[dt rfl];exact .shut
   ·rw[cw hq]
    by_cases b:c=10
    ·subst b;rw[dt rfl];exact .bad
    ·rw[cw b]
     by_cases a:c=92
     ·subst a
      rw[dt rfl];cases r with
      |nil=>exact .escEnd
      |cons d w=>
       dsimp only;by_cases hd:d=10
       ·subst hd
        rw[dt rfl];exact .escNl (e w (by simp at f;lia))
       ·rw[cw hd]
        exact .esc hd (e _ (by rw[ea];lia))
     ·rw[cw a]
      exact .ch hq a b (e r f)
def bx(q:Nat)(l:List Nat):List Nat×Nat×Nat:=ey q l.length l
theorem ew(q:Nat)(l:List Nat):StrR q l (bx q l).1 (bx q l).2.1 (bx q l).2.2:=C4 q _ _ (ep _)
theorem zz(h1:∀(s l:List Nat)(mh:List MO),s.length<=1->bG (KS [.str s,.str l] mh) λr KA=>r=.bool (isS s l)/\KA=mh)
  (hl:J8.length<=100000)(hq:q<=J8.length)
  (h:QF .next ⟨some (.str J8)::some (.int ((q+ai (J8.drop q):Nat):Int))::ρ,mh⟩):
  Wp (dq (aG (aG (dF (aG (bF 0) λa=>aG (bF 1) λl=>aG (lJ fC (bF 1) (aj (.int 1))) λu=>cutD a l u) (dF (aj (.str [32,10,9])) λst=>some ([],st))) (cp KS)) dk)
   (fq (aG (bF 1) λa=>aG (aj (.int 1)) λb=>aG (ef fC a b) (cY 1)) (bM .next)) (bM .next) NN)
   ⟨some (.str J8)::some (.int (q:Int))::ρ,mh⟩ QF:=by
 have g:J8.length<=16777216:=by lia
 refine bN (σ:=Nat) (λj s=>j<=J8.length/\j+ai (J8.drop j)=q+ai (J8.drop q)/\s=⟨some (.str J8)::some (.int (j:Int))::ρ,mh⟩) (λj=>J8.length-j) ?_ NN q _ ⟨hq,rfl,rfl⟩ ?_
 ·rintro j _⟨k,hs,rfl⟩
  cbv;refine aE (h1 _ _ mh (by rw[g7];lia)) ?_;rintro _ KA⟨rfl,rfl⟩;rw[cn];cbv;cases hd:J8.drop j with
  |nil=>
   rw[hd]at hs;refine⟨λ_=>?_,λhb=>by cases hb⟩;cbv;have e:j=q+ai (J8.drop q):=hs;rw[<-e]at h;exact h
  |cons c r=>
   have f:=(aM hd).1;have i:=(aM hd).2;rw[hd]at hs;have d:ai (c::r)=if isBl c then ai r+1 else 0:=rfl;rw[show oneH (([32,10,9]:List Nat).contains ·) (c::r)=isBl c from f7 c];refine⟨λhb=>?_,λhb=>?_⟩
   ·cbv
    rw[d,cw (by rw[hb];exact hX)]at hs;have e:j=q+ai (J8.drop q):=hs;rw[<-e]at h;exact h
   ·cbv
    rw[d,dt hb]at hs;exact⟨j+1,⟨by lia,by rw[f,<-hs];lia,rfl⟩,by lia⟩
 ·rw[de];lia
noncomputable def t3(kind:List Nat)(n:Nat):List MV:=[.str kind,.int (n:Int),.int (n:Int)]
def kn(J8:List Nat)(p:Nat):List MV:=
 let l:=J8.drop p;if oneH isBl l=true then t3 dw (p+ai l)
 else if oneH (([117,85]:List Nat).contains ·) l=true/\(l.drop 1).head?=some 43/\oneH ((em++[63]).contains ·) (l.drop 2)=true then t3 fh (p+2+(b8 (l.drop 2)).2.2)
 else if l.take 3=[45,45,62]then t3 au (p+3)
 else if ao l=true then j9 J8 (p+(av l).2) (av l).1
 else if 0<af l/\ao (l.drop (af l))=true then t3 dC (p+af l+(av (l.drop (af l))).2)
 else if 0<af l/\(l.drop (af l)).head?=some 37 then t3 jk (p+af l+1)
 else if 0<af l then t3 dm (p+af l)
 else if l.head?=some 64/\ao (l.drop 1)=true then t3 kAt (p+1+(av (l.drop 1)).2)
 else if l.head?=some 35/\(oneH bdC (l.drop 1)=true\/bentL (l.drop 1)=true) then t3 gP (p+1+(av (l.drop 1)).2)
 else if oneH (([34,39]:List Nat).contains ·) l=true then pj (p+1+(bx (l.headD 0) (l.drop 1)).2.1) (bx (l.headD 0) (l.drop 1)).2.2
 else if l.head?=some 47/\(l.drop 1).head?=some 42 then r7 J8.length dD 2 ((ca (l.drop 2)).map (·+(p+2)))
 else if l.take 4=[60,33,45,45]then t3 au (p+4)
 else if(l.head?=some 124/\(l.drop 1).head?=some 124)\/(oneH (([126,124,94,36,42]:List Nat).contains ·) l=true/\(l.drop 1).head?=some 61) then t3 au (p+2)
 else t3 au (p+1)
theorem zh(hK:HK G P):∃J9,Con G 5 810 J9/\∀(J8:List Nat)(p:Nat)(mh:List MO),J8.length<=100000->p<J8.length->bG (J9 [.str J8,.int (p:Int)] mh) λr KA=>mh<+:KA/\∃i,r=.ref i/\KA[i]?=some (.tuple (kn J8 p)):=by
 obtain⟨KS,c1,h1⟩:=fm hK;obtain⟨u,c2,h2⟩:=sC hK;obtain⟨bz,c3,U⟩:=tw hK;obtain⟨s,c4,h4⟩:=lD hK;obtain⟨t,c5,T⟩:=w0 hK;obtain⟨D,c6,Q⟩:=lh hK;obtain⟨A,c7,O⟩:=kY hK;obtain⟨B,c8,N⟩:=ij hK;obtain⟨v,Y,M⟩:=tn hK;obtain⟨C,V,y⟩:=tm hK;run_tac wcon
 intro J8 p mh hl hp;have E:J8.length<=16777216:=by lia
 obtain⟨c,r,hd⟩:∃c r,J8.drop p=c::r:=⟨_,_,e9 hp⟩;have e:=(aM hd).1;have b:kn J8 p=kn J8 p:=rfl;conv at b=>rhs;unfold kn;rw[hd]
 dsimp only at b;rw[b];clear b;have I:r.length+(p+1)=J8.length:=by
  have h:=ed List.length e;rw[ea]at h;lia
 have x:∀j,J8.drop (p+1+j)=r.drop j:=λj=>by rw[<-eo,e]
 cbv;rw[show([32,10,9]:List Nat).contains c=oneH isBl (c::r)from f7 c];refine aI (λhb=>?_) (λhb=>?_)
 ·rw[dt hb]
  cbv;refine zz h1 hl (by lia) ?_;rw[hd];cbv;exact aw (fa _)
 rw[cw (by rw[hb];exact hX)];clear hb;cbv;refine wp_andK_all ?_;cbv;refine wp_andK_all ?_;cbv;refine aE (h1 _ _ mh (by rw[g7];lia)) ?_;rintro _ mh ⟨rfl,rfl⟩;rw[cn];cbv;have z:(List.take 1 (List.drop (p+1) J8)==[43])=decide (r.head?=some 43):=by
  rw[e];cases r with
  |nil=>rfl
  |cons d w=>rw[hH];simp
 have m:J8.drop (p+2)=r.drop 1:=x 1;rw[z,m];refine aI (λhb=>?_) (λhb=>?_)
 ·simp only[fi,s3]at hb
  rw[dt (by exact hb)];have L:p+2<J8.length:=by
   apply n7;intro J;have h:=hb.2.2;rw[<-m,f6 (Nat.le_of_not_lt J)]at h;exact absurd h (by decide)
  cbv;refine aE (U J8 (p+2) mh hl (by lia)) ?_;rintro _ mh ⟨rfl,rfl⟩;rw[m];cbv;exact aw (fa _)
 rw[cw (λh=>mm.mp hb (by simp only[fi,s3];exact h))];clear hb;cbv;rw[show p+3-p=3 by lia,hd];refine aI (λhb=>?_) (λhb=>?_)
 ·rw[dt (eq_of_beq hb)]
  cbv;exact aw (fa _)
 rw[cw (λh=>mm.mp hb (ly.mpr h))];clear hb;cbv;refine aE (h4 J8 p mh hl) ?_;rintro _ mh ⟨rfl,rfl⟩;rw[hd];cbv;refine aI (λhb=>?_) (λhb=>?_)
 ·rw[dt hb]
  cbv;refine aE (T J8 p mh _ _ hl (by lia) (gk (J8.drop p))) ?_;rintro _ k ⟨a,i,rfl,f⟩;rw[hd]at f;cbv;exact⟨a,i,rfl,f⟩
 rw[cw (by rw[hb];exact hX)];clear hb;cbv;refine aE (Q J8 p mh hl (by lia)) ?_;rintro _ mh ⟨rfl,rfl⟩;rw[hd];have q:=i0 (c::r);rw[g9]at q;have l:∀n,J8.drop (p+n)=(c::r).drop n:=λn=>by rw[<-eo,hd]
 generalize af (c::r)=n at q⊢;cbv;by_cases h0:0<n
 ·refine wp_andK_t (by simp;lia) ?_
  cbv;refine aE (h4 J8 (p+n) mh hl) ?_;rintro _ mh ⟨rfl,rfl⟩;rw[l n];cbv;refine aI (λhb=>?_) (λhb=>?_)
  ·rw[dt ⟨h0,hb⟩]
   cbv;refine aE (h2 J8 (p+n) mh _ _ hl (by lia) (gk (J8.drop (p+n)))) ?_;rintro _ k ⟨a,i,rfl,f⟩;rw[l]at f;cbv;exact aw a
  ·rw[cw (λh=>by rw[h.2]at hb;cases hb)]
   cbv;refine wp_andK_t (by simp;lia) ?_;cbv;rw[l];rw[show(List.take 1 (List.drop n (c::r))==[37])=decide ((List.drop n (c::r)).head?=some 37)by
    cases List.drop n (c::r)with
    |nil=>rfl
    |cons d w=>rw[hH];simp]
   refine aI (λhq=>?_) (λhq=>?_)
   ·rw[dt ⟨h0,go hq⟩]
    cbv;exact aw (fa _)
   ·rw[cw (λh=>ku hq h.2),dt h0]
    cbv;refine wp_pick_t (by simp;lia) ?_;cbv;exact aw (fa _)
 ·rw[cw (λh=>h0 h.1),cw (λh=>h0 h.1),cw h0]
  refine wp_andK_f (by simp;lia) ?_;cbv;refine wp_andK_f (by simp;lia) ?_;cbv;refine wp_pick_f (by simp;lia) ?_;clear l q h0;cbv;refine wp_andK_all ?_;cbv;refine aE (h4 J8 (p+1) mh hl) ?_;rintro _ mh ⟨rfl,rfl⟩;rw[e];cbv;refine aI (λhb=>?_) (λhb=>?_)
  ·obtain⟨o,g⟩:=n8.mp hb
   rw[dt ⟨by rw[(f4 (eq_of_beq o)).1];rfl,g⟩];cbv;refine aE (h2 J8 (p+1) mh _ _ hl (by lia) (gk (J8.drop (p+1)))) ?_;rintro _ k ⟨a,i,rfl,f⟩;rw[e]at f;cbv;exact aw a
  rw[cw (λh=>mm.mp hb (n8.mpr ⟨ly.mpr (by obtain rfl:c=64:=ec h.1;rfl),h.2⟩))];clear hb;cbv;refine wp_andK_all ?_;cbv;refine aE (O _ mh (by rw[g7];lia)) ?_;rintro _ mh ⟨rfl,rfl⟩;rw[ko];cbv;refine wp_orK_all ?_;cbv;refine aE (N J8 (p+1) mh hl) ?_;rintro _ mh ⟨rfl,rfl⟩;rw[e];cbv;refine aI (λhb=>?_) (λhb=>?_)
  ·obtain⟨o,g⟩:=n8.mp hb
   rw[dt ⟨by rw[(f4 (eq_of_beq o)).1];rfl,Iu.mp g⟩];cbv;refine aE (h2 J8 (p+1) mh _ _ hl (by lia) (gk (J8.drop (p+1)))) ?_;rintro _ k ⟨a,i,rfl,f⟩;rw[e]at f;cbv;exact aw a
  rw[cw (λh=>mm.mp hb (n8.mpr ⟨ly.mpr (by obtain rfl:c=35:=ec h.1;rfl),Iu.mpr h.2⟩))];clear hb;cbv;refine aI (λhb=>?_) (λhb=>?_)
  ·rw[dt (by exact hb)]
   have hq:c=34\/c=39:=by simpa using hb
   cbv;refine aE (M J8 p mh c r _ _ _ hl hq hd (ew c r)) ?_;rintro _ k ⟨a,i,rfl,f⟩;cbv;exact⟨a,i,rfl,f⟩
  rw[cw (by exact mm.mp hb)];clear hb;cbv;refine wp_andK_all ?_;cbv;rw[mW];refine aI (λhb=>?_) (λhb=>?_)
  ·obtain⟨o,g⟩:=n8.mp hb
   have g:=go g;rw[dt ⟨by rw[(f4 (eq_of_beq o)).1];rfl,g⟩];have H:1<=r.length:=by
    cases r with
    |nil=>cases g
    |cons _ _=>simp
   cbv;refine aE (y J8 (p+2) mh hl (by lia)) ?_;rintro _ k ⟨a,i,rfl,f⟩;rw[m]at f;cbv;exact⟨a,i,rfl,f⟩
  rw[cw (λh=>mm.mp hb (n8.mpr ⟨ly.mpr (by obtain rfl:c=47:=ec h.1;rfl),g6 h.2⟩))];clear hb;cbv;rw[show p+4-p=4 by lia,hd];refine aI (λhb=>?_) (λhb=>?_)
  ·rw[dt (eq_of_beq hb)]
   cbv;exact aw (fa _)
  rw[cw (λh=>mm.mp hb (ly.mpr h))];clear hb;cbv;refine wp_andK_all ?_;cbv;refine wp_orK_all ?_;cbv;refine wp_andK_all ?_;cbv;rw[mW,mW];refine aI (λhb=>?_) (λhb=>?_)
  ·rw[dt (by
    rcases Iu.mp hb with h|h
    ·obtain⟨o,g⟩:=n8.mp h
     exact .inl ⟨by rw[(f4 (eq_of_beq o)).1];rfl,go g⟩
    ·obtain⟨o,g⟩:=n8.mp h
     exact .inr ⟨o,go g⟩)]
   cbv;exact aw (fa _)
  rw[cw (by
   intro h;refine mm.mp hb (Iu.mpr ?_);rcases h with h|h
   ·exact .inl (n8.mpr ⟨ly.mpr (by obtain rfl:c=124:=ec h.1;rfl),g6 h.2⟩)
   ·exact .inr (n8.mpr ⟨h.1,g6 h.2⟩))]
  cbv;exact aw (fa _)
section
variable{G:Glo}
theorem yz(l:List Nat)(t:Tok):(strKind G.prog G.w).is (⟨l.toArray⟩:Str) (.str ⟨l.toArray⟩ t)=true:=by
 show PySem.Value.isStrOf (⟨l.toArray⟩:Str) (.str ⟨l.toArray⟩ t)=true;simp[PySem.Value.isStrOf]
end
variable{ws:Array Value}
def C5(mh:List MO):MV->MV->MV->Option (List MV)
 |.ref r,.int i,.none=>listAt (λxs=>if 0<=i/\xs.length<=16777216 then some (xs.drop i.toNat) else none) mh[r]?
 |_,_,_=>none
def Ay(a l u:MV):Den MV:=λst=>(C5 st.mh a l u).map λout=>(.ref st.mh.length,{st with mh:=st.mh++[.list out]})
def Cg(a l u:MV):Den MV:=match a with
 |.ref r=>Ay (.ref r) l u
 |a=>cutD a l u
theorem All2.drop{R:α->β->Prop}:∀{l:List α}{m:List β},All2 R l m->∀k:Nat,All2 R (l.drop k) (m.drop k):=by
 intro l m q;induction q with
 |nil=>intro k;rw[List.drop_nil,List.drop_nil];exact .nil
 |cons a b c=>
  intro k;cases k with
  |zero=>exact .cons a b
  |succ k=>exact c k
theorem ui{st:LS}{ad:Addr}{l h:Value}{value:PySem.Expr}{lo up:Option PySem.Expr}{p:Pos}{i j:Option Int}{out:List MV}{Q:Value->Shared->Prop}
  (f:W c names st w)(y:w.s.heap.IsList ad ws)(v:ws.size<=16777216)(pl:IsPart l i)(n:IsPart h j)(x:∀r,letTemporaryGo value (.ref ad) r=pure ())
  (d:All2 (VR w.φ) out (slicePick ws i j none).toList)(k:∀w' v',Nx c names w {st with mh:=st.mh++[.list out]} w'->VR w'.φ (.ref st.mh.length) v'->Q v' w'.s):
  wpAny G.M c.A (subscriptTail value (.Slice lo up none p) (.ref ad) (.ref w.s.heap.objs.size)) Q NoE {w.s with heap:=w.s.heap.push {cls:=.type "slice",data:=.fields #[l,h,.none]}}:=by
 obtain⟨m,objs,F,N,t,o,le,u⟩:=id f.1;refine slice_list F N y pl n (λh' B z=>?_) rfl x (by rw[JW];exact v);have hp:w.φ<+:w.φ++[w.s.heap.objs.size+1]:=eh ..;refine k ⟨_,w.φ++[w.s.heap.objs.size+1]⟩ _ ⟨hp,.heap,⟨m,objs++[{cls:=.type "list",data:=.seq (slicePick ws i j none)}],B,?_,?_,(o.mono λ_ _=>OR.mono hp).app (.cons ⟨_,_,rfl,d.mono λ_ _=>VR.mono hp⟩ .nil),by simp[le],u.mono hp⟩,f.2⟩ ⟨w.s.heap.objs.size+1,by rw[<-j4 f.1];simp,rfl⟩
 ·rw[jy le,<-kv]
  intro q hq;refine z q ?_;rcases j2.mp hq with hq|hq
  ·exact .tail _ hq
  ·rw[h9.mp hq];exact .head _
 ·rw[jy le,<-kv,qi]
  refine yt.mpr ⟨t,by simp,λa ha b hb e=>?_⟩;have g:b=w.s.heap.objs.size+1:=by simpa using hb
  obtain⟨q,hq,rfl⟩:=nb.mp ha;have :=ry (N q hq).1;rw[e,g]at this;exact absurd this (Nat.not_lt.mpr (nl _))
theorem Fy{lo up:Option PySem.Expr}{p:Pos}{dl:Den MV}(ht:∀(a:Addr)r,letTemporaryGo o (.ref a) r=pure ())(h:SemE G sc names n o d)(hl:sU G sc names n lo dl)(hu:sU G sc names n up du):
  SemE G sc names n (.Subscript o (.Slice lo up none p) pos) (aG d λa=>aG dl λl=>aG du λu=>Cg a l u):=by
 intro c st w K Q Y hd k;refine Js (h c st w _ _ Y (wB hd) λa KD w1a a' E C J=>wpAny_Slice (hl c KD w1a _ _ C.sim (wB E) λl KI H l' D B I=>hu c KI H _ _ B.sim (wB D) λu KW t V b f z=>JQ ?_));have m:=B.trans f;have O:=J.mono m.pre;have rl:=I.mono f.pre;have T:=C.trans m;have plain:Wp (cutD a l u) KW K->wpAny G.M c.A (subscriptTail o (.Slice lo up none p) a' (.ref t.s.heap.objs.size)) Q NoE {t.s with heap:=t.s.heap.push {cls:=.type "slice",data:=.fields #[l',V,.none]}}:=λb=>by
  obtain⟨v,e,hk⟩:=wO (g:=λ_=>gW a l u) b;exact Cf f.sim O rl z e λq v' y x=>k v _ q v' hk (T.trans y) x
 cases a with
 |ref r=>
  obtain⟨v,s',e1,hk⟩:=b;obtain⟨out,e2,e3⟩:=h8.mp e1;cases e3;cases l with
  |int i=>cases u with
   |none=>
    obtain⟨items,hm,e4⟩:=dv e2;obtain⟨⟨h0,hsz⟩,e5⟩:=ifs e4;cases e5;obtain⟨ad,ws,N,rfl,ha,ho,L⟩:=bu f.sim hm O;obtain⟨tl,rfl⟩:=rl;cases z;obtain⟨b',rfl⟩:=ov h0;have U:items.length=ws.size:=L.len;refine ui (i:=some _) (j:=none) f.sim ⟨_,ho,rfl,N,rfl⟩ (by lia) (.int _ _) .none (ht ad) ?_ λq v' y x=>k _ _ q v' hk (T.trans y) x;rw[slicePick_from' ws b'];simpa using L.drop b'
   |_=>exact nos e2
  |_=>cases u<;>exact nos e2
 |_=>exact plain b
section
variable{ρ:List (Option MV)}{mh:List MO}{QV:MV->LS->Prop}
theorem Gi{s:List Nat}{l:MV}(h:Wp (cutD (.str s) l u) ⟨ρ,mh⟩ QV):Wp (Cg (.str s) l u) ⟨ρ,mh⟩ QV:=h
end
variable{kz:List (Str×Str)}{K1:List (Str×Value)}{K3:List Expr}
noncomputable def iT(c:Nat):Option Nat:=if c=40 then some 41 else if c=91 then some 93 else if c=123 then some 125 else none
def qb(G:Glo)(o:Obj):Prop:=∃K1,o.IsDictOf (strKind G.prog G.w) K1/\∀c d,iT c=some d->∃t,valueAt K1 (⟨#[c]⟩:Str)=some (.str ⟨#[d]⟩ t)
inductive DT:List (Option Expr)->List Expr->List (Str×Str)->Prop
 |nil:DT [] [] []
 |cons{ks vs kz k z kk p kk2 p2:_}:DT ks vs kz->DT (some (.Constant (.str k) kk p)::ks) (.Constant (.str z) kk2 p2::vs) ((k,z)::kz)
theorem DT.all{ks:List (Option Expr)}{vs:List Expr}(h:DT ks vs kz):ks.all (·.isSome)=true/\ks.length=vs.length/\ks.length=kz.length:=by
 induction h with
 |nil=>exact⟨rfl,rfl,rfl⟩
 |cons _ a=>exact⟨by simpa using a.1,ed (·+1) a.2.1,ed (·+1) a.2.2⟩
def KvS(a:Str×Value)(kz:Str×Str):Prop:=a.1=kz.1/\∃u,a.2=.str kz.2 u
theorem DT.walk{ks:List (Option Expr)}{vs:List Expr}(h:DT ks vs kz):
  ∀(s:Shared)(Q:List (Value×Value)->Shared->Prop),(∀ws K1 tk,Carries (strKind G.prog G.w) ws K1->All2 KvS K1 kz->s.toks<=tk->Q ws {s with toks:=tk})->wpAny G.M A (evalPairs (pairTrees ks vs env pos)) Q E s:=by
 induction h with
 |nil=>exact λs Q c=>pairTrees_nil_walk (c [] [] s.toks trivial .nil (ep _))
 |@cons ks vs kz k z kk p kk2 p2 h d=>
  intro s Q c;refine pairTrees_cons_walk (I5 (I5 (d _ _ λws K1 tk hc b a=>?_)));have hk:∀t,(strKind G.prog G.w).is k (.str k t)=true:=λt=>by
   show PySem.Value.isStrOf k (.str k t)=true;simp[PySem.Value.isStrOf]
  exact c _ ((k,_)::K1) tk ⟨hk _,rfl,hc⟩ (.cons ⟨rfl,_,rfl⟩ b) (ml (ml (nl _) (nl _)) a)
def CH(G:Glo)(n:Nat):Prop:=
 ∀(sc:Scope)(names:List Str)(c:Cx G sc n)(st:LS)(w:St)(R:Result->Shared->Prop),W c names st w->(∀d o w',W (c.ax d o) names st w'->Nw w w'->qb G o->(d==sysModules)=false->R (.ok (.ret (.ref d))) w'.s)->codeAny G.M c.A (.call (.ref 705) ⟨[],[]⟩) R w.s
noncomputable def CL:MV->Option MV
 |.str [c]=>(iT c).map λd=>.str [d]
 |_=>none
noncomputable def uk(v:MV):Den MV:=λst=>(CL v).map (·,st)
theorem xA(b:GF G sc "_law_SHUTS" 705)(hw:CH G n')(e:n'<=n){p:Pos}{st:LS}{Q:Value->Shared->Prop}
  (a:W c names st w)(k:∀d o w',W (c.ax d o) names st w'->Nw w w'->qb G o->(d==sysModules)=false->Q (.ref d) w'.s):
  wpAny G.M c.A (eval (.Call (.Name "_law_SHUTS" p) [] [] pos) c.env) Q NoE w.s:=by
 refine Call_ (fU b.g a (callWith_of rfl (keeps_K b.k) (bZ rfl (spliced_nil ⟨a.inK,wpAny_call (hw sc names (c.le e) st w _ a k)⟩))))
theorem Hl{e:PySem.Expr}{p p2:Pos}(hs:kh e)(C:GF G sc "_law_SHUTS" 705)(hw:CH G n')(B:n'<=n)(h:SemE G sc names n e d):
  SemE G sc names n (.Subscript (.Call (.Name "_law_SHUTS" p) [] [] p2) e pos) (aG d uk):=by
 intro c st w K Q z hd k;refine Js (xA C hw B z λad o w1a f i y hds=>h (c.ax ad o) st w1a _ _ f (wB hd) λa KI m a' j b q=>?_);obtain⟨v,e,hk⟩:=wO (g:=λ_=>CL a) j;cases a with
 |str x=>cases x with
  |nil=>exact nos e
  |cons x l=>cases l with
   |cons _ _=>exact nos e
   |nil=>
    obtain⟨D,hc,e⟩:=h8.mp e;cases e;obtain⟨t,rfl⟩:=q;obtain⟨K1,r,h1⟩:=y;have hm:=(Heap.dictOf_iff.mpr ⟨o,b.sim.1.atx,r⟩).mapOf;obtain⟨u,A⟩:=h1 x D hc;have s:=i.trans b.nw;exact tail_any hm.typeIs slot_dict_getitem.lookup (wpAny_getItem_of (yz [x] t) hm A (k _ _ ⟨_,m.φ⟩ _ hk ⟨s.1,s.2.trans .toks,b.sim.drop.1,ml b.sim.2 (nl _)⟩ ⟨_,rfl⟩)) (hs _ _)
 |_=>exact nos e
noncomputable def uj:List (Str×Str):=[(⟨#[40]⟩,⟨#[41]⟩),(⟨#[91]⟩,⟨#[93]⟩),(⟨#[123]⟩,⟨#[125]⟩)]
theorem A1(q:All2 KvS K1 uj):(K1.map (·.1)).Nodup/\∀c d,iT c=some d->∃t,valueAt K1 (⟨#[c]⟩:Str)=some (.str ⟨#[d]⟩ t):=by
 unfold uj at q;cases q with
 |@cons a _ _ _ ha q=>
  cases q with
  |@cons b _ _ _ hb q=>
   cases q with
   |@cons c _ _ _ hc q=>
    cases q;obtain⟨l,k⟩:=a;obtain⟨j,i⟩:=b;obtain⟨g,f⟩:=c;obtain⟨rfl,u1,rfl⟩:=ha;obtain⟨rfl,u2,rfl⟩:=hb;obtain⟨rfl,u3,rfl⟩:=hc;refine⟨show(([⟨#[40]⟩,⟨#[91]⟩,⟨#[123]⟩]:List Str)).Nodup by decide+kernel,λc d h=>?_⟩;unfold iT at h;by_cases h1:c=40
    ·subst h1;cases h;exact⟨u1,rfl⟩
    ·rw[cw h1]at h
     by_cases h2:c=91
     ·subst h2;cases h;exact⟨u2,rfl⟩
     ·rw[cw h2]at h
      by_cases e:c=123
      ·subst e;cases h;exact⟨u3,rfl⟩
      ·rw[cw e]at h;cases h
theorem Bv{keys:List (Option Expr)}(r:DT keys K3 uj){st:LS}{Q:Value->Shared->Prop}
  (b:W c names st w)(k:∀d o w',W (c.ax d o) names st w'->Nw w w'->qb G o->(d==sysModules)=false->Q (.ref d) w'.s):
  wpAny G.M c.A (eval (.Dict keys K3 pos) c.env) Q NoE w.s:=by
 obtain⟨ha,hl,a⟩:=r.all;obtain⟨m,objs,F,N,v,u,le,x⟩:=id b.1;have hds:=F.notModules (modules_low c.ok.top.nolimit);refine wpAny_Dict_walk (knd:=strKind G.prog G.w) ha hl (by intro h;rw[h]at a;cases a) (by rw[a];decide) (r.walk _ _ λws K1 tk hc l j=>⟨K1,hc,Heap.DictOf.new _,λh' hm hs=>?_⟩);obtain⟨f,p⟩:=A1 l;rw[merged_nil_of_nodup _ f]at hm;obtain⟨q,g,n⟩:=Heap.dictOf_iff.mp hm;exact k w.s.heap.objs.size q ⟨_,w.φ⟩ ⟨(b7.keepx (b.1.addx (o:={cls:=.type "dict",data:=.dict #[]}) rfl) λt ob i e=>(hs.2 t i).trans e).2 q g,ml b.2 (ml j (tj _ _))⟩ ⟨la,.heap⟩ ⟨K1,n,p⟩ hds
theorem B3{keys:List (Option Expr)}{p1 p2:Pos}(hf:FunAt G 705 params body scope dV)(hb:body=[.Return (some (.Dict keys K3 p1)) p2])(T:DT keys K3 uj)
  (hs:ScopeOk scope [] [])(hp:dp params body scope dV []):CH G (n+1):=by
 intro M KF c st w R z k;subst hb;obtain⟨oc,od,osl,name,qual,kV,doc,pm,an,cdv,ct,hK,l⟩:=hf.ex;obtain⟨m,objs,F,N,Q,O,le,E⟩:=z.1;have ok:=c.ok;obtain⟨A0a,base,KT,B,I⟩:=ok.below (x6 _);have X:=z.inK;have cell:∀x∈scope.names,x.2≠.cell:=λx hx=>go (gb.mp hs.cell x hx);refine callX_plain (cl:=[]) (binds:=[]) B F N ok.top.nolimit I (ok.frame (x6 _)) c.fn (X _ _ hK) rfl (codeRec_of X l) (by have :=ok.depth;show c.A.depth<1000;lia)
  (BindsTo.of_eq (hp name qual kV doc pm an cdv ct [] rfl)) (λy hy=>by cases hy) (λg t H Fg V U Y KG lt=>?_) cell hs.co hs.gen hs.kind
 have C:Fok G n scope (envX qual scope t 705 cdv []) t g (c.A.deeper (envX qual scope t 705 cdv [])):=qU ok hs.kind cell Y I KG;refine wpAny_execs_cons (J2 (IH (Bv T (names:=[]) (c:=⟨_,_,t,g,c.xs,C⟩) (w:=⟨_,w.φ⟩) (st:=⟨[],st.mh⟩) ⟨⟨_,objs,V,U,Q,O,le,.nil,E.2⟩,ml z.2 (tj _ _)⟩ λd o e f b J hds=>?_)));obtain⟨⟨p,a,v,r,i,h,j,D⟩,tk2⟩:=f;exact(⟨t,p,_,v,r,λu q=>k d o ⟨_,e.φ⟩ ⟨⟨m,a,u,q,i,h,j,E.mono b.1⟩,tk2⟩ b J hds⟩:LeaveK c.h0a c.L m g R (.ref d) e.s)
section
variable{ρ:List (Option MV)}{mh:List MO}{QV:MV->LS->Prop}
theorem EH{c d:Nat}(h:iT c=some d)(q:QV (.str [d]) ⟨ρ,mh⟩):Wp (uk (.str [c])) ⟨ρ,mh⟩ QV:=⟨_,_,ed (λo=>(Option.map (λd=>MV.str [d]) o).map (·,(⟨ρ,mh⟩:LS))) h,q⟩
end
variable{ys:List MV}{S:List Nat}
def k6(n:Nat)(kind:List Nat)(k:Nat):Option Nat->List Nat×Nat×Nat
 |none=>(bA,n,n)
 |some m=>(kind,m+k,m+k)
def eY(n e:Nat):List Nat×Nat×Nat:=
 if e=0 then(gw,n,n) else if e=1 then(gx,n,n+1) else(bA,n,n)
def cy(l:List Nat)(m:Nat)(v:List Nat):List Nat×Nat×Nat:=
 if(l.drop m).head?≠some 40 then(cg,m,m)
 else if ce v=false then(bh,m+1,m+1)
 else if oneH (([34,39]:List Nat).contains ·) (l.drop (m+1+ai (l.drop (m+1))))=true then(bh,m+1,m+1+ai (l.drop (m+1))+1)
 else k6 l.length eD 1 ((bg 40 (l.drop (m+1))).map (·+(m+1)))
noncomputable def bJ(k:List Nat)(n:Nat):List Nat×Nat×Nat:=(k,n,n)
def aV(l:List Nat):List Nat×Nat×Nat:=
 if oneH isBl l=true then bJ dw (ai l)
 else if oneH (([117,85]:List Nat).contains ·) l=true/\(l.drop 1).head?=some 43/\oneH ((em++[63]).contains ·) (l.drop 2)=true then bJ fh (2+(b8 (l.drop 2)).2.2)
 else if l.take 3=[45,45,62]then bJ au 3
 else if ao l=true then cy l (av l).2 (av l).1
 else if 0<af l/\ao (l.drop (af l))=true then bJ dC (af l+(av (l.drop (af l))).2)
 else if 0<af l/\(l.drop (af l)).head?=some 37 then bJ jk (af l+1)
 else if 0<af l then bJ dm (af l)
 else if l.head?=some 64/\ao (l.drop 1)=true then bJ kAt (1+(av (l.drop 1)).2)
 else if l.head?=some 35/\(oneH bdC (l.drop 1)=true\/bentL (l.drop 1)=true) then bJ gP (1+(av (l.drop 1)).2)
 else if oneH (([34,39]:List Nat).contains ·) l=true then eY (1+(bx (l.headD 0) (l.drop 1)).2.1) (bx (l.headD 0) (l.drop 1)).2.2
 else if l.head?=some 47/\(l.drop 1).head?=some 42 then k6 l.length dD 2 ((ca (l.drop 2)).map (·+2))
 else if l.take 4=[60,33,45,45]then bJ au 4
 else if(l.head?=some 124/\(l.drop 1).head?=some 124)\/(oneH (([126,124,94,36,42]:List Nat).contains ·) l=true/\(l.drop 1).head?=some 61) then bJ au 2
 else bJ au 1
noncomputable def eV(p:Nat)(x:List Nat×Nat×Nat):List MV:=[.str x.1,.int ((p+x.2.1:Nat):Int),.int ((p+x.2.2:Nat):Int)]
theorem cO{c:Prop}[Decidable c]{a b a' b':α}(h1:c->a=a')(h2:¬c->b=b'):(if c then a else b)=if c then a' else b':=by
 by_cases h:c
 ·rw[dt h,dt h];exact h1 h
 ·rw[cw h,cw h];exact h2 h
theorem iP(k:List Nat)(p n a:Nat)(h:a=p+n):t3 k a=eV p (bJ k n):=by subst h;rfl
theorem u9{p:Nat}{kind:List Nat}(hp:p<=J8.length){o:Option Nat}:r7 J8.length kind k (o.map (·+(p+j)))=eV p (k6 (J8.drop p).length kind k (o.map (·+j))):=by
 cases o with
 |none=>
  show _=eV p (bA,_,_);unfold eV;rw[ea,show p+(J8.length-p)=J8.length by lia];rfl
 |some m=>
  show[MV.str kind,.int ((m+(p+j)+k:Nat):Int),.int ((m+(p+j)+k:Nat):Int)]=[MV.str kind,.int ((p+(m+j+k):Nat):Int),.int ((p+(m+j+k):Nat):Int)];rw[show m+(p+j)+k=p+(m+j+k)by lia]
theorem wV{p:Nat}{v:List Nat}(hp:p<=J8.length):j9 J8 (p+m) v=eV p (cy (J8.drop p) m v):=by
 unfold j9 cy;simp only[eo,<-k4];rw[s4 (eV p)];refine cO (λ_=>rfl) λ_=>?_;rw[s4 (eV p)];refine cO (λ_=>rfl) λ_=>?_;rw[s4 (eV p)];refine cO (λ_=>?_) λ_=>?_
 ·show[MV.str bh,.int ((p+m+1:Nat):Int),.int ((p+m+1+ai (J8.drop (p+m+1))+1:Nat):Int)]=[MV.str bh,.int ((p+(m+1):Nat):Int),.int ((p+(m+1+ai (J8.drop (p+m+1))+1):Nat):Int)]
  rw[show p+(m+1+ai (J8.drop (p+m+1))+1)=p+m+1+ai (J8.drop (p+m+1))+1 by lia];rfl
 ·have e:∀x,x+p+m+1=x+(p+(m+1)):=λx=>by lia
  simp only[e,k4];exact u9 (j:=m+1) hp
theorem yf(p n e:Nat):pj (p+n) e=eV p (eY n e):=by
 unfold pj eY;rw[s4 (eV p)];refine cO (λ_=>rfl) λ_=>?_;rw[s4 (eV p)];exact cO (λ_=>rfl) λ_=>rfl
theorem BD{p:Nat}(hp:p<=J8.length):kn J8 p=eV p (aV (J8.drop p)):=by
 unfold kn aV;dsimp only;rw[s4 (eV p)];refine cO (λ_=>iP _ _ _ _ rfl) λ_=>?_;rw[s4 (eV p)];refine cO (λ_=>iP _ _ _ _ (by lia)) λ_=>?_;rw[s4 (eV p)];refine cO (λ_=>iP _ _ _ _ (by lia)) λ_=>?_;rw[s4 (eV p)];refine cO (λ_=>wV hp) λ_=>?_;rw[s4 (eV p)];refine cO (λ_=>iP _ _ _ _ (by lia)) λ_=>?_;rw[s4 (eV p)];refine cO (λ_=>iP _ _ _ _ (by lia)) λ_=>?_;rw[s4 (eV p)];refine cO (λ_=>iP _ _ _ _ (by lia)) λ_=>?_;rw[s4 (eV p)];refine cO (λ_=>iP _ _ _ _ (by lia)) λ_=>?_;rw[s4 (eV p)];refine cO (λ_=>iP _ _ _ _ (by lia)) λ_=>?_;rw[s4 (eV p)];refine cO (λ_=>?_) λ_=>?_
 ·rw[k4];exact yf _ _ _
 rw[s4 (eV p)];refine cO (λ_=>u9 (j:=2) hp) λ_=>?_;rw[s4 (eV p)];refine cO (λ_=>iP _ _ _ _ (by lia)) λ_=>?_;rw[s4 (eV p)];exact cO (λ_=>iP _ _ _ _ (by lia)) λ_=>iP _ _ _ _ (by lia)
theorem f5{f:Nat->Bool}(h:oneH f l=true):∃c r,l=c::r/\f c=true:=by
 cases l with
 |nil=>cases h
 |cons c r=>exact⟨c,r,rfl,h⟩
theorem uV(h:oneH bdC l=true\/bentL l=true):1<=(av l).2:=by
 have hw:=gk l;cases a:av l with
 |mk v k=>
  rw[a]at hw;show 1<=k;cases hw with
  |stop h1 h2=>
   rcases h with h|h
   ·rw[h]at h1;cases h1
   ·rw[h]at h2;cases h2
  |name=>exact JD _ _
  |esc=>show 1<=1+_+_;rw[k4];exact tj _ _
theorem aN{P:α->Prop}{c:Prop}[Decidable c]{a b:α}(h1:c->P a)(h2:¬c->P b):P (if c then a else b):=by
 by_cases h:c
 ·rw[dt h];exact h1 h
 ·rw[cw h];exact h2 h
theorem Fd(h:oneH hdC l=true):oneH bdC l=true:=by
 obtain⟨c,r,rfl,hc⟩:=f5 h;show(hdC c||_)=true;rw[hc];rfl
theorem q8(h:ao l=true):oneH bdC l=true\/bentL l=true:=by
 unfold ao at h;split at h
 ·rename_i h1
  left;cases l with
  |nil=>cases h1
  |cons c r=>cases h1;rfl
 ·rw[ll]at h
  rcases h with h|h
  ·exact .inl (Fd h)
  ·exact .inr h
theorem l8(l:List Nat):(av l).2<=l.length:=(gk l).le.1
theorem C3(q:Nat)(l:List Nat):(bx q l).2.1<=l.length:=(ew q l).le.1
theorem pg(h:ca l=some m):m+2<=l.length:=by
 induction l generalizing m with
 |nil=>cases h
 |cons c r b=>
  unfold ca at h;split at h
  ·rename_i hc
   obtain rfl:=ec h;cases r with
   |nil=>cases hc.2
   |cons d t=>simp
  ·cases a:ca r with
   |none=>rw[a]at h;cases h
   |some k=>
    rw[a]at h;obtain rfl:k+1=m:=ec h;have :=b a;simp only[g9];lia
theorem sQ{b:Nat}(h:bg b l=some m):m+1<=l.length:=by
 induction l generalizing b m with
 |nil=>cases h
 |cons c r d=>
  unfold bg at h;split at h
  ·obtain rfl:=ec h
   simp
  ·cases a:bg c r with
   |none=>rw[a]at h;cases h
   |some k=>
    rw[a]at h;obtain rfl:k+1=m:=ec h;have :=d a;simp only[g9];lia
theorem so(l:List Nat):(b8 l).2.2<=l.length:=by
 unfold b8;dsimp only;have h1:=(bT 6 l).2;have h2:=(gd (6-aH 6 l) (l.drop (aH 6 l))).2;rw[ea]at h2;split
 ·show _+_<=_;lia
 ·split
  ·rename_i a
   have h4:=(bT 6 (l.drop (aH 6 l+1))).2;rw[ea]at h4;have b:aH 6 l<l.length:=by
    rcases rb (aH 6 l) l.length with h|h
    ·exact h
    ·rw[f6 h]at a;exact by cases a.1
   show _+1+_<=_;lia
  ·exact h1
theorem rN{kind:List Nat}{o:Option Nat}(h1:1<=n)(h:∀m,o=some m->m+k+j<=n)(hk:1<=k):1<=(k6 n kind k (o.map (·+j))).2.1/\(k6 n kind k (o.map (·+j))).2.1<=n/\(k6 n kind k (o.map (·+j))).2.1=(k6 n kind k (o.map (·+j))).2.2:=by
 cases o with
 |none=>exact⟨h1,ep _,rfl⟩
 |some m=>
  have :=h m rfl;refine⟨?_,?_,rfl⟩<;>(show _<=_;simp[k6];lia)
theorem az{c:Nat}(h:(l.drop n).head?=some c):n<l.length:=by
 rcases rb n l.length with h1|h1
 ·exact h1
 ·rw[f6 h1]at h;exact by cases h
theorem kr(h:l≠[]):1<=(aV l).2.1/\(aV l).2.1<=l.length:=by
 have hl:1<=l.length:=by
  cases l with
  |nil=>exact absurd rfl h
  |cons c r=>simp
 unfold aV bJ;have b:=i0 l;refine aN (P:=λx:List Nat×Nat×Nat=>1<=x.2.1/\x.2.1<=l.length) (λhb=>?_) λ_=>?_
 ·obtain⟨c,r,rfl,hc⟩:=f5 hb
  refine⟨?_,ni _⟩;show 1<=(if isBl c then ai r+1 else 0);rw[dt hc];lia
 refine aN (P:=λx:List Nat×Nat×Nat=>1<=x.2.1/\x.2.1<=l.length) (λhb=>?_) λ_=>?_
 ·obtain⟨c,r,a,hc⟩:=f5 hb.2.2
  have h1:=ed List.length a;rw[ea,g9]at h1;have h2:=so (l.drop 2);rw[ea]at h2;constructor
  ·show 1<=2+_;lia
  ·show 2+_<=_;lia
 refine aN (P:=λx:List Nat×Nat×Nat=>1<=x.2.1/\x.2.1<=l.length) (λhb=>?_) λ_=>?_
 ·have :=ed List.length hb
  rw[g7]at this;simp at this;exact⟨by show 1<=3;lia,by show 3<=_;lia⟩
 refine aN (P:=λx:List Nat×Nat×Nat=>1<=x.2.1/\x.2.1<=l.length) (λhb=>?_) λ_=>?_
 ·have h1:=uV (q8 hb)
  have h2:=l8 l;unfold cy;refine aN (P:=λx:List Nat×Nat×Nat=>1<=x.2.1/\x.2.1<=l.length) (λ_=>⟨h1,h2⟩) λd=>?_;have h4:=az (t2 d);refine aN (P:=λx:List Nat×Nat×Nat=>1<=x.2.1/\x.2.1<=l.length) (λ_=>⟨by show 1<=_+1;lia,by show _+1<=_;lia⟩) λ_=>?_;refine aN (P:=λx:List Nat×Nat×Nat=>1<=x.2.1/\x.2.1<=l.length) (λ_=>⟨by show 1<=_+1;lia,by show _+1<=_;lia⟩) λ_=>?_;have :=rN (n:=l.length) (k:=1) (j:=(av l).2+1) (kind:=eD) (o:=bg 40 (l.drop ((av l).2+1))) hl (λm hm=>by
   have :=sQ hm;rw[ea]at this;lia) (ep _)
  exact⟨this.1,this.2.1⟩
 refine aN (P:=λx:List Nat×Nat×Nat=>1<=x.2.1/\x.2.1<=l.length) (λhb=>?_) λ_=>?_
 ·have h2:=l8 (l.drop (af l))
  rw[ea]at h2;exact⟨by show 1<=_+_;lia,by show _+_<=_;lia⟩
 refine aN (P:=λx:List Nat×Nat×Nat=>1<=x.2.1/\x.2.1<=l.length) (λhb=>?_) λ_=>?_
 ·have :=az hb.2
  exact⟨by show 1<=_+1;lia,by show _+1<=_;lia⟩
 refine aN (P:=λx:List Nat×Nat×Nat=>1<=x.2.1/\x.2.1<=l.length) (λhb=>⟨hb,b⟩) λ_=>?_;refine aN (P:=λx:List Nat×Nat×Nat=>1<=x.2.1/\x.2.1<=l.length) (λhb=>?_) λ_=>?_
 ·have h2:=l8 (l.drop 1)
  rw[ea]at h2;exact⟨by show 1<=1+_;lia,by show 1+_<=_;lia⟩
 refine aN (P:=λx:List Nat×Nat×Nat=>1<=x.2.1/\x.2.1<=l.length) (λhb=>?_) λ_=>?_
 ·have h2:=l8 (l.drop 1)
  rw[ea]at h2;exact⟨by show 1<=1+_;lia,by show 1+_<=_;lia⟩
 refine aN (P:=λx:List Nat×Nat×Nat=>1<=x.2.1/\x.2.1<=l.length) (λhb=>?_) λ_=>?_
 ·have h2:=C3 (l.headD 0) (l.drop 1)
  rw[ea]at h2;unfold eY;refine aN (P:=λx:List Nat×Nat×Nat=>1<=x.2.1/\x.2.1<=l.length) (λ_=>⟨by show 1<=1+_;lia,by show 1+_<=_;lia⟩) λ_=>?_;exact aN (P:=λx:List Nat×Nat×Nat=>1<=x.2.1/\x.2.1<=l.length) (λ_=>⟨by show 1<=1+_;lia,by show 1+_<=_;lia⟩) λ_=>⟨by show 1<=1+_;lia,by show 1+_<=_;lia⟩
 refine aN (P:=λx:List Nat×Nat×Nat=>1<=x.2.1/\x.2.1<=l.length) (λhb=>?_) λ_=>?_
 ·have h4:=az hb.2
  have :=rN (n:=l.length) (k:=2) (j:=2) (kind:=dD) (o:=ca (l.drop 2)) hl (λm hm=>by
   have :=pg hm;rw[ea]at this;lia) (by decide)
  exact⟨this.1,this.2.1⟩
 refine aN (P:=λx:List Nat×Nat×Nat=>1<=x.2.1/\x.2.1<=l.length) (λhb=>?_) λ_=>?_
 ·have :=ed List.length hb
  rw[g7]at this;simp at this;exact⟨by show 1<=4;lia,by show 4<=_;lia⟩
 refine aN (P:=λx:List Nat×Nat×Nat=>1<=x.2.1/\x.2.1<=l.length) (λhb=>?_) λ_=>⟨ep _,hl⟩;have h4:1<l.length:=by
  rcases hb with hb|hb
  ·exact az hb.2
  ·exact az hb.2
 exact⟨by show 1<=2;lia,by show 2<=_;lia⟩
noncomputable def m6:List Nat:=[115,104,117,116]
noncomputable def jj:List Nat:=[115,116,114,97,121]
noncomputable def vK:List Nat:=[111,112,101,110]
def lstep(l S:List Nat):(List Nat×Nat×Nat)×List Nat:=
 if S≠[]/\l.head?=S.head? then((m6,1,1),S.tail)
 else if oneH (([41,93,125]:List Nat).contains ·) l=true then((jj,1,1),S)
 else if oneH (([40,91,123]:List Nat).contains ·) l=true then((vK,1,1),(iT (l.headD 0)).getD 0::S)
 else(aV l,if(aV l).1=bh then 41::S else S)
structure Prt where
 kind:List Nat
 k:Nat
 m:Nat
 safe:Nat
 depth:Nat
noncomputable def yE(P:Prt):List MV:=[.str P.kind,.int (P.k:Int),.int (P.m:Int),.int (P.safe:Int),.int (P.depth:Int)]
noncomputable def prtOf(p:Nat)(x:List Nat×Nat×Nat)(d:Nat):Prt:=⟨x.1,p,p+x.2.1,p+x.2.2,d⟩
theorem fT(h:l≠[]):1<=(lstep l S).1.2.1/\(lstep l S).1.2.1<=l.length:=by
 have hl:1<=l.length:=by
  cases l with
  |nil=>exact absurd rfl h
  |cons c r=>simp
 unfold lstep;refine aN (P:=λx:(List Nat×Nat×Nat)×List Nat=>1<=x.1.2.1/\x.1.2.1<=l.length) (λ_=>⟨ep _,hl⟩) λ_=>?_;refine aN (P:=λx:(List Nat×Nat×Nat)×List Nat=>1<=x.1.2.1/\x.1.2.1<=l.length) (λ_=>⟨ep _,hl⟩) λ_=>?_;exact aN (P:=λx:(List Nat×Nat×Nat)×List Nat=>1<=x.1.2.1/\x.1.2.1<=l.length) (λ_=>⟨ep _,hl⟩) λ_=>kr h
def eH(mh KA:List MO):Prop:=∀(i:Nat)(x:MO),mh[i]?=some x->(∀zs:List MV,x≠MO.list zs)->KA[i]?=some x
theorem eH.trans{a b c:List MO}(h:eH a b)(q:eH b c):eH a c:=λi x e hx=>q i x (h i x e hx) hx
theorem eH.pre{a b:List MO}(h:a<+:b):eH a b:=λ_ _ e _=>aO h e
theorem eH.set{a:List MO}{r:Nat}(h:a[r]?=some (.list xs)):eH a (a.set r (.list ys)):=λi x e hx=>by
 refine dJ ?_ e;intro b;subst b;rw[h]at e;exact hx xs (ec e).symm
def gD(mh:List MO):List MV->List Prt->Prop:=All2 λv P=>∃i,v=.ref i/\mh[i]?=some (.tuple (yE P))
theorem gD.keep{ps:List Prt}(h:gD mh vs ps)(k:eH mh KA):gD KA vs ps:=by
 refine All2.mono (λv P q=>?_) h;obtain⟨i,e,a⟩:=q;exact⟨i,e,k i _ a (λ_=>by simp)⟩
noncomputable abbrev eofKey:List Nat×List Nat:=([101,111,102,45,105,110,45,117,114,108],[69,79,70,32,105,110,32,85,82,76])
noncomputable abbrev badKey:List Nat×List Nat:=([98,97,100,45,117,114,108],[98,97,100,32,85,82,76,32,116,111,107,101,110])
noncomputable abbrev badSigns:List Nat:=[34,39,40,0,1,2,3,4,5,6,7,8,11,14,15,16,17,18,19,20,21,22,23,24,25,26,27,28,29,30,31,127]
def brun(l:List Nat):Nat:=(l.takeWhile isBl).length
theorem fM(l:List Nat):brun l<=l.length:=(List.takeWhile_sublist _).length_le
theorem o2{c:Nat}:brun (c::r)=if isBl c then brun r+1 else 0:=by
 unfold brun;rw[Jb];split<;>simp
theorem vw{p:Nat}:([[32],[10],[9]].any λq=>bQ J8 q p)=match J8.drop p with|[]=>false|c::_=>isBl c:=by
 simp only[List.any_cons,List.any_nil,dX];cases J8.drop p with
 |nil=>rfl
 |cons c r=>simp[isBl,Bool.or_assoc]
def AB(i j:Nat):Den Bool:=aG (aG (bF i) λa=>aG (hV "str" a) λ_=>aG (dF (aG (dF (aj (MV.str [32])) (dF (aj (MV.str [10])) (dF (aj (MV.str [9])) λst=>some ([],st)))) (tG MO.tuple)) (dF (bF j) λst=>some ([],st))) λvs=>cp (dI fE) (a::vs)) dk
def AC(j:Nat):Den MF:=fq (aG (bF j) λa=>aG (aj (MV.int 1)) λb=>aG (ef fC a b) (cY j)) (bM MF.next)
theorem uH{w x:MV}(h:At ρ i v)(b:At ρ j w)(a:i≠j):At (ρ.set j (some x)) i v:=(v2 (Ne.symm a)).trans h
theorem vi{w x:MV}(a:At ρ j w):At (ρ.set j (some x)) j x:=x7 (fd.mp a).1
theorem kl{w x:MV}(a:At ρ j w):Put ρ j x (ρ.set j (some x)):=rfl
theorem qq{w:MV}(a:At ρ j w):ρ.set j (some w)=ρ:=by
 obtain⟨h,e⟩:=fd.mp a;rw[<-e];exact I9 h
theorem eM{p:Nat}{Q:MF->LS->Prop}(f:At ρ i (.str J8))(b:At ρ j (.int (p:Int)))(d:i≠j)(hl:J8.length<=100000)(hp:p<=J8.length)
  (k:∀KA,mh<+:KA->Q .next ⟨ρ.set j (some (.int ((p+brun (J8.drop p):Nat):Int))),KA⟩):Wp (dq (AB i j) (AC j) (bM .next) NN) ⟨ρ,mh⟩ Q:=by
 refine bN (σ:=Nat) (λq s=>q<=J8.length/\q+brun (J8.drop q)=p+brun (J8.drop p)/\∃KA,s=LS.mk (ρ.set j (some (.int (q:Int)))) KA/\mh<+:KA) (λq=>J8.length-q) ?_ NN p _ ?_ ?_
 ·rintro q _ ⟨hq,hb,KA,rfl,a⟩
  have l:At (ρ.set j (some (.int (q:Int)))) i (.str J8):=uH f b d;have g:At (ρ.set j (some (.int (q:Int)))) j (.int (q:Int)):=vi b;unfold AB;cbv;rw[vw];cases hd:J8.drop q with
  |nil=>
   refine⟨λ_=>?_,λh=>by cases h⟩;rw[hd]at hb;cbv;have e:p+brun (J8.drop p)=q:=by simpa[brun]using hb.symm
   rw[e]at k;exact k _ (aT a _)
  |cons c r=>
   refine⟨λh=>?_,λh=>?_⟩
   ·have h:isBl c=false:=h
    rw[hd,o2,h]at hb;cbv;have e:p+brun (J8.drop p)=q:=by simpa using hb.symm
    rw[e]at k;exact k _ (aT a _)
   ·have h1:=aM hd
    have h:isBl c=true:=h;rw[hd,o2,h]at hb;unfold AC;cbv;refine eT (kl g) ?_;cbv;refine⟨q+1,⟨h1.2,by rw[h1.1];simp at hb;lia,_,by rw[kt],aT a _⟩,by lia⟩
 ·exact⟨hp,rfl,mh,by rw[qq b],fa _⟩
 ·rw[de];lia
noncomputable def F9:Spec:=λ_ _=>none
theorem GB{f:Addr}:Con G n f F9:=λ_ _ _ _ _ _ _ _ _ _ _ _ h _=>by cases h
inductive BOut where|eof|close|blank|bad
inductive BodyR:List Nat->List Nat->Nat->BOut->Prop
 |eof:BodyR [] [] 0 .eof
 |close{r:_}:BodyR (41::r) [] 0 .close
 |blank{c r:_}:isBl c=true->BodyR (c::r) [] 0 .blank
 |bad{c r:_}:badSigns.contains c=true->BodyR (c::r) [] 0 .bad
 |esc{r v k o:_}:(r.head?==some 10)=false->BodyR (r.drop (escOf r).2) v k o->BodyR (92::r) ((escOf r).1::v) (1+(escOf r).2+k) o
 |raw{c r v k o:_}:(c==41||isBl c||c==92||badSigns.contains c)=false->BodyR r v k o->BodyR (c::r) (c::v) (k+1) o
 |rawNl{r v k o:_}:r.head?=some 10->BodyR r v k o->BodyR (92::r) (92::v) (k+1) o
theorem BodyR.le{v:List Nat}{o:BOut}(h:BodyR l v k o):k<=l.length/\v.length<=k:=by
 induction h with
 |eof=>simp
 |close=>simp
 |blank=>simp
 |bad=>simp
 |@esc r v k o _ _ a=>have :=dS r;simp at a⊢;lia
 |raw _ _ a=>simp;lia
 |rawNl _ _ a=>simp;lia
noncomputable def remLen:List Nat->Nat
 |[]=>0
 |[c]=>1
 |c::d::r=>if c=41 then 1 else if c=92/\d=41 then remLen r+2 else remLen (d::r)+1
inductive AfterR:List Nat->BOut->List Nat->Option (List Nat)->Nat->Option (List Nat×List Nat)->Prop
 |eof{v:_}:AfterR [] .eof v (some v) 0 (some eofKey)
 |close{r v:_}:AfterR (41::r) .close v (some v) 1 none
 |bad{c r v:_}:AfterR (c::r) .bad v none (1+remLen r) (some badKey)
 |blank0{c r v:_}:r.drop (brun r)=[]->AfterR (c::r) .blank v (some v) (1+brun r) (some eofKey)
 |blank1{c r v t:_}:r.drop (brun r)=41::t->AfterR (c::r) .blank v (some v) (1+brun r+1) none
 |blank2{c r v d t:_}:r.drop (brun r)=d::t->(d==41)=false->AfterR (c::r) .blank v none (1+brun r+remLen (d::t)) (some badKey)
inductive UrlR:List Nat->Option (List Nat)->Nat->Option (List Nat×List Nat)->Prop
 |none{l:_}:l.drop (brun l)=[]->UrlR l (some []) (brun l) (some eofKey)
 |close0{l r:_}:l.drop (brun l)=41::r->UrlR l (some []) (brun l+1) none
 |body{l c r v k o w n e:_}:l.drop (brun l)=c::r->(c==34||c==39||c==41)=false->BodyR (c::r) v k o->AfterR ((c::r).drop k) o v w n e->UrlR l w (brun l+k+n) e
theorem cj{c d:Nat}:remLen (c::d::r)=if c=41 then 1 else if c=92/\d=41 then remLen r+2 else remLen (d::r)+1:=by rw[remLen]
def CA(j:Nat)(n:Int):Den MF:=aG (bF j) λa=>aG (aj (.int n)) λb=>aG (ef fC a b) (cY j)
def uv(i j:Nat):Den MF:=fq (ifD (aG (aG (bF i) λa=>aG (hV "str" a) λx=>aG (dF (aj (MV.str [92,41])) (dF (bF j) λst=>some ([],st))) λvs=>cp (dI fE) (a::vs)) dk) (fq (CA j 2) (bM .next))
 (fq (ifD (gZ o0 (aG (bF i) λa=>aG (bF j) λb=>lZ a b) (aj (MV.str [41]))) (fq (CA j 1) (fq (bM .brk) (bM .next))) (fq (CA j 1) (bM .next))) (bM .next))) (bM .next)
theorem qu{p:Nat}{Q:MF->LS->Prop}(m:At ρ i (.str J8))(b:At ρ j (.int (p:Int)))(hk:At ρ k (.int (J8.length:Int)))(g:i≠j)(f:k≠j)(hl:J8.length<=100000)(hp:p<=J8.length)
  (kk:Q .next ⟨ρ.set j (some (.int ((p+remLen (J8.drop p):Nat):Int))),mh⟩):Wp (dq (gZ lj (bF j) (bF k)) (uv i j) (bM .next) NN) ⟨ρ,mh⟩ Q:=by
 have l:J8.length<=16777216:=by lia
 refine bN (σ:=Nat) (λq s=>q<=J8.length/\q+remLen (J8.drop q)=p+remLen (J8.drop p)/\s=LS.mk (ρ.set j (some (.int (q:Int)))) mh) (λq=>J8.length-q) ?_ NN p _ ?_ ?_
 ·rintro q _⟨hq,hb,rfl⟩
  have o:At (ρ.set j (some (.int (q:Int)))) i (.str J8):=uH m b g;have a:At (ρ.set j (some (.int (q:Int)))) j (.int (q:Int)):=vi b;have n:At (ρ.set j (some (.int (q:Int)))) k (.int (J8.length:Int)):=uH hk b f;cbv;refine⟨λh=>?_,λh=>?_⟩
  ·simp at h
   cbv;rw[f6 h]at hb;have e:p+remLen (J8.drop p)=q:=by simpa[remLen]using hb.symm
   rw[e]at kk;exact kk
  ·simp at h
   obtain⟨c,r,hd⟩:∃c r,J8.drop q=c::r:=⟨_,_,e9 h⟩;have h1:=aM hd;rw[hd]at hb;unfold uv CA;cbv;rw[b9,hd,h1.1];cases r with
   |nil=>
    refine wp_pick_f (by simp) ?_;cbv;refine aI (λh=>?_) (λh=>?_)
    ·cbv
     refine eT (kl a) ?_;cbv;show Q _ _;rw[kt];have e:p+remLen (J8.drop p)=q+1:=by simpa[remLen]using hb.symm
     rw[e]at kk;exact kk
    ·cbv
     refine eT (kl a) ?_;cbv;exact⟨q+1,⟨h1.2,by rw[h1.1];simpa[remLen]using hb,by rw[kt]⟩,by lia⟩
   |cons d r=>
    have h2:=aM h1.1;rw[cj]at hb;by_cases hx:c=92/\d=41
    ·obtain⟨rfl,rfl⟩:=hx
     refine wp_pick_t (by simp) ?_;cbv;refine eT (kl a) ?_;cbv;refine⟨q+2,⟨h2.2,?_,by rw[kt]⟩,by lia⟩;rw[h2.1];simp at hb;lia
    ·refine wp_pick_f (by simpa using hx) ?_
     cbv;refine aI (λh=>?_) (λh=>?_)
     ·cbv
      refine eT (kl a) ?_;cbv;show Q _ _;rw[kt];have h:c=41:=by simpa using h
      have e:p+remLen (J8.drop p)=q+1:=by rw[dt h]at hb;lia
      rw[e]at kk;exact kk
     ·cbv
      refine eT (kl a) ?_;cbv;have h:¬c=41:=by simpa using h
      rw[cw h,cw hx]at hb;exact⟨q+1,⟨by lia,by rw[h1.1];lia,by rw[kt]⟩,by lia⟩
 ·exact⟨hp,rfl,by rw[qq b]⟩
 ·rw[de];lia
def H1(J8:List Nat)(mh:List MO)(m:Nat)(v:List Nat)(o:BOut)(f:MF)(s:LS):Prop:=match o with
 |.eof=>∃i j,f=.ret (.ref i)/\mh<+:s.mh/\s.mh[i]?=some (.tuple [.str v,.int (m:Int),.ref j])/\s.mh[j]?=some (.tuple [.str eofKey.1,.str eofKey.2])
 |.close=>∃i,f=.ret (.ref i)/\mh<+:s.mh/\s.mh[i]?=some (.tuple [.str v,.int ((m+1:Nat):Int),.none])
 |.blank=>∃KA oc b a,f=.next/\s=LS.mk [some (.str J8),some (.int ((m+1:Nat):Int)),some .none,some (.int (J8.length:Int)),oc,some (.str v),b,a] KA/\mh<+:KA
 |.bad=>∃KA oc b a,f=.next/\s=LS.mk [some (.str J8),some (.int ((m+1:Nat):Int)),some .none,some (.int (J8.length:Int)),oc,some .none,b,a] KA/\mh<+:KA
noncomputable def BE:Option (List Nat)->MV
 |.none=>.none
 |.some l=>.str l
def H2(mh:List MO)(E:MV):Option (List Nat×List Nat)->Prop
 |.none=>E=.none
 |.some a=>∃j,E=.ref j/\mh[j]?=some (.tuple [.str a.1,.str a.2])
theorem B1(hK:HK G P):∃J9,Con G 4 670 J9/\∀(J8:List Nat)(p:Nat)(mh:List MO)(v:Option (List Nat))(k:Nat)(e:Option (List Nat×List Nat)),J8.length<=100000->p<=J8.length->UrlR (J8.drop p) v k e->
  bG (J9 [.str J8,.int (p:Int)] mh) λr KA=>mh<+:KA/\∃i E,r=.ref i/\KA[i]?=some (.tuple [BE v,.int ((p+k:Nat):Int),E])/\H2 KA E e:=by
 obtain⟨a5,c1,h1⟩:=jt hK;run_tac wcon
 intro J8 p mh v k e hl hp hI;have a4:J8.length<=16777216:=by lia
 cbv;refine eM (i:=0) (j:=1) .head (.tail .head) (by decide) hl hp λz L=>?_;show Wp _ ⟨[some _,some _,some _,some _,none,none,none,none],_⟩ _;cbv;have hq:p+brun (J8.drop p)<=J8.length:=by
  have :=fM (J8.drop p);rw[ea]at this;lia
 have t:J8.drop (p+brun (J8.drop p))=(J8.drop p).drop (brun (J8.drop p)):=by rw[eo]
 cases hI with
 |none h=>
  rw[h]at t;have :=ed List.length t;simp at this;refine wp_pick_t (by simp;lia) ?_;cbv;exact⟨aT (aT L _) _,_,_,rfl,aW,_,rfl,ag aW⟩
 |@close0 r h=>
  rw[h]at t;have :=aM t;refine wp_pick_f (by simp;lia) ?_;cbv;exact⟨aT (aT L _) _,_,_,rfl,aW,rfl⟩
 |@body c r v k o w n e hh hc hB hA=>
  rw[hh]at t;have al:=aM t;generalize a7:p+brun (J8.drop p)=q at hq t al⊢;refine wp_pick_f (by simp;lia) ?_;cbv;refine wp_pick_f (by simp at hc⊢;lia) ?_;cbv;refine wp_pick_f (by simp at hc⊢;lia) ?_;cbv;have ak:mh<+:z++[MO.tuple [MV.str [34],MV.str [39]]]++[MO.list []]:=aT (aT L _) _;have T:(z++[MO.tuple [MV.str [34],MV.str [39]]]++[MO.list []])[(z++[MO.tuple [MV.str [34],MV.str [39]]]).length]?=some (.list (([]:List (List Nat)).map MV.str)):=aW;have A:mh.length<=(z++[MO.tuple [MV.str [34],MV.str [39]]]).length:=(aT L _).length_le;generalize(z++[MO.tuple [MV.str [34],MV.str [39]]]).length=r0 at T A⊢;generalize z++[MO.tuple [MV.str [34],MV.str [39]]]++[MO.list []]=av at ak T⊢;rw[<-t]at hB;refine aQ (Q':=H1 J8 mh (q+k) v o) ?_ ?_
  ·refine bN (σ:=Nat) (λl s=>l<=J8.length/\∃(KA:List MO)(a:Nat)(ls:List (List Nat))(oc:Option MV)(v':List Nat)(k':Nat),s=LS.mk [some (.str J8),some (.int (l:Int)),some .none,some (.int J8.length),oc,none,some (.ref r0),some (.int (a:Int))] KA/\mh<+:KA/\KA[r0]?=some (.list (ls.map .str))/\a<=l/\BodyR (J8.drop l) v' k' o/\l+k'=q+k/\ls.flatten++(J8.drop a).take (l-a)++v'=v/\ls.length<=2*l) (λl=>J8.length-l) ?_ NN q _ ?_ ?_
   ·clear t al hc hA
    have ay:=hB.le;rw[ea]at ay;rintro l _ ⟨a8,KA,a,ls,oc,v',k',rfl,d,B,ao,hI,hk,Q,aA⟩;cbv;refine⟨λhb=>by simp at hb,λ_=>?_⟩;cbv;cases hd:J8.drop l with
    |nil=>
     have hn:=ed List.length hd;simp at hn;refine wp_pick_t (by simp;lia) ?_;cbv;rw[hd]at hI;cases hI;have e1:(ls++[List.take (l-a) (List.drop a J8)]).flatten=v:=by rw[<-Q];simp
     rw[cW];refine ah (i5 (bW B) (by rw[e1];lia)) ?_;rw[e1];cbv;have e2:l=q+k:=by lia
     rw[e2];exact⟨_,_,rfl,aT (aT (bV d A _) _) _,aW,ag aW⟩
    |cons c' r'=>
     have y:=aM hd;refine wp_pick_f (by simp;lia) ?_;cbv;have aD:ls.flatten.length+(List.take (l-a) (List.drop a J8)).length+v'.length=v.length:=by rw[<-Q];simp[k4]
     rw[hd]at hI;cases hI with
     |close=>
      cbv;have e1:(ls++[List.take (l-a) (List.drop a J8)]).flatten=v:=by rw[<-Q];simp
      rw[cW];refine ah (i5 (bW B) (by rw[e1];lia)) ?_;rw[e1];cbv;have e2:l=q+k:=by lia
      rw[e2];exact⟨_,rfl,aT (bV d A _) _,aW⟩
     |blank g=>
      refine wp_pick_f (by simp[isBl]at g⊢;lia) ?_;cbv;refine wp_pick_t (by simp[isBl]at g⊢;lia) ?_;cbv;have e1:(ls++[List.take (l-a) (List.drop a J8)]).flatten=v:=by rw[<-Q];simp
      rw[cW];refine ah (i5 (bW B) (by rw[e1];lia)) ?_;rw[e1];cbv;have e2:l=q+k:=by lia
      rw[e2];exact⟨_,_,_,_,rfl,rfl,bV d A _⟩
     |bad g=>
      have J:c'≠41/\c'≠32/\c'≠10/\c'≠9/\c'≠92:=by
       refine⟨?_,?_,?_,?_,?_⟩<;>(rintro rfl;revert g;decide)
      refine wp_pick_f (by simp;lia) ?_;cbv;refine wp_pick_f (by simp;lia) ?_;cbv;refine wp_andK_f (by simp;lia) ?_;cbv;refine wp_pick_t g ?_;cbv;have e2:l=q+k:=by lia
      rw[e2];exact⟨_,_,_,_,rfl,rfl,d⟩
     |@esc _ C D _ J g2=>
      cbv;refine wp_pick_t ?_ ?_
      ·rw[b9,hd,y.1,J];rfl
      cbv;have a6:r'.length+(l+1)=J8.length:=by
       have :=ed List.length y.1;simp at this;lia
      refine aE (h1 J8 (l+1) _ hl (by lia)) ?_;rintro _ aj ⟨M,i,rfl,hi⟩;rw[y.1]at hi;have am:aj[r0]?=some (.list ((ls++[List.take (l-a) (List.drop a J8)]).map .str)):=by
       rw[<-cW];exact aO M (bW B)
      have a3:((ls++[List.take (l-a) (List.drop a J8)]).map MV.str).length<=16777216:=by simp;lia
      cbv;rw[cW];have :=dS r';refine⟨l+1+(escOf r').2,⟨by lia,_,l+1+(escOf r').2,_,_,C,D,rfl,bV ((bV d A _).trans M) A _,bW am,ep _,?_,by lia,?_,by simp;lia⟩,by lia⟩
      ·have :J8.drop (l+1+(escOf r').2)=(J8.drop (l+1)).drop (escOf r').2:=by rw[eo]
       rw[this,y.1];exact g2
      ·rw[<-Q];simp
     |@rawNl _ C D _ J g2=>
      cbv;refine wp_pick_f ?_ ?_
      ·rw[b9,hd,y.1,J];rfl
      cbv;refine⟨l+1,⟨by lia,KA,a,ls,_,C,D,rfl,d,B,by lia,by rw[y.1];exact g2,by lia,?_,by lia⟩,by lia⟩;rw[iq ao hd,<-Q];simp
     |@raw _ _ C D _ J g2=>
      simp[isBl]at J;refine wp_pick_f (by simp[J]) ?_;cbv;refine wp_pick_f (by simp[J]) ?_;cbv;refine wp_andK_f (by simp[J]) ?_;cbv;refine wp_pick_f (by simp[J]) ?_;cbv;refine⟨l+1,⟨by lia,KA,a,ls,_,C,D,rfl,d,B,by lia,by rw[y.1];exact g2,by lia,?_,by lia⟩,by lia⟩;rw[iq ao hd,<-Q];simp
   ·exact⟨hq,av,q,[],_,v,k,rfl,ak,T,ep _,hB,rfl,by simp,by simp⟩
   ·rw[de];lia
  ·intro f s Y
   have a1:=hB.le.1;rw[ea]at a1;have an:J8.drop (q+k)=(c::r).drop k:=by rw[<-t,eo]
   rw[<-an]at hA;have az:p+(brun (J8.drop p)+k+n)=q+k+n:=by lia
   rw[az];generalize q+k=m at hA Y an⊢;cases hx:J8.drop m with
   |nil=>
    rw[hx]at hA;cases hA;obtain⟨i,j,rfl,x,U,a0⟩:=Y;obtain⟨as,au⟩:=s;cbv;exact⟨x,_,_,rfl,U,_,rfl,a0⟩
   |cons c2 r2=>
    have H:=aM hx;rw[hx]at hA;have x:m+1+brun (J8.drop (m+1))<=J8.length:=by
     have :=fM (J8.drop (m+1));rw[ea]at this;lia
    have u:J8.drop (m+1+brun (J8.drop (m+1)))=r2.drop (brun r2):=by rw[<-H.1,eo]
    cases hA with
    |close=>
     obtain⟨i,rfl,x,U⟩:=Y;obtain⟨as,au⟩:=s;cbv;exact⟨x,_,_,rfl,U,rfl⟩
    |bad=>
     obtain⟨KA,oc,O,N,rfl,rfl,d⟩:=Y;cbv;refine qu (i:=0) (j:=1) (k:=3) .head (.tail .head) (.tail (.tail (.tail .head))) (by decide) (by decide) hl (by lia) ?_;show Wp _ ⟨[some _,some _,some _,some _,_,_,_,_],_⟩ _;cbv;rw[H.1,k4];exact⟨aT (aT d _) _,_,_,rfl,aW,_,rfl,ag aW⟩
    |blank0 g=>
     obtain⟨KA,oc,O,N,rfl,rfl,d⟩:=Y;cbv;refine eM (i:=0) (j:=1) .head (.tail .head) (by decide) hl (by lia) λai I=>?_;show Wp _ ⟨[some _,some _,some _,some _,_,some _,_,_],_⟩ _;cbv;rw[g]at u;generalize hb:m+1+brun (J8.drop (m+1))=b at u x⊢;have he:m+(1+brun r2)=b:=by rw[<-H.1];lia
     have V:=ed List.length u;simp at V;refine wp_pick_f (by simp;lia) ?_;cbv;rw[he];exact⟨aT (aT (d.trans I) _) _,_,_,rfl,aW,_,rfl,ag aW⟩
    |blank1 g=>
     obtain⟨KA,oc,O,N,rfl,rfl,d⟩:=Y;cbv;refine eM (i:=0) (j:=1) .head (.tail .head) (by decide) hl (by lia) λai I=>?_;show Wp _ ⟨[some _,some _,some _,some _,_,some _,_,_],_⟩ _;cbv;rw[g]at u;generalize hb:m+1+brun (J8.drop (m+1))=b at u x⊢;have he:m+(1+brun r2)=b:=by rw[<-H.1];lia
     have V:=aM u;refine wp_pick_t (by simp;lia) ?_;cbv;have a2:m+(1+brun r2+1)=b+1:=by lia
     rw[a2];exact⟨aT (d.trans I) _,_,_,rfl,aW,rfl⟩
    |blank2 g g2=>
     obtain⟨KA,oc,O,N,rfl,rfl,d⟩:=Y;cbv;refine eM (i:=0) (j:=1) .head (.tail .head) (by decide) hl (by lia) λai I=>?_;show Wp _ ⟨[some _,some _,some _,some _,_,some _,_,_],_⟩ _;cbv;rw[g]at u;generalize hb:m+1+brun (J8.drop (m+1))=b at u x⊢;have he:m+(1+brun r2)=b:=by rw[<-H.1];lia
     have V:=aM u;refine wp_pick_t (by simp;lia) ?_;cbv;refine wp_pick_f (by simpa using g2) ?_;cbv;refine qu (i:=0) (j:=1) (k:=3) .head (.tail .head) (.tail (.tail (.tail .head))) (by decide) (by decide) hl (by lia) ?_;show Wp _ ⟨[some _,some _,some _,some _,_,some _,_,_],_⟩ _;cbv;rw[u,<-k4,he];exact⟨aT (aT (d.trans I) _) _,_,_,rfl,aW,_,rfl,ag aW⟩
noncomputable def cQ(c:Nat):Nat:=if 65<=c/\c<=90 then c+32 else c
theorem vE(a b:Nat):(!decide (([b]:List Nat)<[a]))=decide (a<=b):=by
 have :(([b]:List Nat)<[a])↔b<a:=by
  constructor
  ·intro h
   cases h with
   |rel h=>exact h
   |cons h=>cases h
  ·intro h;exact .rel h
 by_cases h:b<a
 ·rw[g6 (this.mpr h),f3 (by lia)];rfl
 ·rw[f3 (λq=>h (this.mp q)),g6 (by lia)];rfl
noncomputable def mj(f:Nat->Nat):MV->MV
 |.str [c]=>.str [f c]
 |v=>v
theorem tD(f:Nat->Nat)(l:List Nat):(dH l).map (mj f)=(l.map λc=>[f c]).map MV.str:=by
 simp[dH,mj]
theorem nO(f:Nat->Nat)(l:List Nat):(l.map λc=>[f c]).flatten=l.map f:=by
 induction l with
 |nil=>rfl
 |cons a l b=>simp[b]
theorem gX(hK:HK G P):∃J9,Con G 1 26 J9/\∀(l:List Nat)(mh:List MO),l.length<=100000->
  bG (J9 [.str l] mh) λr KA=>r=.str (l.map cQ)/\mh<+:KA:=by
 run_tac wcon
 intro l mh hl;have a:l.length<=16777216:=by lia
 cbv;refine xO (items:=dH l) (f:=mj cQ) (λv mh b=>?_) (by simp[dH];lia) (λo=>?_)
 ·obtain⟨c,hc,rfl⟩:=nb.mp b
  cbv;rw[vE,vE];refine aI (λhb=>?_) (λhb=>?_)
  ·simp at hb
   cbv;simp[mj,cQ,hb]
  ·cbv
   simp at hb;have :¬(65<=c/\c<=90):=by lia
   simp[mj,cQ,this]
 ·cbv
  rw[tD];refine ah (i5 (ls:=l.map λc=>[cQ c]) aW (by rw[nO];simp;lia)) ?_;cbv;rw[nO];exact⟨rfl,eh _ _⟩
variable{KH:Scope}{prog:Program}
inductive QE(x:Str):PySem.Expr->(Nat->List Nat)->Prop
 |name{p:_}:QE x (.Name x p) (λc=>[c])
 |str{k l kk p:_}:SignsOf k l->QE x (.Constant (.str k) kk p) (λ_=>l)
 |ite{r e f g k a kk p1 p2 p3 p4:_}:SignsOf k [a]->QE x r f->QE x e g->QE x (.IfExp (.Compare (.Name x p1) [.Eq] [.Constant (.str k) kk p2] p3) r e p4) (λc=>if c=a then f c else g c)
theorem QE.run{w:World}{x:Str}{e:PySem.Expr}{f:Nat->List Nat}(h:QE x e f)(hk:env.scope.kind=.function)(hx:env.kindOf x=some .local)(hdb:(x==("__debug__":Str))=false){c:Nat}{t:Tok}{m:Str->Option Value}(hm:m x=some (.str ⟨#[c]⟩ t)):
  ∀{A:Around}{s:Shared}{Q:Value->Shared->Prop}{E:Value->Shared->Prop},s.heap.Ns env.locals m->(∀u tk,s.toks<=tk->Q (.str ⟨(f c).toArray⟩ u) {s with toks:=tk})->wpAny (model prog w) A (eval e env) Q E s:=by
 induction h with
 |name=>
  intro A s Q E b d;exact Ja (x3 hk hx b hm (d _ _ (ep _))) hdb
 |str hl=>
  intro A s Q E b d;rw[hl];exact I5 (d _ _ (nl _))
 |@ite r e f g k a kk p1 p2 p3 p4 ha h1 h2 l j=>
  intro A s Q E b d;refine IfExp_ (Je (Ja (x3 hk hx b hm (I5 (PySem.P.eq_str (xt ?_)))) hdb) rfl);rw[ha];by_cases hc:c=a
  ·subst hc
   have e1:((⟨#[c]⟩:Str)==(⟨([c]:List Nat).toArray⟩:Str))=true:=by simp
   simp only[ti,I0]at d⊢;exact l b λu tk i=>d u tk (ml (nl _) i)
  ·simp only[cw hc]at d
   have e1:((⟨#[c]⟩:Str).cps.toList==(⟨([a]:List Nat).toArray⟩:Str).cps.toList)=false:=by simpa using hc
   rw[e1];exact j b λu tk i=>d u tk (ml (nl _) i)
section
variable{G:Glo}{names:List Str}{φ:List Addr}{xs:List (Addr×Obj)}{st:LS}{h0a h h':Heap}{L:Addr}
theorem b7.keeps(sim:b7 G names φ xs st h0a L h)(hk:∀b o,h.get? b=some o->h'.get? b=some o):b7 G names φ xs st h0a L h':=by
 obtain⟨m,objs,F,N,c,a,le,d⟩:=sim;exact⟨m,objs,F.keeps hk,λp hp=>⟨hk _ _ (N p hp).1,(N p hp).2⟩,c,a,le,d⟩
theorem vx{l:List α}{a:α}(h:l[i]?=some a):l.set i a=l:=by
 obtain⟨hl,rfl⟩:=fd.mp h;exact I9 hl
theorem b7.grow(sim:b7 G names φ xs st h0a L h){P:Addr}{ps:Array Value}{es}(hφ:φ[j]?=some P)(hm:st.mh[j]?=some (.dict es))(hk:∀b o,b≠P->h.get? b=some o->h'.get? b=some o)
  (i:h'.get? P=some (tabObj ps))(f:TriplesOk ps.toList):b7 G names φ xs st h0a L h':=by
 obtain⟨a,o,ha,g,k,_⟩:=sim.obj hm;obtain rfl:P=a:=ec (hφ.symm.trans ha);have c:=Heap.get?_update_self (h:=h) (λ_=>tabObj ps) g rfl;have d:=sim.change (mo':=.dict es) (fd.mp hm).1 hφ (Heap.SameBut.update ..) c ⟨ps,rfl,f⟩;rw[vx hm]at d;refine d.keeps λb o' e=>?_;by_cases hb:b=P
 ·subst hb
  rw[c]at e;cases e;exact i
 ·exact hk b o' hb ((Heap.get?_update_other _ _ (Ne.symm hb)).symm.trans e)
end
def vl(G:Glo)(KH:Scope)(x:Str)(KY:PySem.Expr)(f:Nat->List Nat):Prop:=
 ∀(env:Env)(A:Around)(s:Shared)(m:Str->Option Value)(c:Nat)(t:Tok)(Q:Value->Shared->Prop)(E:Value->Shared->Prop),env.scope=KH->env.globals=mainGlobals->G.K.In s.heap->TopRead G.p G.loose G.mg G.mb s.heap->
  s.heap.Ns env.locals m->m x=some (.str ⟨#[c]⟩ t)->(∀u tk,s.toks<=tk->Q (.str ⟨(f c).toArray⟩ u) {s with toks:=tk})->wpAny (model G.prog G.w) A (eval KY env) Q E s
theorem QE.ok{G:Glo}{x:Str}{f:Nat->List Nat}(h:QE x KY f)(hk:KH.kind=.function)(hx:KH.names.lookup x=some .local)(hdb:(x==("__debug__":Str))=false):vl G KH x KY f:=
 λenv A s m c t Q E es b _ _ a hm k=>h.run (by rw[es];exact hk) (fJ es hx) hdb hm a k
section
variable{G:Glo}{sc:Scope}{names:List Str}{n:Nat}
theorem zD{L:Addr}{h0a:Heap}{φ:List Addr}{xs:List (Addr×Obj)}{st:LS}{Q:Value->Shared->Prop}{c P:Addr}{es:List (List Nat×MV)}{x y:Str}{f:Nat->List Nat}{gp:Pos}{t:Tok}
  (ok:Fok G n sc env L h0a A)(sim:Sim G names φ xs st h0a L s)(O:env.code=.ref c)(hC:CodeHd h0a c P)(hφ:φ[j]?=some P)(hm:st.mh[j]?=some (.dict es))
  (lo:LocalsOk sc names)(hy:Ix names y i)(hl:st.ρ[i]?=some (some (.str l)))(hE:vl G scope x KY f)(hco:scope.isCoroutine=false)(hcl:closureFor scope env=pure [])(hcell:∀y∈scope.names,y.2≠.cell)
  (h0:scope.names.lookup (".0":Str)=some NameKind.local)(hx:scope.names.lookup x=some .local)(hdb:(x==("__debug__":Str))=false)(hkind:scope.kind=.function)(hs:∀x,genFold (.Name y py) env x=pure x)
  (aX:l.length<=1000000)(aR:(l.map f).flatten.length<=16777216)
  (k:∀t' C,Sim G names φ xs st h0a L C->Same s C->Q (.str ⟨(l.map f).flatten.toArray⟩ t') C):
  wpAny G.M A (eval (.GeneratorExp KY [⟨.Name x px,.Name y py,[],0⟩] scope gp) env) (λv as=>wpAny G.M A (call (.builtin "str.join") [.str ⟨([]:List Nat).toArray⟩ t,v]) Q NoE as) NoE s:=by
 refine dU sim.2 ?_;obtain⟨aM,a8⟩:=lo.at hy;obtain⟨m,objs,F,N,nd,oh,le,lr⟩:=sim.1;obtain⟨o',aJ,hr⟩:=lr.1.get hy.get;rw[aJ]at hl;obtain rfl:=ec hl;obtain⟨v',aK,tl,rfl⟩:=hr;obtain⟨aP,oP,aT,a3,⟨ps,rfl,Y⟩,bj⟩:=sim.1.obj hm;obtain rfl:P=aP:=ec (hφ.symm.trans aT);have a7:A.depth<recursionLimit:=by have :=ok.depth;show A.depth<1000;lia
 obtain⟨bm,ob,M⟩:=ok.bm;have ag:P<s.heap.objs.size:=ry a3;have ak:=ok.top.nolimit;refine wpAny_GeneratorExp_walksQD ok.hnd hco hcl hcell h0 hx hkind a7 (Ja (x3 (ok.scope▸ok.kind) (fJ ok.scope aM) (ok.loc.symm▸F.ns) aK (wpAny_pyIter_str λo St W hst=>?_)) a8) hs;have av:b7 G names φ xs st h0a L (s.heap.push o):=sim.1.push o;have z:(s.heap.push o).get? P=some (tabObj ps):=y0 o a3;have F2:=F.push o;have ao:=hC.keeps F2.keep;refine⟨ak.keeps F2.keep,?_⟩;have tail:∀(code:Value)(B:Heap)(U:Nat)(V:Array Value),(∀b o',b≠P->(s.heap.push o).get? b=some o'->B.get? b=some o')->B.get? P=some (tabObj V)->TriplesOk V.toList->(s.heap.push o).objs.size<=B.objs.size->
   wpAny G.M A (builtinsFor env.globals env.builtins) (λbi d=>
    ∃I fp wr p P T pz F,(Value.ref s.heap.objs.size)=.ref I/\(∀A':Around,A'.handled=none->Walks G.prog G.w A' I fp wr p P T)/\T 0 d.heap/\(∀b∈fp,b<d.heap.objs.size)/\d.heap.NoLimit/\cStatics∉wr/\
     (∀D:Heap,(∀b o,d.heap.get? b=some o->D.get? b=some o)->
      QuietGenD G.prog G.w (genEnv scope [] d.heap.objs.size code bi env) x [] KY (List.range d.heap.objs.size) wr P pz F D (A.depth+1) (A.units+8))/\
     (∀a r tk gs,gs.bare=true->d.heap.objs.size<a->r.objs.size=a+1->(∀b o,d.heap.get? b=some o->r.get? b=some o)->
      WalksS G.prog G.w A.in4 a (a::d.heap.objs.size::List.range d.heap.objs.size) (d.heap.objs.size::wr) (GenOnlyQ d.gens.size) (passing pz p 0).length
       (λj y=>∃i,(passing pz p 0)[j]?=some i/\F i y) (GenAt G.prog G.w A.in4 a d.gens.size d.heap.objs.size (List.range d.heap.objs.size) wr pz p F)->
      GenAt G.prog G.w A.in4 a d.gens.size d.heap.objs.size (List.range d.heap.objs.size) wr pz p F 0 {d with gens:=d.gens.push gs,toks:=tk,heap:=r}->
      1<=tk->wpAny G.M A (call (.builtin "str.join") [.str ⟨([]:List Nat).toArray⟩ t,.ref a]) Q NoE {d with gens:=d.gens.push gs,toks:=tk,heap:=r})) NoE {s with heap:=B,toks:=U}:=by
  intro code B U V al aB az a1;have a5:s.heap.objs.size<B.objs.size:=by rw[Heap.size_push]at a1;lia
  have au:b7 G names φ xs st h0a L B:=av.grow hφ hm al aB az;obtain⟨m3,aG,F3,N3,_⟩:=au;have M3:=M.keeps F3.keep;rw[ok.glob];refine wpAny_builtinsFor M3.ns M3.name M3.ne M3.obj M3.cls M3.dict M3.data ?_;have a2:St 0 B:=(W A ok.hnd).frame 0 _ _ hst λb hb o' e=>al b o' (by rw[h9.mp hb];exact Nat.ne_of_gt ag) e;have a4:=ak.keeps F3.keep;refine⟨s.heap.objs.size,[s.heap.objs.size],[s.heap.objs.size],_,_,St,(λ_=>true),(λi y=>∃c u,l[i]?=some c/\y=.str ⟨(f c).toArray⟩ u),rfl,W,a2,?_,a4,?_,?_,?_⟩
  ·intro b hb
   rw[h9.mp hb];exact a5
  ·intro hb
   obtain⟨_,aj,_⟩:=ak.keeps F.keep;have :=aj.lt;rw[h9.mp hb]at this;exact o4 _ this
  ·intro D ai
   refine⟨λA' E' i v ab ay _ _ _ _ _ _ _=>p5 ⟨rfl,_,_,rfl,λ_ _ e=>e⟩,λA' E' i v ab ay _ _ _ aV _ aj aL aN=>?_⟩;obtain⟨cc,u,an,rfl⟩:=aV;have aa:∀b o',h0a.get? b=some o'->ab.heap.get? b=some o':=λb o' e=>by
    have e1:=F.keep b o' e;have e3:=F3.keep b o' e;refine aN b (y1.mpr (ry e3)) ?_ o' (ai b o' e3);intro hmem;rw[h9.mp hmem]at e1;exact o4 _ (ry e1)
   refine hE (genEnv scope [] B.objs.size code builtinsNs env) _ _ _ cc _ _ _ rfl ok.glob (ok.inK.keeps aa) (ok.top.keeps aa) aj aL λu' tk bg=>⟨⟨cc,u',by simpa using an,rfl⟩,_,_,rfl,λ_ _ e=>e⟩
  ·intro a h5 tk gs hgb aA a0 a6 W5 aS htk
   refine dU htk ?_;have W6:=W5.in4_2;have E:passing (λ_=>true) (⟨l.toArray⟩:Str).cps.size 0=List.range l.length:=by simp[passing]
   have H:(passing (λ_=>true) (⟨l.toArray⟩:Str).cps.size 0).length=l.length:=by rw[E];simp
   refine SC.joinGen W6 (λi C KG=>KG.1.typeIs) aS ?_ wo (λi v hv=>?_) (λC lt J af=>?_) (by rw[H,JW];lia)
   ·intro b hb
    show b<h5.objs.size;rw[a0];rcases l9.mp hb with rfl|hb
    ·exact Ir _
    ·rcases l9.mp hb with rfl|hb
     ·exact Jj aA
     ·exact Jj (Nat.lt_trans (y1.mp hb) aA)
   ·obtain⟨_,_,cc,u,_,rfl⟩:=hv
    exact⟨_,_,rfl⟩
   ·have q:lt.map (·.1)=(l.map f).map λx=>(⟨x.toArray⟩:Str):=by
     have hsz:lt.length=l.length:=by have :=af.1;rw[H]at this;simpa[strValues]using this
     apply JM;intro j;by_cases hj:j<lt.length
     ·have hv:=af.2 j (.str lt[j].1 lt[j].2) (by simp[strValues,fg hj])
      obtain⟨i',am,cc,u,an,e⟩:=hv;rw[E]at am;have aQ:j=i':=by
       have :=List.getElem?_range (n:=l.length) (i:=j) (by lia);rw[this]at am;exact ec am
      subst aQ;injection e with e1 _;simp only[I4,fg hj,an,yL,e1]
     ·rw[nh (by simpa using Nat.le_of_not_lt hj),nh (by simp;lia)]
    rw[q];refine⟨vM _ aR,λt' kk=>?_⟩;rw[vN];intro aa;have ae:∀b,b<s.heap.objs.size->b∉[B.objs.size,s.heap.objs.size]:=λb hb hmem=>by
     rcases l9.mp hmem with rfl|hmem
     ·lia
     ·rw[h9.mp hmem]at hb;exact o4 _ hb
    have aO:∀b o',b≠P->s.heap.get? b=some o'->C.heap.get? b=some o':=λb o' hb e=>J.heap b o' (ae b (ry e)) (a6 b o' (al b o' hb (y0 o e)));have aU:C.heap.get? P=some (tabObj V):=J.heap P _ (ae P ag) (a6 P _ aB);refine k t' _ ⟨sim.1.grow hφ hm aO aU az,aa⟩ ⟨J.drawn,J.os,?_⟩;rcases J.gens with h|⟨⟨h1,h2⟩,B⟩
    ·refine⟨[gs],?_,λg hg=>by rw[h9.mp hg];exact hgb⟩
     show C.gens=_;rw[h];simp
    ·have be:C.gens.size=s.gens.size+1:=by rw[h1];simp
     have hy:C.gens[s.gens.size]?=some (C.gens[s.gens.size]'(by lia)):=Array.getElem?_eq_getElem _;refine⟨[C.gens[s.gens.size]'(by lia)],?_,λg hg=>by rw[h9.mp hg];exact B _ hy⟩;show C.gens=_;apply Array.ext_getElem?;intro j;by_cases hj:j=s.gens.size
     ·subst hj;rw[hy];simp
     ·rw[h2 j hj]
      rcases rb j s.gens.size with q|hge
      ·rw[Array.getElem?_append_left q,Array.getElem?_push_lt q,Array.getElem?_eq_getElem q]
      ·rw[Array.getElem?_eq_none (by simp;lia),Array.getElem?_eq_none (by simp;lia)]
 cases a9:codeAmong gp ps.toList with
 |some c'=>exact wpAny_genexprCode_hit O (ao.code z Y) a9 (tail c' _ s.toks ps (λ_ _ _ e=>e) z Y (ep _))
 |none=>
  refine wpAny_genexprCodeX O (ao.code z Y) (ao.tab z) a9 λc' B U aH hge q aC _ ah _=>?_;refine tail _ B U _ (λb o' hb e=>aH b o' hb e) ah.2 (by rw[JF];exact TriplesOk_snoc _ _ _ _ Y) (ml hge (Nat.le_of_lt q))
end
variable{F:Nat->List Nat}
structure FunAtC(G:Glo)(f c:Addr)(params:Arguments)(body:List Stmt)(scope:Scope)(dV:Value):Prop where
 ex:∃oc od osl name qual kV doc pm an ct,G.K.lookup f=some ⟨oc,od,.func (fnOf name qual params body scope dV kV doc pm an (.ref c) ct),osl⟩/\codeIn G.K (.ref c) qual=true
noncomputable def zX{α:Type}(a:Option α):Option MO->Option α
 |some (.dict _)=>a
 |_=>none
def eQ(j:Nat)(f:Nat->List Nat):Spec:=λvs mh=>sL (onStr λl=>zX (if l.length<=1000000/\(l.map f).flatten.length<=16777216 then some (.str (l.map f).flatten,mh)else none) (mh[j]?:Option MO)) vs
theorem A2{f:Nat->List Nat}{r:MV}{a:List Value}(h:eQ j f vs mh=some (r,KA))(d:All2 (VR φ) vs a):
  ∃(l:List Nat)(b:Tok)(es:List (List Nat×MV)),a=[.str ⟨l.toArray⟩ b]/\mh[j]?=some (.dict es)/\l.length<=1000000/\(l.map f).flatten.length<=16777216/\r=.str (l.map f).flatten/\KA=mh:=by
 unfold eQ at h;refine eN h d λv v' e c=>bj e c λl b e=>?_;revert e;cases hm:mh[j]? with
 |none=>intro e;exact nos e
 |some x=>
  cases x with
  |dict es=>
   intro e;obtain⟨hl,e⟩:=ifs e;cases e;exact⟨l,b,es,rfl,rfl,hl.1,hl.2,rfl,rfl⟩
  |_=>intro e;exact nos e
theorem vg{f c P:Addr}{p1 p2 p3 p4:Pos}{ks:Nat}{i x y:Str}{C:Pos}
  (hf:FunAtC G f c params body scope dV)(hb:body=[.Return (some (.Call (.Attribute (.Constant (.str i) ks p1) "join" p2) [.GeneratorExp KY [⟨.Name x px,.Name y py,[],0⟩] KH C] [] p3)) p4])(hsep:SignsOf i [])
  (hline:(p2.endLine==p3.line)=true)(hbase:eO (.Constant (.str i) ks p1) "join")(hst:uR (.GeneratorExp KY [⟨.Name x px,.Name y py,[],0⟩] KH C))(hE:vl G KH x KY F)(hs:ScopeOk scope [y] [y])(hp:dp params body scope dV [y])(hφ:G.φ0[j]?=some P)(hC:∀h,G.K.In h->CodeHd h c P)
  (hco:KH.isCoroutine=false)(hcl:∀env,closureFor KH env=pure [])(hcell:∀y∈KH.names,y.2≠.cell)
  (h0:KH.names.lookup (".0":Str)=some NameKind.local)(hx:KH.names.lookup x=some .local)(hdb:(x==("__debug__":Str))=false)(hkind:KH.kind=.function)(hfold:∀env v,genFold (.Name y py) env v=pure v):Con G (n+1) f (eQ j F):=by
 intro ao KF a st w vs r KA aj R sm hv ai k;subst hb;obtain⟨oc,od,osl,name,qual,kV,doc,pm,an,ct,hK,u⟩:=hf.ex;obtain⟨l,tv,es,rfl,hm,t,s,rfl,rfl⟩:=A2 ai hv;obtain⟨m,objs,Fh,N,nd,oh,le,lr⟩:=sm.1;have ok:=a.ok;obtain⟨A0a,base,KT,B,hA⟩:=ok.below (x6 _);have X:=sm.inK;have cell:∀x∈scope.names,x.2≠.cell:=λx hx=>go (gb.mp hs.cell x hx);refine callX_plain (cl:=[]) (binds:=[(y,.str ⟨l.toArray⟩ tv)]) B Fh N ok.top.nolimit hA (ok.frame (x6 _)) a.fn (X _ _ hK) rfl (codeRec_of X u) (by have :=ok.depth;show a.A.depth<1000;lia)
  (BindsTo.of_eq (hp name qual kV doc pm an (.ref c) ct [_] rfl)) (λz hz=>?_) (λg d I Fg F' N' B' KG lt=>?_) cell hs.co hs.gen hs.kind
 ·rw[h9.mp hz]
  exact(hs.lo.at .head).1
 ·have J:w.φ[j]?=some P:=aO lr.2 hφ
  have ag:Fok G n scope (envX qual scope d f (.ref c) []) d g (a.A.deeper (envX qual scope d f (.ref c) [])):=qU ok hs.kind cell B' hA KG;have D:b7 G [y] w.φ a.xs ⟨[some (.str l)],st.mh⟩ g d I:=by
   refine⟨_,objs,F',N',nd,oh,le,.cons ⟨.str ⟨l.toArray⟩ tv,?_,tv,rfl⟩ .nil,lr.2⟩;show List.lookup y [(y,_)]=_;simp[List.lookup]
  refine wpAny_execs_cons (J2 (IH ?_));have M:starEach [PySem.Expr.GeneratorExp KY [⟨.Name x px,.Name y py,[],0⟩] KH C] (envX qual scope d f (.ref c) [])=[(false,eval (PySem.Expr.GeneratorExp KY [⟨.Name x px,.Name y py,[],0⟩] KH C) (envX qual scope d f (.ref c) []))]:=hst [] _;have O:((backTo p3 (starEach [PySem.Expr.GeneratorExp KY [⟨.Name x px,.Name y py,[],0⟩] KH C] (envX qual scope d f (.ref c) []))).all (λx=>!x.1)&&(backToKw p3 (keywordEach [] (envX qual scope d f (.ref c) []))).all (λx=>x.1.isSome)
    &&decide (([PySem.Expr.GeneratorExp KY [⟨.Name x px,.Name y py,[],0⟩] KH C]).length+([]:List Keyword).length+(if([]:List Keyword).isEmpty then 0 else 1)<30))=true:=by
   rw[M];rfl
  refine JV (T:="str") (id:="str.join") ?_ ?_ ?_ ?_ ?_ ?_ ?_
  ·exact hbase _ _
  ·exact O
  ·exact hline
  ·exact sg
  ·exact PySem.F.slot_str_join
  ·exact PySem.F.type_str_join
  refine I5 ?_;refine⟨I6 _ _ _,(λ_ e=>by cases e),?_⟩;rw[M];refine Ji (by rfl) (bZ (by rfl) (spliced_cons ?_));rw[hsep];refine x5 (zD ag (Sim.tk1 ⟨D,ml sm.2 (tj _ _)⟩) rfl (hC g (ok.inK.keeps KG)) J hm hs.lo .head rfl hE hco (hcl _) hcell h0 hx hdb hkind (hfold _) t s (Q:=λv s'=>LeaveK a.h0a a.L m g R v s') λt' al E k2=>?_) (λv ak h3=>spliced_nil h3) λ_ _ e=>e;obtain⟨⟨H,b,aa,V,p,o,q,ah⟩,tk2⟩:=E;exact⟨d,H,_,aa,V,λY U=>k ⟨_,w.φ⟩ _ ⟨la,k2,⟨m,b,Y,U,p,o,q,lr.1,lr.2⟩,tk2⟩ ⟨_,rfl⟩⟩
theorem Fn{x g:Str}{d:Addr}{o:Obj}{es:Array DictEntry}{q:Nat}{f:Nat->List Nat}{p1 p2 p3 p4 l:Pos}(hk:KH.kind=.function)(hx:KH.names.lookup x=some .local)(hdb:(x==("__debug__":Str))=false)
  (hg:KH.names.lookup g=some .globalImplicit)(hgb:(g==("__debug__":Str))=false)(hgv:nsIn G.K mainGlobals g=some (some (.ref d)))(hd:G.K.lookup d=some o)(hds:(d==sysModules)=false)(hex:o.ExactDict)(hdt:o.data=.dict es q)(hnd:o.dict=none)
  (hky:KeysOf (strKind G.prog G.w) es)(hf:∀c t,∃u,(findBy (strKind G.prog G.w).is es (⟨#[c]⟩:Str)).getD (.str ⟨#[c]⟩ t)=.str ⟨(f c).toArray⟩ u)
  (hbase:eO (.Name g p1) "get")(hline:(p2.endLine==l.line)=true)(hst:∀env,starEach [PySem.Expr.Name x p3,PySem.Expr.Name x p4] env=[(false,eval (.Name x p3) env),(false,eval (.Name x p4) env)]):
  vl G KH x (.Call (.Attribute (.Name g p1) "get" p2) [.Name x p3,.Name x p4] [] l) f:=by
 intro env A s m c t Q E b n X T j hm k;have i:env.scope.kind=.function:=by rw[b];exact hk
 refine JV (T:="dict") (id:="dict.get") (hbase _ _) ?_ hline PySem.F.plainAttrs_dict PySem.F.slot_dict_get PySem.F.type_dict_get ?_
 ·rw[hst];rfl
 refine J5 i (fJ b hg) (loadGlobal_global (n.symm▸T.g) (mg_of X T.g hgv) ?_) hgb;have p:=X d o hd;have h:s.heap.MapOf (strKind G.prog G.w) d (findBy (strKind G.prog G.w).is es):=⟨o,es,q,p,hex,hdt,hky,λ_=>rfl⟩;refine⟨h.typeIs,λa e=>by cases e;exact⟨o,p,hnd⟩,?_⟩;rw[hst];show wpAny _ _ (callWith l (.builtin "dict.get") [.ref d] [(false,_),(false,_)] []) _ _ _;refine wpAny_dict_get2 (knd:=strKind G.prog G.w) hds ?_;refine Ja (x3 i (fJ b hx) j hm (Ja (x3 i (fJ b hx) j hm ?_) hdb)) hdb;obtain⟨u,r⟩:=hf c t;refine⟨⟨#[c]⟩,_,yz [c] t,h,?_⟩;rw[r];exact k u _ (nl _)
noncomputable def zE(K:Frag)(f:Addr):Option (Arguments×List Stmt×Scope×Value×Addr):=match K.lookup f with
 |some ⟨_,_,.func ⟨name,qual,params,.stmts body,scope,globals,a,dV,kV,doc,pm,an,.ref c,ct,b⟩,_⟩=>
  bif Nat.beq globals mainGlobals&&(a.isEmpty&&(Nat.beq b builtinsNs&&codeIn K (.ref c) qual)) then some (params,body,scope,dV,c) else none
 |_=>none
theorem ou{K:Frag}{f c:Addr}(hK:G.K=K)(e:zE K f=some (params,body,scope,dV,c)):FunAtC G f c params body scope dV:=by
 subst hK;unfold zE at e;cases hk:G.K.lookup f with
 |none=>rw[hk]at e;exact nos e
 |some o=>
  rw[hk]at e;obtain⟨oc,od,n,osl⟩:=o;cases n;case func m=>
   obtain⟨name,qual,b,bd,g,globals,d,p,kV,doc,pm,an,cdv,ct,q⟩:=m;cases bd;case stmts h=>
    cases cdv;case ref r=>
     obtain⟨hc,a⟩:=Ch e;rw[fi,fi,fi]at hc;obtain⟨h1,h0,h2,i⟩:=hc;have k:=I8 h1;have j:=I8 h2;have l:=List.isEmpty_iff.mp h0;clear e;subst k j l;injection a with e1 a;injection a with e2 a;injection a with e3 a;injection a with e4 e5;subst e1 e2 e3 e4 e5;exact⟨_,_,_,_,_,_,_,_,_,_,hk,i⟩
    all_goals exact nos e
   all_goals exact nos e
  all_goals exact nos e
noncomputable def ic:List (List Nat):=[[49,101],[45,45],[117],[117,43,49],[92,54,49],[97,92],[64],[35],[45],[43],[46],[117,43],[60,33],[60],[124],[126],[49],[117,43,49,63],[117,43,49,45,50],[34,120,34],[117,114,108,40,120,41],[47,42,42,47],[102,40,120,41],[91],[53,37],[32],[47],[64,97],[35,98],[120],[42],[117,114,108,40,97,34,92,41],[117,43,49,50,51,52,53,54],[46,53],[49,101,51],[50,101,51,101],[34,121],[117,114,108,40,32],[93],[49,69],[60,33,45,45],[35,92,50,32],[36],[94],[124,124],[85],[117,43,49,50,51,52,53],[33],[10],[],[47,42],[117,43,49,45,50,51,52,53,54],[45,45,62],[64,45],[49,45],[117,43,49,45],[49,46],[45,46],[60,33,45],[49,46,53],[64,45,45],[43,49,92,54],[117,114,108,40,97,32,98,41]]
theorem zl(hK:HK G P):∃J9,Con G 1 684 J9/\∀mh:List MO,J9 [] mh=some (.ref mh.length,mh++[.list (ic.map .str)]):=by
 run_tac wcon
 intro mh;refine i9 ?_;cbv;cbv;exact⟨rfl,rfl⟩
noncomputable def dW:List (List Nat):=[[43,53],[62],[63],[97],[45],[32],[46,53],[92,50],[92,10],[40],[45,45,120],[61],[124],[42],[33,45,45],[37],[10],[101,53],[34],[47,42],[41],[43,63],[45,50],[55],[233],[35],[64],[46],[43],[],[45,62],[45,45],[103]]
theorem tc(hK:HK G P):∃J9,Con G 1 691 J9/\∀mh:List MO,J9 [] mh=some (.ref mh.length,mh++[.list (dW.map .str)]):=by
 run_tac wcon
 intro mh;refine i9 ?_;cbv;exact⟨rfl,rfl⟩
noncomputable def dZ:List (List Nat):=[[97,32],[49],[41],[34],[40],[45],[43],[47,42],[42,47],[92,54,32],[117,114,108,40],[35],[64],[123],[125],[91],[93],[117],[46],[101],[60],[33],[124],[58],[59],[63],[37],[10],[39],[61],[98]]
theorem tq(hK:HK G P):∃J9,Con G 1 698 J9/\∀mh:List MO,J9 [] mh=some (.ref mh.length,mh++[.list (dZ.map .str)]):=by
 run_tac wcon
 intro mh;refine i9 ?_;cbv;exact⟨rfl,rfl⟩
variable{zs:List Int}{Kj:Option PySem.Expr}
def SL(G:Glo)(l:Addr)(zs:List Int):Prop:=zs.length<=16777216/\∀h,G.pre h->∃vs:Array Value,h.IsList l vs/\∀φ,All2 (VR φ) (zs.map MV.int) vs.toList
theorem SL.at{l:Addr}(e:SL G l zs){st:LS}(b:W c names st w):
  ∃vs:Array Value,w.s.heap.IsList l vs/\(∀φ,All2 (VR φ) (zs.map MV.int) vs.toList)/\zs.length=vs.size:=by
 obtain⟨vs,hL,a⟩:=e.2 c.h0a c.ok.pre;obtain⟨o,d,hc⟩:=hL;have :=(a []).len;exact⟨vs,⟨o,b.keep _ _ d,hc⟩,a,by simpa using this⟩
noncomputable def onS{α:Type}(l:Addr)(o:Option α):MV->Option α
 |.sref a=>if a=l then o else none
 |_=>none
theorem mF{l:Addr}{o:Option α}{a:MV}{r:α}(h:onS l o a=some r)(b:VR φ a a'):a'=.ref l/\o=some r:=by
 cases a with
 |sref c=>
  obtain⟨rfl,h1⟩:=qE h;exact⟨b,h1⟩
 |_=>exact nos h
noncomputable def uZ(l:Addr)(zs:List Int)(a:MV):Den Bool:=λst=>(onS l (some (!zs.isEmpty)) a).map (·,st)
theorem Go{l:Addr}{x:Str}(o:SL G l zs)(lo:LocalsOk sc names)(q:Ix names x i)(r:Gb (.Name x px)):SemT G sc names n (.Name x px) (aG (bF i) (uZ l zs)):=by
 intro c st w K Q p hd k;refine isTrue_plain (zU lo q c st w _ _ p (wB hd) λa KD w1a a' j d m=>?_) (r _ _);obtain⟨b,e,hk⟩:=wO (g:=λ_=>onS l (some (!zs.isEmpty)) a) j;obtain⟨rfl,e⟩:=mF e m;cases e;obtain⟨vs,hL,s,f⟩:=o.at d.sim;refine J0 (items:=vs) hL (by have :=o.1;lia) ?_;have :vs.isEmpty=zs.isEmpty:=by
  cases zs with
  |nil=>simpa [Array.isEmpty]using f.symm
  |cons _ _=>simp[Array.isEmpty];intro h;simp[h]at f
 rw[this];exact k _ _ ⟨_,w1a.φ⟩ hk d.tk2
def tJ(l:Addr)(zs:List Int)(a:MV):MV->Option MV:=j8 λi=>onS l (if ssz i=true then((seqIndex? i zs.length).bind λk=>zs[k]?).map MV.int else none) a
def yy(l:Addr)(zs:List Int)(a b:MV):Den MV:=λst=>(tJ l zs a b).map (·,st)
theorem G2{l:Addr}{x:Str}{e:PySem.Expr}(N:SL G l zs)(lo:LocalsOk sc names)(M:Ix names x i)(hs:kh e)(s:SemE G sc names n e d):
  SemE G sc names n (.Subscript (.Name x px) e pos) (aG (bF i) λa=>aG d λb=>yy l zs a b):=by
 intro c st w K Q E hd k;refine Js (zU lo M c st w _ _ E (wB hd) λa KD w1a a' p m r=>s c KD w1a _ _ m.sim (wB p) λb KI f b' o h q=>?_);obtain⟨v,e,hk⟩:=wO (g:=λ_=>tJ l zs a b) o;refine dO e q λix u e=>?_;obtain⟨rfl,e⟩:=mF e r;obtain⟨H,e⟩:=qE e;obtain⟨z,A,e⟩:=h8.mp e;cases e;obtain⟨j,L,I⟩:=Iz.mp A;obtain⟨D,C⟩:=pU H;obtain⟨vs,hL,B,t⟩:=N.at h.sim;obtain⟨y,hw,J⟩:=(B f.φ).get (i:=j) (a:=.int z) (by rw[I4,I];rfl);exact ot hL hs D C (by rw[Jd,<-t];exact L) hw (k _ _ f y hk (m.trans h) J)
theorem All2.take{R:α->β->Prop}:∀{l:List α}{m:List β},All2 R l m->∀k:Nat,All2 R (l.take k) (m.take k):=by
 intro l m q;induction q with
 |nil=>intro k;rw[yd,yd];exact .nil
 |cons a b c=>
  intro k;cases k with
  |zero=>exact .nil
  |succ k=>exact .cons a (c k)
section
variable{ρ:List (Option MV)}{mh:List MO}
theorem j7{l:Addr}{o:Option α}:onS l o (.sref l)=o:=dt rfl
theorem vn{l:Addr}(q:QB (!zs.isEmpty) ⟨ρ,mh⟩):Wp (uZ l zs (.sref l)) ⟨ρ,mh⟩ QB:=⟨_,_,ed (Option.map _) j7,q⟩
theorem qe{l:Addr}{i:Int}{z:Int}(b:ssz i=true)(hk:seqIndex? i zs.length=some k)(a:zs[k]?=some z)(q:QV (.int z) ⟨ρ,mh⟩):Wp (yy l zs (.sref l) (.int i)) ⟨ρ,mh⟩ QV:=by
 have e:tJ l zs (.sref l) (.int i)=some (.int z):=j7.trans (by rw[dt b,hk,v4,a,yL]);exact⟨_,_,ed (Option.map (·,(⟨ρ,mh⟩:LS))) e,q⟩
theorem vy(n:Nat):seqIndex? 0 (n+1)=some 0:=by
 unfold seqIndex?;simp
theorem qr(n:Nat):seqIndex? (-1) (n+1)=some n:=by
 unfold seqIndex?;simp;lia
end
structure TextOk(l:List Nat):Prop where
 len:l.length<=40
 signs:∀c∈l,c≠0/\c≠12/\c≠13/\c<=1114111
 back:∀i,l[i]?=some 92->l[i+1]?≠some 92
noncomputable def okB(l:List Nat):Bool:=decide (l.length<=40)&&l.all (λc=>c !=0&&c !=12&&c !=13&&decide (c<=1114111))&&(List.range l.length).all (λi=>!(l[i]?==some 92&&l[i+1]?==some 92))
theorem pt(h:okB l=true):TextOk l:=by
 unfold okB at h;rw[fi,fi]at h;obtain⟨⟨h1,h2⟩,e⟩:=h;refine⟨go h1,λc hc=>?_,λi b d=>?_⟩
 ·have :=gb.mp h2 c hc
  simp at this;exact⟨this.1.1.1,this.1.1.2,this.1.2,this.2⟩
 ·have a:i<l.length:=(fd.mp b).1
  have :=gb.mp e i (y1.mpr a);rw[b,d]at this;simp at this
theorem vc:∀l∈ic,TextOk l/\l.length<=10:=λl hl=>by
 have h:=gb.mp (show ic.all (λl=>okB l&&decide (l.length<=10))=true by decide+kernel) l hl;rw[fi]at h;exact⟨pt h.1,go h.2⟩
theorem vv:∀l∈dW,TextOk l/\l.length<=10:=λl hl=>by
 have h:=gb.mp (show dW.all (λl=>okB l&&decide (l.length<=10))=true by decide+kernel) l hl;rw[fi]at h;exact⟨pt h.1,go h.2⟩
theorem wH:∀l∈dZ,TextOk l/\l.length<=10:=λl hl=>by
 have h:=gb.mp (show dZ.all (λl=>okB l&&decide (l.length<=10))=true by decide+kernel) l hl;rw[fi]at h;exact⟨pt h.1,go h.2⟩
theorem TextOk.app{p:List Nat}(h:TextOk l)(hp:TextOk p)(d:l.length+p.length<=40)(hb:¬(l[l.length-1]?=some 92/\p[0]?=some 92)):TextOk (l++p):=by
 refine⟨by rw[g8];exact d,λc hc=>?_,λi b a=>?_⟩
 ·rcases j2.mp hc with hc|hc
  ·exact h.signs c hc
  ·exact hp.signs c hc
 ·by_cases h1:i+1<l.length
  ·rw[n6 (by lia)]at b
   rw[n6 h1]at a;exact h.back i b a
  ·by_cases h2:i<l.length
   ·rw[n6 h2]at b
    rw[q0 (by lia)]at a;have e:i=l.length-1:=by lia
    have e2:i+1-l.length=0:=by lia
    rw[e2]at a;rw[e]at b;exact hb ⟨b,a⟩
   ·rw[q0 (by lia)]at b a
    rw[show i+1-l.length=i-l.length+1 by lia]at a;exact hp.back _ b a
theorem qJ(z:Int)(h:0<n):∃k:Nat,k<n/\z.fmod (n:Int)=(k:Int):=by
 have h2:=Int.emod_nonneg z (b:=(n:Int)) (by lia);have a:=Int.emod_lt_of_pos z (b:=(n:Int)) (by lia);obtain⟨k,hk⟩:=ov h2;rw[J7 z (ky n),hk];rw[hk]at a;exact⟨k,by lia,rfl⟩
theorem ww(hK:HK G P):CH G 1:=by
 apply B3 (n:=0) (hf:=nK hK ?e) (hb:=?b);case e=>exact rfl
 case b=>exact rfl
 ·repeat(first|exact DT.nil|apply DT.cons)
 ·exact⟨⟨by decide+kernel,by decide+kernel⟩,⟨[],rfl⟩,by decide+kernel,rfl,rfl,rfl⟩
 ·exact plainly0 λ_ _ _ _ _ _ _ _=>rfl
theorem item_last{r:Nat}(h:mh[r]?=some (.list (xs++[v])))(hl:xs.length<=1000000):d3 mh (.ref r) (.int (-1))=some v:=by
 show(match mh[r]? with|some (.list xs)|some (.tuple xs)=>if ssz (-1)then(seqIndex? (-1) xs.length).bind λk=>xs[k]? else none|_=>none)=_;rw[h];have a:ssz (-1)=true:=by decide
 have hq:seqIndex? (-1) (xs++[v]).length=some xs.length:=by
  unfold seqIndex?;simp;lia
 simp only[a,I0,hq,v4];simp
theorem oq{y:MV}{r:Nat}{Q:MV->List MO->Prop}(h:mh[r]?=some (.list (xs++[y])))(hl:xs.length<=1000000)(q:Q y (mh.set r (.list xs))):bG (DE [.ref r] mh) Q:=by
 refine cB (a:=y) (b:=mh.set r (.list xs)) ?_ q;exact(ed (listAt _) h).trans ((dt (by rw[g8,List.length_singleton];lia)).trans (by simp))
noncomputable def eK(S:List Nat):List MV:=S.reverse.map λc=>.str [c]
theorem fu(c:Nat)(S:List Nat):eK (c::S)=eK S++[.str [c]]:=by
 simp[eK]
theorem eJ(S:List Nat):(eK S).length=S.length:=by simp[eK]
theorem w8(hK:HK G P):∀h,G.K.In h->CodeHd h 40 36:=by
 intro h X;rw[hK]at X;exact⟨_,_,_,_,_,_,_,_,_,X 40 _ rfl,rfl,rfl,rfl,rfl,rfl,rfl,rfl,rfl,by decide⟩
theorem w9(hK:HK G P):∀h,G.K.In h->CodeHd h 33 29:=by
 intro h X;rw[hK]at X;exact⟨_,_,_,_,_,_,_,_,_,X 33 _ rfl,rfl,rfl,rfl,rfl,rfl,rfl,rfl,rfl,by decide⟩
theorem xx(h:Con G n a (eQ j F))(hl:∀c,(F c).length<=3):∃F:Nat->List Nat,Con G n a (eQ j F)/\∀c,(F c).length<=3:=⟨F,h,hl⟩
theorem tf(hK:HK G P)(hφ:G.φ0[0]?=some 36):∃F:Nat->List Nat,Con G 5 41 (eQ 0 F)/\∀c,(F c).length<=3:=by
 apply xx;case h=>
  apply vg (n:=4) (hφ:=hφ) (hC:=w8 hK);case hf=>
   apply ou hK;exact rfl
  case hb=>exact rfl
  case hsep=>exact rfl
  case hline=>exact rfl
  case hbase=>exact λ_ _=>rfl
  case hst=>exact λ_ _=>rfl
  case hE=>
   apply QE.ok;case h=>repeat(first|exact QE.name|(apply QE.ite;(first|exact rfl|exact Fast.ofString_ofList _))|(apply QE.str;exact rfl))
   case hk=>exact rfl
   case hx=>exact rfl
   case hdb=>exact rfl
  case hs=>exact⟨⟨by decide+kernel,by decide+kernel⟩,⟨[],rfl⟩,by decide+kernel,rfl,rfl,rfl⟩
  case hp=>exact plainly1 λ_ _ _ _ _ _ _ _ _=>rfl
  case hco=>exact rfl
  case hcl=>exact λ_=>rfl
  case hcell=>decide+kernel
  case h0=>exact rfl
  case hx=>exact rfl
  case hdb=>exact rfl
  case hkind=>exact rfl
  case hfold=>exact λ_ _=>rfl
 case hl=>
  intro c;have key:∀(p:Prop) [Decidable p](a b:List Nat),a.length<=3->b.length<=3->(if p then a else b).length<=3:=λp _ a b ha hb=>by split<;>assumption
  repeat(first|(refine key _ _ _ (by decide+kernel) ?_)|exact(by decide:1<=3))
noncomputable def ur(c:Nat):List Nat:=if c=34 then[92,34]else if c=92 then[92,92]else if c=10 then[92,65,32]else if c=13 then[92,68,32]else if c=12 then[92,67,32]else[c]
theorem yA{w:World}{l:List DictEntry}(h:∀e∈l,∃x t,e.key=.str x t/\e.hash=PyData.keyHash w.params x):KeysOf (strKind prog w) l.toArray:=by
 intro e a;obtain⟨x,t,e1,e2⟩:=h e (by simpa using a);refine⟨x,?_,e2⟩;rw[e1];show PySem.Value.isStrOf x (.str x t)=true;simp[PySem.Value.isStrOf]
theorem DB(a c:Nat)(t:Tok):PySem.Value.isStrOf (⟨#[c]⟩:Str) (.str (⟨#[a]⟩:Str) t)=decide (c=a):=by
 show((⟨#[a]⟩:Str)==(⟨#[c]⟩:Str))=decide (c=a);rw[hH,ly,Iy];constructor
 ·intro h
  injection h with h;have :a=c:=by simpa using h
  exact this.symm
 ·intro h;rw[h]
theorem rt{P:Str->Value->Bool}(l:List DictEntry)(k:Str):findBy P l.toArray k=(l.find? λe=>P k e.key).map (·.val):=by
 unfold findBy;rw[List.find?_toArray]
theorem gT(h:Int)(a c:Nat)(t:Tok)(v:Value)(l:List DictEntry):((⟨h,.str (⟨#[a]⟩:Str) t,v⟩::l).find? λe=>PySem.Value.isStrOf (⟨#[c]⟩:Str) e.key).map (·.val)=if c=a then some v else(l.find? λe=>PySem.Value.isStrOf (⟨#[c]⟩:Str) e.key).map (·.val):=by
 rw[List.find?_cons];show Option.map _ (match PySem.Value.isStrOf (⟨#[c]⟩:Str) (.str (⟨#[a]⟩:Str) t)with|true=>_|false=>_)=_;rw[DB];by_cases h:c=a
 ·rw[g6 h,dt h];rfl
 ·rw[f3 h,cw h]
theorem yB{h1 h2 g h4 f:Int}{e d t3 b a u1 u2 u3 u4 u5:Tok}(c:Nat)(t:Tok):
  ∃u,(findBy PySem.Value.isStrOf #[⟨h1,.str (⟨#[34]⟩:Str) e,.str (⟨#[92,34]⟩:Str) u1⟩,⟨h2,.str (⟨#[92]⟩:Str) d,.str (⟨#[92,92]⟩:Str) u2⟩,⟨g,.str (⟨#[10]⟩:Str) t3,.str (⟨#[92,65,32]⟩:Str) u3⟩,⟨h4,.str (⟨#[13]⟩:Str) b,.str (⟨#[92,68,32]⟩:Str) u4⟩,⟨f,.str (⟨#[12]⟩:Str) a,.str (⟨#[92,67,32]⟩:Str) u5⟩] (⟨#[c]⟩:Str)).getD (.str (⟨#[c]⟩:Str) t)=.str (⟨(ur c).toArray⟩:Str) u:=by
 rw[rt,gT,gT,gT,gT,gT];unfold ur;by_cases e1:c=34
 ·rw[dt e1,dt e1];exact⟨u1,rfl⟩
 rw[cw e1,cw e1];by_cases e2:c=92
 ·rw[dt e2,dt e2];exact⟨u2,rfl⟩
 rw[cw e2,cw e2];by_cases e3:c=10
 ·rw[dt e3,dt e3];exact⟨u3,rfl⟩
 rw[cw e3,cw e3];by_cases e4:c=13
 ·rw[dt e4,dt e4];exact⟨u4,rfl⟩
 rw[cw e4,cw e4];by_cases e5:c=12
 ·rw[dt e5,dt e5];exact⟨u5,rfl⟩
 rw[cw e5,cw e5];exact⟨t,rfl⟩
theorem tg(hK:HK G P)(e:P=G.w.params)(hφ:G.φ0[1]?=some 29):∃F:Nat->List Nat,Con G 5 34 (eQ 1 F)/\∀c,(F c).length<=3:=by
 apply xx (F:=ur);case h=>
  apply vg (n:=4) (hφ:=hφ) (hC:=w9 hK);case hf=>
   apply ou hK;exact rfl
  case hb=>exact rfl
  case hsep=>exact rfl
  case hline=>exact rfl
  case hbase=>exact λ_ _=>rfl
  case hst=>exact λ_ _=>rfl
  case hE=>
   apply Fn (d:=27);case hk=>exact rfl
   case hx=>exact rfl
   case hdb=>exact rfl
   case hg=>exact rfl
   case hgb=>exact rfl
   case hgv=>rw[hK];kernel_rfl
   case hd=>rw[hK];exact rfl
   case hds=>decide+kernel
   case hex=>exact⟨rfl,rfl,rfl⟩
   case hdt=>exact rfl
   case hnd=>exact rfl
   case hky=>
    subst e;exact yA (KeysLit.all ⟨⟨_,_,rfl,rfl⟩,⟨_,_,rfl,rfl⟩,⟨_,_,rfl,rfl⟩,⟨_,_,rfl,rfl⟩,⟨_,_,rfl,rfl⟩,trivial⟩)
   case hf=>exact λc t=>yB c t
   case hbase=>exact λ_ _=>rfl
   case hline=>exact rfl
   case hst=>exact λ_=>rfl
  case hs=>exact⟨⟨by decide+kernel,by decide+kernel⟩,⟨[],rfl⟩,by decide+kernel,rfl,rfl,rfl⟩
  case hp=>exact plainly1 λ_ _ _ _ _ _ _ _ _=>rfl
  case hco=>exact rfl
  case hcl=>exact λ_=>rfl
  case hcell=>decide+kernel
  case h0=>exact rfl
  case hx=>exact rfl
  case hdb=>exact rfl
  case hkind=>exact rfl
  case hfold=>exact λ_ _=>rfl
 case hl=>
  intro c;unfold ur;have key:∀(p:Prop) [Decidable p](a b:List Nat),a.length<=3->b.length<=3->(if p then a else b).length<=3:=λp _ a b ha hb=>by split<;>assumption
  repeat(first|(refine key _ _ _ (by decide+kernel) ?_)|exact(by decide:1<=3))
noncomputable def tWhite:List Nat:=[119,104,105,116,101,115,112,97,99,101]
noncomputable def tURange:List Nat:=[117,110,105,99,111,100,101,45,114,97,110,103,101]
noncomputable def tLit:List Nat:=[108,105,116,101,114,97,108]
noncomputable def tIdent:List Nat:=[105,100,101,110,116]
noncomputable def tUrl:List Nat:=[117,114,108]
noncomputable def tError:List Nat:=[101,114,114,111,114]
noncomputable def tFunc:List Nat:=[102,117,110,99,116,105,111,110]
noncomputable def tDim:List Nat:=[100,105,109,101,110,115,105,111,110]
noncomputable def tPct:List Nat:=[112,101,114,99,101,110,116,97,103,101]
noncomputable def tNum:List Nat:=[110,117,109,98,101,114]
noncomputable def tAt:List Nat:=[97,116,45,107,101,121,119,111,114,100]
noncomputable def tHash:List Nat:=[104,97,115,104]
noncomputable def tCurly:List Nat:=[123,125,32,98,108,111,99,107]
noncomputable def tSquare:List Nat:=[91,93,32,98,108,111,99,107]
noncomputable def tParen:List Nat:=[40,41,32,98,108,111,99,107]
noncomputable def tString:List Nat:=[115,116,114,105,110,103]
noncomputable def tComment:List Nat:=[99,111,109,109,101,110,116]
noncomputable def vL:List Nat:=[98,97,100,45,115,116,114,105,110,103]
noncomputable def p8:List Nat:=[101,111,102,45,105,110,45,115,116,114,105,110,103]
set_option genInjectivity true in
inductive Told where
 |one(v:MV)
 |tup(vs:List MV)
inductive Op where
 |stay
 |push(c:Nat)
 |pop
structure TokO where
 rows:List (List Nat×Told)
 len:Nat
 op:Op
def ez:Nat->List Nat->List Nat×Nat
 |0,_=>([],0)
 |_+1,[]=>([],0)
 |n+1,c::r=>
  if isNm c=true then(c::(ez n r).1,(ez n r).2+1)
  else if c=92 then(if r.head?=some 10 then([],0) else((escOf r).1::(ez n (r.drop (escOf r).2)).1,1+(escOf r).2+(ez n (r.drop (escOf r).2)).2))
  else([],0)
theorem y7(n:Nat)(l:List Nat)(h:l.length<=n):IdentR l (ez n l).1 (ez n l).2:=by
 induction n generalizing l with
 |zero=>
  obtain rfl:l=[]:=on.mp (by lia);exact .nil
 |succ n d=>
  cases l with
  |nil=>exact .nil
  |cons c r=>
   have e:r.length<=n:=by simpa using h
   unfold ez;by_cases hb:isNm c=true
   ·rw[dt hb];exact .name hb (d r e)
   ·rw[cw hb]
    have a:isNm c=false:=by simpa using hb
    by_cases hc:c=92
    ·subst hc
     rw[dt rfl];by_cases b:r.head?=some 10
     ·rw[dt b]
      exact .stop a (by rw[b];rfl)
     ·rw[cw b]
      exact .esc (by simpa using b) (d _ (by rw[ea];lia))
    ·rw[cw hc]
     refine .stop a ?_;rw[show(c==92)=false by simpa using hc];rfl
def aC(l:List Nat):List Nat×Nat:=ez l.length l
theorem bq(l:List Nat):IdentR l (aC l).1 (aC l).2:=y7 _ _ (ep _)
def d6:Nat->List Nat->List Nat×Nat×BOut
 |0,_=>([],0,.eof)
 |_+1,[]=>([],0,.eof)
 |n+1,c::r=>
  if c=41 then([],0,.close)
  else if isBl c=true then([],0,.blank)
  else if c=92 then(if r.head?=some 10 then(c::(d6 n r).1,(d6 n r).2.1+1,(d6 n r).2.2)
   else((escOf r).1::(d6 n (r.drop (escOf r).2)).1,1+(escOf r).2+(d6 n (r.drop (escOf r).2)).2.1,(d6 n (r.drop (escOf r).2)).2.2))
  else if badSigns.contains c=true then([],0,.bad)
  else(c::(d6 n r).1,(d6 n r).2.1+1,(d6 n r).2.2)
theorem B7(n:Nat)(l:List Nat)(h:l.length<=n):BodyR l (d6 n l).1 (d6 n l).2.1 (d6 n l).2.2:=by
 induction n generalizing l with
 |zero=>
  obtain rfl:l=[]:=on.mp (by lia);exact .eof
 |succ n b=>
  cases l with
  |nil=>exact .eof
  |cons c r=>
   have e:r.length<=n:=by simpa using h
   unfold d6;by_cases h1:c=41
   ·subst h1;rw[dt rfl];exact .close
   rw[cw h1];by_cases h2:isBl c=true
   ·rw[dt h2];exact .blank h2
   rw[cw h2];by_cases d:c=92
   ·subst d
    rw[dt rfl];by_cases a:r.head?=some 10
    ·rw[dt a];exact .rawNl a (b r e)
    ·rw[cw a];exact .esc (by simpa using a) (b _ (by rw[ea];lia))
   rw[cw d];by_cases h4:badSigns.contains c=true
   ·rw[dt h4];exact .bad h4
   rw[cw h4];refine .raw ?_ (b r e);rw[mm.mpr h2,mm.mpr h4,show(c==41)=false by simpa using h1,show(c==92)=false by simpa using d];rfl
def gc(l:List Nat):List Nat×Nat×BOut:=d6 l.length l
theorem qV(l:List Nat):BodyR l (gc l).1 (gc l).2.1 (gc l).2.2:=B7 _ _ (ep _)
def EC(l:List Nat):BOut->Prop
 |.eof=>l=[]
 |.close=>∃r,l=41::r
 |.blank=>∃c r,l=c::r
 |.bad=>∃c r,l=c::r
theorem BodyR.fin{v:List Nat}{o:BOut}(h:BodyR l v k o):EC (l.drop k) o:=by
 induction h with
 |eof=>rfl
 |@close r=>exact⟨r,rfl⟩
 |@blank c r _=>exact⟨c,r,rfl⟩
 |@bad c r _=>exact⟨c,r,rfl⟩
 |@esc r v k o _ _ a=>
  rw[eo]at a;rw[show 1+(escOf r).2+k=(escOf r).2+k+1 by lia];exact a
 |raw _ _ a=>exact a
 |rawNl _ _ a=>exact a
abbrev AX:=Option (List Nat×List Nat)
def gC(n:Nat)(v:List Nat):List Nat->Option (List Nat)×Nat×AX
 |[]=>(some v,1+n,some eofKey)
 |d::t=>if d=41 then(some v,1+n+1,none)else(none,1+n+remLen (d::t),some badKey)
def fo(l:List Nat)(v:List Nat):BOut->Option (List Nat)×Nat×AX
 |.eof=>(some v,0,some eofKey)
 |.close=>(some v,1,none)
 |.bad=>(none,1+remLen (l.drop 1),some badKey)
 |.blank=>gC (brun (l.drop 1)) v ((l.drop 1).drop (brun (l.drop 1)))
theorem AN{v:List Nat}{o:BOut}(h:EC l o):AfterR l o v (fo l v o).1 (fo l v o).2.1 (fo l v o).2.2:=by
 cases o with
 |eof=>
  obtain rfl:l=[]:=h;exact .eof
 |close=>
  obtain⟨r,rfl⟩:=h;exact .close
 |bad=>
  obtain⟨c,r,rfl⟩:=h;exact .bad
 |blank=>
  obtain⟨c,r,rfl⟩:=h;show AfterR (c::r) .blank v (gC (brun r) v (r.drop (brun r))).1 (gC (brun r) v (r.drop (brun r))).2.1 (gC (brun r) v (r.drop (brun r))).2.2;cases hd:r.drop (brun r)with
  |nil=>exact .blank0 hd
  |cons d t=>
   have e:gC (brun r) v (d::t)=if d=41 then(some v,1+brun r+1,none) else(none,1+brun r+remLen (d::t),some badKey):=rfl;rw[e];by_cases a:d=41
   ·subst a;rw[dt rfl];exact .blank1 hd
   ·rw[cw a];exact .blank2 hd (by simpa using a)
def eG(l:List Nat):Option (List Nat)×Nat×AX:=
 match l.drop (brun l)with
 |[]=>(some [],brun l,some eofKey)
 |c::r=>if c=41 then(some [],brun l+1,none) else
  let b:=gc (c::r);let a:=fo ((c::r).drop b.2.1) b.1 b.2.2;(a.1,brun l+b.2.1+a.2.1,a.2.2)
theorem jX(h:oneH (([34,39]:List Nat).contains ·) (l.drop (brun l))=false):UrlR l (eG l).1 (eG l).2.1 (eG l).2.2:=by
 unfold eG;cases hd:l.drop (brun l)with
 |nil=>exact .none hd
 |cons c r=>
  dsimp only;by_cases a:c=41
  ·subst a;rw[dt rfl];exact .close0 hd
  ·rw[cw a]
   rw[hd]at h;have h2:([34,39]:List Nat).contains c=false:=h;simp at h2;exact .body hd (by simp;lia) (qV _) (AN (qV _).fin)
noncomputable def si(F:Nat->List Nat)(v:List Nat):List Nat:=(v.map F).flatten
def pL(F:Nat->List Nat)(v:List Nat)(e:AX):List Nat:=match e with
 |none=>[]++[117,114,108,40]++si F v++[41]
 |some _=>cZ ([]++[117,114,108,40]++si F v++[41]) none (some (-1))
def pQ(F:Nat->List Nat)(v:List Nat)(e:Nat):List Nat:=if e=0 then []++[34]++si F v++[34] else cZ ([]++[34]++si F v++[34]) none (some (-1))
noncomputable def bn(k:List Nat)(t:Told)(n:Nat):TokO:=⟨[(k,t)],n,.stay⟩
noncomputable def fZ(v:List Nat):TokO:=bn tLit (.one (.str v)) v.length
def pn(F:Nat->List Nat)(n:Nat)(u:Option (List Nat)×Nat×AX):TokO:=
 ⟨(match u.1 with|none=>[]|some v=>[(tUrl,.tup [.str v,.str (pL F v u.2.2)])])++(match u.2.2 with|none=>[]|some e=>[(tError,.one (.str e.1))]),n+1+u.2.1,.stay⟩
def ay(F:Nat->List Nat)(l:List Nat):TokO:=
 let v:=(aC l).1;let n:=(aC l).2;if(l.drop n).head?≠some 40 then bn tIdent (.one (.str v)) n
 else if v.map cQ=[117,114,108]/\oneH (([34,39]:List Nat).contains ·) ((l.drop (n+1)).drop (brun (l.drop (n+1))))=false then pn F n (eG (l.drop (n+1)))
 else ⟨[(tFunc,.one (.str v))],n+1,.push 41⟩
noncomputable def y3(l:List Nat):Int:=(PySem.intText? ⟨l.toArray⟩).getD 0
noncomputable def m9(l:List Nat)(b:Bool):MV:=if b=true then .int (y3 l) else .none
def d7(l:List Nat)(n:Nat)(b:Bool):TokO:=
 if aJ (l.drop n)=true then bn tDim (.tup [.str (l.take n),m9 (l.take n) b,.str (aC (l.drop n)).1]) (n+(aC (l.drop n)).2)
 else if(l.drop n).head?=some 37 then bn tPct (.tup [.str (l.take n),m9 (l.take n) b]) (n+1)
 else bn tNum (.tup [.str (l.take n),m9 (l.take n) b]) n
def jM(F:Nat->List Nat)(s:List Nat×Nat×Nat):TokO:=
 ⟨(if s.2.2=1 then [] else [(tString,.tup [.str s.1,.str (pQ F s.1 s.2.2)])])++(if s.2.2=0 then [] else [(tError,.one (.str (if s.2.2=1 then vL else p8)))]),1+s.2.1,.stay⟩
def iV(l:List Nat):TokO:=match ca (l.drop 2)with
 |none=>bn tComment (.one (.str (l.drop 2))) l.length
 |some m=>bn tComment (.one (.str ((l.drop 2).take m))) (m+4)
def aY(F:Nat->List Nat)(top:Option Nat)(l:List Nat)(c:Nat):TokO:=
 if c=64 then(if aJ (l.drop 1)=true then bn tAt (.one (.str (aC (l.drop 1)).1)) (1+(aC (l.drop 1)).2) else fZ [64])
 else if c=35 then(if oneH bdC (l.drop 1)=true\/bentL (l.drop 1)=true then bn tHash (.tup [.str (aC (l.drop 1)).1,.bool (aJ (l.drop 1))]) (1+(aC (l.drop 1)).2) else fZ [35])
 else if c=123 then ⟨[(tCurly,.one (.str []))],1,.push 125⟩
 else if c=91 then ⟨[(tSquare,.one (.str []))],1,.push 93⟩
 else if c=40 then ⟨[(tParen,.one (.str []))],1,.push 41⟩
 else if some c=top then ⟨[],1,.pop⟩
 else if([125,93,41]:List Nat).contains c=true then bn tError (.one (.str [c])) 1
 else if c=34\/c=39 then jM F (bx c (l.drop 1))
 else if(l.drop 1).head?=some 42/\c=47 then iV l
 else if l.take 4=[60,33,45,45]then fZ [60,33,45,45]
 else if l.take 2=[124,124]then fZ [124,124]
 else if([126,124,94,36,42]:List Nat).contains c=true then(if(l.drop 1).head?=some 61 then fZ [c,61]else fZ [c])
 else fZ [c]
def ptok(F1 F2:Nat->List Nat)(top:Option Nat)(l:List Nat):TokO:=
 if oneH isBl l=true then bn tWhite (.one (.str (l.take (ai l)))) (ai l)
 else if oneH (([117,85]:List Nat).contains ·) l=true/\(l.drop 1).head?=some 43/\oneH ((em++[63]).contains ·) (l.drop 2)=true then
  bn tURange (.tup [.int (di (b8 (l.drop 2)).1),.int (di (b8 (l.drop 2)).2.1)]) (2+(b8 (l.drop 2)).2.2)
 else if l.take 3=[45,45,62]then fZ [45,45,62]
 else if aJ l=true then ay F1 l
 else match bD l with
  |some p=>d7 l p.1 p.2
  |none=>aY F2 top l (l.headD 0)
set_option genInjectivity true in
structure TRow where
 depth:Nat
 pos:Nat
 kind:List Nat
 told:Told
noncomputable def opS:Op->List Nat->List Nat
 |.stay,S=>S
 |.push c,S=>c::S
 |.pop,S=>S.tail
noncomputable def rowsAt(S:List Nat)(p:Nat)(o:TokO):List TRow:=o.rows.map λr=>⟨S.length,p,r.1,r.2⟩
inductive ToksR(F1 F2:Nat->List Nat)(J8:List Nat):Nat->List Nat->List TRow->Prop
 |nil{S:_}:ToksR F1 F2 J8 J8.length S []
 |cons{p S rows:_}:p<J8.length->ToksR F1 F2 J8 (p+(ptok F1 F2 S.head? (J8.drop p)).len) (opS (ptok F1 F2 S.head? (J8.drop p)).op S) rows->ToksR F1 F2 J8 p S (rowsAt S p (ptok F1 F2 S.head? (J8.drop p))++rows)
variable{KU:List MO}{KL:List MO}{KO:List MV}{rows:List TRow}{X:List Nat}{ps:List Nat}{KB:List Nat}{L:Nat}{r0:Nat}{r1:Nat}
def rl(J8:List Nat)(p:Nat):MV:=.int ((place (J8.take p)).1:Int)
def rc(J8:List Nat)(p:Nat):MV:=.int ((place (J8.take p)).2:Int)
inductive LeafFs(l c:MV):Nat->List (Option MV)->List Nat->Told->Prop
 |err{k m:_}:LeafFs l c 104 [some (.str k),some m,some c,some l] tError (.one (.str k))
 |com{v:_}:LeafFs l c 134 [some (.str v),some c,some l] tComment (.one (.str v))
 |white{v:_}:LeafFs l c 163 [some (.str v),some c,some l] tWhite (.one (.str v))
 |lit{v:_}:LeafFs l c 206 [some (.str v),some c,some l] tLit (.one (.str v))
 |ident{w v:_}:LeafFs l c 235 [some w,some (.str v),some c,some l] tIdent (.one (.str v))
 |at{w v:_}:LeafFs l c 265 [some w,some (.str v),some c,some l] tAt (.one (.str v))
 |hash{b v:_}:LeafFs l c 295 [some (.bool b),some (.str v),some c,some l] tHash (.tup [.str v,.bool b])
 |string{r v:_}:LeafFs l c 325 [some (.str r),some (.str v),some c,some l] tString (.tup [.str v,.str r])
 |url{r v:_}:LeafFs l c 355 [some (.str r),some (.str v),some c,some l] tUrl (.tup [.str v,.str r])
 |range{a b:_}:LeafFs l c 385 [some (.int b),some (.int a),some c,some l] tURange (.tup [.int a,.int b])
 |num{i w r v:_}:(i=.none\/∃z,i=.int z)->LeafFs l c 415 [some i,some w,some (.str r),some v,some c,some l] tNum (.tup [.str r,i])
 |pct{i w r v:_}:(i=.none\/∃z,i=.int z)->LeafFs l c 447 [some i,some w,some (.str r),some v,some c,some l] tPct (.tup [.str r,i])
 |dim{i w x r u v:_}:(i=.none\/∃z,i=.int z)->LeafFs l c 479 [some i,some w,some x,some (.str r),some (.str u),some v,some c,some l] tDim (.tup [.str r,i,.str u])
inductive BlockFs(l c:MV):Nat->List (Option MV)->List Nat->Told->Nat->Prop
 |paren{L:_}:BlockFs l c 513 [some (.ref L),some c,some l] tParen (.one (.str [])) L
 |square{L:_}:BlockFs l c 542 [some (.ref L),some c,some l] tSquare (.one (.str [])) L
 |curly{L:_}:BlockFs l c 571 [some (.ref L),some c,some l] tCurly (.one (.str [])) L
 |func{L w v:_}:BlockFs l c 600 [some (.ref L),some w,some (.str v),some c,some l] tFunc (.one (.str v)) L
inductive FlatL(J8:List Nat)(mh:List MO)(A:List Nat):List Nat->Nat->List TRow->Prop
 |nil{d:_}:FlatL J8 mh A [] d []
 |leaf{i KB d C e fs p k t rows:_}:mh[e]?=some .edict->mh[i]?=some (.inst C e fs)->LeafFs (rl J8 p) (rc J8 p) C fs k t->FlatL J8 mh A KB d rows->FlatL J8 mh A (i::KB) d (⟨d,p,k,t⟩::rows)
 |block{i KB d C e fs p k t L sub rows1 rows:_}:mh[e]?=some .edict->mh[i]?=some (.inst C e fs)->BlockFs (rl J8 p) (rc J8 p) C fs k t L->L∉A->mh[L]?=some (.list (sub.map .ref))->
   FlatL J8 mh A sub (d+1) rows1->FlatL J8 mh A KB d rows->FlatL J8 mh A (i::KB) d (⟨d,p,k,t⟩::(rows1++rows))
def dG(X:List Nat)(mh KA:List MO):Prop:=∀(j:Nat)(x:MO),mh[j]?=some x->j∉X->KA[j]?=some x
theorem dG.pre{a b:List MO}(h:a<+:b):dG X a b:=λ_ _ e _=>aO h e
theorem dG.trans{a b c:List MO}(h:dG X a b)(q:dG X b c):dG X a c:=λi x e hx=>q i x (h i x e hx) hx
theorem dG.set{a:List MO}{y:MO}(h:i∈X):dG X a (a.set i y):=λj x e hx=>dJ (λq=>hx (q▸h)) e
theorem dG.mono{Y:List Nat}{a b:List MO}(h:dG X a b)(s:∀x∈X,x∈Y):dG Y a b:=λi x e hx=>h i x e (λq=>hx (s _ q))
def gi(A:List Nat)(mh:List MO):Prop:=∀a∈A,∃zs,mh[a]?=some (.list zs)
theorem mw{r:Nat}(m:a∈r::l):a∈r::L::l:=by
 rcases l9.mp m with e|m
 ·exact e▸wo
 ·exact tu _ (tu _ m)
theorem pw{r:Nat}(m:a∈r::n::l)(h:a≠n):a∈r::l:=by
 rcases l9.mp m with e|m
 ·exact e▸wo
 ·rcases l9.mp m with e|m
  ·exact absurd e h
  ·exact tu _ m
theorem gi.not{A:List Nat}{x:MO}(h:gi A mh)(e:mh[i]?=some x)(hx:∀zs,x≠.list zs):i∉A:=λm=>by
 obtain⟨zs,a⟩:=h i m;rw[e]at a;exact hx zs (ec a)
theorem FlatL.keep{A i:List Nat}{d:Nat}(h:FlatL J8 mh A KB d rows)(b:gi A mh)(hk:dG A mh KA)(hs:∀a∈i,a∈A\/mh.length<=a):FlatL J8 KA i KB d rows:=by
 induction h with
 |nil=>exact .nil
 |leaf h1 h2 f _ j=>exact .leaf (hk _ _ h1 (b.not h1 (by simp))) (hk _ _ h2 (b.not h2 (by simp))) f j
 |block h1 h2 f h4 g _ _ e c=>
  refine .block (hk _ _ h1 (b.not h1 (by simp))) (hk _ _ h2 (b.not h2 (by simp))) f (λm=>?_) (hk _ _ g h4) e c;rcases hs _ m with q|q
  ·exact h4 q
  ·have :=aZ g;lia
theorem FlatL.app{A r1 f:List Nat}{d:Nat}{rows1 a:List TRow}(h:FlatL J8 mh A r1 d rows1)(q:FlatL J8 mh A f d a):FlatL J8 mh A (r1++f) d (rows1++a):=by
 generalize e:d=k at h;induction h with
 |nil=>subst e;exact q
 |leaf h1 h2 c _ g=>subst e;exact .leaf h1 h2 c (g rfl)
 |block h1 h2 c h4 j i _ _ b=>subst e;rw[rC,rC,kv];exact .block h1 h2 c h4 j i (b rfl)
theorem FlatL.len{A:List Nat}{d:Nat}(h:FlatL J8 mh A KB d rows):KB.length<=rows.length:=by
 induction h with
 |nil=>exact ep _
 |leaf _ _ _ _ a=>simpa using a
 |block _ _ _ _ _ _ _ _ a=>simp;lia
inductive CtxR(J8:List Nat)(mh:List MO)(A:List Nat):List Nat->Nat->List TRow->Prop
 |root{L:_}:CtxR J8 mh A [] L []
 |sub{P ps L prefs b rows0 rowsP C e fs p k t:_}:CtxR J8 mh A ps P rows0->mh[P]?=some (.list ((prefs++[b]).map .ref))->FlatL J8 mh A prefs ps.length rowsP->mh[e]?=some .edict->mh[b]?=some (.inst C e fs)->
   BlockFs (rl J8 p) (rc J8 p) C fs k t L->CtxR J8 mh A (P::ps) L (rows0++(rowsP++[⟨ps.length,p,k,t⟩]))
theorem CtxR.keep{A g:List Nat}(h:CtxR J8 mh A ps L rows)(f:gi A mh)(hk:dG X mh KA)(d:∀x∈X,x∈A)(c:∀x∈X,x∉ps)(hs:∀a∈g,a∈A\/mh.length<=a):CtxR J8 KA g ps L rows:=by
 induction h with
 |root=>exact .root
 |sub h1 h2 n h4 l k i=>
  have b:∀{j:Nat}{x:MO},mh[j]?=some x->(∀zs,x≠.list zs)->KA[j]?=some x:=λ{j x}e q=>hk _ _ e (λm=>f.not e q (d _ m));exact .sub (i λx m q=>c x m (tu _ q)) (hk _ _ h2 (λm=>c _ m wo)) (n.keep f (hk.mono d) hs) (b h4 (by simp)) (b l (by simp)) k
noncomputable def topV:List Nat->MV
 |[]=>.none
 |c::_=>.str [c]
inductive StackR(mh:List MO):List MV->List Nat->List Nat->Prop
 |nil:StackR mh [] [] []
 |cons{t P c S KO ps:_}:mh[t]?=some (.tuple [.ref P,topV S])->StackR mh KO ps S->StackR mh (.ref t::KO) (P::ps) (c::S)
theorem StackR.keep{A:List Nat}(h:StackR mh KO ps S)(b:gi A mh)(hk:dG A mh KA):StackR KA KO ps S:=by
 induction h with
 |nil=>exact .nil
 |cons h1 _ a=>exact .cons (hk _ _ h1 (b.not h1 (by simp))) a
theorem StackR.len(h:StackR mh KO ps S):ps.length=S.length/\KO.length=S.length:=by
 induction h with
 |nil=>exact⟨rfl,rfl⟩
 |cons _ _ a=>simpa using a
theorem CtxR.len{A:List Nat}(h:CtxR J8 mh A ps L rows):ps.length<=rows.length:=by
 induction h with
 |root=>exact ep _
 |sub _ _ _ _ _ _ a=>simp;lia
def PSt(J8:List Nat)(KU mh:List MO)(r0 r1 L:Nat)(ps S KB:List Nat)(rows:List TRow):Prop:=
 KU<+:mh/\(∀a∈r1::L::ps,KU.length<=a)/\(r1::L::ps).Nodup/\(L::ps).getLast?=some r0/\gi (r1::L::ps) mh/\∃KO rows0 b,mh[r1]?=some (.list KO.reverse)/\StackR mh KO ps S/\CtxR J8 mh (r1::L::ps) ps L rows0/\
  mh[L]?=some (.list (KB.map .ref))/\FlatL J8 mh (r1::L::ps) KB ps.length b/\rows=rows0++b
theorem gi.pre{A:List Nat}(h:gi A mh)(p:mh<+:KA):gi A KA:=λa m=>by
 obtain⟨zs,b⟩:=h a m;exact⟨zs,aO p b⟩
theorem gi.set{A:List Nat}(h:gi A mh)(c:i<mh.length):gi A (mh.set i (.list ys)):=λa m=>by
 by_cases e:i=a
 ·subst e;exact⟨ys,by rw[x7 c]⟩
 ·obtain⟨zs,b⟩:=h a m
  exact⟨zs,dJ e b⟩
theorem PSt.ext(h:PSt J8 KU mh r0 r1 L ps S KB rows)(p:mh<+:KA):PSt J8 KU KA r0 r1 L ps S KB rows:=by
 obtain⟨h1,h2,d,h4,c,KO,rows0,b,l,j,i,g,f,e⟩:=h;have k:dG (r1::L::ps) mh KA:=.pre p;exact⟨h1.trans p,h2,d,h4,c.pre p,KO,rows0,b,aO p l,j.keep c k,i.keep (X:=[]) c (.pre p) (by simp) (by simp) (λa m=>.inl m),aO p g,f.keep c k (λa m=>.inl m),e⟩
theorem PSt.list(h:PSt J8 KU mh r0 r1 L ps S KB rows):mh[L]?=some (.list (KB.map .ref)):=by
 obtain⟨h1,h2,d,h4,c,KO,rows0,a,j,i,g,b,f,e⟩:=h;exact b
theorem PSt.len(h:PSt J8 KU mh r0 r1 L ps S KB rows):(KB.map MV.ref).length<=rows.length/\S.length<=rows.length:=by
 obtain⟨h1,h2,k,h4,j,KO,rows0,a,m,e,d,l,c,b⟩:=h;have i:=c.len;have g:=d.len;have f:=e.len;subst b;simp;lia
theorem PSt.stack(h:PSt J8 KU mh r0 r1 L ps S KB rows):∃KO,mh[r1]?=some (.list KO)/\KO.length=S.length:=by
 obtain⟨h1,h2,e,h4,d,KO,rows0,a,c,b,j,i,g,f⟩:=h;exact⟨_,c,by rw[s1,b.len.2]⟩
theorem PSt.leaf(h:PSt J8 KU mh r0 r1 L ps S KB rows){C p:Nat}{k:List Nat}{t:Told}
  (hl:LeafFs (rl J8 p) (rc J8 p) C fs k t)(hp:mh++[.edict,.inst C mh.length fs]<+:KL):PSt J8 KU (KL.set L (.list (KB.map MV.ref++[MV.ref (mh.length+1)]))) r0 r1 L ps S (KB++[mh.length+1]) (rows++[⟨S.length,p,k,t⟩]):=by
 have l:=h.ext ((eh _ _).trans hp);obtain⟨h1,h2,f,h4,c,KO,rows0,b,r,i,q,g,o,n⟩:=l;have kL:dG [L] KL (KL.set L (.list (KB.map MV.ref++[MV.ref (mh.length+1)]))):=.set (by simp);have kA:dG (r1::L::ps) KL (KL.set L (.list (KB.map MV.ref++[MV.ref (mh.length+1)]))):=.set (by simp);have e1:KL[mh.length]?=some .edict:=aO hp (by simp);have e2:KL[mh.length+1]?=some (.inst C mh.length fs):=aO hp (by simp);have j:r1≠L:=λe=>(hM.mp f).1 (by simp[e]);have d:L∉ps:=(hM.mp (hM.mp f).2).1;refine⟨bV h1 (h2 L (by simp)) _,h2,f,h4,c.set (aZ g),KO,rows0,b++[⟨ps.length,p,k,t⟩],kL _ _ r (by simpa using j),i.keep c kA,q.keep c kL (by simp) (by simpa using d) (λa m=>.inl m),?_,?_,?_⟩
 ·rw[bW g];simp
 ·exact(o.keep c kA (λa m=>.inl m)).app (.leaf (kA _ _ e1 (c.not e1 (by simp))) (kA _ _ e2 (c.not e2 (by simp))) hl .nil)
 ·rw[n,kv,i.len.1]
theorem PSt.push(h:PSt J8 KU mh r0 r1 L ps S KB rows){C p c:Nat}{k:List Nat}{t:Told}
  (hl:BlockFs (rl J8 p) (rc J8 p) C fs k t mh.length)(hp:mh++[.list [],.edict,.inst C (mh.length+1) fs]<+:KL)(O:KL[r1]?=some (.list KO)):
  PSt J8 KU ((KL.set L (.list (KB.map MV.ref++[MV.ref (mh.length+2)]))++[MO.tuple [.ref L,topV S]]).set r1 (.list (KO++[.ref KL.length]))) r0 r1 mh.length (L::ps) (c::S) [] (rows++[⟨S.length,p,k,t⟩]):=by
 have hZ:=h.ext ((eh _ _).trans hp);have n:=h.2.2.2.2.1;obtain⟨h1,h2,v,h4,G,g,rows0,y,w,a2,a3,a4,a5,a6⟩:=hZ;obtain rfl:KO=g.reverse:=by rw[w]at O;simpa using O.symm
 have D:r1≠L:=λe=>(hM.mp v).1 (by simp[e]);have E:L∉ps:=(hM.mp (hM.mp v).2).1;have u:r1∉ps:=λm=>(hM.mp v).1 (tu _ m);generalize r:(KL.set L (.list (KB.map MV.ref++[MV.ref (mh.length+2)]))++[MO.tuple [.ref L,topV S]]).set r1 (.list (g.reverse++[.ref KL.length]))=f;have zY:KL.length<=f.length:=by rw[<-r];simp
 have s:dG [L,r1] KL f:=by
  rw[<-r];exact((dG.set (by simp)).trans (.pre (eh _ _))).trans (.set (by simp))
 have kA:dG (r1::L::ps) KL f:=s.mono (by simp);have T:KL[mh.length]?=some (.list []):=aO hp (by simp);have e1:KL[mh.length+1]?=some .edict:=aO hp (by simp);have e2:KL[mh.length+2]?=some (.inst C (mh.length+1) fs):=aO hp (by simp);have A:∀a∈r1::L::ps,a<mh.length:=λa m=>by
  obtain⟨zs,B⟩:=n a m;exact aZ B
 have i:mh.length∉r1::L::ps:=λm=>o4 _ (A _ m);have H:f[L]?=some (.list ((KB++[mh.length+2]).map .ref)):=by
  rw[<-r];refine dJ D (ag ?_);rw[bW a4];simp
 have I:f[r1]?=some (.list (g.reverse++[.ref KL.length])):=by
  rw[<-r];exact bW (x:=.list g.reverse) (ag (dJ (Ne.symm D) w))
 have V:f[KL.length]?=some (.tuple [.ref L,topV S]):=by
  rw[<-r];refine dJ (by have :=aZ w;lia) ?_;have :=aW (mh:=KL.set L (.list (KB.map MV.ref++[MV.ref (mh.length+2)]))) (x:=MO.tuple [.ref L,topV S]);rwa[List.length_set]at this
 have hs:∀a∈r1::mh.length::L::ps,a∈r1::L::ps\/mh.length<=a:=λa m=>by
  by_cases q:a=mh.length
  ·exact .inr (by lia)
  ·exact .inl (pw m q)
 have lists:gi (r1::mh.length::L::ps) f:=λa m=>by
  by_cases N:a=r1
  ·subst N;exact⟨_,I⟩
  by_cases M:a=L
  ·subst M;exact⟨_,H⟩
  by_cases J:a=mh.length
  ·subst J;exact⟨_,s _ _ T (λm=>i (by simp at m;simp;lia))⟩
  ·obtain⟨zs,B⟩:=G a (pw m J)
   exact⟨zs,s _ _ B (by simp[N,M])⟩
 have Y:∀a∈r1::mh.length::L::ps,a∈r1::mh.length::L::ps\/KL.length<=a:=λa m=>.inl m;have wide:∀{z d rw},FlatL J8 mh (r1::L::ps) z d rw->FlatL J8 f (r1::mh.length::L::ps) z d rw:=λ{z d rw}q=>by
  refine q.keep n (dG.trans (.pre ((eh _ _).trans hp)) kA) hs
 obtain⟨g1,g2,g3,g4,Q,l,o,j,b1,U,b3,b4,b5,b6⟩:=h;have eL:g.reverse=l.reverse:=by
  have :=aO ((eh _ _).trans hp) b1;rw[w]at this;simpa using this
 refine⟨?_,?_,?_,?_,lists,.ref KL.length::l,o++(j++[⟨ps.length,p,k,t⟩]),[],?_,?_,?_,?_,.nil,?_⟩
 ·rw[<-r];exact bV (aT (bV h1 (h2 L (by simp)) _) _) (h2 r1 (by simp)) _
 ·intro a m
  by_cases q:a=mh.length
  ·subst q;exact g1.length_le
  ·exact h2 a (pw m q)
 ·have :=hM.mp v
  refine hM.mpr ⟨?_,hM.mpr ⟨?_,this.2⟩⟩
  ·intro m
   simp at m;rcases m with m|m|m
   ·exact i (by simp[m])
   ·exact D m
   ·exact u m
  ·exact λm=>i (tu _ m)
 ·rw[r4];exact h4
 ·rw[I,eL];simp
 ·exact .cons V (U.keep Q (dG.trans (.pre ((eh _ _).trans hp)) kA))
 ·refine .sub (prefs:=KB) (b:=mh.length+2) ?_ H (wide b5) (kA _ _ e1 (G.not e1 (by simp))) (kA _ _ e2 (G.not e2 (by simp))) hl
  exact b3.keep (X:=[L,r1]) Q (dG.trans (.pre ((eh _ _).trans hp)) s) (by simp) (by simp;exact⟨E,u⟩) hs
 ·exact s _ _ T (λm=>i (by simp at m;simp;lia))
 ·rw[b6,m4,kv,U.len.1]
theorem PSt.pop{c:Nat}(h:PSt J8 KU mh r0 r1 L ps (c::S) KB rows):
  ∃t P n g KO,mh[r1]?=some (.list (KO++[.ref t]))/\mh[t]?=some (.tuple [.ref P,topV S])/\t≠r1/\PSt J8 KU (mh.set r1 (.list KO)) r0 r1 P n S g rows:=by
 obtain⟨h1,h2,l,h4,d,KO,rows0,f,o,J,I,H,G,E⟩:=h;cases J with
 |@cons t P M S' KO ps q w=>
  cases I with
  |@sub _ _ _ prefs b rows0 rowsP C e fs p k tt D B A v u z=>
   have s:r1≠L:=λe=>(hM.mp l).1 (by simp[e]);have j:r1≠P:=λe=>(hM.mp l).1 (by simp[e]);have i:r1∉ps:=λm=>(hM.mp l).1 (by simp[m]);have r:=(hM.mp l).2;have hL:L∉P::ps:=(hM.mp r).1;have x:=(hM.mp r).2;have y:t≠r1:=λe=>d.not q (by simp) (by simp[e]);have k1:dG [r1] mh (mh.set r1 (.list KO.reverse)):=.set (by simp);have kA:dG (r1::L::P::ps) mh (mh.set r1 (.list KO.reverse)):=.set (by simp);have hs:∀a∈r1::P::ps,a∈r1::L::P::ps\/mh.length<=a:=λa m=>.inl (mw m);refine⟨t,P,ps,prefs++[b],KO.reverse,by rw[o];simp,q,y,bV h1 (h2 r1 (by simp)) _,λa m=>h2 a (mw m),?_,?_,?_,KO,rows0,rowsP++(⟨ps.length,p,k,tt⟩::(f++[])),bW o,w.keep d kA,?_,k1 _ _ B (by simpa using Ne.symm j),?_,?_⟩
   ·refine hM.mpr ⟨?_,x⟩
    simp[j,i]
   ·rw[<-h4,r4]
   ·exact λa m=>(d.set (aZ o)) a (mw m)
   ·exact D.keep (X:=[r1]) d k1 (by simp) (by simpa using i) hs
   ·refine(A.keep d kA hs).app (.block (kA _ _ v (d.not v (by simp))) (kA _ _ u (d.not u (by simp))) z ?_ (k1 _ _ H (by simpa using Ne.symm s)) (G.keep d kA hs) .nil)
    intro m;rcases l9.mp m with e|m
    ·exact s e.symm
    ·exact hL m
   ·rw[E];simp
theorem zc{A:List Nat}{rows0 c:List TRow}(h:CtxR J8 mh A ps L rows0)(h1:mh[L]?=some (.list (KB.map .ref)))(h2:FlatL J8 mh [] KB ps.length c)
  (hw:∀{g d rw},FlatL J8 mh A g d rw->FlatL J8 mh [] g d rw)(f:(L::ps).getLast?=some r0):∃a,mh[r0]?=some (.list (a.map .ref))/\FlatL J8 mh [] a 0 (rows0++c):=by
 induction h generalizing KB c with
 |root=>
  obtain rfl:=ec f;exact⟨KB,h1,h2⟩
 |@sub P ps L prefs b rows0 rowsP C e fs p k t s r q o n m l=>
  rw[r4]at f;obtain⟨a,j,i⟩:=l r ((hw q).app (.block o n m (by simp) h1 h2 .nil)) f;exact⟨a,j,by simpa using i⟩
theorem PSt.done(h:PSt J8 KU mh r0 r1 L ps S KB rows):KU<+:mh/\∃a,mh[r0]?=some (.list (a.map .ref))/\FlatL J8 mh [] a 0 rows:=by
 obtain⟨h1,h2,m,h4,g,KO,rows0,b,o,n,l,k,j,i⟩:=h;have hw:∀{c d rw},FlatL J8 mh (r1::L::ps) c d rw->FlatL J8 mh [] c d rw:=λ{c d rw}q=>q.keep g (.pre (fa _)) (by simp);obtain⟨a,f,e⟩:=zc l k (hw j) hw h4;exact⟨h1,a,f,i▸e⟩
theorem PSt.init(h:KU<+:mh)(h0:mh[r0]?=some (.list []))(h1:mh[r1]?=some (.list []))(d:KU.length<=r0)(c:KU.length<=r1)(b:r1≠r0):PSt J8 KU mh r0 r1 r0 [] [] [] []:=by
 refine⟨h,by simp[d,c],by simp[b],rfl,?_,[],[],[],by simpa using h1,.nil,.root,by simpa using h0,.nil,rfl⟩;intro a m;simp at m;rcases m with rfl|rfl
 ·exact⟨_,h1⟩
 ·exact⟨_,h0⟩
section
open PySem.StrLaws PySem.Builtin PySem.Builtin.Str
theorem cP(l:List Nat):brun l=ai l:=by
 unfold brun;induction l with
 |nil=>rfl
 |cons c r a=>
  rw[Jb,ai];by_cases h:isBl c=true
  ·rw[dt h,dt h,g9,a]
  ·rw[cw h,cw h];rfl
theorem atW(hy:1<=y.length):PySem.StrLaws.At (⟨l.toArray⟩:Str) (⟨y.toArray⟩:Str) l.length i↔(l.drop i).take y.length=y:=by
 unfold PySem.StrLaws.At;rw[subAt_eq];have e:(⟨y.toArray⟩:Str).length=y.length:=by show y.toArray.size=_;simp
 rw[e];simp only[ly];constructor
 ·exact λh=>h.2
 ·intro h
  refine⟨?_,h⟩;have :=ed List.length h;simp at this;lia
theorem tE(l y:List Nat)(a n:Nat)(hy:1<=y.length)(b:1<=n):(occurrences (⟨l.toArray⟩:Str) (⟨y.toArray⟩:Str) a l.length n=[]/\∀i,a<=i->(l.drop i).take y.length≠y)\/
  ∃i r,occurrences (⟨l.toArray⟩:Str) (⟨y.toArray⟩:Str) a l.length n=i::r/\a<=i/\(l.drop i).take y.length=y/\∀k,a<=k->k<i->(l.drop k).take y.length≠y:=by
 have j:(⟨l.toArray⟩:Str).length=l.length:=by show l.toArray.size=_;simp
 have h:=occ_head_from (⟨l.toArray⟩:Str) (⟨y.toArray⟩:Str) a n b;rw[j]at h;rcases h with⟨h1,h2⟩|⟨i,r,h1,h2,d,h4⟩
 ·exact .inl ⟨h1,λi c e=>h2 i c ((atW hy).mpr e)⟩
 ·exact .inr ⟨i,r,h1,h2,(atW hy).mp d,λk g f e=>h4 k g f ((atW hy).mpr e)⟩
theorem gr{c:Nat}(h:c∉l):j5 l (c::y) z=l:=by
 have key:occurrences (⟨l.toArray⟩:Str) (⟨(c::y).toArray⟩:Str) 0 l.length (l.length+1)=[]:=by
  rcases tE l (c::y) 0 (l.length+1) (by simp) (by lia)with⟨h1,_⟩|⟨i,r,_,_,a,_⟩
  ·exact h1
  ·refine absurd ?_ h
   cases hd:l.drop i with
   |nil=>rw[hd]at a;cases a
   |cons d t=>
    rw[hd,g9,eg]at a;have :d=c:=(f4 a).1;subst this;exact List.mem_of_mem_drop (i:=i) (by rw[hd];exact wo)
 have b:(⟨l.toArray⟩:Str).length=l.length:=by show l.toArray.size=_;simp
 unfold j5 Txt.replace;rw[b,key];simp
theorem jd(l:List Nat):match ca l with
  |none=>∀i,(l.drop i).take 2≠[42,47]
  |some m=>(l.drop m).take 2=[42,47]/\∀k,k<m->(l.drop k).take 2≠[42,47]:=by
 induction l with
 |nil=>exact λi=>by simp
 |cons c r a=>
  unfold ca;by_cases hc:c=42/\r.head?=some 47
  ·rw[dt hc]
   obtain⟨rfl,h2⟩:=hc;cases r with
   |nil=>cases h2
   |cons d t=>cases h2;exact⟨rfl,λk hk=>absurd hk (by lia)⟩
  ·rw[cw hc]
   have h0:(c::r).take 2≠[42,47]:=λe=>hc (by
    cases r with
    |nil=>cases e
    |cons d t=>cases e;exact⟨rfl,rfl⟩)
   cases b:ca r with
   |none=>
    rw[b]at a;intro i;cases i with
    |zero=>exact h0
    |succ i=>exact a i
   |some m=>
    rw[b]at a;refine⟨a.1,λk hk=>?_⟩;cases k with
    |zero=>exact h0
    |succ k=>exact a.2 k (nE hk)
theorem zI(J8:List Nat)(a:Nat):jU J8 [42,47] a=match ca (J8.drop a)with|none=>-1|some m=>((a+m:Nat):Int):=by
 have h:=jd (J8.drop a);unfold jU;rcases tE J8 [42,47] a 1 (by decide) (by decide)with⟨h1,h2⟩|⟨i,r,h1,h2,d,h4⟩
 ·rw[h1]
  cases c:ca (J8.drop a)with
  |none=>rfl
  |some m=>
   rw[c]at h;have b:((J8.drop a).drop m).take 2=[42,47]:=h.1;rw[eo]at b;exact absurd b (h2 _ (by lia))
 ·rw[h1]
  cases c:ca (J8.drop a)with
  |none=>
   rw[c]at h;have :=h (i-a);rw[eo,show a+(i-a)=i by lia]at this;exact absurd d this
  |some m=>
   rw[c]at h;have e:i=a+m:=by
    rcases Nat.lt_trichotomy i (a+m)with q|q|q
    ·have :=h.2 (i-a) (by lia)
     rw[eo,show a+(i-a)=i by lia]at this;exact absurd d this
    ·exact q
    ·have b:((J8.drop a).drop m).take 2=[42,47]:=h.1
     rw[eo]at b;exact absurd b (h4 _ (by lia) q)
   rw[e]
end
section
open PySem PySem.NumText
theorem jr(l:List Nat):AllDigits (l.take (aK l)):=by
 induction l with
 |nil=>intro c h;cases h
 |cons c r a=>
  unfold aK;by_cases h:cF c=true
  ·rw[dt h,eg]
   intro d m;rcases l9.mp m with e|m
   ·subst e;simpa[cF]using h
   ·exact a d m
  ·rw[cw h];intro c h;cases h
theorem y2{x:Str}{cs:List Nat}(hx:x.cps.toList=43::cs)(h:AllDigits cs)(h1:cs≠[])(h2:x.length<=4300):∃i,PySem.intText? x=some i:=by
 have lt:∀c∈x.cps.toList,c<128/\c≠0:=by
  rw[hx];intro c m;rcases l9.mp m with e|m
  ·subst e;decide
  ·have :=h c m;lia
 have e1:numTextOf x=x.cps.toList:=by
  refine dt ?_;rw[<-Array.all_toList,gb];exact λc m=>g6 (lt c m).1
 have e2:numSeenOf x=x.cps.toList:=by
  show(numTextOf x).takeWhile _=_;rw[e1];exact takeWhile_all λc m=>JS.mpr (lt c m).2
 have hl:x.cps.toList.length=x.length:=Jd;rw[hx,g9]at hl;have es:sign ((43::cs).dropWhile blank)=(false,cs):=by rw[dropWhile_of (by decide)];rfl
 have a:core (43::cs)=cs:=by
  unfold core;rw[es];show(cs.reverse.dropWhile blank).reverse=cs;rw[dropWhile_digits h.reverse,JY]
 unfold PySem.intText?;rw[e1,e2,ti,dt rfl,hx,a,digits_of h h1];have hsz:=push_size cs #[];refine⟨_,dt ?_⟩;rw[hsz];simp only[Array.size_empty];lia
theorem su{s:List Nat}(h:bD s=some (m,true)):m=aF s+aK (s.drop (aF s))/\1<=aK (s.drop (aF s)):=by
 unfold bD at h;cases hm:cb s with
 |none=>rw[hm]at h;cases h
 |some p=>
  rw[hm]at h;have h':=ec h;have h1:p.1+ae (s.drop p.1)=m:=ed Prod.fst h';have h2:(p.2&&ae (s.drop p.1)==0)=true:=ed Prod.snd h';rw[fi,ly]at h2;unfold cb at hm;dsimp only at hm;split at hm
  ·obtain rfl:=ec hm
   exact by cases h2.1
  ·split at hm
   ·cases hm
   ·rename_i hk
    obtain rfl:=ec hm;have a:ae (s.drop (aF s+aK (s.drop (aF s))))=0:=h2.2;have h4:aF s+aK (s.drop (aF s))+ae (s.drop (aF s+aK (s.drop (aF s))))=m:=h1;lia
theorem wg{s:List Nat}(h:bD s=some (m,true))(hl:s.length<=4300):PySem.intText? ⟨(s.take m).toArray⟩=some (y3 (s.take m)):=by
 obtain⟨h1,h2⟩:=su h;have key:∃i,PySem.intText? ⟨(s.take m).toArray⟩=some i:=by
  have a:(⟨(s.take m).toArray⟩:Str).length<=4300:=by
   show(s.take m).toArray.size<=4300;simp;lia
  cases s with
  |nil=>exact absurd h2 (by simp[aF,aK])
  |cons c r=>
   by_cases hc:c=45\/c=43
   ·have e:aF (c::r)=1:=dt hc
    rw[e]at h1 h2;have e1:(c::r).take m=c::r.take (aK r):=by
     rw[h1,sl];rfl
    have e2:(1:Nat)<=aK r:=h2;have e3:=db r;have e4:r.take (aK r)≠[]:=λq=>by
     have :=ed List.length q;simp only[g7,xk]at this;lia
    rw[e1]at a⊢;rcases hc with rfl|rfl
    ·exact⟨_,intText_neg (cs:=r.take (aK r)) rfl (jr r) e4 a⟩
    ·exact y2 (cs:=r.take (aK r)) rfl (jr r) e4 a
   ·have e:aF (c::r)=0:=cw hc
    rw[e]at h1 h2;have e1:m=aK (c::r):=by rw[h1,Iq];rfl
    have e3:=db (c::r);have e2:(1:Nat)<=aK (c::r):=h2;subst e1;refine⟨_,intText_digits (x:=⟨((c::r).take (aK (c::r))).toArray⟩) (by simpa using jr (c::r)) (λq=>?_) a⟩;have :=ed List.length q;simp only[g7,xk]at this;lia
 obtain⟨i,b⟩:=key;unfold y3;rw[b];rfl
end
theorem kJ(l:List Nat):(aC l).2<=l.length:=(bq l).le.1
theorem oU(l:List Nat):remLen l<=l.length:=by
 induction l using remLen.induct with
 |case1=>exact ep _
 |case2 c=>exact ep _
 |case3 d r=>simp[remLen]
 |case4 c d r h1 h2 a=>rw[cj,cw h1,dt h2];simp;lia
 |case5 c d r h1 h2 a=>rw[cj,cw h1,cw h2];simp at a⊢;lia
theorem AM{v:List Nat}{o:BOut}{w n e}(h:AfterR l o v w n e):n<=l.length:=by
 cases h with
 |eof=>exact oL _
 |close=>simp
 |@bad c r v=>have :=oU r;simp;lia
 |@blank0 c r v h=>have :=fM r;simp;lia
 |@blank1 c r v t h=>
  have :=ed List.length h;simp at this⊢;lia
 |@blank2 c r v d t h _=>
  have h1:=ed List.length h;have h2:=oU (d::t);simp at h1 h2⊢;lia
theorem xW{w k e}(h:UrlR l w k e):k<=l.length:=by
 cases h with
 |none h=>exact fM l
 |close0 h=>
  have :=ed List.length h;simp at this;lia
 |@body c r v k o w n e h h2 a b=>
  have h1:=ed List.length h;have f:=a.le.1;have h4:=AM b;have d:=fM l;rw[ea]at h4 h1;lia
theorem iX{p}(h:bD l=some p):1<=p.1/\p.1<=l.length:=by
 have h1:=i0 l;unfold af at h1;rw[h]at h1;refine⟨?_,h1⟩;unfold bD at h;cases hm:cb l with
 |none=>rw[hm]at h;cases h
 |some q=>
  rw[hm]at h;obtain rfl:=ec h;show 1<=q.1+_;have :1<=q.1:=by
   unfold cb at hm;dsimp only at hm;split at hm
   ·obtain rfl:=ec hm
    show 1<=_+1+_;lia
   ·split at hm
    ·cases hm
    ·obtain rfl:=ec hm
     show 1<=_+_;lia
  lia
theorem rk(c:Nat):hdC c=fz c:=by
 refine oY (P:=λc=>hdC c=fz c) (by decide) (λc hc=>?_) c;unfold hdC fz;rw[g6 hc,x8,x8]
theorem pF(c:Nat):bdC c=isNm c:=by
 refine oY (P:=λc=>bdC c=isNm c) (by decide) (λc hc=>?_) c;unfold bdC hdC isNm;rw[g6 hc,x8,x8,Bool.true_or]
theorem aU(l:List Nat):aJ l=ao l:=by
 cases l with
 |nil=>rfl
 |cons c r=>
  unfold aJ ao;by_cases hc:c=45
  ·subst hc
   show(fz 45||_)=_;rw[dt rfl,dt (show(45::r).head?=some 45 from rfl),<-rk,show hdC 45=false by decide];cases r with
   |nil=>rfl
   |cons d q=>
    show(false||(fz d||d==45||(d==92&&_)))=((some d==some 45)||(hdC d||(d==92&&_)));rw[rk,yk,Bool.or_comm (fz d) (d==45),Bool.or_assoc];rfl
  ·rw[cw (show¬(c::r).head?=some 45 by simpa using hc)]
   show(fz c||if c=45 then _ else _)=(hdC c||(c==92&&_));rw[cw hc,rk]
theorem ej(h:aJ l=true):1<=(aC l).2:=by
 have hI:=bq l;cases b:aC l with
 |mk v k=>
  rw[b]at hI;show 1<=k;cases hI with
  |nil=>cases h
  |@stop c r h1 h2=>
   exfalso;rw[aU]at h;rcases q8 h with q|q
   ·have a:bdC c=true:=q
    rw[pF,h1]at a;cases a
   ·have a:(c==92&&!(r.head?==some 10))=true:=q
    rw[h2]at a;cases a
  |name=>exact JD _ _
  |esc=>show 1<=1+_+_;rw[k4];exact tj _ _
theorem Aw(q:Nat)(l:List Nat):(bx q l).2.1<=l.length:=(ew q l).le.1
theorem Ah(l:List Nat)(h:oneH (([34,39]:List Nat).contains ·) (l.drop (brun l))=false):(eG l).2.1<=l.length:=xW (jX h)
abbrev cq(n:Nat)(x:TokO):Prop:=1<=x.len/\x.len<=n
theorem s7(F:Nat->List Nat)(h:aJ l=true):cq l.length (ay F l):=by
 have h1:=ej h;have h2:=kJ l;unfold ay;refine aN (P:=cq l.length) (λ_=>⟨h1,h2⟩) λc=>?_;have h4:=az (t2 c);refine aN (P:=cq l.length) (λb=>?_) λ_=>⟨by show 1<=_+1;lia,by show _+1<=_;lia⟩;have a:=Ah _ b.2;rw[ea]at a;exact⟨by show 1<=_+1+_;lia,by show _+1+_<=_;lia⟩
theorem yG(b:Bool)(h1:1<=n)(h2:n<=l.length):cq l.length (d7 l n b):=by
 unfold d7;refine aN (P:=cq l.length) (λ_=>?_) λ_=>?_
 ·have a:=kJ (l.drop n)
  rw[ea]at a;exact⟨by show 1<=n+_;lia,by show n+_<=_;lia⟩
 refine aN (P:=cq l.length) (λh=>?_) λ_=>⟨h1,h2⟩;have :=az h;exact⟨by show 1<=n+1;lia,by show n+1<=_;lia⟩
theorem j0{x:List Nat}(h:l.take n=x)(a:x.length=n):n<=l.length:=by
 have :=ed List.length h;rw[g7]at this;lia
theorem ss(F:Nat->List Nat)(top:Option Nat){c:Nat}:cq (c::r).length (aY F top (c::r) c):=by
 have one:1<=(c::r).length:=by simp
 have a:(c::r).length=r.length+1:=rfl;unfold aY;refine aN (P:=cq (c::r).length) (λ_=>aN (P:=cq (c::r).length) (λ_=>?_) λ_=>⟨ep _,one⟩) λ_=>?_
 ·have :=kJ r
  exact⟨by show 1<=1+_;lia,by show 1+(aC r).2<=_;lia⟩
 refine aN (P:=cq (c::r).length) (λ_=>aN (P:=cq (c::r).length) (λ_=>?_) λ_=>⟨ep _,one⟩) λ_=>?_
 ·have :=kJ r
  exact⟨by show 1<=1+_;lia,by show 1+(aC r).2<=_;lia⟩
 refine aN (P:=cq (c::r).length) (λ_=>⟨ep _,one⟩) λ_=>?_;refine aN (P:=cq (c::r).length) (λ_=>⟨ep _,one⟩) λ_=>?_;refine aN (P:=cq (c::r).length) (λ_=>⟨ep _,one⟩) λ_=>?_;refine aN (P:=cq (c::r).length) (λ_=>⟨ep _,one⟩) λ_=>?_;refine aN (P:=cq (c::r).length) (λ_=>⟨ep _,one⟩) λ_=>?_;refine aN (P:=cq (c::r).length) (λ_=>?_) λ_=>?_
 ·have :=Aw c r
  exact⟨by show 1<=1+_;lia,by show 1+(bx c r).2.1<=_;lia⟩
 refine aN (P:=cq (c::r).length) (λh=>?_) λ_=>?_
 ·have h1:r.head?=some 42:=h.1
  unfold iV;cases a:ca ((c::r).drop 2)with
  |none=>exact⟨one,ep _⟩
  |some m=>
   have :=pg a;rw[ea]at this;exact⟨by show 1<=m+4;lia,by show m+4<=_;lia⟩
 refine aN (P:=cq (c::r).length) (λh=>⟨by decide,j0 h rfl⟩) λ_=>?_;refine aN (P:=cq (c::r).length) (λh=>⟨by decide,j0 h rfl⟩) λ_=>?_;refine aN (P:=cq (c::r).length) (λ_=>aN (P:=cq (c::r).length) (λh=>?_) λ_=>⟨ep _,one⟩) λ_=>⟨ep _,one⟩;exact⟨by show 1<=2;lia,az h⟩
theorem eW(F1 F2:Nat->List Nat)(top:Option Nat)(hl:l≠[]):cq l.length (ptok F1 F2 top l):=by
 unfold ptok;refine aN (P:=cq l.length) (λhb=>?_) λ_=>?_
 ·obtain⟨c,r,rfl,hc⟩:=f5 hb
  refine⟨?_,ni _⟩;show 1<=(if isBl c then ai r+1 else 0);rw[dt hc];lia
 refine aN (P:=cq l.length) (λhb=>?_) λ_=>?_
 ·obtain⟨c,r,a,hc⟩:=f5 hb.2.2
  have h1:=ed List.length a;rw[ea,g9]at h1;have h2:=so (l.drop 2);rw[ea]at h2;constructor
  ·show 1<=2+_;lia
  ·show 2+_<=_;lia
 refine aN (P:=cq l.length) (λh=>⟨by decide,j0 h rfl⟩) λ_=>?_;refine aN (P:=cq l.length) (λh=>s7 F1 h) λ_=>?_;cases b:bD l with
 |some p=>
  have :=iX b;exact yG p.2 this.1 this.2
 |none=>
  cases l with
  |nil=>exact absurd rfl hl
  |cons c r=>exact ss F2 top
variable{p:Nat×Bool}{t:List Nat}
theorem td(l:List Nat)(n k:Nat):(l.take n).drop k=(l.drop k).take (n-k):=by rw[List.drop_take]
theorem tt(l:List Nat)(h:k<=n):(l.take n).take k=l.take k:=by rw[List.take_take,pB h]
theorem cJ{f:Nat->Bool}(h:1<=n):oneH f (l.take n)=oneH f l:=by
 cases l with
 |nil=>simp
 |cons c r=>
  cases n with
  |zero=>lia
  |succ n=>rfl
theorem fF{f:Nat->Bool}(h:oneH f (l.take n)=true):oneH f l=true:=by
 cases n with
 |zero=>rw[nL]at h;cases h
 |succ n=>rw[cJ (by lia)]at h;exact h
theorem pq{f:Nat->Bool}(h:oneH f l=false):oneH f (l.take n)=false:=by
 rw[mm]at h⊢;exact λq=>h (fF q)
theorem fL(h:1<=n):(l.take n).head?=l.head?:=by
 cases l with
 |nil=>simp
 |cons c r=>
  cases n with
  |zero=>lia
  |succ n=>rfl
theorem eE{c:Nat}(h:(l.take n).head?=some c):l.head?=some c:=by
 cases n with
 |zero=>rw[nL]at h;cases h
 |succ n=>rw[fL (by lia)]at h;exact h
theorem fk(h:k<n):((l.take n).drop k).head?=(l.drop k).head?:=by rw[td];exact fL (by lia)
theorem fK{c:Nat}(h:((l.take n).drop k).head?=some c):(l.drop k).head?=some c:=by rw[td]at h;exact eE h
theorem Dc{c:Nat}(h:((l.take n).drop k).head?=some c):k<n:=by
 have :=az h;rw[g7]at this;lia
theorem mE{f:Nat->Bool}(h:oneH f (l.drop k)=true):k<l.length:=by
 obtain⟨c,r,e,_⟩:=f5 h;exact az (c:=c) (by rw[e];rfl)
theorem mV(h:(l.take n).take k=y)(hk:y.length=k):l.take k=y:=by
 have :k<=n:=by
  have :=ed List.length h;simp at this;lia
 rw[tt l this]at h;exact h
theorem dR(k:Nat)(l:List Nat)(n:Nat):aH k (l.take n)=min n (aH k l):=by
 induction k generalizing l n with
 |zero=>simp[aH]
 |succ k a=>
  cases l with
  |nil=>simp[aH]
  |cons c r=>
   cases n with
   |zero=>simp[aH]
   |succ n=>
    rw[eg,aH,aH,a];split
    ·lia
    ·simp
theorem il(k:Nat)(l:List Nat)(n:Nat):aa k (l.take n)=min n (aa k l):=by
 induction k generalizing l n with
 |zero=>simp[aa]
 |succ k a=>
  cases l with
  |nil=>simp[aa]
  |cons c r=>
   cases n with
   |zero=>simp[aa]
   |succ n=>
    rw[eg,aa,aa,a];split
    ·lia
    ·simp
theorem cv(l:List Nat)(n:Nat):aK (l.take n)=min n (aK l):=by
 induction l generalizing n with
 |nil=>simp[aK]
 |cons c r a=>
  cases n with
  |zero=>simp[aK]
  |succ n=>
   rw[eg,aK,aK,a];split
   ·lia
   ·simp
theorem cz(l:List Nat)(n:Nat):ai (l.take n)=min n (ai l):=by
 induction l generalizing n with
 |nil=>simp[ai]
 |cons c r a=>
  cases n with
  |zero=>simp[ai]
  |succ n=>
   rw[eg,ai,ai,a];split
   ·lia
   ·simp
theorem rj(h:bo (l.take n)=true):bo l=true/\1<=n:=by
 cases n with
 |zero=>rw[nL]at h;cases h
 |succ n=>
  cases l with
  |nil=>simp[bo]at h
  |cons c r=>exact⟨h,by lia⟩
theorem nV(h:bY (l.take n)=true):bY l=true/\1<=n:=by
 cases n with
 |zero=>rw[nL]at h;cases h
 |succ n=>
  cases l with
  |nil=>simp[bY]at h
  |cons c r=>exact⟨h,by lia⟩
theorem jF(a:1<=n):bY (l.take n)=bY l:=by
 cases n with
 |zero=>lia
 |succ n=>cases l<;>rfl
theorem kK(a:1<=n):bo (l.take n)=bo l:=by
 cases n with
 |zero=>lia
 |succ n=>cases l<;>rfl
theorem dY(a:1<=n):aF (l.take n)=aF l:=by
 cases n with
 |zero=>lia
 |succ n=>cases l<;>rfl
theorem gV(h:(escOf l).2<=n):escOf (l.take n)=escOf l:=by
 unfold escOf at h⊢;rw[dR];by_cases h0:0<aH 6 l
 ·rw[dt h0]at h⊢
  have h1:aH 6 l<=n:=by
   refine ml ?_ h;unfold bP;dsimp only;split
   ·exact ep _
   ·split<;>lia
  rw[l5 h1,dt h0,tt l h1];have :bP (l.take n) (aH 6 l)=bP l (aH 6 l):=by
   unfold bP at h⊢;rw[td];cases hd:l.drop (aH 6 l)with
   |nil=>simp
   |cons c r=>
    rw[hd]at h;dsimp only at h⊢;cases hm:n-aH 6 l with
    |zero=>
     rw[nL];dsimp only;split
     ·rename_i hb;rw[dt hb]at h;lia
     ·rfl
    |succ m=>rw[eg]
  rw[this]
 ·rw[cw h0]at h⊢
  rw[cw (by lia)];cases l with
  |nil=>simp
  |cons c r=>
   cases n with
   |zero=>simp at h
   |succ n=>rfl
theorem va(h:n<(escOf l).2):(escOf (l.take n)).2=n:=by
 unfold escOf at h⊢;rw[dR];by_cases h0:0<aH 6 l
 ·rw[dt h0]at h
  have h1:n<=aH 6 l:=by
   unfold bP at h;dsimp only at h;split at h
   ·lia
   ·split at h<;>lia
  rw[pB h1];by_cases a:0<n
  ·rw[dt a]
   show bP (l.take n) n=n;unfold bP;rw[td,I1,nL]
  ·obtain rfl:n=0:=by lia
   simp
 ·rw[cw h0]at h
  have :n=0:=by
   cases l with
   |nil=>simp at h
   |cons c r=>simp at h;exact h
  subst this;simp
theorem IdentR.fn{v:List Nat}(h:IdentR l v k):∀n,l.length<=n->ez n l=(v,k):=by
 induction h with
 |nil=>exact λn _=>by cases n<;>rfl
 |@stop c r h1 h2=>
  intro n a;obtain⟨m,rfl⟩:∃m,n=m+1:=⟨n-1,by simp at a;lia⟩;rw[ez,cw (by simp[h1])];by_cases hc:c=92
  ·rw[dt hc,dt (by subst hc;simpa using h2)]
  ·rw[cw hc]
 |name h1 _ b=>
  intro n a;obtain⟨m,rfl⟩:∃m,n=m+1:=⟨n-1,by simp at a;lia⟩;rw[ez,dt h1,b m (by simpa using a)]
 |@esc r v k h1 _ b=>
  intro n a;obtain⟨m,rfl⟩:∃m,n=m+1:=⟨n-1,by simp at a;lia⟩;rw[ez,cw (by decide),dt rfl,cw (by simpa using h1),b m (by rw[ea];simp at a;lia)]
theorem i8{v:List Nat}(h:IdentR l v k):aC l=(v,k):=h.fn _ (ep _)
theorem IdentR.full{v:List Nat}(h:IdentR l v k)(hk:k<=n)(b:∀r,l.drop k=92::10::r->n≠k+1):IdentR (l.take n) v k:=by
 induction h generalizing n with
 |nil=>rw[yd];exact .nil
 |@stop c r h1 h2=>
  cases n with
  |zero=>rw[nL];exact .nil
  |succ n=>
   rw[eg];refine .stop h1 ?_;cases hc:c==92 with
   |false=>rfl
   |true=>
    rw[hc]at h2;have f:r.head?=some 10:=by simpa using h2
    cases r with
    |nil=>cases f
    |cons d t=>
     obtain rfl:d=10:=by simpa using f
     obtain rfl:c=92:=by simpa using hc
     have :=b t rfl;rw[fL (by lia)];rfl
 |@name c r v k h1 _ a=>
  cases n with
  |zero=>lia
  |succ n=>exact .name h1 (a (by lia) λt e=>by have :=b t e;lia)
 |@esc r v k h1 _ a=>
  cases n with
  |zero=>lia
  |succ n=>
   rw[eg];have e1:escOf (r.take n)=escOf r:=gV (by lia);have h4:((r.take n).head?==some 10)=false:=by
    rw[o1]at h1⊢;exact λq=>h1 (eE q)
   have g:IdentR ((r.take n).drop (escOf (r.take n)).2) v k:=by
    rw[e1,td];refine a (by lia) λt e=>?_;rw[eo]at e;have :=b t (by rw[show 1+(escOf r).2+k=(escOf r).2+k+1 by lia];exact e);lia
   have :=IdentR.esc h4 g;rwa[e1]at this
theorem IdentR.pre{v:List Nat}(h:IdentR l v k)(hk:n<=k):∃v',IdentR (l.take n) v' n:=by
 induction h generalizing n with
 |nil=>
  obtain rfl:n=0:=by lia
  exact⟨[],.nil⟩
 |stop=>
  obtain rfl:n=0:=by lia
  exact⟨[],.nil⟩
 |@name c r v k h1 _ a=>
  cases n with
  |zero=>exact⟨[],.nil⟩
  |succ n=>
   obtain⟨v',q⟩:=a (n:=n) (by lia);exact⟨_,.name h1 q⟩
 |@esc r v k h1 _ a=>
  cases n with
  |zero=>exact⟨[],.nil⟩
  |succ n=>
   rw[eg];have h4:((r.take n).head?==some 10)=false:=by
    rw[o1]at h1⊢;exact λq=>h1 (eE q)
   by_cases d:n<(escOf r).2
   ·have e1:=va d
    have b:IdentR ((r.take n).drop (escOf (r.take n)).2) [] 0:=by
     rw[e1,td,I1,nL];exact .nil
    have :=IdentR.esc h4 b;rw[e1]at this;exact⟨_,by rw[show n+1=1+n+0 by lia];exact this⟩
   ·have e1:escOf (r.take n)=escOf r:=gV (by lia)
    obtain⟨v',q⟩:=a (n:=n-(escOf r).2) (by lia);have b:IdentR ((r.take n).drop (escOf (r.take n)).2) v' (n-(escOf r).2):=by rw[e1,td];exact q
    have :=IdentR.esc h4 b;rw[e1]at this;exact⟨_,by rw[show n+1=1+(escOf r).2+(n-(escOf r).2)by lia];exact this⟩
theorem IdentR.bs{v:List Nat}(h:IdentR l v k)(hd:l.drop k=92::10::t):IdentR (l.take (k+1)) (v++[65533]) (k+1):=by
 induction h with
 |nil=>cases hd
 |@stop c r h1 h2=>
  obtain⟨rfl,rfl⟩:=f4 (show c::r=92::10::t from hd);exact IdentR.esc (r:=[]) rfl .nil
 |@name c r v k h1 _ a=>exact .name h1 (a hd)
 |@esc r v k h1 _ a=>
  rw[show 1+(escOf r).2+k=(escOf r).2+k+1 by lia]at hd⊢;have b:(r.drop (escOf r).2).drop k=92::10::t:=by rw[eo];exact hd
  have q:=a b;rw[eg];have e1:escOf (r.take ((escOf r).2+k+1))=escOf r:=gV (by lia);have h4:((r.take ((escOf r).2+k+1)).head?==some 10)=false:=by
   rw[o1]at h1⊢;exact λq=>h1 (eE q)
  have d:IdentR ((r.take ((escOf r).2+k+1)).drop (escOf (r.take ((escOf r).2+k+1))).2) (v++[65533]) (k+1):=by
   rw[e1,td,show(escOf r).2+k+1-(escOf r).2=k+1 by lia];exact q
  have :=IdentR.esc h4 d;rw[e1,show 1+(escOf r).2+(k+1)=(escOf r).2+k+1+1 by lia]at this;exact this
theorem ki{c:Nat}:ey q (m+1) (c::r)=if c=q then([],1,0)
  else if c=10 then([],0,1)
  else if c=92 then(match r with
   |[]=>([],1,2)
   |d::w=>if d=10 then((ey q m w).1,2+(ey q m w).2.1,(ey q m w).2.2)
    else((escOf (d::w)).1::(ey q m ((d::w).drop (escOf (d::w)).2)).1,1+(escOf (d::w)).2+(ey q m ((d::w).drop (escOf (d::w)).2)).2.1,(ey q m ((d::w).drop (escOf (d::w)).2)).2.2))
  else(c::(ey q m r).1,(ey q m r).2.1+1,(ey q m r).2.2):=rfl
theorem StrR.fn(hq:q=34\/q=39){v:List Nat}{e:Nat}(h:StrR q l v k e):∀n,l.length<=n->ey q n l=(v,k,e):=by
 have h1:(10:Nat)≠q:=by lia
 have h2:(92:Nat)≠q:=by lia
 induction h with
 |eof=>exact λn _=>by cases n<;>rfl
 |shut=>
  intro n a;obtain⟨m,rfl⟩:∃m,n=m+1:=⟨n-1,by simp at a;lia⟩;rw[ki,dt rfl]
 |bad=>
  intro n a;obtain⟨m,rfl⟩:∃m,n=m+1:=⟨n-1,by simp at a;lia⟩;rw[ki,cw h1,dt rfl]
 |escEnd=>
  intro n a;obtain⟨m,rfl⟩:∃m,n=m+1:=⟨n-1,by simp at a;lia⟩;rw[ki,cw h2];rfl
 |escNl _ b=>
  intro n a;obtain⟨m,rfl⟩:∃m,n=m+1:=⟨n-1,by simp at a;lia⟩;rw[ki,cw h2,cw (by decide),dt rfl];show(if 10=10 then _ else _)=_;rw[dt rfl,b m (by simp at a;lia)]
 |esc c _ b=>
  intro n a;obtain⟨m,rfl⟩:∃m,n=m+1:=⟨n-1,by simp at a;lia⟩;rw[ki,cw h2,cw (by decide),dt rfl];show(if _=10 then _ else _)=_;rw[cw c,b m (by rw[ea];simp at a⊢;lia)]
 |ch c h4 d _ b=>
  intro n a;obtain⟨m,rfl⟩:∃m,n=m+1:=⟨n-1,by simp at a;lia⟩;rw[ki,cw c,cw d,cw h4,b m (by simpa using a)]
theorem ug(hq:q=34\/q=39){v:List Nat}{e:Nat}(h:StrR q l v k e):bx q l=(v,k,e):=h.fn hq _ (ep _)
theorem StrR.full{v:List Nat}{e:Nat}(h:StrR q l v k e)(h2:e≠2)(hk:k<=n)(h1:e=1->k+1<=n):StrR q (l.take n) v k e:=by
 induction h generalizing n with
 |eof=>exact absurd rfl h2
 |shut=>
  obtain⟨m,rfl⟩:∃m,n=m+1:=⟨n-1,by lia⟩;exact .shut
 |bad=>
  obtain⟨m,rfl⟩:∃m,n=m+1:=⟨n-1,by have :=h1 rfl;lia⟩;exact .bad
 |escEnd=>exact absurd rfl h2
 |@escNl r v k e _ a=>
  obtain⟨m,rfl⟩:∃m,n=m+1+1:=⟨n-2,by lia⟩;exact .escNl (a h2 (by lia) λx=>by have :=h1 x;lia)
 |@esc c r v k e b hs a=>
  have h4:=hs.le;have d:1<=(escOf (c::r)).2:=by
   unfold escOf;split
   ·unfold bP;dsimp only
    split
    ·lia
    ·split<;>lia
   ·simp
  obtain⟨m,rfl⟩:∃m,n=m+1+1:=⟨n-2,by lia⟩;rw[eg,eg];have e1:escOf (c::r.take m)=escOf (c::r):=by
   rw[<-eg];exact gV (by lia)
  have :StrR q ((c::r.take m).drop (escOf (c::r.take m)).2) v k e:=by
   rw[e1,<-eg,td];exact a h2 (by lia) λx=>by have :=h1 x;lia
  have :=StrR.esc b this;rwa[e1]at this
 |@ch c r v k e b h4 d _ a=>
  obtain⟨m,rfl⟩:∃m,n=m+1:=⟨n-1,by lia⟩;exact .ch b h4 d (a h2 (by lia) λx=>by have :=h1 x;lia)
theorem StrR.pre{v:List Nat}{e:Nat}(h:StrR q l v k e)(hk:n<=k)(h0:e=0->n<k):∃v',StrR q (l.take n) v' n 2:=by
 induction h generalizing n with
 |eof=>
  obtain rfl:n=0:=by lia
  exact⟨_,.eof⟩
 |shut=>
  obtain rfl:n=0:=by have :=h0 rfl;lia
  exact⟨_,.eof⟩
 |bad=>
  obtain rfl:n=0:=by lia
  exact⟨_,.eof⟩
 |escEnd=>
  cases n with
  |zero=>exact⟨_,.eof⟩
  |succ n=>
   obtain rfl:n=0:=by lia
   exact⟨_,.escEnd⟩
 |@escNl r v k e _ a=>
  match n with
  |0=>exact⟨_,.eof⟩
  |1=>exact⟨_,.escEnd⟩
  |m+2=>
   obtain⟨v',p⟩:=a (n:=m) (by lia) λx=>by have :=h0 x;lia
   exact⟨_,by rw[show m+2=2+m by lia];rw[show 2+m=m+1+1 by lia,eg,eg,show m+1+1=2+m by lia];exact .escNl p⟩
 |@esc c r v k e b hs a=>
  match n with
  |0=>exact⟨_,.eof⟩
  |1=>exact⟨_,.escEnd⟩
  |m+2=>
   rw[eg,eg];by_cases d:m+1<(escOf (c::r)).2
   ·have e1:=va d
    rw[eg]at e1;have :StrR q ((c::r.take m).drop (escOf (c::r.take m)).2) [] 0 2:=by
     rw[e1,<-eg,td,I1,nL];exact .eof
    have :=StrR.esc b this;rw[e1]at this;exact⟨_,by rw[show m+2=1+(m+1)+0 by lia];exact this⟩
   ·have e1:escOf (c::r.take m)=escOf (c::r):=by
     rw[<-eg];exact gV (by lia)
    obtain⟨v',p⟩:=a (n:=m+1-(escOf (c::r)).2) (by lia) λx=>by have :=h0 x;lia
    have :StrR q ((c::r.take m).drop (escOf (c::r.take m)).2) v' (m+1-(escOf (c::r)).2) 2:=by
     rw[e1,<-eg,td];exact p
    have :=StrR.esc b this;rw[e1]at this;exact⟨_,by rw[show m+2=1+(escOf (c::r)).2+(m+1-(escOf (c::r)).2)by lia];exact this⟩
 |@ch c r v k e b h4 f _ a=>
  cases n with
  |zero=>exact⟨_,.eof⟩
  |succ n=>
   obtain⟨v',p⟩:=a (n:=n) (by lia) λx=>by have :=h0 x;lia
   exact⟨_,.ch b h4 f p⟩
theorem x0(h:(b8 l).2.2<=n):b8 (l.take n)=b8 l:=by
 unfold b8 at h⊢;dsimp only at h⊢;have h1:aH 6 l<=n:=by
  split at h
  ·have :aH 6 l+_<=n:=h
   lia
  ·split at h
   ·have :aH 6 l+1+_<=n:=h
    lia
   ·exact h
 rw[dR,l5 h1,td,il];by_cases hq:aa (6-aH 6 l) (l.drop (aH 6 l))≠0
 ·rw[dt hq]at h⊢
  have h2:aH 6 l+aa (6-aH 6 l) (l.drop (aH 6 l))<=n:=h;rw[l5 (by lia),dt hq,tt l h1]
 ·rw[cw hq]at h⊢
  rw[cw (by lia),tt l h1];rw[td];by_cases hd:(l.drop (aH 6 l)).head?=some 45/\bo (l.drop (aH 6 l+1))=true
  ·rw[dt hd]at h⊢
   have h2:aH 6 l+1+aH 6 (l.drop (aH 6 l+1))<=n:=h;have a:1<=aH 6 (l.drop (aH 6 l+1)):=by
    cases hx:l.drop (aH 6 l+1)with
    |nil=>rw[hx]at hd;exact by cases hd.2
    |cons c r=>
     rw[hx]at hd;have :bR c=true:=hd.2;unfold aH;rw[dt this];lia
   rw[dt ⟨by rw[fL (by lia)];exact hd.1,by rw[kK (by lia)];exact hd.2⟩,dR,l5 (by lia),tt _ (by lia)]
  ·rw[cw hd]
   rw[cw];exact λq=>hd ⟨eE q.1,(rj q.2).1⟩
theorem zN(h:ae l<=n):ae (l.take n)=ae l:=by
 cases l with
 |nil=>rw[yd]
 |cons c r=>
  cases n with
  |zero=>rw[nL];simp at h;rw[h];rfl
  |succ n=>
   rw[eg];have b:∀r:List Nat,ae (c::r)=if(c=101\/c=69)/\bY (r.drop (aF r))=true then 1+aF r+aK (r.drop (aF r)) else 0:=λ_=>rfl;rw[b]at h⊢;rw[b];by_cases hc:(c=101\/c=69)/\bY (r.drop (aF r))=true
   ·rw[dt hc]at h⊢
    have h1:1<=aK (r.drop (aF r)):=by rw[ig hc.2];lia
    have e:aF (r.take n)=aF r:=dY (by lia);rw[e,td,cv,l5 (by lia),dt ⟨hc.1,by rw[jF (by lia)];exact hc.2⟩]
   ·rw[cw hc,cw]
    intro q;refine hc ⟨q.1,?_⟩;have a:=q.2;rw[td]at a;have :=nV a;have e:aF (r.take n)=aF r:=dY (by lia);rw[e]at this;exact this.1
theorem oX{b:Bool}(h:cb l=some (m,b))(hm:m<=n)(h1:1<=n):cb (l.take n)=some (m,b):=by
 unfold cb at h⊢;dsimp only at h⊢;rw[dY h1];by_cases hc:(l.drop (aF l+aK (l.drop (aF l)))).head?=some 46/\bY (l.drop (aF l+aK (l.drop (aF l))+1))=true
 ·rw[dt hc]at h
  obtain⟨rfl,rfl⟩:=v1 (ec h);have d:1<=aK (l.drop (aF l+aK (l.drop (aF l))+1)):=by rw[ig hc.2];lia
  have e1:aK ((l.take n).drop (aF l))=aK (l.drop (aF l)):=by rw[td,cv,l5 (by lia)]
  rw[e1,td,td,dt ⟨by rw[fL (by lia)];exact hc.1,by rw[jF (by lia)];exact hc.2⟩,cv,l5 (by lia)]
 ·rw[cw hc]at h
  by_cases hk:aK (l.drop (aF l))=0
  ·rw[dt hk]at h;cases h
  ·rw[cw hk]at h
   obtain⟨rfl,rfl⟩:=v1 (ec h);have e1:aK ((l.take n).drop (aF l))=aK (l.drop (aF l)):=by rw[td,cv,l5 (by lia)]
   rw[e1,cw,cw hk];rintro⟨c,a⟩;rw[td]at a;exact hc ⟨fK c,(nV a).1⟩
theorem wR(h:cb l=none):cb (l.take n)=none:=by
 by_cases h1:1<=n
 ·unfold cb at h⊢
  dsimp only at h⊢;rw[dY h1];by_cases hc:(l.drop (aF l+aK (l.drop (aF l)))).head?=some 46/\bY (l.drop (aF l+aK (l.drop (aF l))+1))=true
  ·rw[dt hc]at h;cases h
  ·rw[cw hc]at h
   by_cases hk:aK (l.drop (aF l))=0
   ·have e1:aK ((l.take n).drop (aF l))=0:=by rw[td,cv,hk,l5 (by lia)]
    rw[e1,cw,dt rfl];rintro⟨b,a⟩;rw[td]at a;rw[hk]at hc;exact hc ⟨fK b,(nV a).1⟩
   ·rw[cw hk]at h;cases h
 ·obtain rfl:n=0:=by lia
  rfl
theorem rG(h:bD l=some p)(a:p.1<=n):bD (l.take n)=some p:=by
 have h1:=(iX h).1;unfold bD at h⊢;cases hm:cb l with
 |none=>rw[hm]at h;cases h
 |some q=>
  obtain⟨m,b⟩:=q;rw[hm]at h;obtain rfl:=ec h;have h2:m+ae (l.drop m)<=n:=a;have e1:ae ((l.drop m).take (n-m))=ae (l.drop m):=zN (by lia);rw[oX hm (by lia) (by lia)];show some (m+ae ((l.take n).drop m),b&&ae ((l.take n).drop m)==0)=_;rw[td,e1]
theorem rH(h:bD l=none):bD (l.take n)=none:=by
 unfold bD at h⊢;rw[wR]
 ·rfl
 ·cases hm:cb l with
  |none=>rfl
  |some q=>rw[hm]at h;cases h
theorem qt(h:ca l=some m)(d:m+2<=n):ca (l.take n)=some m:=by
 induction l generalizing m n with
 |nil=>cases h
 |cons c r b=>
  obtain⟨n,rfl⟩:∃j,n=j+1:=⟨n-1,by lia⟩;rw[eg];unfold ca at h⊢;by_cases hc:c=42/\r.head?=some 47
  ·rw[dt hc]at h
   rw[dt ⟨hc.1,by rw[fL (by lia)];exact hc.2⟩];exact h
  ·rw[cw hc]at h
   rw[cw λq=>hc ⟨q.1,eE q.2⟩];cases a:ca r with
   |none=>rw[a]at h;cases h
   |some k=>
    rw[a]at h;obtain rfl:k+1=m:=ec h;rw[b a (by lia)];rfl
theorem BA(h:∀m,ca l=some m->n<m+2):ca (l.take n)=none:=by
 induction l generalizing n with
 |nil=>rw[yd];rfl
 |cons c r a=>
  cases n with
  |zero=>rfl
  |succ n=>
   rw[eg];unfold ca at h⊢;by_cases hc:c=42/\r.head?=some 47
   ·rw[dt hc]at h
    have :=h 0 rfl;obtain rfl:n=0:=by lia
    rw[cw (λq=>by rw[nL]at q;exact by cases q.2),nL];rfl
   ·rw[cw hc]at h
    rw[cw λq=>hc ⟨q.1,eE q.2⟩,a]
    ·rfl
    ·intro m hm
     have :=h (m+1) (by rw[hm];rfl);lia
theorem BodyR.fn{v:List Nat}{o:BOut}(h:BodyR l v k o):∀n,l.length<=n->d6 n l=(v,k,o):=by
 induction h with
 |eof=>exact λn _=>by cases n<;>rfl
 |close=>
  intro n a;obtain⟨m,rfl⟩:∃m,n=m+1:=⟨n-1,by simp at a;lia⟩;rfl
 |@blank c r h1=>
  intro n a;obtain⟨m,rfl⟩:∃m,n=m+1:=⟨n-1,by simp at a;lia⟩;rw[d6,cw (by rintro rfl;exact absurd h1 (by decide)),dt h1]
 |@bad c r h1=>
  intro n a;obtain⟨m,rfl⟩:∃m,n=m+1:=⟨n-1,by simp at a;lia⟩;rw[d6,cw (by rintro rfl;exact absurd h1 (by decide)),cw,cw (by rintro rfl;exact absurd h1 (by decide)),dt h1];intro q;unfold isBl at q;simp only[ll,ly]at q;rcases q with(rfl|rfl)|rfl<;>exact absurd h1 (by decide)
 |@esc r v k o h1 _ b=>
  intro n a;obtain⟨m,rfl⟩:∃m,n=m+1:=⟨n-1,by simp at a;lia⟩;rw[d6,cw (by decide),cw (by decide),dt rfl,cw (by simpa using h1),b m (by rw[ea];simp at a;lia)]
 |@raw c r v k o h1 _ b=>
  intro n a;obtain⟨m,rfl⟩:∃m,n=m+1:=⟨n-1,by simp at a;lia⟩;simp only[ra,o1]at h1;rw[d6,cw h1.1.1.1,cw (by simp[h1.1.1.2]),cw h1.1.2,cw (by rw[h1.2];decide),b m (by simpa using a)]
 |@rawNl r v k o h1 _ b=>
  intro n a;obtain⟨m,rfl⟩:∃m,n=m+1:=⟨n-1,by simp at a;lia⟩;rw[d6,cw (by decide),cw (by decide),dt rfl,dt h1,b m (by simpa using a)]
theorem BodyR.full{v:List Nat}{o:BOut}(h:BodyR l v k o)(h2:o≠.eof)(hk:k+1<=n):BodyR (l.take n) v k o:=by
 induction h generalizing n with
 |eof=>exact absurd rfl h2
 |close=>
  obtain⟨m,rfl⟩:∃m,n=m+1:=⟨n-1,by lia⟩;exact .close
 |blank h=>
  obtain⟨m,rfl⟩:∃m,n=m+1:=⟨n-1,by lia⟩;exact .blank h
 |bad h=>
  obtain⟨m,rfl⟩:∃m,n=m+1:=⟨n-1,by lia⟩;exact .bad h
 |@esc r v k o h1 _ a=>
  obtain⟨m,rfl⟩:∃m,n=m+1:=⟨n-1,by lia⟩;rw[eg];have e1:escOf (r.take m)=escOf r:=gV (by lia);have h4:((r.take m).head?==some 10)=false:=by
   rw[o1]at h1⊢;exact λq=>h1 (eE q)
  have b:BodyR ((r.take m).drop (escOf (r.take m)).2) v k o:=by rw[e1,td];exact a h2 (by lia)
  have :=BodyR.esc h4 b;rwa [e1]at this
 |@raw c r v k o h1 _ a=>
  obtain⟨m,rfl⟩:∃m,n=m+1:=⟨n-1,by lia⟩;exact .raw h1 (a h2 (by lia))
 |@rawNl r v k o h1 _ a=>
  obtain⟨m,rfl⟩:∃m,n=m+1:=⟨n-1,by lia⟩;exact .rawNl (by rw[fL (by lia)];exact h1) (a h2 (by lia))
theorem lV(h:remLen l<=n):remLen (l.take n)=remLen l:=by
 induction l using remLen.induct generalizing n with
 |case1=>rw[yd]
 |case2 c=>
  obtain⟨m,rfl⟩:∃m,n=m+1:=⟨n-1,by simp[remLen]at h;lia⟩;rw[eg,yd]
 |case3 d r=>
  rw[cj,dt rfl]at h⊢;match n,h with
  |1,_=>rfl
  |m+2,_=>rw[eg,eg,cj,dt rfl]
 |case4 c d r h1 h2 a=>
  rw[cj,cw h1,dt h2]at h⊢;obtain⟨m,rfl⟩:∃m,n=m+1+1:=⟨n-2,by lia⟩;rw[eg,eg,cj,cw h1,dt h2,a (by lia)]
 |case5 c d r h1 h2 a=>
  rw[cj,cw h1,cw h2]at h⊢;have b:1<=remLen (d::r):=by
   cases r with
   |nil=>exact ep _
   |cons e t=>
    rw[cj];split
    ·lia
    ·split<;>lia
  obtain⟨m,rfl⟩:∃m,n=m+1+1:=⟨n-2,by lia⟩;have :=a (n:=m+1) (by lia);rw[eg]at this;rw[eg,eg,cj,cw h1,cw h2,this]
theorem sq{d:Nat}:1<=remLen (d::r):=by
 cases r with
 |nil=>exact ep _
 |cons e t=>
  rw[cj];split
  ·lia
  ·split<;>lia
theorem uO{x v:List Nat}{o:BOut}(h:o≠.eof)(h1:(fo x v o).2.1<=j)(h2:j<x.length):fo (x.take j) v o=fo x v o/\1<=(fo x v o).2.1:=by
 cases o with
 |eof=>exact absurd rfl h
 |close=>exact⟨rfl,ep _⟩
 |bad=>
  have b:1+remLen (x.drop 1)<=j:=h1;refine⟨?_,tj _ _⟩;show(none,1+remLen ((x.take j).drop 1),some badKey)=(none,1+remLen (x.drop 1),some badKey);rw[td,lV (by lia)]
 |blank=>
  have b:(gC (brun (x.drop 1)) v ((x.drop 1).drop (brun (x.drop 1)))).2.1<=j:=h1;show gC (brun ((x.take j).drop 1)) v (((x.take j).drop 1).drop (brun ((x.take j).drop 1)))=gC (brun (x.drop 1)) v ((x.drop 1).drop (brun (x.drop 1)))/\1<=(gC (brun (x.drop 1)) v ((x.drop 1).drop (brun (x.drop 1)))).2.1;rw[td];cases hd:(x.drop 1).drop (brun (x.drop 1))with
  |nil=>
   rw[hd]at b;have h4:1+brun (x.drop 1)<=j:=b;have :=ed List.length hd;rw[ea,ea]at this;have :x.length-1-brun (x.drop 1)=0:=this;lia
  |cons d t=>
   rw[hd]at b;have e:∀n y,gC n v (d::y)=if d=41 then(some v,1+n+1,none) else(none,1+n+remLen (d::y),some badKey):=λ_ _=>rfl;rw[e]at b;have hp:=sq (d:=d) (r:=t);have h4:brun (x.drop 1)+1<=j-1:=by
    split at b
    ·have :1+brun (x.drop 1)+1<=j:=b
     lia
    ·have :1+brun (x.drop 1)+remLen (d::t)<=j:=b
     lia
   have e1:brun ((x.drop 1).take (j-1))=brun (x.drop 1):=by rw[cP,cP,cz,<-cP];lia
   rw[e1,td,hd];obtain⟨m,hm⟩:∃m,j-1-brun (x.drop 1)=m+1:=⟨j-1-brun (x.drop 1)-1,by lia⟩;rw[hm,eg,e,e];by_cases a:d=41
   ·rw[dt a,dt a];exact⟨rfl,by show 1<=1+_+1;lia⟩
   ·rw[cw a]at b
    have c:1+brun (x.drop 1)+remLen (d::t)<=j:=b;rw[cw a,cw a,<-eg,lV (by lia)];exact⟨rfl,by show 1<=1+_+_;lia⟩
theorem vq(h:(eG l).2.1<=n)(g:n<l.length):eG (l.take n)=eG l:=by
 have hb:=fM l;unfold eG at h⊢;cases hd:l.drop (brun l)with
 |nil=>
  rw[hd]at h;have h1:brun l<=n:=h;have :=ed List.length hd;rw[ea]at this;simp at this;lia
 |cons c r=>
  have hl:=ed List.length hd;rw[ea]at hl;rw[hd]at h;dsimp only at h;have h0:brun l+1<=n/\(c≠41->gc (c::r.take (n-brun l-1))=gc (c::r)/\fo ((c::r.take (n-brun l-1)).drop (gc (c::r)).2.1) (gc (c::r)).1 (gc (c::r)).2.2=fo ((c::r).drop (gc (c::r)).2.1) (gc (c::r)).1 (gc (c::r)).2.2):=by
   by_cases hc:c=41
   ·rw[dt hc]at h;exact⟨h,λq=>absurd hc q⟩
   ·rw[cw hc]at h
    have d:=qV (c::r);generalize gc (c::r)=b at h d;obtain⟨v,k,o⟩:=b;have h1:brun l+k+(fo ((c::r).drop k) v o).2.1<=n:=h;dsimp only at d⊢;have hE:=d.fin;have hk:=d.le.1;have a:o≠.eof:=by
     rintro rfl;have :(c::r).drop k=[]:=hE;have :=ed List.length this;rw[ea]at this;simp at this hl hk;lia
    have hx:1<=((c::r).drop k).length:=by
     cases o with
     |eof=>exact absurd rfl a
     |close=>obtain⟨_,e⟩:=hE;rw[e];simp
     |blank=>obtain⟨_,_,e⟩:=hE;rw[e];simp
     |bad=>obtain⟨_,_,e⟩:=hE;rw[e];simp
    rw[ea]at hx;obtain⟨f,i⟩:=uO (x:=(c::r).drop k) (v:=v) (j:=n-brun l-k) a (by lia) (by rw[ea];lia);refine⟨by lia,λ_=>?_⟩;have e:c::r.take (n-brun l-1)=(c::r).take (n-brun l):=by
     obtain⟨m,hm⟩:∃m,n-brun l=m+1:=⟨n-brun l-1,by lia⟩;rw[hm,eg];rfl
    rw[e,td];exact⟨(d.full a (by lia)).fn _ (ep _),f⟩
  obtain⟨h0,hx⟩:=h0;have e1:brun (l.take n)=brun l:=by rw[cP,cP,cz,<-cP];lia
  have e2:(l.drop (brun l)).take (n-brun l)=c::r.take (n-brun l-1):=by
   obtain⟨m,hm⟩:∃m,n-brun l=m+1:=⟨n-brun l-1,by lia⟩;rw[hd,hm,eg];rfl
  rw[e1,td,e2];dsimp only;by_cases hc:c=41
  ·rw[dt hc,dt hc]
  ·rw[cw hc,cw hc,(hx hc).1,(hx hc).2]
variable{e:Option (List Nat×List Nat)}
abbrev rangeC(l:List Nat):Prop:=oneH (([117,85]:List Nat).contains ·) l=true/\(l.drop 1).head?=some 43/\oneH ((em++[63]).contains ·) (l.drop 2)=true
structure nA(l:List Nat):Prop where
 bl:oneH isBl l=false
 rg:¬rangeC l
 ar:l.take 3≠[45,45,62]
def gM(l:List Nat)(p:Nat):List Nat×Nat×Nat:=
 if ao (l.drop p)=true then bJ dC (p+(av (l.drop p)).2)
 else if(l.drop p).head?=some 37 then bJ jk (p+1)
 else bJ dm p
def cK(l:List Nat):List Nat×Nat×Nat:=
 if l.head?=some 64/\ao (l.drop 1)=true then bJ kAt (1+(av (l.drop 1)).2)
 else if l.head?=some 35/\(oneH bdC (l.drop 1)=true\/bentL (l.drop 1)=true) then bJ gP (1+(av (l.drop 1)).2)
 else if oneH (([34,39]:List Nat).contains ·) l=true then eY (1+(bx (l.headD 0) (l.drop 1)).2.1) (bx (l.headD 0) (l.drop 1)).2.2
 else if l.head?=some 47/\(l.drop 1).head?=some 42 then k6 l.length dD 2 ((ca (l.drop 2)).map (·+2))
 else if l.take 4=[60,33,45,45]then bJ au 4
 else if(l.head?=some 124/\(l.drop 1).head?=some 124)\/(oneH (([126,124,94,36,42]:List Nat).contains ·) l=true/\(l.drop 1).head?=some 61) then bJ au 2
 else bJ au 1
theorem fe(h:oneH isBl l=true):aV l=bJ dw (ai l):=dt h
theorem fc(h0:oneH isBl l=false)(h:rangeC l):aV l=bJ fh (2+(b8 (l.drop 2)).2.2):=by
 unfold aV;rw[cw (by simp[h0]),dt h]
theorem gH(h0:oneH isBl l=false)(h1:¬rangeC l)(h:l.take 3=[45,45,62]):aV l=bJ au 3:=by
 unfold aV;rw[cw (by simp[h0]),cw h1,dt h]
theorem dQ(h:nA l)(h1:ao l=true):aV l=cy l (av l).2 (av l).1:=by
 unfold aV;rw[cw (by simp[h.bl]),cw h.rg,cw h.ar,dt h1]
theorem kp(h:bD l=some p):af l=p.1:=by unfold af;rw[h]
theorem wN(h:bD l=none):af l=0:=by unfold af;rw[h]
theorem da(h:nA l)(h1:ao l=false)(h2:bD l=some p):aV l=gM l p.1:=by
 have f:=(iX h2).1;unfold aV gM;rw[cw (by simp[h.bl]),cw h.rg,cw h.ar,cw (by simp[h1]),kp h2];refine e ⟨λq=>q.2,λq=>⟨by lia,q⟩⟩ rfl ?_;exact e ⟨λq=>q.2,λq=>⟨by lia,q⟩⟩ rfl (dt (by lia))
where
 e{α:Type}{c d:Prop}[Decidable c] [Decidable d]{a b a' b':α}(h:c↔d)(h1:a=a')(h2:b=b'):(if c then a else b)=if d then a' else b':=by
  subst h1 h2;by_cases q:c
  ·rw[dt q,dt (h.mp q)]
  ·rw[cw q,cw (λx=>q (h.mpr x))]
theorem eZ(h:nA l)(h1:ao l=false)(h2:bD l=none):aV l=cK l:=by
 unfold aV cK;rw[cw (by simp[h.bl]),cw h.rg,cw h.ar,cw (by simp[h1]),wN h2,cw (by lia),cw (by lia),cw (by lia)]
section
variable{F1 F2:Nat->List Nat}{top:Option Nat}
theorem gu(h:oneH isBl l=true):ptok F1 F2 top l=bn tWhite (.one (.str (l.take (ai l)))) (ai l):=dt h
theorem fw(h0:oneH isBl l=false)(h:rangeC l):ptok F1 F2 top l=bn tURange (.tup [.int (di (b8 (l.drop 2)).1),.int (di (b8 (l.drop 2)).2.1)]) (2+(b8 (l.drop 2)).2.2):=by
 unfold ptok;rw[cw (by simp[h0]),dt h]
theorem j6(h0:oneH isBl l=false)(h1:¬rangeC l)(h:l.take 3=[45,45,62]):ptok F1 F2 top l=fZ [45,45,62]:=by
 unfold ptok;rw[cw (by simp[h0]),cw h1,dt h]
theorem cx(h:nA l)(h1:aJ l=true):ptok F1 F2 top l=ay F1 l:=by
 unfold ptok;rw[cw (by simp[h.bl]),cw h.rg,cw h.ar,dt h1]
theorem dN(h:nA l)(h1:aJ l=false)(h2:bD l=some p):ptok F1 F2 top l=d7 l p.1 p.2:=by
 unfold ptok;rw[cw (by simp[h.bl]),cw h.rg,cw h.ar,cw (by simp[h1]),h2]
theorem cA(h:nA l)(h1:aJ l=false)(h2:bD l=none):ptok F1 F2 top l=aY F2 top l (l.headD 0):=by
 unfold ptok;rw[cw (by simp[h.bl]),cw h.rg,cw h.ar,cw (by simp[h1]),h2]
end
theorem WordR.ident{v:List Nat}(h:WordR l v k):∃v',IdentR l v' k/\All2 (λx y=>x=y\/(x=65533/\55296<=y)) v v':=by
 induction h with
 |@stop l h1 h2=>
  cases l with
  |nil=>exact⟨[],.nil,.nil⟩
  |cons c r=>exact⟨[],.stop (by rw[<-pF];exact h1) h2,.nil⟩
 |@name c r v k _ h2 _ a=>
  obtain⟨v',q,e⟩:=a;exact⟨c::v',.name (by rw[<-pF];exact h2) q,.cons (.inl rfl) e⟩
 |@esc r v k h1 _ a=>
  obtain⟨v',q,e⟩:=a;refine⟨_,.esc h1 q,.cons ?_ e⟩;unfold lawEsc escOf;by_cases h0:0<aH 6 r
  ·rw[dt h0,dt h0]
   show _=jb _\/_/\_<=jb _;unfold jb;generalize di (r.take (aH 6 r))=x;split
   ·split<;>lia
   ·rw[dt (by lia)];lia
  ·rw[cw h0,cw h0];exact .inl rfl
theorem bw(l:List Nat):(av l).2=(aC l).2/\(ce (av l).1=true↔(aC l).1.map cQ=[117,114,108]):=by
 obtain⟨v',q,e⟩:=(gk l).ident;rw[i8 q];refine⟨rfl,?_⟩;generalize(av l).1=v at e;show _↔v'.map cQ=_;have key:∀{x y:Nat},(x=y\/(x=65533/\55296<=y))->((([117,85]:List Nat).contains x=true↔cQ y=117)/\(([114,82]:List Nat).contains x=true↔cQ y=114)/\(([108,76]:List Nat).contains x=true↔cQ y=108)):=by
  intro x y h;simp only[JI,JN,t4,ll,ly];unfold cQ;split<;>lia
 cases e with
 |nil=>simp[ce]
 |cons h1 e=>
  cases e with
  |nil=>simp[ce]
  |cons h2 e=>
   cases e with
   |nil=>simp[ce]
   |cons a e=>
    cases e with
    |nil=>
     simp only[ce,fi,rx,List.map_nil,Jv,and_true];rw[(key h1).1,(key h2).2.1,(key a).2.2]
    |cons h4 e=>simp[ce]
def NB(l:List Nat):Prop:=∀i,l[i]?=some 92->l[i+1]?≠some 92
theorem NB.tail{c:Nat}(h:NB (c::r)):NB r:=λi=>h (i+1)
theorem NB.drop(h:NB l)(k:Nat):NB (l.drop k):=λi b a=>by
 rw[gf]at b a;exact h (k+i) b a
theorem NB.ne{d:Nat}(h:NB (92::d::r)):d≠92:=λe=>h 0 rfl (by rw[e];rfl)
noncomputable def dy:Nat->List Nat->Nat
 |_,[]=>0
 |b,c::r=>if c=41/\b≠92 then 1 else dy c r+1
theorem lL(b:Nat)(l:List Nat):dy b l=match bg b l with|none=>l.length|some m=>m+1:=by
 induction l generalizing b with
 |nil=>rfl
 |cons c r a=>
  unfold dy bg;split
  ·rfl
  ·rw[a]
   cases bg c r<;>rfl
theorem bU{b c:Nat}(h:c≠41\/b=92):dy b (c::r)=dy c r+1:=by
 rw[dy,cw];lia
theorem sT{b b':Nat}(h:l.head?≠some 41\/(b≠92/\b'≠92)):dy b l=dy b' l:=by
 cases l with
 |nil=>rfl
 |cons c r=>
  by_cases hc:c=41
  ·subst hc
   rcases h with h|h
   ·exact absurd rfl h
   ·rw[dy,dy,dt ⟨rfl,h.1⟩,dt ⟨rfl,h.2⟩]
  ·rw[bU (.inl hc),bU (.inl hc)]
theorem sR{b:Nat}{p:Nat->Bool}(hp:∀c,p c=true->c≠41/\c≠92)(n:Nat)(h:(l.take n).all p=true)(a:n<=l.length)(h1:1<=n):∃b',b'≠92/\dy b l=n+dy b' (l.drop n):=by
 induction n generalizing b l with
 |zero=>lia
 |succ n d=>
  cases l with
  |nil=>simp at a
  |cons c r=>
   rw[eg,s6,fi]at h;have hc:=hp c h.1;rw[bU (.inl hc.1)];by_cases h0:n=0
   ·subst h0
    exact⟨c,hc.2,by rw[vA,pu];lia⟩
   ·obtain⟨b',e1,e2⟩:=d (b:=c) (l:=r) h.2 (by simpa using a) (by lia)
    exact⟨b',e1,by rw[vA,e2];lia⟩
theorem Db{c:Nat}(h:cD c=true):c≠41/\c≠92:=by
 constructor<;>(rintro rfl;exact absurd h (by decide))
theorem jV{c:Nat}(h:isBl c=true):c≠41/\c≠92:=by
 constructor<;>(rintro rfl;exact absurd h (by decide))
theorem AR(h:NB (92::r))(a:r≠[]):∃b',b'≠92/\dy 92 r=(escOf r).2+dy b' (r.drop (escOf r).2):=by
 unfold escOf;by_cases h0:0<aH 6 r
 ·rw[dt h0]
  obtain⟨b',e1,e2⟩:=sR (b:=92) (p:=cD) (λc=>Db) (aH 6 r) (cf 6 r) (bT 6 r).2 h0;show∃b',b'≠92/\dy 92 r=bP r (aH 6 r)+dy b' (r.drop (bP r (aH 6 r)));unfold bP;cases hd:r.drop (aH 6 r)with
  |nil=>exact⟨b',e1,e2⟩
  |cons c t=>
   dsimp only;by_cases hb:isBl c=true
   ·rw[dt hb]
    refine⟨c,(jV hb).2,?_⟩;rw[hd,bU (.inl (jV hb).1)]at e2;have :r.drop (aH 6 r+1)=t:=by rw[<-eo,hd];rfl
    rw[this,e2];lia
   ·rw[cw hb]
    exact⟨b',e1,e2⟩
 ·rw[cw h0]
  cases r with
  |nil=>exact absurd rfl a
  |cons d t=>
   refine⟨d,h.ne,?_⟩;show dy 92 (d::t)=1+dy d t;rw[bU (.inr rfl)];lia
theorem ut{b:Nat}(h:NB l)(hb:b≠92):dy b l=remLen l:=by
 induction l using remLen.induct generalizing b with
 |case1=>rfl
 |case2 c=>
  by_cases hc:c=41
  ·subst hc;rw[dy,dt ⟨rfl,hb⟩];rfl
  ·rw[bU (.inl hc)];rfl
 |case3 d r=>rw[dy,dt ⟨rfl,hb⟩,cj,dt rfl]
 |case4 c d r h1 h2 a=>
  obtain⟨rfl,rfl⟩:=h2;rw[cj,cw h1,dt ⟨rfl,rfl⟩,bU (.inl h1),bU (.inr rfl),a h.tail.tail (by decide)]
 |case5 c d r h1 h2 a=>
  rw[cj,cw h1,cw h2,bU (.inl h1)];by_cases hc:c=92
  ·rw[sT (b':=0) (.inl (λe=>h2 ⟨hc,by simpa using e⟩)),a h.tail (by decide)]
  ·rw[a h.tail hc]
theorem mO(b:Nat)(hb:b≠92)(l:List Nat):∃b',b'≠92/\dy b l=brun l+dy b' (l.drop (brun l)):=by
 by_cases h:brun l=0
 ·exact⟨b,hb,by rw[h,pu,Iq]⟩
 ·refine sR (p:=isBl) (λc=>jV) (brun l) ?_ (by rw[cP];exact ni l) (by lia)
  rw[cP];clear h;induction l with
  |nil=>rfl
  |cons c r a=>
   rw[ai];split
   ·rename_i hc;rw[eg,s6,hc,a];rfl
   ·rfl
def Ga(l:List Nat):BOut->Prop
 |.eof=>l=[]
 |.close=>∃r,l=41::r
 |.blank=>∃c r,l=c::r/\isBl c=true
 |.bad=>∃c r,l=c::r/\c≠41/\c≠92
theorem zx{v:List Nat}{o:BOut}(h:BodyR l v k o):∀{b:Nat},NB l->b≠92->(∃b',b'≠92/\dy b l=k+dy b' (l.drop k))/\Ga (l.drop k) o:=by
 induction h with
 |eof=>exact λ_ hb=>⟨⟨0,by decide,rfl⟩,rfl⟩
 |@close r=>exact λ_ hb=>⟨⟨_,hb,by rw[pu,Iq]⟩,⟨r,rfl⟩⟩
 |@blank c r h=>exact λ_ hb=>⟨⟨_,hb,by rw[pu,Iq]⟩,⟨c,r,rfl,h⟩⟩
 |@bad c r h=>
  refine λ_ hb=>⟨⟨_,hb,by rw[pu,Iq]⟩,⟨c,r,rfl,?_⟩⟩;constructor<;>(rintro rfl;exact absurd h (by decide))
 |@esc r v k o h1 j d=>
  intro b e hb;rw[show 1+(escOf r).2+k=((escOf r).2+k)+1 by lia,vA,<-eo];by_cases g:r=[]
  ·subst g
   have hk:k=0:=by have :=j.le.1;simpa using this
   subst hk;obtain⟨_,a⟩:=d (b:=0) (λi=>by simp) (by decide);refine⟨⟨0,by decide,?_⟩,a⟩;rw[bU (.inl (by decide))];rfl
  ·obtain⟨m,e1,e2⟩:=AR e g
   obtain⟨⟨f,e3,e4⟩,a⟩:=d (b:=m) (e.tail.drop _) e1;refine⟨⟨f,e3,?_⟩,a⟩;rw[bU (.inl (by decide)),e2,e4];lia
 |@raw c r v k o h1 _ d=>
  intro b e hb;have hc:c≠41/\c≠92:=by
   simp only[ra,o1]at h1;exact⟨h1.1.1.1,h1.1.2⟩
  obtain⟨⟨f,e3,e4⟩,a⟩:=d (b:=c) e.tail hc.2;refine⟨⟨f,e3,?_⟩,a⟩;rw[bU (.inl hc.1),e4,vA];lia
 |@rawNl r v k o h1 _ d=>
  intro b e hb;obtain⟨⟨f,e3,e4⟩,a⟩:=d (b:=0) e.tail (by decide);refine⟨⟨f,e3,?_⟩,a⟩;rw[bU (.inl (by decide)),sT (b':=0) (.inl (by rw[h1];decide)),e4,vA];lia
theorem xC{v:List Nat}{o:BOut}{w:Option (List Nat)}(h:AfterR l o v w n e)(hE:Ga l o){b:Nat}(i:NB l)(hb:b≠92):dy b l=n:=by
 cases h with
 |eof=>rfl
 |close=>rw[dy,dt ⟨rfl,hb⟩]
 |@bad c r v=>
  obtain⟨g,a,e,h1,h2⟩:=hE;obtain⟨rfl,rfl⟩:=f4 e;rw[bU (.inl h1),ut i.tail h2];lia
 |@blank0 c r v hd=>
  obtain⟨g,a,e,h1⟩:=hE;obtain⟨rfl,rfl⟩:=f4 e;obtain⟨b',e1,e2⟩:=mO c (jV h1).2 r;rw[bU (.inl (jV h1).1),e2,hd];show brun r+0+1=_;lia
 |@blank1 c r v t hd=>
  obtain⟨g,a,e,h1⟩:=hE;obtain⟨rfl,rfl⟩:=f4 e;obtain⟨b',e1,e2⟩:=mO c (jV h1).2 r;rw[bU (.inl (jV h1).1),e2,hd,dy,dt ⟨rfl,e1⟩];lia
 |@blank2 c r v d t hd _=>
  obtain⟨g,a,e,h1⟩:=hE;obtain⟨rfl,rfl⟩:=f4 e;obtain⟨b',e1,e2⟩:=mO c (jV h1).2 r;have f:NB (d::t):=by rw[<-hd];exact i.tail.drop _
  rw[bU (.inl (jV h1).1),e2,hd,ut f e1];lia
theorem Ag{w:Option (List Nat)}(h:UrlR l w n e)(b:NB l):dy 40 l=n:=by
 obtain⟨b',e1,e2⟩:=mO 40 (by decide) l;rw[e2];cases h with
 |none hd=>rw[hd];rfl
 |close0 hd=>rw[hd,dy,dt ⟨rfl,e1⟩]
 |@body c r v k o w n e hd _ d f=>
  rw[hd];have a:NB (c::r):=by rw[<-hd];exact b.drop _
  obtain⟨⟨i,e3,e4⟩,g⟩:=zx d a e1;rw[e4,xC f g (a.drop _) e3];lia
theorem mP(h:oneH (([34,39]:List Nat).contains ·) (l.drop (brun l))=false)(a:NB l):(eG l).2.1=dy 40 l:=(Ag (jX h) a).symm
def Sy(x:List Nat×Nat×Nat)(o:TokO):Prop:=x.2.1=o.len/\((x.1=bh/\o.op=.push 41)\/(x.1≠bh/\o.op=.stay))
theorem kne:(cg≠bh/\gw≠bh/\gx≠bh/\bA≠bh)/\eD≠bh/\dD≠bh:=by
 decide
section
variable{c:Prop}[Decidable c]{x y:List Nat×Nat×Nat}{o:TokO}
theorem syl(h:¬c)(q:Sy y o):Sy (if c then x else y) o:=by rw[cw h];exact q
theorem sZ(h:c)(q:Sy x o):Sy (if c then x else y) o:=by rw[dt h];exact q
theorem syr{a b:TokO}(h:¬c)(q:Sy x b):Sy x (if c then a else b):=by rw[cw h];exact q
theorem nq{a b:TokO}(h:c)(q:Sy x a):Sy x (if c then a else b):=by rw[dt h];exact q
end
theorem sy1{k:List Nat}{v:Told}(h:n=m)(hk:k≠bh):Sy (bJ k n) (bn t v m):=⟨h,.inr ⟨hk,rfl⟩⟩
theorem iQ{k v:List Nat}(h:n=v.length)(hk:k≠bh):Sy (bJ k n) (fZ v):=sy1 h hk
theorem E2(F:Nat->List Nat)(c:NB l):Sy (cy l (av l).2 (av l).1) (ay F l):=by
 obtain⟨e1,e2⟩:=bw l;unfold cy ay;rw[e1];dsimp only;by_cases h1:(l.drop (aC l).2).head?≠some 40
 ·rw[dt h1,dt h1];exact⟨rfl,.inr ⟨kne.1.1,rfl⟩⟩
 ·rw[cw h1,cw h1]
  rw[cP,eo];by_cases h2:ce (av l).1=false
  ·rw[dt h2,cw]
   ·exact⟨rfl,.inl ⟨rfl,rfl⟩⟩
   ·intro q
    rw[e2.mpr q.1]at h2;cases h2
  ·rw[cw h2]
   have b:=e2.mp (by simpa using h2);by_cases a:oneH (([34,39]:List Nat).contains ·) (l.drop ((aC l).2+1+ai (l.drop ((aC l).2+1))))=true
   ·rw[dt a,cw (by rw[a];exact λq=>by cases q.2)]
    exact⟨rfl,.inl ⟨rfl,rfl⟩⟩
   ·rw[cw a,dt ⟨b,by simpa using a⟩]
    have hq:oneH (([34,39]:List Nat).contains ·) ((l.drop ((aC l).2+1)).drop (brun (l.drop ((aC l).2+1))))=false:=by
     rw[cP,eo];simpa using a
    have h4:=mP hq (c.drop _);rw[lL]at h4;have hl:=az (t2 h1);unfold pn;cases ha:bg 40 (l.drop ((aC l).2+1))with
    |none=>
     rw[ha]at h4;refine⟨?_,.inr ⟨kne.1.2.2.2,rfl⟩⟩;show l.length=_+1+_;rw[h4];dsimp only;rw[ea];lia
    |some m=>
     rw[ha]at h4;refine⟨?_,.inr ⟨kne.2.1,rfl⟩⟩;show m+((aC l).2+1)+1=(aC l).2+1+_;rw[h4];show _=_+1+(m+1);lia
theorem C1{p:Nat}{b:Bool}:Sy (gM l p) (d7 l p b):=by
 unfold gM d7;rw[aU,(bw _).1];by_cases h1:ao (l.drop p)=true
 ·rw[dt h1,dt h1];exact sy1 rfl (by decide)
 ·rw[cw h1,cw h1]
  by_cases h2:(l.drop p).head?=some 37
  ·rw[dt h2,dt h2];exact sy1 rfl (by decide)
  ·rw[cw h2,cw h2];exact sy1 rfl (by decide)
noncomputable def brk(c:Nat):Bool:=([40,91,123,41,93,125]:List Nat).contains c
theorem C0{s:List Nat×Nat×Nat}:Sy (eY (1+s.2.1) s.2.2) (jM F s):=by
 unfold eY jM;split
 ·exact⟨rfl,.inr ⟨kne.1.2.1,rfl⟩⟩
 ·split
  ·exact⟨rfl,.inr ⟨kne.1.2.2.1,rfl⟩⟩
  ·exact⟨rfl,.inr ⟨kne.1.2.2.2,rfl⟩⟩
theorem C2:Sy (k6 l.length dD 2 ((ca (l.drop 2)).map (·+2))) (iV l):=by
 unfold iV;cases ca (l.drop 2)with
 |none=>exact⟨rfl,.inr ⟨kne.1.2.2.2,rfl⟩⟩
 |some m=>exact⟨by show m+2+2=m+4;lia,.inr ⟨kne.2.2,rfl⟩⟩
theorem E1{top:Option Nat}{c:Nat}(hb:brk c=false)(j:some c≠top):Sy (cK (c::r)) (aY F top (c::r) c):=by
 unfold brk at hb;simp only[JI,JN,t4,ra,o1]at hb;obtain⟨n,m,l,s,p,o⟩:=hb;unfold cK aY;rw[aU,(bw _).1];have i:(c::r).drop 1=r:=rfl;have k1:au≠bh:=by decide
 have k:(c::r).headD 0=c:=rfl;rw[i,k];by_cases b:c=64
 ·subst b
  refine nq rfl ?_;by_cases h:ao r=true
  ·exact sZ ⟨rfl,h⟩ (nq h (sy1 rfl (by decide)))
  ·exact syl (λq=>h q.2)<|syl (by simp)<|syl (by simp[oneH])<|syl (by simp)<|syl (by simp)<|syl (by simp[oneH])<|syr h (iQ rfl k1)
 refine syl (by simp[b])<|syr b ?_;by_cases e:c=35
 ·subst e
  refine nq rfl ?_;by_cases h:oneH bdC r=true\/bentL r=true
  ·exact sZ ⟨rfl,h⟩ (nq h (sy1 rfl (by decide)))
  ·exact syl (λq=>h q.2)<|syl (by simp[oneH])<|syl (by simp)<|syl (by simp)<|syl (by simp[oneH])<|syr h (iQ rfl k1)
 refine syl (by simp[e])<|syr e<|syr l<|syr m<|syr n<|syr j<|syr (by simp;lia) ?_;by_cases hq:c=34\/c=39
 ·exact sZ (by simpa [oneH]using hq)<|nq hq C0
 refine syl (by simpa [oneH]using hq)<|syr hq ?_;by_cases hc:c=47/\r.head?=some 42
 ·exact sZ ⟨by rw[hc.1];rfl,hc.2⟩<|nq ⟨hc.2,hc.1⟩ C2
 refine syl (by simpa using hc)<|syr (λq=>hc ⟨q.2,q.1⟩) ?_;by_cases h4:(c::r).take 4=[60,33,45,45]
 ·exact sZ h4<|nq h4 (iQ rfl k1)
 refine syl h4<|syr h4 ?_;have f:(c=124/\r.head?=some 124)↔(c::r).take 2=[124,124]:=by
  cases r with
  |nil=>simp
  |cons d t=>simp
 by_cases h2:(c::r).take 2=[124,124]
 ·have :=f.mpr h2
  exact sZ (.inl ⟨by rw[this.1];rfl,this.2⟩)<|nq h2 (iQ rfl k1)
 refine syr h2 ?_;have g:¬((c::r).head?=some 124/\r.head?=some 124):=λq=>h2 (f.mp ⟨by simpa using q.1,q.2⟩);by_cases hs:([126,124,94,36,42]:List Nat).contains c=true
 ·refine nq hs ?_
  by_cases a:r.head?=some 61
  ·exact sZ (.inr ⟨hs,a⟩)<|nq a (iQ rfl k1)
  ·exact syl (λq=>q.elim g λq=>a q.2)<|syr a (iQ rfl k1)
 ·exact syl (λq=>q.elim g λq=>hs q.1)<|syr hs (iQ rfl k1)
theorem Ar{F1 F2:Nat->List Nat}{top:Option Nat}{c:Nat}(g:NB (c::r))(hb:brk c=false)(f:some c≠top):Sy (aV (c::r)) (ptok F1 F2 top (c::r)):=by
 by_cases h0:oneH isBl (c::r)=true
 ·rw[fe h0,gu h0];exact sy1 rfl (by decide)
 have a:oneH isBl (c::r)=false:=by simpa using h0
 by_cases h1:rangeC (c::r)
 ·rw[fc a h1,fw a h1];exact sy1 rfl (by decide)
 by_cases h2:(c::r).take 3=[45,45,62]
 ·rw[gH a h1 h2,j6 a h1 h2];exact iQ rfl (by decide)
 have d:nA (c::r):=⟨a,h1,h2⟩;by_cases e:aJ (c::r)=true
 ·rw[dQ d (by rw[<-aU];exact e),cx d e];exact E2 _ g
 have b:aJ (c::r)=false:=by simpa using e
 cases h4:bD (c::r)with
 |some p=>rw[da d (by rw[<-aU];exact b) h4,dN d b h4];exact C1
 |none=>rw[eZ d (by rw[<-aU];exact b) h4,cA d b h4];exact E1 hb f
theorem yX{c:Nat}(h:brk c=true):nA (c::r)/\aJ (c::r)=false/\bD (c::r)=none:=by
 have h':c=40\/c=91\/c=123\/c=41\/c=93\/c=125:=by
  unfold brk at h;simpa using h
 have k1:isBl c=false/\([117,85]:List Nat).contains c=false/\c≠45/\fz c=false/\c≠92/\cF c=false/\c≠43/\c≠46:=by
  rcases h' with rfl|rfl|rfl|rfl|rfl|rfl<;>decide
 obtain⟨k,j,b,i,g,f,l,e⟩:=k1;refine⟨⟨k,λq=>?_,λq=>?_⟩,?_,?_⟩
 ·have a:([117,85]:List Nat).contains c=true:=q.1
  rw[j]at a;cases a
 ·rw[eg]at q
  exact b (f4 q).1
 ·show(fz c||if c=45 then _ else c==92&&_)=false
  rw[i,cw b,show(c==92)=false by simpa using g];rfl
 ·unfold bD cb
  have s0:aF (c::r)=0:=cw (by lia);have d:aK (c::r)=0:=by rw[aK,cw (by simp[f])]
  dsimp only;rw[s0,pu,d,cw (by simp[e]),dt rfl];rfl
theorem d9{F1 F2:Nat->List Nat}{top:Option Nat}{c:Nat}(h:brk c=true):ptok F1 F2 top (c::r)=aY F2 top (c::r) c:=by
 obtain⟨h1,h2,a⟩:=yX (r:=r) h;exact cA h1 h2 a
def bI(S:List Nat):Prop:=∀c∈S,c=41\/c=93\/c=125
theorem Aq{F1 F2:Nat->List Nat}{c:Nat}(f:NB (c::r))(g:bI S):(lstep (c::r) S).1.2.1=(ptok F1 F2 S.head? (c::r)).len/\(lstep (c::r) S).2=opS (ptok F1 F2 S.head? (c::r)).op S:=by
 unfold lstep;by_cases h1:S≠[]/\(c::r).head?=S.head?
 ·rw[dt h1]
  have h2:some c=S.head?:=h1.2;have a:c=41\/c=93\/c=125:=g c (List.mem_of_mem_head? h2.symm);rw[d9 (by rcases a with rfl|rfl|rfl<;>rfl)];unfold aY;rw[cw (by lia),cw (by lia),cw (by lia),cw (by lia),cw (by lia),dt h2];exact⟨rfl,rfl⟩
 rw[cw h1];have d:some c≠S.head?:=by
  intro e;refine h1 ⟨?_,e⟩;rintro rfl;cases e
 by_cases h2:oneH (([41,93,125]:List Nat).contains ·) (c::r)=true
 ·rw[dt h2]
  have a:c=41\/c=93\/c=125:=by simpa[oneH]using h2
  rw[d9 (by rcases a with rfl|rfl|rfl<;>rfl)];unfold aY;rw[cw (by lia),cw (by lia),cw (by lia),cw (by lia),cw (by lia),cw d,dt (by rcases a with rfl|rfl|rfl<;>rfl)];exact⟨rfl,rfl⟩
 rw[cw h2];by_cases h4:oneH (([40,91,123]:List Nat).contains ·) (c::r)=true
 ·rw[dt h4]
  have a:c=40\/c=91\/c=123:=by simpa[oneH]using h4
  rcases a with rfl|rfl|rfl
  ·rw[d9 rfl];exact⟨rfl,rfl⟩
  ·rw[d9 rfl];exact⟨rfl,rfl⟩
  ·rw[d9 rfl];exact⟨rfl,rfl⟩
 rw[cw h4];have hb:brk c=false:=by
  unfold oneH at h2 h4;unfold brk;simp at h2 h4⊢;lia
 obtain⟨e1,e2⟩:=Ar (F1:=F1) (F2:=F2) f hb d;refine⟨e1,?_⟩;dsimp only;rcases e2 with⟨k1,b⟩|⟨k1,b⟩
 ·rw[dt k1,b];rfl
 ·rw[cw k1,b];rfl
theorem fW(a:bI S):bI (lstep l S).2:=by
 unfold lstep;split
 ·exact λc m=>a c (List.mem_of_mem_tail m)
 ·split
  ·exact a
  ·split
   ·rename_i h
    obtain⟨c,r,rfl,hc⟩:=f5 h;intro x m;rcases l9.mp m with rfl|m
    ·have b:c=40\/c=91\/c=123:=by simpa using hc
     rcases b with rfl|rfl|rfl
     ·exact .inl rfl
     ·exact .inr (.inl rfl)
     ·exact .inr (.inr rfl)
    ·exact a x m
   ·dsimp only
    split
    ·intro x m
     rcases l9.mp m with rfl|m
     ·exact .inl rfl
     ·exact a x m
    ·exact a
section
variable{F1 F2:Nat->List Nat}{top:Option Nat}
def xF(l:List Nat)(n m:Nat):Prop:=(∃t,l=92::10::t/\n=1)\/(∃t,l.drop m=92::10::t/\n=m+1)\/(∃t,l.drop m=45::92::10::t/\n=m+2)
def Cov(F1 F2:Nat->List Nat)(top:Option Nat)(x:List Nat):Prop:=(∃c r,x=c::r/\brk c=false)/\(ptok F1 F2 top x).len=x.length/\(ptok F1 F2 top x).op=.stay
theorem cM(h:nA l):nA (l.take n):=by
 refine⟨pq h.bl,λq=>h.rg ⟨fF q.1,fK q.2.1,?_⟩,λq=>h.ar (mV q rfl)⟩;have :=q.2.2;rw[td]at this;exact fF this
theorem fb(h:aJ l=false)(q:aJ (l.take n)=true):(∃t,l=92::10::t/\n=1)\/(∃t,l=45::92::10::t/\n=2):=by
 cases n with
 |zero=>rw[nL]at q;cases q
 |succ n=>
  cases l with
  |nil=>cases q
  |cons c r=>
   rw[eg]at q;unfold aJ at h q;dsimp only at h q;rw[ra]at h;rw[h.1,yk]at q;have h2:=h.2;by_cases hc:c=45
   ·subst hc
    rw[dt rfl]at h2 q;cases n with
    |zero=>rw[nL]at q;cases q
    |succ n=>
     cases r with
     |nil=>cases q
     |cons d t=>
      rw[eg]at q;dsimp only at h2 q;rw[ra]at h2;rw[h2.1,yk]at q;have hd:d=92:=by
       rw[fi]at q;simpa using q.1
      subst hd;have a:t.head?=some 10:=by simpa using h2.2
      cases t with
      |nil=>cases a
      |cons e t=>
       obtain rfl:e=10:=by simpa using a
       cases n with
       |zero=>exact .inr ⟨t,rfl,rfl⟩
       |succ n=>exact absurd q (by simp)
   ·rw[cw hc]at h2 q
    have hd:c=92:=by
     rw[fi]at q;simpa using q.1
    subst hd;have a:r.head?=some 10:=by simpa using h2
    cases r with
    |nil=>cases a
    |cons e t=>
     obtain rfl:e=10:=by simpa using a
     cases n with
     |zero=>exact .inl ⟨t,rfl,rfl⟩
     |succ n=>exact absurd q (by simp)
theorem fS(h:aJ l=true)(i:(aC l).2<=n):aJ (l.take n)=true:=by
 have h1:=ej h;obtain⟨n,rfl⟩:∃m,n=m+1:=⟨n-1,by lia⟩;cases l with
 |nil=>cases h
 |cons c r=>
  rw[eg];unfold aJ at h⊢;dsimp only at h⊢;rw[ll]at h⊢;rcases h with h|h
  ·exact .inl h
  right;by_cases hc:c=45
  ·subst hc
   rw[dt rfl]at h⊢;cases r with
   |nil=>cases h
   |cons d t=>
    dsimp only at h;have hI:=bq (45::d::t);have h2:2<=(aC (45::d::t)).2:=by
     cases g:aC (45::d::t)with
     |mk v k=>
      rw[g]at hI h1;show 2<=k;cases hI with
      |stop q=>exact absurd q (by decide)
      |@name _ _ v' f _ q=>
       have :1<=f:=by
        cases q with
        |stop a e=>
         exfalso;rw[<-pF]at a;rw[ll,ll]at h;rcases h with(h|h)|h
         ·rw[<-rk]at h
          unfold bdC at a;rw[h]at a;cases a
         ·have :d=45:=by simpa using h
          subst this;exact absurd a (by decide)
         ·rw[h]at e;cases e
        |name=>lia
        |esc=>lia
       show 2<=f+1;lia
    obtain⟨n,rfl⟩:∃m,n=m+1:=⟨n-1,by lia⟩;rw[eg];dsimp only;rw[ll]at h⊢;rcases h with h|h
    ·exact .inl h
    ·right
     rw[fi]at h⊢;refine⟨h.1,?_⟩;have b:t.head?≠some 10:=by simpa using h.2
     simpa using λq=>b (eE q)
  ·rw[cw hc]at h⊢
   rw[fi]at h⊢;refine⟨h.1,?_⟩;have b:r.head?≠some 10:=by simpa using h.2
   simpa using λq=>b (eE q)
theorem cr(b:(aC l).2<=n)(a:∀r,l.drop (aC l).2=92::10::r->n≠(aC l).2+1):aC (l.take n)=aC l:=i8 ((bq l).full b a)
theorem gQ(hd:l.drop (aC l).2=92::10::t)(a:n=(aC l).2+1):(aC (l.take n)).2=n:=by
 subst a;rw[i8 ((bq l).bs hd)]
theorem jp(a:n<=(aC l).2):(aC (l.take n)).2=n:=by
 obtain⟨v',q⟩:=(bq l).pre a;rw[i8 q]
theorem jf(F:Nat->List Nat){x:List Nat}(h:(aC x).2=x.length):ay F x=bn tIdent (.one (.str (aC x).1)) x.length:=by
 unfold ay;dsimp only;rw[h,dt (by rw[pa];decide)]
theorem bC(h:n<=l.length):(l.take n).length=n:=by rw[g7];lia
theorem uD(h:aJ l=true):∃c r,l=c::r/\brk c=false:=by
 cases l with
 |nil=>cases h
 |cons c r=>
  refine⟨c,r,rfl,?_⟩;cases hb:brk c with
  |false=>rfl
  |true=>rw[(yX (r:=r) hb).2.1]at h;cases h
theorem mN(h:bD l=some p):∃c r,l=c::r/\brk c=false:=by
 cases l with
 |nil=>cases h
 |cons c r=>
  refine⟨c,r,rfl,?_⟩;cases hb:brk c with
  |false=>rfl
  |true=>rw[(yX (r:=r) hb).2.2]at h;cases h
theorem tY{x:List Nat}(h:nA x)(h1:aJ x=true)(h2:(aC x).2=x.length):Cov F1 F2 top x:=by
 refine⟨uD h1,?_⟩;rw[cx h h1,jf F1 h2];exact⟨rfl,rfl⟩
theorem qP{x:List Nat}(h:nA x)(h0:aJ x=false)(h1:bD x=some p)(h2:aJ (x.drop p.1)=true)(a:p.1+(aC (x.drop p.1)).2=x.length):Cov F1 F2 top x:=by
 refine⟨mN h1,?_⟩;rw[dN h h0 h1];unfold d7;rw[dt h2];exact⟨a,rfl⟩
theorem q6(F:Nat->List Nat)(h1:aJ l=true)(i:n<l.length)(hl:(ay F l).len<=n)
  (hq:(aC l).1.map cQ=[117,114,108]->(l.drop (aC l).2).head?=some 40->oneH (([34,39]:List Nat).contains ·) ((l.drop ((aC l).2+1)).drop (brun (l.drop ((aC l).2+1))))=true->(aC l).2+1+brun (l.drop ((aC l).2+1))+1<=n):
  ay F (l.take n)=ay F l\/(xF l n (ay F l).len/\(ay F l).op=.stay/\(aC (l.take n)).2=(l.take n).length):=by
 have hw:=ej h1;unfold ay at hl⊢;dsimp only at hl⊢;by_cases h2:(l.drop (aC l).2).head?≠some 40
 ·rw[dt h2]at hl⊢
  have c:(aC l).2<=n:=hl;by_cases g:∃r,l.drop (aC l).2=92::10::r/\n=(aC l).2+1
  ·obtain⟨r,e1,e2⟩:=g
   right;refine⟨.inr (.inl ⟨r,e1,e2⟩),rfl,?_⟩;rw[gQ e1 e2,bC (by lia)]
  ·left
   rw[cr c λr e q=>g ⟨r,e,q⟩,dt];exact λq=>h2 (fK q)
 ·left
  have d:(l.drop (aC l).2).head?=some 40:=t2 h2;rw[cw h2]at hl⊢;have c:(aC l).2+1<=n:=by
   split at hl
   ·have :(aC l).2+1+_<=n:=hl
    lia
   ·exact hl
  rw[cr (by lia) (λr e=>by rw[e]at d;cases d),cw (by rw[fk (by lia)];exact h2),td];by_cases b:(aC l).1.map cQ=[117,114,108]
  ·by_cases hx:oneH (([34,39]:List Nat).contains ·) ((l.drop ((aC l).2+1)).drop (brun (l.drop ((aC l).2+1))))=true
   ·have h4:=hq b d hx
    rw[cw,cw (λq=>by rw[hx]at q;exact by cases q.2)];intro q;have f:=q.2;rw[cP,cz,<-cP,l5 (by lia),td,cJ (by lia),hx]at f;cases f
   ·have a:oneH (([34,39]:List Nat).contains ·) ((l.drop ((aC l).2+1)).drop (brun (l.drop ((aC l).2+1))))=false:=by simpa using hx
    rw[dt ⟨b,a⟩]at hl;have h4:(aC l).2+1+(eG (l.drop ((aC l).2+1))).2.1<=n:=hl;have hT:oneH (([34,39]:List Nat).contains ·) (((l.drop ((aC l).2+1)).take (n-((aC l).2+1))).drop (brun ((l.drop ((aC l).2+1)).take (n-((aC l).2+1)))))=false:=by
     rw[cP]at a⊢;rw[cz,td];by_cases h:ai (l.drop ((aC l).2+1))<=n-((aC l).2+1)
     ·rw[l5 h]
      exact pq a
     ·rw[pB (by lia),I1,nL];rfl
    rw[dt ⟨b,hT⟩,dt ⟨b,a⟩,vq (by lia) (by rw[ea];lia)]
  ·rw[cw (λq=>b q.1),cw (λq=>b q.1)]
end
variable{F1:Nat->List Nat}{F2:Nat->List Nat}{K5:Int}{Kh:List (List Nat×Told)}{S':List Nat}
abbrev LSp(J8:List Nat)(t q:Nat)(K5:Int)(r0 L:Nat)(S:List Nat)(r1:Nat)(os:List (Option MV))(mh:List MO):LS:=
 ⟨some (.str J8)::some (.bool false)::some (.int (J8.length:Int))::some (.int (t:Int))::some (.int (q:Int))::some (.int ((place (J8.take t)).1:Int))::some (.int K5)::some (.ref r0)::some (.ref L)::some (topV S)::some (.ref r1)::os,mh⟩
def AU(F1 F2:Nat->List Nat)(J8:List Nat)(KU:List MO)(r0 r1:Nat)(q:Nat)(s:LS):Prop:=
 q<=J8.length/\∃(KA:List MO)(a:Nat)(K5:Int)(L:Nat)(ps S KB:List Nat)(done:List TRow)(f:Nat->Option MV),s=LSp J8 a q K5 r0 L S r1 ((List.range 18).map f) KA/\
  PSt J8 KU KA r0 r1 L ps S KB done/\(∀KC,ToksR F1 F2 J8 q S KC->ToksR F1 F2 J8 0 [] (done++KC))/\a<=q/\(a:Int)-K5=((place (J8.take a)).2:Int)/\done.length<=2*q
theorem iy{done rowsX:List TRow}{op:Op}{os:List (Option MV)}
  (e:ptok F1 F2 S.head? (J8.drop q)=⟨Kh,n,op⟩)(hq:q<J8.length)(hT:∀KC,ToksR F1 F2 J8 q S KC->ToksR F1 F2 J8 0 [] (done++KC))(hst:PSt J8 KU KA r0 r1 L ps S' KB (done++rowsX))
  (hx:rowsX=Kh.map λr=>⟨S.length,q,r.1,r.2⟩)(k:S'=opS op S)(l:Kh.length<=2)(hd:done.length<=2*q)(b:(q:Int)-K5=((place (J8.take q)).2:Int))(f:(List.range 18).map (λi=>os.getD i none)=os):
  ∃d,AU F1 F2 J8 KU r0 r1 d (LSp J8 q (q+n) K5 r0 L S' r1 os KA)/\J8.length-d<J8.length-q:=by
 have c:J8.drop q≠[]:=λh=>by
  have :=ed List.length h;rw[ea,xk]at this;lia
 have hl:=eW F1 F2 S.head? c;rw[e,ea]at hl;have j:1<=n:=hl.1;have g:n<=J8.length-q:=hl.2;subst hx k;refine⟨q+n,⟨by lia,KA,q,K5,L,ps,_,KB,_,_,by rw[f],hst,λKC a=>?_,by lia,b,?_⟩,by lia⟩
 ·rw[kv]
  refine hT _ ?_;have :=ToksR.cons (F1:=F1) (F2:=F2) (S:=S) (rows:=KC) hq (by rw[e];exact a);rwa [e]at this
 ·simp;lia
theorem bB{C:Nat}{done:List TRow}{k:List Nat}{t:Told}{os:List (Option MV)}
  (e:ptok F1 F2 S.head? (J8.drop q)=bn k t n)(hq:q<J8.length)(hT:∀KC,ToksR F1 F2 J8 q S KC->ToksR F1 F2 J8 0 [] (done++KC))(hst:PSt J8 KU mh r0 r1 L ps S KB done)
  (hl:LeafFs (rl J8 q) (rc J8 q) C fs k t)(hp:mh++[.edict,.inst C mh.length fs]<+:KL)(hd:done.length<=2*q)(a:(q:Int)-K5=((place (J8.take q)).2:Int))(c:(List.range 18).map (λi=>os.getD i none)=os):
  ∃b,AU F1 F2 J8 KU r0 r1 b (LSp J8 q (q+n) K5 r0 L S r1 os (KL.set L (.list (KB.map MV.ref++[MV.ref (mh.length+1)]))))/\J8.length-b<J8.length-q:=
 iy e hq hT (hst.leaf hl hp) rfl rfl (v0 rfl) hd a c
theorem ul{a b c:MO}:(mh++[a,b]).set (mh.length+1) c=mh++[a,c]:=by
 rw[JX _ _ (by lia)];simp
theorem Ck(c:Nat):([32,10,9]:List Nat).contains c=isBl c:=by
 unfold isBl;rw[hH];simp[or_assoc]
theorem Fc(c:Nat):(em++[63]).contains c=(bR c||c==63):=by
 refine oY (P:=λc=>(em++[63]).contains c=(bR c||c==63)) (by decide) (λc hc=>?_) c;rw[ii rfl hc];unfold bR;rw[ii rfl hc,yk];exact(o1.mpr (by lia)).symm
theorem oj(h:oneH ((em++[63]).contains ·) l=true):bo l=true\/l.head?=some 63:=by
 obtain⟨g,r,rfl,hg⟩:=f5 h;rw[Fc,ll,ly]at hg;rcases hg with h|rfl
 ·exact .inl h
 ·exact .inr rfl
theorem iS(l p:List Nat)(a:Nat)(h0:p≠[]):bQ l p a=decide ((l.drop a).take p.length=p):=by
 unfold bQ;rw[hH,fi,Iy,ly,Iy];refine⟨λh=>h.2,λh=>⟨?_,h⟩⟩;have :=ed List.length h;rw[g7,ea]at this;have h1:p.length≠0:=λq=>h0 (on.mp q);lia
theorem gG{a:List MO}{C c:Nat}{done:List TRow}{k:List Nat}{t:Told}{os:List (Option MV)}
  (e:ptok F1 F2 S.head? (J8.drop q)=⟨[(k,t)],n,.push c⟩)(hq:q<J8.length)(hT:∀KC,ToksR F1 F2 J8 q S KC->ToksR F1 F2 J8 0 [] (done++KC))(hst:PSt J8 KU mh r0 r1 L ps S KB done)
  (hl:BlockFs (rl J8 q) (rc J8 q) C fs k t mh.length)(hp:mh++[MO.list []]++[MO.edict,MO.inst C (mh++[MO.list []]).length fs]<+:KL)(j:KL[r1]?=some (.list KO))(d:KL.set L (.list (KB.map MV.ref++[MV.ref ((mh++[MO.list []]).length+1)]))=a)(hd:done.length<=2*q)(b:(q:Int)-K5=((place (J8.take q)).2:Int))(g:(List.range 18).map (λi=>os.getD i none)=os):
  ∃f,AU F1 F2 J8 KU r0 r1 f (LSp J8 q (q+n) K5 r0 mh.length (c::S) r1 os ((a++[MO.tuple [MV.ref L,topV S]]).set r1 (MO.list (KO++[MV.ref a.length]))))/\J8.length-f<J8.length-q:=by
 have e1:(mh++[MO.list []]).length=mh.length+1:=by simp
 rw[e1,kv]at hp;rw[e1]at d;have h:=hst.push (c:=c) hl hp j;have e2:a.length=KL.length:=by rw[<-d,List.length_set]
 rw[d,<-e2]at h;exact iy e hq hT h rfl rfl (v0 rfl) hd b g
theorem new2{a b:MO}:(mh++[a,b])[mh.length+1]?=some b:=by
 simp
theorem df{a b:MO}:(mh++[a,b])[mh.length]?=some a:=by
 simp
theorem AfterR.kind{v:List Nat}{o:BOut}{w:Option (List Nat)}(h:AfterR l o v w n e):(∃x,w=some x/\(e=Option.none\/e=some eofKey))\/(w=Option.none/\e=some badKey):=by
 cases h with
 |eof=>exact .inl ⟨_,rfl,.inr rfl⟩
 |close=>exact .inl ⟨_,rfl,.inl rfl⟩
 |bad=>exact .inr ⟨rfl,rfl⟩
 |blank0=>exact .inl ⟨_,rfl,.inr rfl⟩
 |blank1=>exact .inl ⟨_,rfl,.inl rfl⟩
 |blank2=>exact .inr ⟨rfl,rfl⟩
theorem UrlR.kind{v:Option (List Nat)}(h:UrlR l v k e):(∃x,v=some x/\(e=Option.none\/e=some eofKey))\/(v=Option.none/\e=some badKey):=by
 cases h with
 |none h=>exact .inl ⟨_,rfl,.inr rfl⟩
 |close0 h=>exact .inl ⟨_,rfl,.inl rfl⟩
 |body h hc b a=>exact a.kind
theorem AfterR.val{v:List Nat}{o:BOut}{w:Option (List Nat)}(h:AfterR l o v w n e):∀x,w=some x->x=v:=by
 intro x hx;cases h<;>first|exact(ec hx).symm|cases hx
theorem UrlR.len{v:Option (List Nat)}(h:UrlR l v k e):∀x,v=some x->x.length<=l.length:=by
 intro x hx;cases h with
 |none h=>cases hx;simp
 |close0 h=>cases hx;simp
 |@body c r v k o w n e h hc a b=>
  have h1:=a.le;have h2:=ed List.length h;have d:=fM l;rw[ea]at h2;rw[b.val x hx];lia
theorem vX(F:Nat->List Nat)(h:∀c,(F c).length<=3)(l:List Nat):(l.map F).flatten.length<=3*l.length:=by
 induction l with
 |nil=>exact ep _
 |cons c r a=>
  have :=h c;rw[rx,Jk,g8,g9];lia
theorem pZ{x:List Nat}{K1}(a:mh[j]?=some (.dict K1))(b:∀c,(F c).length<=3)(hx:x.length<=600):eQ j F [.str x] mh=some (.str (si F x),mh):=by
 have h1:=vX F b x;exact(ed (zX _) a).trans (dt (e:=none) ⟨by lia,by lia⟩)
theorem mB{x:List Nat}(a:∀c,(F c).length<=3)(hx:x.length<=600):(si F x).length<=1800:=by
 have :=vX F a x;show((x.map F).flatten).length<=_;lia
theorem qz{done:List TRow}{k d:List Nat}{t b:Told}{os:List (Option MV)}
  (e:ptok F1 F2 S.head? (J8.drop q)=⟨[(k,t),(d,b)],n,.stay⟩)(hq:q<J8.length)(hT:∀KC,ToksR F1 F2 J8 q S KC->ToksR F1 F2 J8 0 [] (done++KC))(hst:PSt J8 KU mh r0 r1 L ps S KB (done++[⟨S.length,q,k,t⟩]++[⟨S.length,q,d,b⟩]))
  (hd:done.length<=2*q)(a:(q:Int)-K5=((place (J8.take q)).2:Int))(f:(List.range 18).map (λi=>os.getD i none)=os):
  ∃c,AU F1 F2 J8 KU r0 r1 c (LSp J8 q (q+n) K5 r0 L S r1 os mh)/\J8.length-c<J8.length-q:=by
 rw[kv]at hst;exact iy e hq hT hst rfl rfl (v0 rfl) hd a f
theorem qx(c:Nat):([34]==[c]||([39]==[c]||false))=([34,39]:List Nat).contains c:=by
 rw[hH];simp only[ll,ly,n9,l9,Jv,and_true,Bool.false_eq_true,or_false,Jp];constructor<;>(intro h;rcases h with h|h<;>simp[h])
theorem yD{c:Nat}:(!([34]==[c]||([39]==[c]||false)))=true↔oneH (λx=>([34,39]:List Nat).contains x) (c::t)=false:=by
 rw[qx];show(!(([34,39]:List Nat).contains c))=true↔([34,39]:List Nat).contains c=false;cases([34,39]:List Nat).contains c<;>simp
theorem i6(l:List Nat)(b:Bool):m9 l b=.none\/∃z,m9 l b=.int z:=by
 cases b
 ·exact .inl rfl
 ·exact .inr ⟨_,rfl⟩
noncomputable abbrev CX:List Nat:=[48,49,50,51,52,53,54,55,56,57,97,98,99,100,101,102,103,104,105,106,107,108,109,110,111,112,113,114,115,116,117,118,119,120,121,122,45,95,65,66,67,68,69,70,71,72,73,74,75,76,77,78,79,80,81,82,83,84,85,86,87,88,89,90]
theorem qF(d:Nat):(CX.contains d||decide (127<d))=bdC d:=by
 refine oY (P:=λd=>(CX.contains d||decide (127<d))=bdC d) (by decide) (λd hd=>?_) d;unfold bdC hdC;rw[g6 hd,x8,x8,Bool.true_or]
theorem Bh{c:Nat}{Q:Bool->Prop}(q:Q (decide (some c=S.head?))):Got (o0 mh (.str [c]) (topV S)) Q:=by
 cases S with
 |nil=>exact ah (show o0 mh (.str [c]) .none=some (decide (some c=([]:List Nat).head?))from rfl) q
 |cons d t=>
  refine ah (a:=decide (some c=(d::t).head?)) ?_ q;show some ([c]==[d])=some (decide (some c=some d));congr 1;rw[hH];simp
theorem t7{c:Nat}:((c::r).head?==some 47&&r.head?==some 42)=decide (r.head?=some 42/\c=47):=by
 rw[hH];simp[and_comm]
theorem xe{done:List TRow}{k:List Nat}{t:Told}(e:ptok F1 F2 S.head? (J8.drop q)=bn k t (J8.drop q).length)(hq:q<J8.length)(hT:∀KC,ToksR F1 F2 J8 q S KC->ToksR F1 F2 J8 0 [] (done++KC)):
  ToksR F1 F2 J8 0 [] (done++[⟨S.length,q,k,t⟩]):=by
 have h0:ToksR F1 F2 J8 (q+(J8.drop q).length) S []:=by
  rw[show q+(J8.drop q).length=J8.length by rw[ea];lia];exact .nil
 have h1:=hT _ (ToksR.cons hq (by rw[e];exact h0));rw[e,m4]at h1;exact h1
theorem hG(h:l.length<=16777216)(ha:a<=l.length)(q:Q (.str (l.drop a))):Got (gW (.str l) (.int (a:Int)) .none) Q:=by
 refine ah (show(if l.length<=16777216 then some (MV.str (cZ l (some (a:Int)) none))else none)=_ by rw[dt h]) ?_;have e1:loI (some (a:Int)) l.length=a:=(jH a _).trans (pB ha);have e2:hiI none l.length=l.length:=rfl;unfold cZ;rw[e1,e2,I2 (by rw[ea];exact ep _)];exact q
theorem PSt.at(h:PSt J8 KU mh r0 r1 L ps S KB rows)(hd:rows.length<=2*q)(hq:q<=600)(p:mh<+:KA):PSt J8 KU KA r0 r1 L ps S KB rows/\KA[L]?=some (.list (KB.map .ref))/\(KB.map MV.ref).length<=16777216:=by
 have :=h.len.1;exact⟨h.ext p,(h.ext p).list,by lia⟩
theorem Hd(f:Nat->Option MV):∃s r q p o n m l k j i h g e d c b a,(List.range 18).map f=[s,r,q,p,o,n,m,l,k,j,i,h,g,e,d,c,b,a]:=⟨_,_,_,_,_,_,_,_,_,_,_,_,_,_,_,_,_,_,rfl⟩
section
variable{F1 F2:Nat->List Nat}{top:Option Nat}
theorem StrR.end{v:List Nat}{e:Nat}(h:StrR q l v k e)(h2:e=2):k=l.length:=by
 induction h with
 |eof=>rfl
 |shut=>cases h2
 |bad=>cases h2
 |escEnd=>rfl
 |escNl _ a=>rw[a h2];simp;lia
 |@esc c r v k e _ _ a=>
  have :=dS (c::r);rw[a h2,ea];simp at this⊢;lia
 |ch _ _ _ _ a=>rw[a h2];simp
theorem FZ(F:Nat->List Nat)(l:List Nat):(aC l).2<=(ay F l).len:=by
 unfold ay;refine aN (P:=λo:TokO=>(aC l).2<=o.len) (λ_=>ep _) λ_=>?_;refine aN (P:=λo:TokO=>(aC l).2<=o.len) (λ_=>?_) λ_=>?_
 ·show _<=_+1+_;lia
 ·show _<=_+1;lia
theorem BK(l:List Nat)(n:Nat)(b:Bool):n<=(d7 l n b).len:=by
 unfold d7;refine aN (P:=λo:TokO=>n<=o.len) (λ_=>by show n<=n+_;lia) λ_=>?_;exact aN (P:=λo:TokO=>n<=o.len) (λ_=>by show n<=n+1;lia) λ_=>ep n
theorem km{c:Nat}(r a:List Nat)(h:brk c=true):aY F top (c::r) c=aY F top (c::a) c:=by
 have h':c=40\/c=91\/c=123\/c=41\/c=93\/c=125:=by
  unfold brk at h;simpa using h
 rcases h' with rfl|rfl|rfl|rfl|rfl|rfl<;>rfl
theorem bs1:aJ [92]=true/\(aC [92]).2=1/\aJ [45,92]=true/\(aC [45,92]).2=2:=by decide
theorem yQ:bD (92::10::t)=none/\bD (45::92::10::t)=none:=⟨rfl,rfl⟩
theorem xi(d:nA l)(h1:aJ l=false)(hp:bD l=some p)(h:n<l.length)(hl:(d7 l p.1 p.2).len<=n):
  ptok F1 F2 top (l.take n)=d7 l p.1 p.2\/(xF l n (d7 l p.1 p.2).len/\(d7 l p.1 p.2).op=.stay/\Cov F1 F2 top (l.take n)):=by
 have c:=ml (BK l p.1 p.2) hl;have b:aJ (l.take n)=false:=by
  cases q:aJ (l.take n)with
  |false=>rfl
  |true=>
   rcases fb h1 q with⟨t,rfl,_⟩|⟨t,rfl,_⟩
   ·rw[yQ.1]at hp;cases hp
   ·rw[yQ.2]at hp;cases hp
 have a:=rG hp c;rw[dN (cM d) b a];unfold d7 at hl⊢;rw[td,tt l c];by_cases h2:aJ (l.drop p.1)=true
 ·rw[dt h2]at hl⊢
  have i:p.1+(aC (l.drop p.1)).2<=n:=hl;have h4:aJ ((l.drop p.1).take (n-p.1))=true:=fS h2 (by lia);by_cases g:∃r,(l.drop p.1).drop (aC (l.drop p.1)).2=92::10::r/\n-p.1=(aC (l.drop p.1)).2+1
  ·obtain⟨r,e1,e2⟩:=g
   have e3:=gQ e1 e2;right;refine⟨.inr (.inl ⟨r,by rw[eo]at e1;exact e1,by show n=p.1+_+1;lia⟩),rfl,?_⟩;exact qP (cM d) b a (by rw[td];exact h4) (by rw[td,e3,bC (by lia)];lia)
  ·left
   rw[dt h4,cr (by lia) λr e q=>g ⟨r,e,q⟩]
 ·rw[cw h2]at hl⊢
  by_cases h4:aJ ((l.drop p.1).take (n-p.1))=true
  ·right
   rcases fb (by simpa using h2) h4 with⟨t,e1,e2⟩|⟨t,e1,e2⟩
   ·rw[cw (by rw[e1];simp)]
    refine⟨.inr (.inl ⟨t,e1,by show n=p.1+1;lia⟩),rfl,qP (cM d) b a (by rw[td];exact h4) ?_⟩;rw[td,e1,e2,bC (by lia)];show p.1+(aC [92]).2=n;rw[bs1.2.1];lia
   ·rw[cw (by rw[e1];simp)]
    refine⟨.inr (.inr ⟨t,e1,by show n=p.1+2;lia⟩),rfl,qP (cM d) b a (by rw[td];exact h4) ?_⟩;rw[td,e1,e2,bC (by lia)];show p.1+(aC [45,92]).2=n;rw[bs1.2.2.2];lia
  ·left
   rw[cw h4];by_cases f:(l.drop p.1).head?=some 37
   ·rw[dt f]at hl⊢
    have :p.1+1<=n:=hl;rw[dt (by rw[fL (by lia)];exact f)]
   ·rw[cw f,cw λq=>f (eE q)]
theorem zd{x:List Nat}{c:Nat}(hx:x=c::r)(hb:brk c=false)(h:nA x)(h0:aJ x=false)(h1:bD x=none)(h2:(aY F2 top x c).len=x.length)(a:(aY F2 top x c).op=.stay):Cov F1 F2 top x:=by
 subst hx;refine⟨⟨c,r,rfl,hb⟩,?_⟩;rw[cA h h0 h1];exact⟨h2,a⟩
theorem fR:aY F top (64::r) 64=if aJ r=true then bn tAt (.one (.str (aC r).1)) (1+(aC r).2) else fZ [64]:=dt rfl
theorem fQ:aY F top (35::r) 35=if oneH bdC r=true\/bentL r=true then bn tHash (.tup [.str (aC r).1,.bool (aJ r)]) (1+(aC r).2) else fZ [35]:=by
 unfold aY;rw[cw (by decide),dt rfl];rfl
theorem Ap(hm:m<r.length)(hl:(aY F top (64::r) 64).len<=m+1):
  aY F top (64::r.take m) 64=aY F top (64::r) 64\/(xF (64::r) (m+1) (aY F top (64::r) 64).len/\(aY F top (64::r) 64).op=.stay/\(aY F top (64::r.take m) 64).len=m+1/\(aY F top (64::r.take m) 64).op=.stay):=by
 rw[fR]at hl⊢;rw[fR];by_cases h2:aJ r=true
 ·rw[dt h2]at hl⊢
  have b:1+(aC r).2<=m+1:=hl;rw[dt (fS h2 (by lia))];by_cases a:∃t,r.drop (aC r).2=92::10::t/\m=(aC r).2+1
  ·obtain⟨t,e1,e2⟩:=a
   right;refine⟨.inr (.inl ⟨t,?_,by show m+1=1+_+1;lia⟩),rfl,?_,rfl⟩
   ·show(64::r).drop (1+(aC r).2)=_
    rw[sl,vA];exact e1
   ·show 1+(aC (r.take m)).2=m+1
    rw[gQ e1 e2];lia
  ·left
   rw[cr (by lia) λt e q=>a ⟨t,e,q⟩]
 ·rw[cw h2]at hl⊢
  by_cases h4:aJ (r.take m)=true
  ·right
   rw[dt h4];rcases fb (by simpa using h2) h4 with⟨t,e1,e2⟩|⟨t,e1,e2⟩
   ·subst e1 e2
    exact⟨.inr (.inl ⟨t,rfl,rfl⟩),rfl,by show 1+(aC [92]).2=_;rw[bs1.2.1],rfl⟩
   ·subst e1 e2
    exact⟨.inr (.inr ⟨t,rfl,rfl⟩),rfl,by show 1+(aC [45,92]).2=_;rw[bs1.2.2.2],rfl⟩
  ·left
   rw[cw h4]
theorem AE(h:bentL (r.take m)=true):bentL r=true\/∃t,r=92::10::t/\m=1:=by
 cases m with
 |zero=>rw[nL]at h;cases h
 |succ m=>
  cases r with
  |nil=>cases h
  |cons c q=>
   rw[eg]at h;have h':(c==92&&!((q.take m).head?==some 10))=true:=h;rw[fi]at h';by_cases hq:q.head?=some 10
   ·right
    cases q with
    |nil=>cases hq
    |cons d t=>
     obtain rfl:d=10:=by simpa using hq
     obtain rfl:c=92:=by simpa using h'.1
     refine⟨t,rfl,?_⟩;cases m with
     |zero=>rfl
     |succ m=>exact absurd h'.2 (by simp)
   ·left
    show(c==92&&!(q.head?==some 10))=true;rw[h'.1];simpa using hq
theorem pD(h:bentL r=true)(hm:1<=m):bentL (r.take m)=true:=by
 obtain⟨m,rfl⟩:∃k,m=k+1:=⟨m-1,by lia⟩;cases r with
 |nil=>cases h
 |cons c q=>
  have h':(c==92&&!(q.head?==some 10))=true:=h;rw[fi]at h';show(c==92&&!((q.take m).head?==some 10))=true;rw[h'.1];have a:q.head?≠some 10:=by simpa using h'.2
  simpa using λx=>a (eE x)
theorem jo(h:oneH bdC r=true\/bentL r=true):1<=(aC r).2:=by
 have :=uV h;rw[(bw r).1]at this;exact this
theorem Ao(hm:m<r.length)(hl:(aY F top (35::r) 35).len<=m+1):
  aY F top (35::r.take m) 35=aY F top (35::r) 35\/(xF (35::r) (m+1) (aY F top (35::r) 35).len/\(aY F top (35::r) 35).op=.stay/\(aY F top (35::r.take m) 35).len=m+1/\(aY F top (35::r.take m) 35).op=.stay):=by
 rw[fQ]at hl⊢;rw[fQ];by_cases h2:oneH bdC r=true\/bentL r=true
 ·rw[dt h2]at hl⊢
  have c:1+(aC r).2<=m+1:=hl;have h1:=jo h2;rw[dt (h2.imp (λq=>by rw[cJ (by lia)];exact q) λq=>pD q (by lia))];by_cases a:∃t,r.drop (aC r).2=92::10::t/\m=(aC r).2+1
  ·obtain⟨t,e1,e2⟩:=a
   right;refine⟨.inr (.inl ⟨t,?_,by show m+1=1+_+1;lia⟩),rfl,?_,rfl⟩
   ·show(35::r).drop (1+(aC r).2)=_
    rw[sl,vA];exact e1
   ·show 1+(aC (r.take m)).2=m+1
    rw[gQ e1 e2];lia
  ·left
   rw[cr (by lia) λt e q=>a ⟨t,e,q⟩];have :aJ (r.take m)=aJ r:=by
    cases h4:aJ r with
    |true=>exact fS h4 (by lia)
    |false=>
     cases b:aJ (r.take m)with
     |false=>rfl
     |true=>
      exfalso;rcases fb h4 b with⟨t,rfl,_⟩|⟨t,rfl,e2⟩
      ·exact absurd h2 (by simp[oneH,bentL,show bdC 92=false by decide])
      ·exact a ⟨t,rfl,e2⟩
   rw[this]
 ·rw[cw h2]at hl⊢
  by_cases h4:oneH bdC (r.take m)=true\/bentL (r.take m)=true
  ·right
   rw[dt h4];rcases h4 with h4|h4
   ·exact absurd (.inl (fF h4)) h2
   ·rcases AE h4 with b|⟨t,rfl,rfl⟩
    ·exact absurd (.inr b) h2
    ·exact⟨.inr (.inl ⟨t,rfl,rfl⟩),rfl,by show 1+(aC [92]).2=_;rw[bs1.2.1],rfl⟩
  ·left
   rw[cw h4]
theorem An{c:Nat}(hb:brk c=false)(b:c≠64)(d:c≠35)(hm:m<r.length)(hl:(aY F top (c::r) c).len<=m+1)(hs:(c=34\/c=39)->(bx c r).2.2=1->(bx c r).2.1+1<=m):
  aY F top (c::r.take m) c=aY F top (c::r) c:=by
 unfold brk at hb;simp only[JI,JN,t4,ra,o1]at hb;obtain⟨l,j,i,s,p,o⟩:=hb;unfold aY at hl⊢;rw[cw b,cw d,cw i,cw j,cw l]at hl⊢;rw[cw b,cw d,cw i,cw j,cw l];by_cases f:some c=top
 ·rw[dt f,dt f]
 have hcl:¬([125,93,41]:List Nat).contains c=true:=by simp;lia
 rw[cw f,cw hcl]at hl⊢;rw[cw f,cw hcl];by_cases hq:c=34\/c=39
 ·rw[dt hq]at hl⊢
  rw[dt hq];have h1:1+(bx c r).2.1<=m+1:=hl;have h:=ew c r;have h2:(bx c r).2.2≠2:=λe=>by
   have :=h.end e;lia
  have :=(h.full h2 (n:=m) (by lia) (hs hq)).fn hq _ (ep _);show jM F (bx c (r.take m))=jM F (bx c r);rw[show bx c (r.take m)=bx c r from this]
 rw[cw hq]at hl⊢;rw[cw hq];by_cases hc:((c::r).drop 1).head?=some 42/\c=47
 ·rw[dt hc]at hl⊢
  unfold iV at hl⊢;cases g:ca ((c::r).drop 2)with
  |none=>
   rw[g]at hl;have :r.length+1<=m+1:=hl;lia
  |some k=>
   rw[g]at hl;have h1:k+4<=m+1:=hl;rw[<-eg,td,td,dt ⟨by rw[fL (by lia)];exact hc.1,hc.2⟩,qt g (by lia)];show bn _ (.one (.str (((((c::r).drop 2).take (m+1-2))).take k))) _=bn _ (.one (.str (((c::r).drop 2).take k))) _;rw[tt _ (by lia)]
 rw[cw hc]at hl⊢;rw[<-eg];rw[cw λq=>hc ⟨fK q.1,q.2⟩];by_cases h4:(c::r).take 4=[60,33,45,45]
 ·rw[dt h4]at hl⊢
  have :4<=m+1:=hl;rw[dt (by rw[tt _ this];exact h4)]
 rw[cw h4]at hl⊢;rw[cw λq=>h4 (mV q rfl)];by_cases h2:(c::r).take 2=[124,124]
 ·rw[dt h2]at hl⊢
  have :2<=m+1:=hl;rw[dt (by rw[tt _ this];exact h2)]
 rw[cw h2]at hl⊢;rw[cw λq=>h2 (mV q rfl)];by_cases hs:([126,124,94,36,42]:List Nat).contains c=true
 ·rw[dt hs]at hl⊢
  rw[dt hs];by_cases a:((c::r).drop 1).head?=some 61
  ·rw[dt a]at hl⊢
   have :2<=m+1:=hl;rw[dt (by rw[fk (by lia)];exact a)]
  ·rw[cw a,cw λq=>a (fK q)]
 ·rw[cw hs,cw hs]
theorem iv{c:Nat}(hc:c=92\/c=45)(h:some c≠top):(aY F top (c::t) c).op=.stay/\(aY F top (c::t) c).len=1:=by
 unfold aY;rw[cw (by lia),cw (by lia),cw (by lia),cw (by lia),cw (by lia),cw h,cw (by simp;lia),cw (by lia),cw (by lia)];have h4:(c::t).take 4≠[60,33,45,45]:=λq=>by
  have :=(f4 q).1;lia
 have h2:(c::t).take 2≠[124,124]:=λq=>by
  have :=(f4 q).1;lia
 rw[cw h4,cw h2,cw (by simp;lia)];exact⟨rfl,rfl⟩
theorem oV{c:Nat}(A:n<(c::r).length)(hl:(ptok F1 F2 top (c::r)).len<=n)(hs:brk c=false->(aV (c::r)).2.2<=n)(u:brk c=false->some c≠top):
  ptok F1 F2 top ((c::r).take n)=ptok F1 F2 top (c::r)\/(xF (c::r) n (ptok F1 F2 top (c::r)).len/\(ptok F1 F2 top (c::r)).op=.stay/\Cov F1 F2 top ((c::r).take n)):=by
 have M:=ml (eW F1 F2 top (l:=c::r) (by simp)).1 hl;obtain⟨m,rfl⟩:∃m,n=m+1:=⟨n-1,by lia⟩;have hm:m<r.length:=by simpa using A
 by_cases hb:brk c=true
 ·left
  rw[eg,d9 hb,d9 hb];exact km _ _ hb
 have a:brk c=false:=by simpa using hb
 have hs:=hs a;by_cases h0:oneH isBl (c::r)=true
 ·left
  rw[gu h0]at hl⊢;have :ai (c::r)<=m+1:=hl;rw[gu (by rw[cJ (by lia)];exact h0),cz,l5 this,tt _ this]
 have g:oneH isBl (c::r)=false:=by simpa using h0
 by_cases h1:rangeC (c::r)
 ·left
  rw[fw g h1]at hl⊢;have h2:2+(b8 ((c::r).drop 2)).2.2<=m+1:=hl;have h:1<=(b8 ((c::r).drop 2)).2.2:=by
   have :=(kr (l:=c::r) (by simp));unfold b8;dsimp only;obtain⟨d,t,e,hd⟩:=f5 h1.2.2;rw[e];have :=oj (l:=d::t) hd;split
   ·show 1<=_+_;lia
   ·split
    ·show 1<=_+1+_;lia
    ·show 1<=aH 6 (d::t)
     rcases this with hx|hx
     ·have z:bR d=true:=hx
      unfold aH;rw[dt z];lia
     ·rename_i C E
      obtain rfl:d=63:=by simpa using hx
      exact absurd (show aa (6-aH 6 (63::t)) ((63::t).drop (aH 6 (63::t)))≠0 from by
       have :aH 6 (63::t)=0:=rfl;rw[this];show aa 6 (63::t)≠0;unfold aa;rw[dt rfl];lia) C
  rw[fw (pq g) ⟨by rw[cJ (by lia)];exact h1.1,by rw[fk (by lia)];exact h1.2.1,by rw[td,cJ (by lia)];exact h1.2.2⟩,td,x0 (by lia)]
 by_cases h2:(c::r).take 3=[45,45,62]
 ·left
  rw[j6 g h1 h2]at hl⊢;have h:3<=m+1:=hl;rw[j6 (pq g) (λq=>h1 ⟨fF q.1,fK q.2.1,fF (n:=m+1-2) (by rw[<-td];exact q.2.2)⟩) (by rw[tt _ h];exact h2)]
 have b:nA (c::r):=⟨g,h1,h2⟩;by_cases h:aJ (c::r)=true
 ·rw[cx b h]at hl⊢
  have h4:=ml (FZ F1 (c::r)) hl;have k:=fS h h4;rw[dQ b (by rw[<-aU];exact h)]at hs;obtain⟨H,G⟩:=bw (c::r);rw[H]at hs;rcases q6 F1 h A hl (λC E D=>by
   unfold cy at hs;rw[cP,eo]at D;rw[cw (by rw[E];simp),cw (by rw[G.mpr C];decide),dt D]at hs;rw[cP];exact hs)with i|⟨i,L,J⟩
  ·left;rw[cx (cM b) k];exact i
  ·exact .inr ⟨i,L,tY (cM b) k J⟩
 have f:aJ (c::r)=false:=by simpa using h
 cases h4:bD (c::r)with
 |some p=>
  rw[dN b f h4]at hl⊢;exact xi b f h4 A hl
 |none=>
  have N:ptok F1 F2 top (c::r)=aY F2 top (c::r) c:=cA b f h4;rw[N]at hl⊢;rw[eZ b (by rw[<-aU];exact f) h4]at hs;by_cases k:aJ ((c::r).take (m+1))=true
  ·right
   rcases fb f k with⟨t,e1,e2⟩|⟨t,e1,e2⟩
   ·obtain⟨rfl,rfl⟩:=f4 e1
    obtain rfl:m=0:=by lia
    exact⟨.inl ⟨t,rfl,rfl⟩,(iv (.inl rfl) (u a)).1,tY (cM b) k bs1.2.1⟩
   ·obtain⟨rfl,rfl⟩:=f4 e1
    obtain rfl:m=1:=by lia
    refine⟨.inr (.inl ⟨t,?_,?_⟩),(iv (.inr rfl) (u a)).1,tY (cM b) k bs1.2.2.2⟩
    ·rw[(iv (.inr rfl) (u a)).2];rfl
    ·rw[(iv (.inr rfl) (u a)).2]
  have j:aJ ((c::r).take (m+1))=false:=by simpa using k
  have i:=rH (n:=m+1) h4;have e1:ptok F1 F2 top ((c::r).take (m+1))=aY F2 top (c::r.take m) c:=cA (cM b) j i;rw[e1];by_cases o:c=64
  ·subst o
   rcases Ap hm hl with q|⟨y,x,w,v⟩
   ·exact .inl q
   ·exact .inr ⟨y,x,zd (c:=64) (r:=r.take m) rfl rfl (cM b) j i (by rw[bC (by lia)];exact w) v⟩
  by_cases s:c=35
  ·subst s
   rcases Ao hm hl with q|⟨y,x,w,v⟩
   ·exact .inl q
   ·exact .inr ⟨y,x,zd (c:=35) (r:=r.take m) rfl rfl (cM b) j i (by rw[bC (by lia)];exact w) v⟩
  left;refine An a o s hm hl λhq I=>?_;unfold cK at hs;rw[cw (by simp[o]),cw (by simp[s]),dt (by simpa [oneH]using hq)]at hs;unfold eY at hs;have B:(bx ((c::r).headD 0) ((c::r).drop 1)).2.2=1:=I;rw[B,cw (by decide),dt rfl]at hs;have :1+(bx c r).2.1+1<=m+1:=hs;lia
end
section
variable{F1 F2:Nat->List Nat}{top:Option Nat}
noncomputable def nc(c:Nat):Bool:=c !=41&&(c !=93&&c !=125)
theorem yV{c:Nat}(h:brk c=false):nc c=true:=by
 unfold brk at h;simp only[JI,JN,t4,ra,o1]at h;unfold nc;simp only[fi,JS];exact⟨h.2.2.2.1,h.2.2.2.2.1,h.2.2.2.2.2⟩
theorem pC(l:List Nat):(l.take (ai l)).all isBl=true:=by
 induction l with
 |nil=>rfl
 |cons c r a=>
  rw[ai];split
  ·rename_i hc;rw[eg,s6,hc,a];rfl
  ·rfl
def wA(c:Nat):Bool:=cD c||(c==63||c==45)
theorem uL(k:Nat)(l:List Nat):(l.take (aa k l)).all wA=true:=by
 induction k generalizing l with
 |zero=>rfl
 |succ k a=>
  cases l with
  |nil=>rfl
  |cons c r=>
   rw[aa];split
   ·rename_i hc;rw[eg,s6,a,hc];rfl
   ·rfl
theorem fN{p:Nat->Bool}{b:Nat}(h1:(l.take a).all p=true)(h2:((l.drop a).take b).all p=true):(l.take (a+b)).all p=true:=by
 rw[rf,Jw,h1,h2];rfl
theorem AL{p q:Nat->Bool}(hp:∀c,p c=true->q c=true)(h:l.all p=true):l.all q=true:=gb.mpr λc m=>hp c (gb.mp h c m)
theorem un(l:List Nat):(l.take (b8 l).2.2).all wA=true:=by
 have hx:∀c,cD c=true->wA c=true:=λc h=>by unfold wA;rw[h];rfl
 have a:∀l:List Nat,(l.take (aH 6 l)).all wA=true:=λl=>AL hx (cf 6 l);unfold b8;dsimp only;split
 ·exact fN (a l) (uL _ _)
 ·split
  ·rename_i h
   refine fN (fN (a l) ?_) (a _);cases hd:l.drop (aH 6 l)with
   |nil=>rfl
   |cons d t=>
    rw[hd]at h;obtain rfl:d=45:=by simpa using h.1
    rfl
  ·exact a l
def rI(c:Nat):Bool:=cF c||([43,45,46,101,69]:List Nat).contains c
theorem jq(l:List Nat):(l.take (aK l)).all rI=true:=by
 induction l with
 |nil=>rfl
 |cons c r a=>
  rw[aK];split
  ·rename_i hc;rw[eg,s6,a];unfold rI;rw[hc];rfl
  ·rfl
theorem qo(l:List Nat):(l.take (aF l)).all rI=true:=by
 cases l with
 |nil=>rfl
 |cons c r=>
  rw[aF];split
  ·rename_i hc;rcases hc with rfl|rfl<;>rfl
  ·rfl
theorem BF{c:Nat}(h:l.head?=some c)(hc:rI c=true):(l.take 1).all rI=true:=by
 cases l with
 |nil=>rfl
 |cons d t=>
  obtain rfl:d=c:=by simpa using h
  rw[eg,s6,hc];rfl
theorem Bn(l:List Nat):(l.take (ae l)).all rI=true:=by
 cases l with
 |nil=>rfl
 |cons c r=>
  rw[ae];split
  ·rename_i h
   refine fN (fN ?_ (qo _)) ?_
   ·rcases h.1 with rfl|rfl<;>rfl
   ·have :=jq (r.drop (aF r))
    rw[show 1+aF r=aF r+1 by lia,vA];exact this
  ·rfl
theorem wT(h:cb l=some p):(l.take p.1).all rI=true:=by
 unfold cb at h;dsimp only at h;have h0:=fN (qo l) (jq (l.drop (aF l)));split at h
 ·rename_i hc
  obtain rfl:=ec h;exact fN (fN h0 (BF hc.1 rfl)) (jq _)
 ·split at h
  ·cases h
  ·obtain rfl:=ec h
   exact h0
theorem mr(h:bD l=some p):(l.take p.1).all rI=true:=by
 unfold bD at h;cases hm:cb l with
 |none=>rw[hm]at h;cases h
 |some q=>
  rw[hm]at h;obtain rfl:=ec h;exact fN (wT hm) (Bn _)
theorem CD{b:Nat}(h:l.all isBl=true):bg b l=none:=by
 induction l generalizing b with
 |nil=>rfl
 |cons c r a=>
  rw[s6,fi]at h;rw[bg,cw (λq=>(jV h.1).1 q.1),a h.2];rfl
theorem eR{c:Nat}{x:List Nat}(h:c=64\/c=35\/c=34\/c=39\/c=47):nA (c::x)/\aJ (c::x)=false/\bD (c::x)=none/\brk c=false:=by
 rcases h with rfl|rfl|rfl|rfl|rfl<;>exact⟨⟨rfl,λq=>(by cases q.1),λq=>(by cases q)⟩,rfl,rfl,rfl⟩
end
variable{raw:List Nat}
def ci(raw:List Nat):Bool:=decide (0<aH 6 raw.reverse)&&((raw.reverse.drop (aH 6 raw.reverse)).head?==some 92)
def ck(kind raw b:List Nat):Bool:=
 if(bdC (b.headD 0)||(bentL b||raw.getLast?==some 92))=true then false
 else if(([32,10]:List Nat).contains (b.headD 0)&&ci raw)=true then false
 else if kind=cg/\(b.headD 0=40\/(raw=[45,45]/\b.headD 0=62)) then false
 else if kind=cg/\(raw=[117]\/raw=[85])/\b.headD 0=43/\oneH ((em++[63]).contains ·) (b.drop 1)=true then false
 else if kind=dC/\b.headD 0=43/\bY (b.drop 1)=true then !decide ((raw.drop (af raw)=[101]\/raw.drop (af raw)=[69])/\101∉raw.take (af raw)/\69∉raw.take (af raw))
 else true
def bz(raw b:List Nat):Bool:=
 if 45∈raw.drop 2 then !decide (cD (b.headD 0)=true/\(raw.drop 2).length<(raw.drop 2).idxOf 45+7)
 else if 63∈raw.drop 2 then !decide (b.headD 0=63/\(raw.drop 2).length<6)
 else if b.headD 0=45/\bo (b.drop 1)=true then false
 else !decide ((cD (b.headD 0)=true\/b.headD 0=63)/\(raw.drop 2).length<6)
def cH(bf raw b:List Nat):Bool:=
 if raw=[64] then !ao b
 else if raw=[35] then !(bdC (b.headD 0)||bentL b)
 else if raw=[45] then !decide ((cF (b.headD 0)=true\/(b.headD 0=46/\bY (b.drop 1)=true))\/b.headD 0=45\/hdC (b.headD 0)=true\/bentL b=true)
 else if raw=[43] then !decide ((cF (b.headD 0)=true\/(b.headD 0=46/\bY (b.drop 1)=true))\/((bf=[117]\/bf=[85])/\(em++[63]).contains (b.headD 0)=true))
 else if raw=[46] then !cF (b.headD 0)
 else if raw=[47] then !decide (b.headD 0=42)
 else if raw=[124] then !decide (b.headD 0=124\/b.headD 0=61)
 else if raw=[126]\/raw=[94]\/raw=[36]\/raw=[42] then !decide (b.headD 0=61)
 else if raw=[60] then !decide (b.take 3=[33,45,45])
 else if raw=[33] then !decide (bf=[60]/\b.take 2=[45,45])
 else true
def bO(kind bf raw b:List Nat):Bool:=
 if kind=bA then false
 else if kind=dw then !([32,10]:List Nat).contains (b.headD 0)
 else if kind=cg\/kind=kAt\/kind=gP\/kind=dC then ck kind raw b
 else if kind=dm then
  if(ao b||(b.headD 0==37||cF (b.headD 0)))=true then false
  else !decide ((46∉raw/\101∉raw/\69∉raw)/\b.headD 0=46/\bY (b.drop 1)=true)
 else if kind=fh then bz raw b
 else if kind=au then cH bf raw b
 else true
theorem tQ{h:List Nat}:∀{k:Nat},h.all cD=true->h.length<=k->aH k (h++92::t)=h.length:=by
 induction h with
 |nil=>
  intro k _ _;cases k with
  |zero=>rfl
  |succ k=>rfl
 |cons c r a=>
  intro k ha hk;rw[s6,fi]at ha;cases k with
  |zero=>cases hk
  |succ k=>
   show(if bR c then aH k (r++92::t)+1 else 0)=r.length+1;rw[ei,dt ha.1,a ha.2 (Nat.le_of_succ_le_succ hk)]
theorem wj:∀{k:Nat}{r:List Nat},m<=k->(∀j,j<m->∃c,r[j]?=some c/\cD c=true)->m<=aH k r:=by
 induction m with
 |zero=>exact λ_ _=>oL _
 |succ m a=>
  intro k r hk h;obtain⟨c,hc,hx⟩:=h 0 (x6 _);cases r with
  |nil=>cases hc
  |cons d r=>
   obtain rfl:=ec hc;cases k with
   |zero=>cases hk
   |succ k=>
    show _<=(if bR d then aH k r+1 else 0);rw[ei,dt hx];exact Nat.succ_le_succ (a (Nat.le_of_succ_le_succ hk) λj b=>h (j+1) (Jn b))
theorem k8(h:j<aH k r):∃c,r[j]?=some c/\cD c=true:=by
 have h1:=cf k r;have h2:=(bT k r).2;have a:j<r.length:=v6 h h2;refine⟨r[j],fg a,gb.mp h1 _ ?_⟩;rw[kx];exact⟨j,by lia,rfl⟩
theorem mT(h:raw[i]?=some 92)(ha:∀c∈raw.drop (i+1),cD c=true)(h1:i+1<raw.length)(d:raw.length<=i+7):ci raw=true:=by
 have e:raw=raw.take i++92::raw.drop (i+1):=by
  have b:=(fd.mp h);obtain⟨hl,a⟩:=b;rw[<-a,List.getElem_cons_drop,xc]
 unfold ci;rw[e,List.reverse_append,I3,kv,List.singleton_append];have hl:(raw.drop (i+1)).reverse.length=raw.length-(i+1):=by rw[s1,ea]
 rw[tQ (by rw[List.all_reverse];exact gb.mpr ha) (by lia),t5];rw[hl,fi];exact⟨g6 (by lia),rfl⟩
theorem mU(h:ci raw=true):∃i,raw[i]?=some 92/\(∀c∈raw.drop (i+1),cD c=true)/\i+1<raw.length/\raw.length<=i+7:=by
 unfold ci at h;rw[fi,Iy,ly]at h;have h1:=bT 6 raw.reverse;have h2:=cf 6 raw.reverse;obtain⟨h0,a⟩:=h;generalize aH 6 raw.reverse=n at*;have b:n<raw.length:=by
  have :=az a;rwa [s1]at this
 have e:raw.drop (raw.length-n)=(raw.reverse.take n).reverse:=by rw[List.take_reverse,JY]
 refine⟨raw.length-n-1,?_,λc m=>?_,by lia,by lia⟩
 ·rw[yc,List.getElem?_reverse b]at a
  rw[show raw.length-n-1=raw.length-1-n by lia];exact a
 ·rw[show raw.length-n-1+1=raw.length-n by lia,e,List.mem_reverse]at m
  exact gb.mp h2 c m
theorem iO(p:List Nat)(h:ci y=true):ci (p++y)=true:=by
 obtain⟨i,h1,h2,a,h4⟩:=mU h;refine mT (i:=p.length+i) (by rw[q0 (by lia),oa];exact h1) (λc m=>h2 c ?_) (by rw[g8];lia) (by rw[g8];lia);rwa[k4,<-eo,t5]at m
theorem kF(p:List Nat){c:Nat}(h:y.getLast?=some c):(p++y).getLast?=some c:=by rw[List.getLast?_append,h];rfl
theorem CW{c:Nat}(h:cD c=true):bdC c=true:=by
 rw[<-ei]at h;have h':c∈[48,49,50,51,52,53,54,55,56,57,97,98,99,100,101,102,65,66,67,68,69,70]:=n9.mp h;exact(by decide:∀c∈[48,49,50,51,52,53,54,55,56,57,97,98,99,100,101,102,65,66,67,68,69,70],bdC c=true) c h'
theorem tB{f:Nat->Bool}{c:Nat}(h:l[j]?=some c):oneH f (l.drop j)=f c:=by
 obtain⟨hl,a⟩:=fd.mp h;rw[e9 hl,a];rfl
theorem zQ(h:j<(escOf r).2):(j=0/\aH 6 r=0)\/(∃c,r[j]?=some c/\cD c=true)\/(j=aH 6 r/\1<=j/\oneH isBl (r.drop j)=true):=by
 unfold escOf at h;split at h
 ·rename_i h0
  by_cases a:j<aH 6 r
  ·exact .inr (.inl (k8 a))
  ·right;right
   have h':j<bP r (aH 6 r):=h;unfold bP at h';cases hd:r.drop (aH 6 r)with
   |nil=>rw[hd]at h';exact absurd h' a
   |cons c t=>
    rw[hd]at h';dsimp only at h';split at h'
    ·rename_i hb
     obtain rfl:j=aH 6 r:=by lia
     rw[hd];exact⟨rfl,h0,hb⟩
    ·exact absurd h' a
 ·have h':j<if r.isEmpty=true then 0 else 1:=h
  split at h'<;>exact .inl ⟨by lia,by lia⟩
theorem y6{x v:List Nat}(h:IdentR x v k):∀{m:Nat},m<k->oneH bdC (x.drop m)=true\/bentL (x.drop m)=true\/(x.take m).getLast?=some 92\/(oneH isBl (x.drop m)=true/\ci (x.take m)=true):=by
 induction h with
 |nil=>exact λh=>absurd h (JC _)
 |stop=>exact λh=>absurd h (JC _)
 |@name c r v k hc _ a=>
  intro m hm;cases m with
  |zero=>left;show bdC c=true;rw[pF];exact hc
  |succ m=>
   rcases a (nE hm)with h|h|h|h
   ·exact .inl h
   ·exact .inr (.inl h)
   ·exact .inr (.inr (.inl (kF [c] h)))
   ·exact .inr (.inr (.inr ⟨h.1,iO [c] h.2⟩))
 |@esc r v k d _ a=>
  intro m hm;cases m with
  |zero=>right;left;show(92==92&&!(r.head?==some 10))=true;rw[d];rfl
  |succ j=>
   by_cases e:j<(escOf r).2
   ·rcases zQ e with⟨rfl,_⟩|⟨c,h1,h2⟩|⟨h1,h2,f⟩
    ·exact .inr (.inr (.inl rfl))
    ·exact .inl (by show oneH bdC (r.drop j)=true;rw[tB h1];exact CW h2)
    ·refine .inr (.inr (.inr ⟨f,?_⟩))
     have g:=bT 6 r;refine mT (i:=0) rfl (λc m=>?_) (by rw[eg,g9,g7];lia) (by rw[eg,g9,g7];lia);have b:c∈r.take j:=m;rw[h1]at b;exact gb.mp (cf 6 r) c b
   ·have e1:(r.drop (escOf r).2).drop (j-(escOf r).2)=r.drop j:=by rw[eo];congr 1;lia
    have e2:(92::r).take (j+1)=(92::r.take (escOf r).2)++(r.drop (escOf r).2).take (j-(escOf r).2):=by
     rw[eg,show j=(escOf r).2+(j-(escOf r).2)by lia,rf,oa];rfl
    have :=a (m:=j-(escOf r).2) (by lia);rw[e1]at this;show oneH bdC (r.drop j)=true\/bentL (r.drop j)=true\/_\/(oneH isBl (r.drop j)=true/\_);rw[e2];rcases this with h|h|h|h
    ·exact .inl h
    ·exact .inr (.inl h)
    ·exact .inr (.inr (.inl (kF _ h)))
    ·exact .inr (.inr (.inr ⟨h.1,iO _ h.2⟩))
theorem tO{x v:List Nat}(h:IdentR x v k):oneH bdC (x.drop k)=false/\bentL (x.drop k)=false:=by
 induction h with
 |nil=>exact⟨rfl,rfl⟩
 |@stop c r h1 h2=>exact⟨by show bdC c=false;rw[pF];exact h1,h2⟩
 |name _ _ a=>exact a
 |@esc r v k _ _ a=>
  rw[eo]at a;rw[show 1+(escOf r).2+k=(escOf r).2+k+1 by lia];exact a
abbrev NB2(x:List Nat)(k:Nat):Prop:=∀j,j+1<k->x[j]?=some 92->x[j+1]?≠some 92
theorem tW(b:NB2 (92::r) k)(hk:(escOf r).2<k)(h:j<(escOf r).2):r[j]?≠some 92:=by
 intro e;rcases zQ h with⟨rfl,_⟩|⟨c,h1,h2⟩|⟨_,_,a⟩
 ·exact b 0 (by lia) rfl e
 ·rw[e]at h1
  obtain rfl:=ec h1;cases h2
 ·rw[tB e]at a;cases a
theorem vb(h:r≠[]):1<=(escOf r).2:=by
 unfold escOf;split
 ·rename_i h0
  show 1<=bP _ _;unfold bP;split
  ·lia
  ·split<;>lia
 ·cases r with
  |nil=>exact absurd rfl h
  |cons=>exact ep _
theorem nF{x v:List Nat}(h:IdentR x v k):∀{i:Nat},i+1=k->k<x.length->NB2 x k->x[i]?≠some 92:=by
 induction h with
 |nil=>exact λh=>by cases h
 |stop=>exact λh=>by cases h
 |@name c r v k hc _ d=>
  intro i l hk b e;cases i with
  |zero=>obtain rfl:=ec e;cases hc
  |succ i=>exact d (JG l) (nE hk) (λj g=>b (j+1) (Jn g)) e
 |@esc r v k _ _ d=>
  intro i l hk b e;have a:(escOf r).2+k<r.length:=by rw[g9]at hk;lia
  cases i with
  |zero=>
   have :(escOf r).2=0:=by lia
   have h1:=vb (r:=r) (by intro q;rw[q]at a;cases a);lia
  |succ j=>
   by_cases g:j<(escOf r).2
   ·exact tW b (by lia) g e
   ·refine d (i:=j-(escOf r).2) (by lia) (by rw[ea];lia) (λq hq=>?_) ?_
    ·rw[gf,gf]
     exact b (1+(escOf r).2+q) (by lia)|>λf=>by
      rw[show 1+(escOf r).2+q=((escOf r).2+q)+1 by lia]at f;exact f
    ·rw[gf,show(escOf r).2+(j-(escOf r).2)=j by lia];exact e
theorem nv{x v:List Nat}(h:IdentR x v k):∀{i:Nat},x[i]?=some 92->i+1<k->k<=i+7->(∀j c,i<j->j<k->x[j]?=some c->cD c=true)->k<x.length->NB2 x k->oneH isBl (x.drop k)=false:=by
 induction h with
 |nil=>exact λ_ h=>absurd h (JC _)
 |stop=>exact λ_ h=>absurd h (JC _)
 |@name c r v k hc _ g=>
  intro i e h1 h2 f hk a;cases i with
  |zero=>obtain rfl:=ec e;cases hc
  |succ i=>exact g e (by lia) (by lia) (λj c p q=>f (j+1) c (by lia) (by lia)) (nE hk) (λj b=>a (j+1) (Jn b))
 |@esc r v k _ _ g=>
  intro i e h1 h2 f hk a;have m:(escOf r).2+k<r.length:=by rw[g9]at hk;lia
  rw[show 1+(escOf r).2+k=(escOf r).2+k+1 by lia];cases i with
  |zero=>
   have h4:(escOf r).2+k<=aH 6 r:=wj (by lia) λj b=>⟨r[j]'(by lia),fg (by lia),f (j+1) _ (by lia) (by lia) (fg (by lia))⟩;have n:aH 6 r<=(escOf r).2:=by
    unfold escOf;rw[dt (by lia)];show _<=bP _ _;unfold bP;split
    ·exact ep _
    ·split<;>lia
   show oneH isBl (r.drop ((escOf r).2+k))=false;have l:(escOf r).2=aH 6 r:=by lia
   rw[show(escOf r).2+k=aH 6 r by lia];unfold escOf at l;rw[dt (by lia)]at l;have d:bP r (aH 6 r)=aH 6 r:=l;unfold bP at d;cases hd:r.drop (aH 6 r)with
   |nil=>rfl
   |cons c t=>
    rw[hd]at d;dsimp only at d;show isBl c=false;cases hb:isBl c with
    |false=>rfl
    |true=>rw[hb,dt rfl]at d;lia
  |succ j=>
   by_cases b:j<(escOf r).2
   ·exact absurd e (tW (r:=r) a (by lia) b)
   ·show oneH isBl (r.drop ((escOf r).2+k))=false
    rw[<-eo];refine g (i:=j-(escOf r).2) ?_ (by lia) (by lia) (λq c p1 p2 p3=>?_) (by rw[ea];lia) (λq hq=>?_)
    ·rw[gf,show(escOf r).2+(j-(escOf r).2)=j by lia];exact e
    ·rw[gf]at p3
     exact f ((escOf r).2+q+1) c (by lia) (by lia) p3
    ·rw[gf,gf]
     exact a ((escOf r).2+q+1) (by lia)
variable{KR:Array Value}
section
variable{prog:Program}{w:World}{A:Around}{E:Value->Shared->Prop}{s:Shared}
theorem tP{l b:Addr}{items:Array Value}{g:Nat}{Q:Value->Shared->Prop}(hl:s.heap.get? l=some {cls:=.type "list",data:=.seq items n})(hb:s.heap.get? b=some {cls:=.type "list",data:=.seq KR g})
  (j:items.size+KR.size<=sizeLine)(h:∀h' n',Heap.SameBut l s.heap h'->h'.get? l=some {cls:=.type "list",data:=.seq (items++KR) n'}->Q (.ref l) {s with heap:=h'}):wpAny (model prog w) A (inplaceOp .Add (.ref l) (.ref b)) Q E s:=by
 have hT:s.TypeIs (.ref l) "list":=⟨_,hl,rfl⟩;have f:s.TypeIs (.ref b) "list":=⟨_,hb,rfl⟩;have a:=F.slot_list_iadd.lookup;have e:fillsInplaceSlot (.type "list") "add" (Operator.Add==.Add)=pure false:=by
  unfold fillsInplaceSlot;show(typeLookup (.type "list") (dunderI "add")>>=λi=>pure (i.isSome&&!isSeqSlot i))=pure false;rw[a];have :isSeqSlot (some (Value.builtin "list.__iadd__"))=true:=by decide+kernel
  simp only[pure_bind,this];rfl
 have c:seqSlot? (.type "list") (dunderI "add")=pure (some (.builtin "list.__iadd__")):=PySem.seqSlot_of a (by decide+kernel);unfold inplaceOp;refine wpAny_holding (lu (wpAny_typeOf hT (lu (wpAny_of_eq e ?_))));show wpAny _ _ (if false=true then _ else _) Q E s;rw[cw hX];refine lu (wpAny_binaryOp1_none (nm:="add") hT f noFill_list_add ?_);refine lu (wpAny_of_eq c (lu (wpAny_rule ?_)));have d:¬(!items.isEmpty&&Builtin.List.listTooLong (items.size+KR.size))=true:=by
  unfold Builtin.List.listTooLong;simp;intro _;exact j
 refine call_meets F.slot_list_iadd hT F.entry_list_iadd (F.args_list_iadd_2 _ _) (AutoSeq1.list___iadd___list_list_0 l items n b KR g d (by lia) (by lia)) ⟨hl,hb,?_⟩;exact h _ _ (Heap.SameBut.update ..) (Heap.get?_update_self _ hl rfl)
end
open PySem PySem.W PySem.Calls PyProof.Rows PySem.SeqAt
section
def Dj(mh:List MO)(a b:MV):Option (Nat×List MV):=mn mh (λr xs=>mn mh (λ_ ys=>if xs.length+ys.length<=16777216 then some (r,xs++ys) else none) b) a
def Fs(a b:MV):Den MV:=λst=>(Dj st.mh a b).map λp=>(.ref p.1,{st with mh:=st.mh.set p.1 (.list p.2)})
theorem vY{r:Nat}(b:mh[r]?=some (.list xs))(a:mh[q]?=some (.list ys))(hl:xs.length+ys.length<=16777216):Dj mh (.ref r) (.ref q)=some (r,xs++ys):=
 (ed (listAt _) b).trans ((ed (listAt _) a).trans (dt (e:=none) hl))
theorem HZ{x:Str}{e:PySem.Expr}(lo:LocalsOk sc names)(H:Ix names x i)(h:SemE G sc names n e d):
  fO G sc names n (.AugAssign (.Name x px) .Add e pos) (aG (bF i) λa=>aG d λb=>aG (Fs a b) (cY i)):=by
 intro c st w K Q C hd k;obtain⟨a,L,hd⟩:=wL (wB hd);refine wpAny_AugAssign_Name (my lo H C L λa' J=>h c st w _ _ C (wB hd) λb KD w1a b' j f m=>?_);obtain⟨r,U,e,hk⟩:=wB j;obtain⟨p,e1,e2⟩:=h8.mp e;cases e2;refine d5 e1 f.sim (J.mono f.pre) λI ls N vs Y e hx u B t=>d5 e f.sim m λV D aR ws nm e hy M A q=>?_;obtain⟨E,e⟩:=ifs e;cases e;have T:ls.length=vs.size:=t.len;have O:D.length=ws.size:=q.len;refine tP B A (by rw[JW];lia) λh' n' y z=>?_;have g:=Nx.chg (k:=w1a.s.toks) (mo:=.list (ls++D)) f.sim hx u y z ⟨_,_,rfl,by rw[JF];exact t.app q⟩ f.sim.2;exact dL (w:=⟨_,w1a.φ⟩) (v:=.ref I) lo H g.sim ⟨N,u,rfl⟩ λl o=>k _ _ l _ (wK hk) ((f.trans g).trans o) rfl
noncomputable def ft:MV->Bool
 |.none=>true
 |.bool _=>true
 |.int _=>true
 |.str _=>true
 |_=>false
open Classical in
theorem jJ{R:α->β->Prop}{l:List α}{m:List β}(h:All2 R l m){a:α}{b:β}(ha:l[i]?=some a)(hb:m[i]?=some b):R a b:=by
 obtain⟨b',e,r⟩:=h.get ha;rw[hb]at e;obtain rfl:=ec e;exact r
theorem uP{w:World}{l b:Addr}{items:Array Value}{a:Nat}{Q:Value->Shared->Prop}(hl:s.heap.get? l=some {cls:=.type "list",data:=.seq items m})
  (hb:s.heap.get? b=some {cls:=.type "list",data:=.seq KR a})(c:items.size+KR.size<=sizeLine)(h:Q (.ref s.heap.objs.size) {s with heap:=s.heap.push {cls:=.type "list",data:=.seq (items++KR)}}):wpAny (model prog w) A (binaryOp .Add (.ref l) (.ref b)) Q E s:=
 concat_meets ⟨_,hl,rfl⟩ ⟨_,hb,rfl⟩ noFill_list_add seq_list_add F.slot_list_add F.entry_list_add (F.args_list_add_2 _ _) (AutoSeq1.list___add___list_list_0 l items m b KR a c) ⟨hl,hb,h⟩
def Co(a b:MV):Den MV:=λst=>(Dj st.mh a b).map λp=>(.ref st.mh.length,{st with mh:=st.mh++[.list p.2]})
theorem Hw{l r:PySem.Expr}(o:SemE G sc names n l KM)(m:SemE G sc names n r KJ):SemE G sc names n (.BinOp l .Add r pos) (aG KM λa=>aG KJ λb=>Co a b):=by
 intro c st w K Q z hd k;refine wpAny_BinOp (o c st w _ _ z (wB hd) λa KD w1a a' h f j=>m c KD w1a _ _ f.sim (wB h) λb KI v b' g d i=>?_);obtain⟨r,E,e,hk⟩:=g;obtain⟨p,e1,e2⟩:=h8.mp e;cases e2;refine d5 e1 d.sim (j.mono d.pre) λH ls M vs J e hx B u s=>d5 e d.sim i λI x L ws nm e hy A t q=>?_;obtain⟨y,e⟩:=ifs e;cases e;have D:ls.length=vs.size:=s.len;have C:x.length=ws.size:=q.len;exact uP u t (by rw[JW];lia) (k _ _ ⟨_,_⟩ _ hk ((f.trans d).new (mo:=.list (ls++x)) rfl ⟨_,_,rfl,by rw[JF];exact s.app q⟩) (mG d.sim))
end
open PySem.SeqAt
section
noncomputable def eqP:MV->MV->Bool
 |.none,.none=>true
 |.bool a,.bool b=>a==b
 |.int a,.int b=>a==b
 |.str a,.str b=>a==b
 |.bool a,.int b=>(if a then 1 else 0)==b
 |.int a,.bool b=>a==(if b then 1 else 0)
 |_,_=>false
theorem zT{a b:MV}(ha:ft a=true)(hb:ft b=true)(d:VR φ a a')(c:VR φ b b'):EqAt A s a' b' (eqP a b):=by
 cases a with
 |none=>cases b with
  |none=>cases d;cases c;exact EqAt.same _
  |bool y=>cases d;cases c;exact EqAt.none_bool _
  |int y=>cases d;obtain⟨u,rfl⟩:=c;exact EqAt.none_int _ _
  |str y=>cases d;obtain⟨u,rfl⟩:=c;exact EqAt.none_str _ _
  |_=>cases hb
 |bool x=>cases b with
  |none=>cases d;cases c;exact EqAt.bool_none _
  |bool y=>cases d;cases c;exact EqAt.bool_bool _ _
  |int y=>cases d;obtain⟨u,rfl⟩:=c;exact EqAt.bool_int _ _ _
  |str y=>cases d;obtain⟨u,rfl⟩:=c;exact EqAt.bool_str _ _ _
  |_=>cases hb
 |int x=>cases b with
  |none=>obtain⟨t,rfl⟩:=d;cases c;exact EqAt.int_none _ _
  |bool y=>obtain⟨t,rfl⟩:=d;cases c;exact EqAt.int_bool _ _ _
  |int y=>obtain⟨t,rfl⟩:=d;obtain⟨u,rfl⟩:=c;exact EqAt.int_int _ _ _ _
  |str y=>obtain⟨t,rfl⟩:=d;obtain⟨u,rfl⟩:=c;exact EqAt.int_str _ _ _ _
  |_=>cases hb
 |str x=>cases b with
  |none=>obtain⟨t,rfl⟩:=d;cases c;exact EqAt.str_none _ _
  |bool y=>obtain⟨t,rfl⟩:=d;cases c;exact EqAt.str_bool _ _ _
  |int y=>obtain⟨t,rfl⟩:=d;obtain⟨u,rfl⟩:=c;exact EqAt.str_int _ _ _ _
  |str y=>
   obtain⟨t,rfl⟩:=d;obtain⟨u,rfl⟩:=c;have h:=EqAt.str_str (A:=A) (s:=s) (⟨x.toArray⟩:Str) t ⟨y.toArray⟩ u;rwa[pP]at h
  |_=>cases hb
 |_=>cases ha
def EqR(mh:List MO):Nat->MV->MV->Bool->Prop
 |0,a,b,r=>ft a=true/\ft b=true/\r=eqP a b
 |m+1,a,b,r=>(ft a=true/\ft b=true/\r=eqP a b)\/(r=false/\∃i xs,a=.ref i/\mh[i]?=some (.tuple xs)/\ft b=true)\/(r=false/\∃i xs,b=.ref i/\mh[i]?=some (.tuple xs)/\ft a=true)\/
   ∃i j xs ys,a=.ref i/\b=.ref j/\mh[i]?=some (.tuple xs)/\mh[j]?=some (.tuple ys)/\((i=j/\r=true)\/(i≠j/\∃e:Nat->Bool,(∀k x y,xs[k]?=some x->ys[k]?=some y->EqR mh m x y (e k))/\
    r=((List.range (min xs.length ys.length)).all e&&xs.length==ys.length)))
def EqL(mh:List MO)(a b:MV)(r:Bool):Prop:=∃i j xs ys,a=.ref i/\b=.ref j/\mh[i]?=some (.list xs)/\mh[j]?=some (.list ys)/\i≠j/\
 ((xs.length≠ys.length/\r=false)\/(xs.length=ys.length/\∃e:Nat->Bool,(∀k x y,xs[k]?=some x->ys[k]?=some y->EqR mh 2 x y (e k))/\r=(List.range xs.length).all e))
open Classical in
def lG(mh:List MO)(a b:MV):Option Bool:=if h:∃r,EqL mh a b r then some h.choose else none
theorem t9{a b:MV}{r:Bool}(h:lG mh a b=some r):EqL mh a b r:=by
 unfold lG at h;split at h
 ·rename_i q
  cases h;exact q.choose_spec
 ·cases h
theorem W.inj{st:LS}(d:W c names st w){x y:Addr}(h:i≠j)(b:w.φ[i]?=some x)(e:w.φ[j]?=some y):x≠y:=by
 obtain⟨⟨m,objs,F,N,a,f,le,g⟩,_⟩:=d;rintro rfl;rw[qi,yt]at a;have q:=a.2.1;rw[List.map_fst_zip (by lia)]at q;exact h ((List.getElem?_inj (fd.mp b).1 q).mp (b.trans e.symm))
theorem Du{st:LS}(o:W c names st w):∀(m:Nat){A:Around}{a b:MV}{a' b':Value}{r:Bool},EqR st.mh m a b r->VR w.φ a a'->VR w.φ b b'->A.units+m<cLine->EqAt A w.s a' b' r:=by
 intro m;induction m with
 |zero=>
  intro A a b a' b' r h l g J;obtain⟨ha,hb,rfl⟩:=h;exact zT ha hb l g
 |succ m I=>
  intro A a b a' b' r h l g J;have d:A.units<cLine:=by lia
  rcases h with⟨ha,hb,rfl⟩|⟨rfl,i,t,rfl,h1,hb⟩|⟨rfl,i,t,rfl,h1,hb⟩|⟨i,j,t,ws,rfl,rfl,h1,h2,M⟩
  ·exact zT ha hb l g
  ·obtain⟨v,vs,p,rfl,_,f,n⟩:=fj o h1 l
   have T:w.s.heap.IsTuple v vs:=⟨_,f,rfl,p,rfl⟩;cases b with
   |none=>cases g;exact EqAt.tuple_none T d
   |bool y=>cases g;exact EqAt.tuple_bool _ T d
   |int y=>obtain⟨u,rfl⟩:=g;exact EqAt.tuple_int _ _ T d
   |str y=>obtain⟨u,rfl⟩:=g;exact EqAt.tuple_str _ _ T d
   |_=>cases hb
  ·obtain⟨v,vs,p,rfl,_,f,n⟩:=fj o h1 g
   have T:w.s.heap.IsTuple v vs:=⟨_,f,rfl,p,rfl⟩;cases a with
   |none=>cases l;exact EqAt.none_tuple T d
   |bool y=>cases l;exact EqAt.bool_tuple _ T d
   |int y=>obtain⟨u,rfl⟩:=l;exact EqAt.int_tuple _ _ T d
   |str y=>obtain⟨u,rfl⟩:=l;exact EqAt.str_tuple _ _ T d
   |_=>cases hb
  ·obtain⟨v,vs,p,rfl,C,f,n⟩:=fj o h1 l
   obtain⟨O,zs,nm,rfl,x,z,q⟩:=fj o h2 g;rcases M with⟨rfl,rfl⟩|⟨B,e,L,rfl⟩
   ·rw[C]at x
    cases x;exact EqAt.same _
   ·have H:t.length=vs.size:=n.len
    have G:ws.length=zs.size:=q.len;have h:=RcAt.tuples (A:=A) (s:=w.s) (e:=e) ⟨_,f,rfl,p,rfl⟩ ⟨_,z,rfl,nm,rfl⟩ d λk k1 N=>by
     have E:k<t.length:=by lia
     have D:k<ws.length:=by lia
     exact I (L k _ _ (fg E) (fg D)) (jJ n (fg E) (by simp)) (jJ q (fg D) (by simp)) (by show A.units+1+m<cLine;lia)
    rw[H,G];exact EqAt.of_refs (o.inj B C x) h
theorem GN:gE G .Eq lG:=by
 intro n sc names c st w a b r a' b' Q d hf x v k;obtain⟨i,j,o,zs,rfl,rfl,h1,h2,y,hc⟩:=t9 hf;have H:=c.ok.units;obtain⟨J,vs,p,rfl,C,g,l⟩:=bu d h1 x;obtain⟨I,ws,nm,rfl,B,f,h⟩:=bu d h2 v;have u:o.length=vs.size:=l.len;have D:zs.length=ws.size:=h.len;rcases hc with⟨hl,rfl⟩|⟨hl,e,z,rfl⟩
 ·have m:=RcAt.lists_lengths (A:=c.A) (s:=w.s) ⟨_,g,rfl,p,rfl⟩ ⟨_,f,rfl,nm,rfl⟩ (by simp;lia) (by lia)
  exact m G.prog G.w NoE Q (k w d.nx)
 ·have m:=RcAt.lists (A:=c.A) (s:=w.s) (e:=e) ⟨_,g,rfl,p,rfl⟩ ⟨_,f,rfl,nm,rfl⟩ (by lia) (by lia) λk k1 E=>by
   have t:k<o.length:=by lia
   have q:k<zs.length:=by lia
   exact Du d 2 (z k _ _ (fg t) (fg q)) (jJ l (fg t) (by simp)) (jJ h (fg q) (by simp)) (by show c.A.units+1+2<cLine;lia)
  rw[<-u]at m;exact m G.prog G.w NoE Q (k w d.nx)
theorem F6{l r:PySem.Expr}(b:SemE G sc names n l KM)(a:SemE G sc names n r KJ)(hm:behindInMarks .Eq r=false):
  SemE G sc names n (.Compare l [.Eq] [r] pos) (sK (gZ lG KM KJ)):=Ce GN b a hm
noncomputable def uA(_:List MO):MV->MV->Option Bool
 |.bool a,.bool b=>some (a==b)
 |_,_=>none
noncomputable def t8(_:List MO):MV->MV->Option Bool
 |.bool a,.bool b=>some (a !=b)
 |_,_=>none
theorem GM:gE G .NotEq t8:=by
 intro n sc names c st w a b r a' b' Q d hf f e k;cases a with
 |bool x=>cases b with
  |bool y=>cases f;cases e;cases hf;exact RcNeAt.bool_bool (A:=c.A) (s:=w.s) x y G.prog G.w NoE Q (k w d.nx)
  |_=>exact nos hf
 |_=>exact nos hf
theorem GO:gE G .Eq uA:=by
 intro n sc names c st w a b r a' b' Q d hf f e k;cases a with
 |bool x=>cases b with
  |bool y=>cases f;cases e;cases hf;exact RcAt.bool_bool (A:=c.A) (s:=w.s) x y G.prog G.w NoE Q (k w d.nx)
  |_=>exact nos hf
 |_=>exact nos hf
end
theorem G4{m j:CmpOp}{l i h:PySem.Expr}(z:gE G m f)(y:gE G j g)(N:SemE G sc names n l KM)(M:SemE G sc names n i KJ)(L:SemE G sc names n h Kc)
  (hm:lastMarks [m,j] [i,h]=false):SemE G sc names n (.Compare l [m,j] [i,h] pos) (sK (qT f g KM KJ Kc)):=by
 intro c st w K Q T hd k;refine Compare_chain (N c st w _ _ T (wB (wB hd)) λa KD w1a a' C v i=>chain_link (M c KD w1a _ _ v.sim (wB C) λb KI H b' B q h=>?_)) hm;obtain⟨t,e,s⟩:=wO (g:=λst=>f st.mh a b) (wB B);refine z n sc names c KI H a b t a' b' _ q.sim e (i.mono q.pre) h λu p=>xt ?_;have O:=(v.trans q).trans p;cases t with
 |false=>exact k _ _ u _ (wK (wK s)) O rfl
 |true=>
  refine chain_last (L c KI u _ _ p.sim (wB s) λd x E U A o I=>?_);obtain⟨r,e,hk⟩:=wO (g:=λst=>g st.mh b d) A;exact y n sc names c x E b d r b' U _ o.sim e (h.mono (p.trans o).pre) I λD J=>k _ _ D _ (wK hk) ((O.trans o).trans J) rfl
theorem b7.add2{xs:List (Addr×Obj)}{st:LS}{L:Addr}{a b:Addr}{i ob:Obj}(sim:b7 G names φ xs st h0a L h)(hk:∀x o,h.get? x=some o->h'.get? x=some o)(ha:h'.get? a=some i)(hb:h'.get? b=some ob)
  (f:h.objs.size<=a)(d:h.objs.size<=b)(g:a≠b):b7 G names φ ((a,i)::(b,ob)::xs) st h0a L h':=by
 obtain⟨m,objs,F,N,k,j,le,l⟩:=sim;have hL:=F.ns.lt;have c:∀{x:Addr},h.objs.size<=x->h0a.get? x=none:=λ{x}hx=>by
  cases e:h0a.get? x with
  |none=>rfl
  |some o=>exact absurd (ry (F.keep x o e)) (Jo hx)
 have fresh:∀{x:Addr},h.objs.size<=x->x∉(xs++φ.zip objs).map (·.1):=λ{x}hx hm=>by
  obtain⟨p,hp,e⟩:=nb.mp hm;exact absurd (ry (N p hp).1) (by rw[e];exact Jo hx)
 refine⟨m,objs,⟨F.ns.at λo e=>hk L o e,λx o e=>hk x o (F.keep x o e),F.above⟩,?_,?_,j,le,l⟩
 ·intro p hp
  rcases l9.mp hp with rfl|hp
  ·exact⟨ha,Nat.ne_of_gt (v6 hL f),c f⟩
  ·rcases l9.mp hp with rfl|hp
   ·exact⟨hb,Nat.ne_of_gt (v6 hL d),c d⟩
   ·exact⟨hk _ _ (N p hp).1,(N p hp).2⟩
 ·rw[rC,rC,rx,rx,hM,hM]
  refine⟨λhm=>?_,fresh d,k⟩;rcases l9.mp hm with e|hm
  ·exact g e
  ·exact fresh f hm
theorem b7.keep2{xs:List (Addr×Obj)}{st:LS}{L:Addr}{a b:Addr}{g ob f d:Obj}(sim:b7 G names φ ((a,g)::(b,ob)::xs) st h0a L h)(hk:∀x o,x≠a->x≠b->h.get? x=some o->h'.get? x=some o)
  (ha:h'.get? a=some f)(hb:h'.get? b=some d):b7 G names φ ((a,f)::(b,d)::xs) st h0a L h':=by
 obtain⟨m,objs,F,N,i,q,le,r⟩:=sim;obtain⟨_,l,n⟩:=N (a,g) (.head _);obtain⟨_,j,k⟩:=N (b,ob) (.tail _ (.head _));have c:=i;rw[rC,rC,rx,rx,hM,hM]at c;have s:Fr h0a L h' m:=⟨F.ns.at λo e=>hk L o (Ne.symm l) (Ne.symm j) e,λx o e=>hk x o (by rintro rfl;rw[n]at e;cases e) (by rintro rfl;rw[k]at e;cases e) (F.keep x o e),F.above⟩;refine⟨m,objs,s,?_,i,q,le,r⟩;intro p hp;rcases l9.mp hp with rfl|hp
 ·exact⟨ha,l,n⟩
 ·rcases l9.mp hp with rfl|hp
  ·exact⟨hb,j,k⟩
  ·exact⟨hk _ _ (λe=>c.1 (.tail _ (nb.mpr ⟨p,hp,e⟩))) (λe=>c.2.1 (nb.mpr ⟨p,hp,e⟩)) (N p (.tail _ (.tail _ hp))).1,(N p (.tail _ (.tail _ hp))).2⟩
def jT(T:MV->Den MF)(B:Den MF)(r:Nat):Nat->Nat->Den MF
 |0,_=>λ_=>none
 |N+1,i=>λst=>match st.mh[r]? with
  |some (.list items)=>match items[i]? with
   |none=>some (.next,st)
   |some v=>aG (T (.ref st.mh.length)) (λ_=>aG B (oF (jT T B r N (i+1)))) {st with mh:=st.mh++[.tuple [.int (i:Int),v]]}
  |_=>none
theorem xU{r:Nat}{st:LS}{K:MF->LS->Prop}(h:Wp (jT T B r N i) st K):
  ∃M items,N=M+1/\st.mh[r]?=some (.list items)/\((items[i]?=none/\K .next st)\/∃v,items[i]?=some v/\Wp (aG (T (.ref st.mh.length)) λ_=>aG B (oF (jT T B r M (i+1)))) {st with mh:=st.mh++[.tuple [.int (i:Int),v]]} K):=by
 obtain⟨f,s,e,q⟩:=h;cases N with
 |zero=>exact nos e
 |succ M=>
  unfold jT at e;revert e;cases hm:st.mh[r]? with
  |none=>intro e;exact nos e
  |some x=>
   cases x with
   |list items=>
    dsimp only;cases a:items[i]? with
    |none=>intro e;cases e;exact⟨M,items,rfl,rfl,.inl ⟨a,q⟩⟩
    |some v=>intro e;exact⟨M,items,rfl,rfl,.inr ⟨v,a,f,s,e,q⟩⟩
   |_=>intro e;exact nos e
def zH(T:MV->Den MF)(B:Den MF)(N:Nat)(a:MV):Den MF:=match a with
 |.ref r=>jT T B r N 0
 |_=>λ_=>none
theorem wt{tp:Pos}{r I E:Nat}{oe oi:Obj}{ad:Addr}{K:MF->LS->Prop}{R:Result->Shared->Prop}(ht:lM G sc names n (.Tuple es kk tp) T)(hb:fD G sc names n body B)
  (nw:Nw w w1a)(rr:VR w1a.φ (.ref r) (.ref ad))(as:E≠I)(sm:W ((c.ax I oi).ax E oe) names KD w1a)(he:IsEnum w1a.s.heap E I 0 .none)(hi:w1a.s.heap.IsListIter I ad 0)(hd:Wp (jT T B r N 0) KD K)
  (k:∀f KG w' f',K f KG->Nx c names w KG w'->FR w'.φ f f'->R (.ok f') w'.s):codeAny G.M c.A (.forLoop (.Tuple es kk tp) (.ref E) body [] c.env) R w1a.s:=by
 refine nM (λk' s'=>∃(i:Nat)(w':St)(KI:LS)(oe oi:Obj)(ai:Value),w'.s=s'/\Nw w w'/\VR w'.φ (.ref r) (.ref ad)/\W ((c.ax I oi).ax E oe) names KI w'/\IsEnum w'.s.heap E I i ai/\w'.s.heap.IsListIter I ad i/\Wp (jT T B r k' i) KI K)
  ?_ N ⟨0,w1a,KD,oe,oi,_,rfl,nw,rr,sm,he,hi,hd⟩
 rintro k' _⟨i,w',KI,oe,oi,ai,rfl,nw,rr,t,he,aq,hk⟩;obtain⟨k',au,rfl,az,Y⟩:=xU hk;obtain⟨aL,vs',ak,e',aI,ao,ap⟩:=bu t az rr;cases e';rcases Y with⟨hn,hk⟩|⟨v,hv,hk⟩
 ·refine wpAny_pyNext_enum_end c.ok.hnd he aq ⟨_,ao,rfl,ak,rfl⟩ (by rw[<-yl,nh (ap.len▸JK.mp hn)]) λh' a1=>?_
  have ag:W (c.ax I oi) names KI w':=t.drop;exact k _ _ ⟨_,w'.φ⟩ _ hk ⟨nw.1,nw.2.trans .heap,(ag.1.keepx λb ob hb e=>a1 b ob hb e).1,ag.2⟩ rfl
 ·obtain⟨v',ay,rv⟩:=ap.get hv
  refine wpAny_pyNext_enum_item he aq ⟨_,ao,rfl,ak,rfl⟩ (by rw[<-yl];exact ay) as λan a0 D L aw Q=>?_;refine wpAny_letOwnedTupleGo_enum a0 λl U d=>?_;have d:Heap.SameBut E an l:=d;have lE:E<w'.s.heap.objs.size:=ry he;have C:l.IsListIter I ad (i+1):=D.extBut d.extBut (Ne.symm as);have z:=C;obtain⟨J,O,oc,od⟩:=z;have al:=t.1.alloc (o:={cls:=.type "tuple",data:=.seq #[.int i w'.s.toks,v']}) (mo:=.tuple [.int (i:Int),v]) rfl ⟨_,_,rfl,.cons ⟨_,rfl⟩ (.cons rv .nil)⟩;have af:=al.keep2 (h':=l) (λx o xa xb e=>by
   rcases Heap.get?_push_cases e with⟨rfl,rfl⟩|e
   ·exact d.extBut _ _ xa L
   ·exact d.extBut _ _ xa (Q _ _ xa xb e)) U O
  let OE:Obj:={cls:=.type "enumerate",dict:=none,data:=.fields #[.none,.bool false,.ref I,rawInt ((i:Int)+1),.none,v'],slots:=#[]};have H:W ((c.ax I J).ax E OE) names _ ⟨{w'.s with heap:=l,toks:=w'.s.toks+1},w'.φ++[w'.s.heap.objs.size]⟩:=⟨af,Nat.le_succ_of_le t.2⟩;have m:Nw w' ⟨{w'.s with heap:=l,toks:=w'.s.toks+1},w'.φ++[w'.s.heap.objs.size]⟩:=⟨eh ..,Same.heap (s:={w'.s with toks:=w'.s.toks+1})⟩;refine ht ((c.ax I J).ax E OE) _ _ (.ref KI.mh.length) _ _ _ H (mG t) (wB hk) λg KW ae V y=>hb ((c.ax I J).ax E OE) KW ae _ _ y.sim (wB V) λf q h f' j a p=>?_;have nn:=nw.trans (m.trans (y.trans a).nw);have n5:=y.trans a;have m1:IsEnum h.s.heap E I ((i+1:Nat):Int) v':=by
   have :=a.sim.1.atx;rw[show((i+1:Nat):Int)=(i:Int)+1 by push_cast;rfl];exact this
  have m2:h.s.heap.IsListIter I ad (i+1):=⟨_,a.sim.drop.1.atx,oc,od⟩;cases f with
  |next=>cases p;exact⟨k',Ir _,i+1,h,q,_,_,_,rfl,nn,rr.mono (m.trans n5.nw).1,a.sim,m1,m2,j⟩
  |cont=>cases p;exact⟨k',Ir _,i+1,h,q,_,_,_,rfl,nn,rr.mono (m.trans n5.nw).1,a.sim,m1,m2,j⟩
  |brk=>cases p;exact k _ _ h _ (wK j) ⟨nn.1,nn.2,a.sim.drop.drop⟩ rfl
  |ret u=>obtain⟨u',rfl,ru⟩:=p;exact k _ _ h _ (wK j) ⟨nn.1,nn.2,a.sim.drop.drop⟩ ⟨u',rfl,ru⟩
theorem HV{y p h:Pos}{arg:PySem.Expr}(I:uR arg)(L:BName G sc "enumerate" (.type "enumerate"))(t:∀env x,foldedSetIterable (.Call (.Name "enumerate" p) [arg] [] h) env x=pure x)
  (E:lM G sc names n (.Tuple es kk y) T)(J:SemE G sc names n arg d)(hb:fD G sc names n body B):
  fO G sc names n (.For (.Tuple es kk y) (.Call (.Name "enumerate" p) [arg] [] h) body [] pos) (aG d (zH T B NN)):=by
 intro c st w K Q z hd k;have hl:SemL G sc names n [arg] (dF d λst=>some ([],st)):=DX I J FW;have v:Wp (dF d λst=>some ([],st)) st λvs KG=>∃a,vs=[a]/\Wp (zH T B NN a) KG K:=by
  obtain⟨a,C,e,hk⟩:=wB hd;exact⟨[a],C,vZ e rfl,a,rfl,hk⟩
 refine wpAny_For (Call_ (nP L z (J3 (hl.plain _ _) (bZ (hl.plain _ _) ?_)))) (λx=>t c.env x);refine hl.run h c st w _ (λi l=>wpAny G.M c.A (call (.type "enumerate") ([]++i) []) _ NoE l) z v λvs KD w1a i b f g=>?_;obtain⟨a,rfl,b⟩:=b;cases g with
 |cons g m=>
  cases m;cases a with
  |ref r=>
   obtain⟨M,items,U,hm,_⟩:=xU b;obtain⟨ad,vs,D,rfl,ha,H,hl⟩:=bu f.sim hm g;refine call_enumerate_list (items:=vs) ⟨_,H,rfl,D,rfl⟩ λh' u o O q=>?_;obtain⟨N,j,oc,od⟩:=id o;refine wpAny_pyIter_enum u ?_;exact wt (w:=w) (w1a:=⟨{w1a.s with heap:=h'},w1a.φ⟩) (c:=c) E hb ⟨f.pre,f.same.trans .heap⟩ g (Nat.succ_ne_self _) ⟨f.sim.1.add2 q u j (nl _) (ep _) (Nat.succ_ne_self _),f.sim.2⟩ u o b k
  |_=>obtain⟨_,_,e,_⟩:=b;exact nos e
theorem yJ(l:List α)(a b:Nat):(l.drop (min a l.length)).take (min b l.length-min a l.length)=(l.drop a).take (b-a):=by
 refine JM λi=>?_;rw[List.getElem?_take,List.getElem?_take,gf,gf];by_cases h:a<=l.length
 ·rw[pB h]
  by_cases hb:b<=l.length
  ·rw[pB hb]
  ·rw[l5 (by lia)]
   by_cases c:i<l.length-a
   ·rw[dt c,dt (by lia)]
   ·have e:l[a+i]?=none:=nh (by lia)
    rw[cw c,e];simp
 ·have e:∀k,l[l.length+k]?=none:=λk=>nh (by lia)
  have d:l[a+i]?=none:=nh (by lia);rw[show min a l.length=l.length by lia,e,d];simp
def GA(l:Addr)(zs:List Int)(a:MV):MV->MV->Option (List MV)
 |.int i,.int j=>onS l (if 0<=i/\0<=j then some (((zs.drop i.toNat).take (j.toNat-i.toNat)).map MV.int) else none) a
 |_,_=>none
def zb(l:Addr)(zs:List Int)(a lo u:MV):Den MV:=λst=>(GA l zs a lo u).map λout=>(.ref st.mh.length,{st with mh:=st.mh++[.list out]})
theorem EV{l:Addr}{x:Str}{p:Pos}{up:Option PySem.Expr}{dl:Den MV}(H:SL G l zs)(lo:LocalsOk sc names)(N:Ix names x i)(M:∀(a:Addr)r,letTemporaryGo (.Name x px) (.ref a) r=pure ())(hl:sU G sc names n Kj dl)(L:sU G sc names n up du):
  SemE G sc names n (.Subscript (.Name x px) (.Slice Kj up none p) pos) (aG (bF i) λa=>aG dl λJ=>aG du λu=>zb l zs a J u):=by
 intro c st w K Q I hd k;refine Js (zU lo N c st w _ _ I (wB hd) λa KD w1a a' o g B=>wpAny_Slice (hl c KD w1a _ _ g.sim (wB o) λb KI t b' m f A=>L c KI t _ _ f.sim (wB m) λu KW s O h d z=>JQ ?_));obtain⟨v,V,e1,hk⟩:=h;obtain⟨out,e,e2⟩:=h8.mp e1;cases e2;cases b with
 |int i=>cases u with
  |int j=>
   obtain⟨rfl,e3⟩:=mF e B;obtain⟨⟨h0,h1⟩,e4⟩:=ifs e3;cases e4;obtain⟨U,rfl⟩:=A;obtain⟨T,rfl⟩:=z;obtain⟨vs,hL,D,E⟩:=H.at d.sim;refine ui (i:=some _) (j:=some _) d.sim hL (by have :=H.1;lia) (.int _ _) (.int _ _) (M l) ?_ λq v' C y=>k _ _ q v' hk (((g.trans f).trans d).trans C) y;obtain⟨a',rfl⟩:=ov h0;obtain⟨b',rfl⟩:=ov h1;rw[slicePick_plain];simp only[Option.elim,clipAt_nat];rw[<-Jd,yJ];have :=((D s.φ).drop a').take (b'-a');simpa using this
  |_=>exact nos e
 |_=>exact nos e
def yn(l:Addr)(zs:List Int)(_:List MO):List MV->Option MV:=sL (onS l (some (.int (zs.length:Int))))
theorem D7{l:Addr}(f:SL G l zs):np G (.builtin "len") (yn l zs):=by
 intro n sc names c st w vs r b Q d h hs k;refine eN hs h λx i e hx=>?_;obtain⟨rfl,e⟩:=mF e hx;cases e;obtain⟨vs,hL,g,a⟩:=f.at d;refine PyProof.Rows.len_list (items:=vs) hL (by have :=f.1;lia) ?_;rw[<-a];exact k ⟨_,w.φ⟩ _ d.nx.tk2 ⟨_,rfl⟩
theorem Hp{l:Addr}{p:Pos}(a:SL G l zs)(g:BName G sc "len" (.builtin "len"))(hl:SemL G sc names n args ds):SemE G sc names n (.Call (.Name "len" p) args [] pos) (aG ds (ka (yn l zs))):=kW g (D7 a) hl
def tU(_:List MO):List MV->Option MV:=uM λa b=>onStr (λl=>onStr (λp=>some (.int (jU l p 0))) b) a
theorem BS:oB G (.builtin "str.find") (dI tU):=by
 refine kq ?_;intro n sc names c st w vs r a Q b d hs k;refine fV hs d λx y g f e hx hy=>bj e hx λl t e=>bj e hy λp u e=>?_;cases e;refine call_gives F.slot_str_find (I6 _ _ _) F.entry_str_find (F.args_str_find_2 _ _) (gives_str_find _ _ t u) ?_;rw[bK];exact k ⟨_,w.φ⟩ _ b.nx.tk1 ⟨_,rfl⟩
theorem Fw{c:Pos}(hb:eO o "find")(hline:(c.endLine==pos.line)=true)(b:decide (args.length<29)=true)(h:SemE G sc names n o d)(hl:SemL G sc names n args ds):
  SemE G sc names n (.Call (.Attribute o "find" c) args [] pos) (aG d λa=>aG (hV "str" a) λ_=>aG ds λvs=>cp (dI tU) (a::vs)):=ie hb sg PySem.F.slot_str_find PySem.F.type_str_find BS hline b h hl
def FK(d:Den MV):Den MV:=aG d λa=>aG (dk a) λb=>aj (.bool (!b))
theorem Hm{e:PySem.Expr}(h:SemE G sc names n e d):SemE G sc names n (.UnaryOp .Not e pos) (FK d):=by
 intro c st w K Q p hd k;refine UnaryOp_ (h c st w _ _ p (wB hd) λa KD w1a a' l f j=>not_of ?_);obtain⟨b,e,hk⟩:=wO (g:=λst=>jY st.mh a) (wB l);cases a with
 |ref r=>
  obtain⟨items,hm,e⟩:=dv e;obtain⟨hsz,e⟩:=ifs e;cases e;obtain⟨ad,vs,q,rfl,_,s,hl⟩:=bu f.sim hm j;have i:items.length=vs.size:=hl.len;refine J0 (items:=vs) ⟨_,s,rfl,q,rfl⟩ (by lia) ?_;have :vs.isEmpty=items.isEmpty:=by
   cases items with
   |nil=>simpa [Array.isEmpty] using i.symm
   |cons _ _=>have :=i.symm;simp[Array.isEmpty];intro h;simp[h]at i
  rw[this];exact k _ _ ⟨_,w1a.φ⟩ _ (wK hk) f.tk2 rfl
 |_=>exact iL f.sim j e λm o=>k _ _ m _ (wK hk) (f.trans o) rfl
theorem Ex{l r:PySem.Expr}(b:SemE G sc names n l KM)(a:SemE G sc names n r KJ)(hm:behindInMarks .NotEq r=false):
  SemT G sc names n (.Compare l [.NotEq] [r] pos) (gZ t8 KM KJ):=Ey GM b a hm
theorem F7{l r:PySem.Expr}(b:SemE G sc names n l KM)(a:SemE G sc names n r KJ)(hm:behindInMarks .Eq r=false):
  SemE G sc names n (.Compare l [.Eq] [r] pos) (sK (gZ uA KM KJ)):=Ce GO b a hm
section
variable{ρ:List (Option MV)}{mh:List MO}
theorem xL{l:Addr}{b:Nat}(q:QV (.ref mh.length) ⟨ρ,mh++[.list (((zs.drop a).take (b-a)).map MV.int)]⟩):Wp (zb l zs (.sref l) (.int (a:Int)) (.int (b:Int))) ⟨ρ,mh⟩ QV:=
 ⟨_,_,ed (Option.map _) (j7.trans (dt ⟨ky _,ky _⟩)),q⟩
theorem zB{l:Addr}(q:Q (.int (zs.length:Int))):Got (yn l zs mh [.sref l]) Q:=ah j7 q
theorem EQ{p:List Nat}(q:Q (.int (jU l p 0))):Got (tU mh [.str l,.str p]) Q:=ah rfl q
theorem Ge{st:LS}(h:Wp d st λa s=>Wp (dk a) s λb s=>QV (.bool (!b)) s):Wp (FK d) st QV:=by
 refine aq (aQ h λa s q=>aq (aQ q λb s q=>eU q))
theorem Gq{a b:Bool}{Q:Bool->Prop}(q:Q (a !=b)):Got (t8 mh (.bool a) (.bool b)) Q:=ah rfl q
theorem Gs{a b:Bool}{Q:Bool->Prop}(q:Q (a==b)):Got (uA mh (.bool a) (.bool b)) Q:=ah rfl q
end
theorem x9{c:Nat}(h:l.reverse.drop j=c::r):∃s,l.drop (l.length-1-j)=c::s:=by
 have e:l.reverse[j]?=some c:=by have :=ed (·[0]?) h;simpa using this
 have a:j<l.length:=by
  have :=(fd.mp e).1;rwa[s1]at this
 rw[List.getElem?_reverse a]at e;exact⟨_,List.drop_eq_getElem?_toList_append.trans (by rw[e];rfl)⟩
theorem qj(hl:raw.length<=100000)
  (h:QF .next ⟨[some (.str raw),some (.int (aH 6 raw.reverse:Nat))],mh⟩):
  Wp (dq (gh [gZ lj (bF (0+1)) (aj (MV.int 6)),gZ lj (bF (0+1)) (aG (dF (bF 0) λst=>some ([],st)) (ka rO)),gZ iH (aG (bF 0) λa=>aG (lJ xn (lJ xn (aG (dF (bF 0) λst=>some ([],st)) (ka rO)) (aj (MV.int 1))) (bF (0+1))) λb=>lZ a b) (aj (MV.str em))])
   (fq (aG (bF (0+1)) λa=>aG (aj (MV.int 1)) λb=>aG (ef fC a b) (cY (0+1))) (bM MF.next)) (bM MF.next) NN)
   ⟨[some (.str raw),some (.int 0)],mh⟩ QF:=by
 have d:raw.length<=16777216:=by lia
 refine bN (σ:=Nat) (λj s=>j<=6/\j<=raw.length/\j+aH (6-j) (raw.reverse.drop j)=aH 6 raw.reverse/\s=⟨[some (.str raw),some (.int (j:Int))],mh⟩) (λj=>6-j) ?_ NN 0 _ ⟨by lia,by lia,by simp,rfl⟩ ?_
 ·rintro j _ ⟨m,l,hs,rfl⟩
  cbv;by_cases i:j<6
  ·refine wp_andK_t (by simp;lia) ?_
   cbv;by_cases k:j<raw.length
   ·refine wp_andK_t (by simp;lia) ?_
    cbv;cases hd:raw.reverse.drop j with
    |nil=>have :=ed List.length hd;simp at this;lia
    |cons c r=>
     obtain⟨s,f⟩:=x9 hd;have g:=(aM hd).1;rw[hd,show 6-j=(6-(j+1))+1 by lia]at hs;refine gz f d ?_;cbv;have hx:em.contains c=bR c:=rfl;rw[hx];refine⟨λhb=>?_,λhb=>?_⟩
     ·cbv
      have e:j=aH 6 raw.reverse:=by
       rw[<-hs];show j=j+if bR c then aH (6-(j+1)) r+1 else 0;rw[cw (by rw[hb];exact hX)];rfl
      rw[<-e]at h;exact h
     ·cbv
      refine⟨j+1,⟨by lia,by lia,?_,rfl⟩,by lia⟩;rw[g,<-hs];show _=j+if bR c then aH (6-(j+1)) r+1 else 0;rw[dt hb];lia
   ·have e:j=aH 6 raw.reverse:=by
     rw[<-hs,f6 (by rw[s1];lia)];cases 6-j<;>rfl
    refine wp_andK_f (by simp;lia) ?_;cbv;rw[<-e]at h;exact⟨λ_=>dT h,λhb=>by cases hb⟩
  ·have e:j=aH 6 raw.reverse:=by
    rw[<-hs,show 6-j=0 by lia];rfl
   refine wp_andK_f (by simp;lia) ?_;cbv;rw[<-e]at h;exact⟨λ_=>dT h,λhb=>by cases hb⟩
 ·unfold NN
  lia
theorem sD(hK:HK G P):∃J9,Con G 1 838 J9/\∀(raw:List Nat)(mh:List MO),raw.length<=100000->
  bG (J9 [.str raw] mh) λr KA=>r=.bool (ci raw)/\KA=mh:=by
 run_tac wcon
 intro raw mh hl;cbv;refine qj hl ?_;cbv;have hk:=bT 6 raw.reverse;rw[s1]at hk;unfold ci;generalize aH 6 raw.reverse=k at hk⊢;by_cases h0:0<k
 ·refine wp_pick_t (by simp;lia) ?_
  cbv;by_cases h1:k<raw.length
  ·refine wp_pick_t (by simp;lia) ?_
   cbv;cases hd:raw.reverse.drop k with
   |nil=>have :=ed List.length hd;simp at this;lia
   |cons c r=>
    obtain⟨s,a⟩:=x9 hd;refine gz a (by lia) ?_;cbv;exact⟨ed MV.bool (by simp[h0]),rfl⟩
  ·refine wp_pick_f (by simp;lia) ?_
   cbv;exact⟨ed MV.bool (by rw[f6 (by rw[s1];lia)];simp;lia),rfl⟩
 ·refine wp_pick_f (by simp;lia) ?_
  cbv;exact⟨ed MV.bool (by simp[h0]),rfl⟩
theorem br(hK:HK G P):∃J9,Con G 1 56 J9/\∀(i d C k:Nat)(l c:MV)(mh:List MO),([(104,2),(134,1),(163,1),(206,1),(235,2),(265,2),(295,2),(325,2),(355,2),(385,2),(415,4),(447,4),(479,6),(513,1),(542,1),(571,1),(600,3)]:List (Nat×Nat)).lookup C=some k->([(104,3),(134,2),(163,2),(206,2),(235,3),(265,3),(295,3),(325,3),(355,3),(385,3),(415,5),(447,5),(479,7),(513,2),(542,2),(571,2),(600,4)]:List (Nat×Nat)).lookup C=some (k+1)->mh[i]?=some (.inst C d [])->mh[d]?=some .edict->
  bG (J9 [.ref i,l,c] mh) λr KA=>r=.none/\KA=mh.set i (.inst C d (List.replicate k none++[some c,some l])):=by
 run_tac wcon
 intro i d C k l c mh hC hL b hd;have a:i≠d:=by rintro rfl;rw[b]at hd;cases hd
 cbv;refine⟨rfl,?_⟩;rw[kt];refine ed (λz=>mh.set i (.inst C d z)) ?_;have h:=BN k l c;rw[show k+1-(k+2)=0 by lia,Jc,m4]at h;exact h
theorem ia{r:Nat}{y:MO}(h:r<mh.length):(mh.set r y)[r]?=some y:=x7 h
theorem fY{a b:List MO}(h:a<+:b)(c:i<a.length)(y:MO):a.set i y<+:b.set i y:=by
 obtain⟨t,rfl⟩:=h;rw[List.set_append_left _ _ c];exact eh ..
theorem nZ(hK:HK G P):∃J9,Con G 2 93 J9/\∀(i d:Nat)(l c:MV)(b:MV)(a:MV)(mh:List MO),mh[i]?=some (.inst 104 d [])->mh[d]?=some .edict->
  bG (J9 [.ref i,l,c,b,a] mh) λr KA=>r=.none/\mh.set i (.inst 104 d [some b,some a,some c,some l])<+:KA:=by
 obtain⟨e,h,h1⟩:=br hK;run_tac wcon
 intro i d l c b a mh f hd;have g:i≠d:=by rintro rfl;rw[f]at hd;cases hd
 cbv;refine aE (h1 i d 104 2 l c mh rfl rfl f hd) ?_;rintro _ _ ⟨rfl,rfl⟩;cbv;exact⟨rfl,by simp only[kt];exact la⟩
theorem sG(hK:HK G P):∃J9,Con G 2 123 J9/\∀(i d:Nat)(l c:MV)(a:MV)(mh:List MO),mh[i]?=some (.inst 134 d [])->mh[d]?=some .edict->
  bG (J9 [.ref i,l,c,a] mh) λr KA=>r=.none/\mh.set i (.inst 134 d [some a,some c,some l])<+:KA:=by
 obtain⟨b,g,h1⟩:=br hK;run_tac wcon
 intro i d l c a mh e hd;have f:i≠d:=by rintro rfl;rw[e]at hd;cases hd
 cbv;refine aE (h1 i d 134 1 l c mh rfl rfl e hd) ?_;rintro _ _⟨rfl,rfl⟩;cbv;exact⟨rfl,by simp only[kt];exact la⟩
theorem jN(hK:HK G P):∃J9,Con G 2 152 J9/\∀(i d:Nat)(l c:MV)(a:MV)(mh:List MO),mh[i]?=some (.inst 163 d [])->mh[d]?=some .edict->
  bG (J9 [.ref i,l,c,a] mh) λr KA=>r=.none/\mh.set i (.inst 163 d [some a,some c,some l])<+:KA:=by
 obtain⟨b,g,h1⟩:=br hK;run_tac wcon
 intro i d l c a mh e hd;have f:i≠d:=by rintro rfl;rw[e]at hd;cases hd
 cbv;refine aE (h1 i d 163 1 l c mh rfl rfl e hd) ?_;rintro _ _ ⟨rfl,rfl⟩;cbv;exact⟨rfl,by simp only[kt];exact la⟩
theorem lF(hK:HK G P):∃J9,Con G 2 181 J9/\∀(i d:Nat)(l c:MV)(a:MV)(mh:List MO),mh[i]?=some (.inst 206 d [])->mh[d]?=some .edict->
  bG (J9 [.ref i,l,c,a] mh) λr KA=>r=.none/\mh.set i (.inst 206 d [some a,some c,some l])<+:KA:=by
 obtain⟨b,g,h1⟩:=br hK;run_tac wcon
 intro i d l c a mh e hd;have f:i≠d:=by rintro rfl;rw[e]at hd;cases hd
 cbv;refine aE (h1 i d 206 1 l c mh rfl rfl e hd) ?_;rintro _ _ ⟨rfl,rfl⟩;cbv;exact⟨rfl,by simp only[kt];exact la⟩
theorem na(hK:HK G P):∃J9,Con G 2 224 J9/\∀(i d:Nat)(l c:MV)(a:List Nat)(mh:List MO),a.length<=100000->mh[i]?=some (.inst 235 d [])->mh[d]?=some .edict->
  bG (J9 [.ref i,l,c,(.str a)] mh) λr KA=>r=.none/\∃b,mh.set i (.inst 235 d [some b,some (.str a),some c,some l])<+:KA:=by
 obtain⟨g,s,h1⟩:=br hK;obtain⟨n,q,h2⟩:=gX hK;run_tac wcon
 intro i d l c a mh k f hd;have j:i≠d:=by rintro rfl;rw[f]at hd;cases hd
 cbv;refine aE (h1 i d 235 2 l c mh rfl rfl f hd) ?_;rintro _ _ ⟨rfl,rfl⟩;cbv;refine aE (h2 _ _ k) ?_;rintro _ h ⟨rfl,e⟩;have o:=aO e (ia (by simpa using aZ f));have p:h[d]?=some .edict:=aO e (by simp only[v2 j];exact hd);cbv;have m:=fY e (by simpa using aZ f) (.inst 235 d [some (.str (a.map cQ)),some (.str a),some c,some l]);first|simp only[kt]at m⊢|simp only[kt]at m
 exact⟨rfl,_,m⟩
theorem jv(hK:HK G P):∃J9,Con G 2 254 J9/\∀(i d:Nat)(l c:MV)(a:List Nat)(mh:List MO),a.length<=100000->mh[i]?=some (.inst 265 d [])->mh[d]?=some .edict->
  bG (J9 [.ref i,l,c,(.str a)] mh) λr KA=>r=.none/\∃b,mh.set i (.inst 265 d [some b,some (.str a),some c,some l])<+:KA:=by
 obtain⟨g,s,h1⟩:=br hK;obtain⟨n,q,h2⟩:=gX hK;run_tac wcon
 intro i d l c a mh k f hd;have j:i≠d:=by rintro rfl;rw[f]at hd;cases hd
 cbv;refine aE (h1 i d 265 2 l c mh rfl rfl f hd) ?_;rintro _ _ ⟨rfl,rfl⟩;cbv;refine aE (h2 _ _ k) ?_;rintro _ h ⟨rfl,e⟩;have o:=aO e (ia (by simpa using aZ f));have p:h[d]?=some .edict:=aO e (by simp only[v2 j];exact hd);cbv;have m:=fY e (by simpa using aZ f) (.inst 265 d [some (.str (a.map cQ)),some (.str a),some c,some l]);first|simp only[kt]at m⊢|simp only[kt]at m
 exact⟨rfl,_,m⟩
theorem oA(hK:HK G P):∃J9,Con G 2 284 J9/\∀(i d:Nat)(l c:MV)(b:MV)(a:MV)(mh:List MO),mh[i]?=some (.inst 295 d [])->mh[d]?=some .edict->
  bG (J9 [.ref i,l,c,b,a] mh) λr KA=>r=.none/\mh.set i (.inst 295 d [some a,some b,some c,some l])<+:KA:=by
 obtain⟨e,h,h1⟩:=br hK;run_tac wcon
 intro i d l c b a mh f hd;have g:i≠d:=by rintro rfl;rw[f]at hd;cases hd
 cbv;refine aE (h1 i d 295 2 l c mh rfl rfl f hd) ?_;rintro _ _ ⟨rfl,rfl⟩;cbv;exact⟨rfl,by simp only[kt];exact la⟩
theorem lw(hK:HK G P):∃J9,Con G 2 314 J9/\∀(i d:Nat)(l c:MV)(b:MV)(a:MV)(mh:List MO),mh[i]?=some (.inst 325 d [])->mh[d]?=some .edict->
  bG (J9 [.ref i,l,c,b,a] mh) λr KA=>r=.none/\mh.set i (.inst 325 d [some a,some b,some c,some l])<+:KA:=by
 obtain⟨e,h,h1⟩:=br hK;run_tac wcon
 intro i d l c b a mh f hd;have g:i≠d:=by rintro rfl;rw[f]at hd;cases hd
 cbv;refine aE (h1 i d 325 2 l c mh rfl rfl f hd) ?_;rintro _ _⟨rfl,rfl⟩;cbv;exact⟨rfl,by simp only[kt];exact la⟩
theorem qR(hK:HK G P):∃J9,Con G 2 344 J9/\∀(i d:Nat)(l c:MV)(b:MV)(a:MV)(mh:List MO),mh[i]?=some (.inst 355 d [])->mh[d]?=some .edict->
  bG (J9 [.ref i,l,c,b,a] mh) λr KA=>r=.none/\mh.set i (.inst 355 d [some a,some b,some c,some l])<+:KA:=by
 obtain⟨e,h,h1⟩:=br hK;run_tac wcon
 intro i d l c b a mh f hd;have g:i≠d:=by rintro rfl;rw[f]at hd;cases hd
 cbv;refine aE (h1 i d 355 2 l c mh rfl rfl f hd) ?_;rintro _ _ ⟨rfl,rfl⟩;cbv;exact⟨rfl,by simp only[kt];exact la⟩
theorem iJ(hK:HK G P):∃J9,Con G 2 374 J9/\∀(i d:Nat)(l c:MV)(a:MV)(b:MV)(mh:List MO),mh[i]?=some (.inst 385 d [])->mh[d]?=some .edict->
  bG (J9 [.ref i,l,c,a,b] mh) λr KA=>r=.none/\mh.set i (.inst 385 d [some b,some a,some c,some l])<+:KA:=by
 obtain⟨e,h,h1⟩:=br hK;run_tac wcon
 intro i d l c a b mh f hd;have g:i≠d:=by rintro rfl;rw[f]at hd;cases hd
 cbv;refine aE (h1 i d 385 2 l c mh rfl rfl f hd) ?_;rintro _ _⟨rfl,rfl⟩;cbv;exact⟨rfl,by simp only[kt];exact la⟩
theorem lx(hK:HK G P):∃J9,Con G 2 404 J9/\∀(i d:Nat)(l c:MV)(e:MV)(b:MV)(a:MV)(mh:List MO),(b=.none\/∃z,b=.int z)->mh[i]?=some (.inst 415 d [])->mh[d]?=some .edict->
  bG (J9 [.ref i,l,c,e,b,a] mh) λr KA=>r=.none/\∃f,mh.set i (.inst 415 d [some b,some f,some a,some e,some c,some l])<+:KA:=by
 obtain⟨g,m,h1⟩:=br hK;run_tac wcon
 intro i d l c e b a mh h j hd;have k:i≠d:=by rintro rfl;rw[j]at hd;cases hd
 cbv;refine aE (h1 i d 415 4 l c mh rfl rfl j hd) ?_;rintro _ _ ⟨rfl,rfl⟩;cbv;rcases h with rfl|⟨z,rfl⟩
 ·cbv
  exact⟨rfl,_,by simp only[kt];exact la⟩
 ·cbv
  exact⟨rfl,_,by simp only[kt];exact la⟩
theorem jO(hK:HK G P):∃J9,Con G 2 436 J9/\∀(i d:Nat)(l c:MV)(e:MV)(b:MV)(a:MV)(mh:List MO),(b=.none\/∃z,b=.int z)->mh[i]?=some (.inst 447 d [])->mh[d]?=some .edict->
  bG (J9 [.ref i,l,c,e,b,a] mh) λr KA=>r=.none/\∃f,mh.set i (.inst 447 d [some b,some f,some a,some e,some c,some l])<+:KA:=by
 obtain⟨g,m,h1⟩:=br hK;run_tac wcon
 intro i d l c e b a mh h j hd;have k:i≠d:=by rintro rfl;rw[j]at hd;cases hd
 cbv;refine aE (h1 i d 447 4 l c mh rfl rfl j hd) ?_;rintro _ _ ⟨rfl,rfl⟩;cbv;rcases h with rfl|⟨z,rfl⟩
 ·cbv
  exact⟨rfl,_,by simp only[kt];exact la⟩
 ·cbv
  exact⟨rfl,_,by simp only[kt];exact la⟩
theorem ju(hK:HK G P):∃J9,Con G 2 468 J9/\∀(i d:Nat)(l c:MV)(f:MV)(b:MV)(a:MV)(e:List Nat)(mh:List MO),e.length<=100000->(b=.none\/∃z,b=.int z)->mh[i]?=some (.inst 479 d [])->mh[d]?=some .edict->
  bG (J9 [.ref i,l,c,f,b,a,(.str e)] mh) λr KA=>r=.none/\∃h,∃g,mh.set i (.inst 479 d [some b,some h,some g,some a,some (.str e),some f,some c,some l])<+:KA:=by
 obtain⟨q,x,h1⟩:=br hK;obtain⟨v,w,h2⟩:=gX hK;run_tac wcon
 intro i d l c f b a e mh p s n hd;have o:i≠d:=by rintro rfl;rw[n]at hd;cases hd
 cbv;refine aE (h1 i d 479 6 l c mh rfl rfl n hd) ?_;rintro _ _ ⟨rfl,rfl⟩;cbv;rcases s with rfl|⟨z,rfl⟩
 ·cbv
  refine aE (h2 _ _ p) ?_;rintro _ k ⟨rfl,j⟩;have t:=aO j (ia (by simpa using aZ n));have u:k[d]?=some .edict:=aO j (by simp only[v2 o];exact hd);cbv;have m:=fY j (by simpa using aZ n) (.inst 479 d [some .none,some (.bool false),some (.str (e.map cQ)),some a,some (.str e),some f,some c,some l]);first|simp only[kt]at m⊢|simp only[kt]at m
  exact⟨rfl,_,_,m⟩
 ·cbv
  refine aE (h2 _ _ p) ?_;rintro _ k ⟨rfl,j⟩;have t:=aO j (ia (by simpa using aZ n));have u:k[d]?=some .edict:=aO j (by simp only[v2 o];exact hd);cbv;have m:=fY j (by simpa using aZ n) (.inst 479 d [some (.int z),some (.bool true),some (.str (e.map cQ)),some a,some (.str e),some f,some c,some l]);first|simp only[kt]at m⊢|simp only[kt]at m
  exact⟨rfl,_,_,m⟩
theorem ik(hK:HK G P):∃J9,Con G 2 502 J9/\∀(i d:Nat)(l c:MV)(a:MV)(mh:List MO),mh[i]?=some (.inst 513 d [])->mh[d]?=some .edict->
  bG (J9 [.ref i,l,c,a] mh) λr KA=>r=.none/\mh.set i (.inst 513 d [some a,some c,some l])<+:KA:=by
 obtain⟨b,g,h1⟩:=br hK;run_tac wcon
 intro i d l c a mh e hd;have f:i≠d:=by rintro rfl;rw[e]at hd;cases hd
 cbv;refine aE (h1 i d 513 1 l c mh rfl rfl e hd) ?_;rintro _ _ ⟨rfl,rfl⟩;cbv;exact⟨rfl,by simp only[kt];exact la⟩
theorem gY(hK:HK G P):∃J9,Con G 2 531 J9/\∀(i d:Nat)(l c:MV)(a:MV)(mh:List MO),mh[i]?=some (.inst 542 d [])->mh[d]?=some .edict->
  bG (J9 [.ref i,l,c,a] mh) λr KA=>r=.none/\mh.set i (.inst 542 d [some a,some c,some l])<+:KA:=by
 obtain⟨b,g,h1⟩:=br hK;run_tac wcon
 intro i d l c a mh e hd;have f:i≠d:=by rintro rfl;rw[e]at hd;cases hd
 cbv;refine aE (h1 i d 542 1 l c mh rfl rfl e hd) ?_;rintro _ _ ⟨rfl,rfl⟩;cbv;exact⟨rfl,by simp only[kt];exact la⟩
theorem hJ(hK:HK G P):∃J9,Con G 2 560 J9/\∀(i d:Nat)(l c:MV)(a:MV)(mh:List MO),mh[i]?=some (.inst 571 d [])->mh[d]?=some .edict->
  bG (J9 [.ref i,l,c,a] mh) λr KA=>r=.none/\mh.set i (.inst 571 d [some a,some c,some l])<+:KA:=by
 obtain⟨b,g,h1⟩:=br hK;run_tac wcon
 intro i d l c a mh e hd;have f:i≠d:=by rintro rfl;rw[e]at hd;cases hd
 cbv;refine aE (h1 i d 571 1 l c mh rfl rfl e hd) ?_;rintro _ _⟨rfl,rfl⟩;cbv;exact⟨rfl,by simp only[kt];exact la⟩
theorem kZ(hK:HK G P):∃J9,Con G 2 589 J9/\∀(i d:Nat)(l c:MV)(b:List Nat)(a:MV)(mh:List MO),b.length<=100000->mh[i]?=some (.inst 600 d [])->mh[d]?=some .edict->
  bG (J9 [.ref i,l,c,(.str b),a] mh) λr KA=>r=.none/\∃e,mh.set i (.inst 600 d [some a,some e,some (.str b),some c,some l])<+:KA:=by
 obtain⟨h,t,h1⟩:=br hK;obtain⟨o,s,h2⟩:=gX hK;run_tac wcon
 intro i d l c b a mh m g hd;have k:i≠d:=by rintro rfl;rw[g]at hd;cases hd
 cbv;refine aE (h1 i d 600 3 l c mh rfl rfl g hd) ?_;rintro _ _ ⟨rfl,rfl⟩;cbv;refine aE (h2 _ _ m) ?_;rintro _ j ⟨rfl,f⟩;have p:=aO f (ia (by simpa using aZ g));have q:j[d]?=some .edict:=aO f (by simp only[v2 k];exact hd);cbv;have n:=fY f (by simpa using aZ g) (.inst 600 d [some a,some (.str (b.map cQ)),some (.str b),some c,some l]);first|simp only[kt]at n⊢|simp only[kt]at n
 exact⟨rfl,_,n⟩
theorem n0(hK:HK G P):∃J9,Con G 1 635 J9/\∀(J8:List Nat)(p c:Nat)(r:List Nat)(mh:List MO),J8.drop p=c::r->J8.length<=100000->J9 [.str J8,.int (p:Int)] mh=some (.bool (fz c),mh):=by
 run_tac wcon
 intro J8 p c r mh hd hl;refine i9 (mA rfl ?_);have a:J8.length<=16777216:=by lia
 show Wp _ ⟨[some _,some _,none],_⟩ _;cbv;refine aI (λhb=>?_) (λhb=>?_)
 ·cbv
  exact⟨by unfold fz;rw[hb];rfl,rfl⟩
 ·cbv
  refine⟨?_,rfl⟩;unfold fz;rw[hb,yk];exact ed MV.bool (JR.mpr (by lia))
theorem nX(hK:HK G P):∃J9,Con G 2 642 J9/\∀(J8:List Nat)(p:Nat)(mh:List MO),J8.length<=100000->p<J8.length->J9 [.str J8,.int (p:Int)] mh=some (.bool (aJ (J8.drop p)),mh):=by
 obtain⟨l,o,h1⟩:=n0 hK;run_tac wcon
 intro J8 p mh hl m;refine i9 (mA rfl ?_);have k:J8.length<=16777216:=by lia
 show Wp _ ⟨[some _,some _],_⟩ _;obtain⟨c,KC,hd⟩:∃c KC,J8.drop p=c::KC:=by
  cases hd:J8.drop p with
  |nil=>have :=ed List.length hd;simp at this;lia
  |cons c KC=>exact⟨c,KC,rfl⟩
 have a:=(aM hd).1;rw[hd];cbv;refine cB (h1 _ _ _ _ _ hd hl) ?_;cbv;refine aI (λhb=>?_) (λhb=>?_)
 ·cbv
  exact⟨by simp[aJ,hb],rfl⟩
 ·cbv
  refine aI (λh2=>?_) (λh2=>?_)
  ·obtain rfl:c=45:=by simpa using h2
   cases KC with
   |nil=>
    have n:J8.length<=p+1:=List.drop_eq_nil_iff.mp a;cbv;have g:bQ J8 [92] (p+1)=false:=by rw[dX,a];rfl
    refine wp_pick_f (f3 (by lia)) ?_;cbv;refine wp_pick_f (f3 (by lia)) ?_;cbv;exact⟨by rw[g];simp[aJ,hb],rfl⟩
   |cons d q=>
    have j:=(aM a).2;have h:=(aM a).1;cbv;refine wp_pick_t (g6 (by lia)) ?_;cbv;refine cB (h1 _ _ _ _ _ a hl) ?_;cbv;refine aI (λb=>?_) (λb=>?_)
    ·cbv
     exact⟨by simp[aJ,hb,b],rfl⟩
    ·cbv
     refine aI (λh4=>?_) (λh4=>?_)
     ·cbv
      exact⟨by rw[h4];simp at h4;simp[aJ,hb,h4],rfl⟩
     ·have g:bQ J8 [92] (p+1)=(d==92):=by rw[dX,a];rfl
      have e:(d==45)=false:=by simpa using h4
      cbv;refine aI (λf=>?_) (λf=>?_)
      ·rw[g]at f
       obtain rfl:d=92:=by simpa using f
       cbv;exact⟨by simp[aJ,hb,b,b9,a,h],rfl⟩
      ·cbv
       rw[g]at f⊢;exact⟨by simp only[aJ,hb,b,e,f,yk,I0,Bool.false_and],rfl⟩
  ·have e:c≠45:=by simpa using h2
   cbv;refine aI (λb=>?_) (λb=>?_)
   ·obtain rfl:c=92:=by simpa using b
    cbv;exact⟨by simp[aJ,hb,b9,hd,a],rfl⟩
   ·have i:c≠92:=by simpa using b
    cbv;exact⟨by simp[aJ,hb,e,i],rfl⟩
variable{KP:List MO}
theorem bc{o:Option (MV×List MO)}{C:Nat}{K:MF->LS->Prop}(hl:xs.length<=16777216)(hL:KP[L]?=some (.list xs))
  (h:bG o λr KA=>r=.none/\(KP++[MO.edict,MO.inst C KP.length []]).set (KP.length+1) (.inst C KP.length fs)<+:KA)(k:∀KL,KP++[.edict,.inst C KP.length fs]<+:KL->K .next ⟨ρ,KL.set L (.list (xs++[.ref (KP.length+1)]))⟩):
  bG o λr KA=>r=.none/\pM (kP L (kB (λ_=>bM .next) K)) ρ (.ref (KP.length+1)) KA:=by
 refine aE h ?_;rintro _ KL ⟨rfl,a⟩;refine⟨rfl,?_⟩;rw[ul]at a;have b:=aO ((eh _ _).trans a) hL;have :=k KL a;cbv;exact this
theorem iN{o:Option (MV×List MO)}{C:Nat}{fs:α->List (Option MV)}{K:MF->LS->Prop}(hl:xs.length<=16777216)(hL:KP[L]?=some (.list xs))
  (h:bG o λr KA=>r=.none/\∃a,(KP++[MO.edict,MO.inst C KP.length []]).set (KP.length+1) (.inst C KP.length (fs a))<+:KA)(k:∀a KL,KP++[.edict,.inst C KP.length (fs a)]<+:KL->K .next ⟨ρ,KL.set L (.list (xs++[.ref (KP.length+1)]))⟩):
  bG o λr KA=>r=.none/\pM (kP L (kB (λ_=>bM .next) K)) ρ (.ref (KP.length+1)) KA:=by
 obtain⟨r,KA,e,rfl,a,h⟩:=h;exact bc hl hL ⟨_,_,e,rfl,h⟩ (k a)
theorem ng{o:Option (MV×List MO)}{C:Nat}{fs:α->List (Option MV)}{K:MF->LS->Prop}(hs:PSt J8 KU mh r0 r1 L ps S KB rows)(hd:rows.length<=2*q)(hq:q<=600)
  (h:bG o λr KA=>r=.none/\∃a,(mh++[MO.list []]++[MO.edict,MO.inst C (mh++[MO.list []]).length []]).set ((mh++[MO.list []]).length+1) (.inst C (mh++[MO.list []]).length (fs a))<+:KA)
  (k:∀a KL b KO,mh++[.list []]++[.edict,.inst C (mh++[MO.list []]).length (fs a)]<+:KL->KL[r1]?=some (.list KO)->KL.set L (.list (KB.map MV.ref++[.ref ((mh++[MO.list []]).length+1)]))=b->b[r1]?=some (.list KO)->KO.length<=16777216->K .next ⟨ρ,b⟩):
  bG o λr KA=>r=.none/\pM (kP L (kB (λ_=>bM .next) K)) ρ (.ref ((mh++[MO.list []]).length+1)) KA:=by
 obtain⟨_,hL,hl⟩:=hs.at hd hq (eh _ [MO.list []]);refine iN hl hL h λa KL c=>?_;have hst:=hs.ext ((eh _ _).trans ((eh _ _).trans c));obtain⟨KO,h1,h2⟩:=hst.stack;have :=hst.len.2;exact k a KL _ KO c h1 rfl (dJ (λk=>(hM.mp hst.2.2.1).1 (by simp[k])) h1) (by lia)
theorem qW{o:Option (MV×List MO)}{C:Nat}{K:MF->LS->Prop}(hs:PSt J8 KU mh r0 r1 L ps S KB rows)(hd:rows.length<=2*q)(hq:q<=600)
  (h:bG o λr KA=>r=.none/\(mh++[MO.list []]++[MO.edict,MO.inst C (mh++[MO.list []]).length []]).set ((mh++[MO.list []]).length+1) (.inst C (mh++[MO.list []]).length fs)<+:KA)
  (k:∀KL a KO,mh++[.list []]++[.edict,.inst C (mh++[MO.list []]).length fs]<+:KL->KL[r1]?=some (.list KO)->KL.set L (.list (KB.map MV.ref++[.ref ((mh++[MO.list []]).length+1)]))=a->a[r1]?=some (.list KO)->KO.length<=16777216->K .next ⟨ρ,a⟩):
  bG o λr KA=>r=.none/\pM (kP L (kB (λ_=>bM .next) K)) ρ (.ref ((mh++[MO.list []]).length+1)) KA:=
 ng (fs:=λ_:Unit=>fs) hs hd hq (aE h λ_ _ h=>⟨h.1,(),h.2⟩) λ_=>k
theorem wz(hK:HK G P)(cU:Con G 5 41 (eQ 0 F1))(cV:Con G 5 34 (eQ 1 F2))(cq:∀c,(F1 c).length<=3)(cp:∀c,(F2 c).length<=3):
  ∃J9,Con G 6 628 J9/\∀(J8:List Nat)(mh:List MO),J8.length<=600->(∀c∈J8,c≠0/\c≠12/\c≠13)->(∃K1,mh[0]?=some (.dict K1))->(∃K1,mh[1]?=some (.dict K1))->
  bG (J9 [.str J8] mh) λr KA=>mh<+:KA/\∃i KB rows,r=.ref i/\KA[i]?=some (.list (KB.map .ref))/\ToksR F1 F2 J8 0 [] rows/\FlatL J8 KA [] KB 0 rows:=by
 obtain⟨ds,cI,hI⟩:=w5 hK;obtain⟨dr,cL,hL⟩:=gX hK;obtain⟨dR,cu,hu⟩:=B1 hK;obtain⟨dV,cN,hN⟩:=tr hK;obtain⟨dS,cs,hs⟩:=ta hK;obtain⟨dT,cR,hR⟩:=wx hK;obtain⟨dY,c6,bt⟩:=nX hK;obtain⟨cd,cr,I⟩:=nZ hK;obtain⟨cM,cS,a2⟩:=sG hK;obtain⟨bk,bu,al⟩:=jN hK;obtain⟨bC,bW,C⟩:=lF hK;obtain⟨ce,ct,a3⟩:=na hK;obtain⟨bz,b6,aq⟩:=jv hK;obtain⟨cv,c1,aA⟩:=oA hK;obtain⟨bX,cb,Y⟩:=lw hK;obtain⟨c2,cK,av⟩:=qR hK;obtain⟨aD,aF,V⟩:=iJ hK;obtain⟨bY,cc,a0⟩:=lx hK;obtain⟨bl,bv,am⟩:=jO hK;obtain⟨bw,b5,ap⟩:=ju hK;obtain⟨aG,bj,ab⟩:=ik hK;obtain⟨a4,a5,T⟩:=gY hK;obtain⟨a6,aB,U⟩:=hJ hK;obtain⟨b7,b8,Q⟩:=kZ hK;apply B0 (a:="css") (b:="skip_comments") (names:=["css","skip_comments","length","token_start_pos","pos","line","last_newline","root","tokens","end_char","stack","newline","column","c","value","start","end","is_url","url_pos","error","repr","error_key","arguments","plain","repr_","int_value","unit","is_identifier","content"]) (hf:=nK hK ?e);case e=>exact rfl
 case hs=>exact⟨⟨by decide+kernel,by decide+kernel⟩,⟨_,rfl⟩,by decide+kernel,rfl,rfl,rfl⟩
 case hp=>rw[hK];exact λ_ _ _ _ _ _ _ _ _ _=>rfl
 case hb=>
  intro lo;run_tac mwalk
 case hd=>
  intro J8 mh hl hc dd bg;apply xo;have e0:j5 J8 [0] [65533]=J8:=gr λm=>(hc 0 m).1 rfl;have e1:j5 J8 [13,10] [10]=J8:=gr λm=>(hc 13 m).2.2 rfl;have e2:j5 J8 [13] [10]=J8:=gr λm=>(hc 13 m).2.2 rfl;have e3:j5 J8 [12] [10]=J8:=gr λm=>(hc 12 m).2.1 rfl;have db:J8.length<=16777216:=by lia
  have aj:J8.length<=100000:=by lia
  show Wp _ ⟨[some _,some _,none,none,none,none,none,none,none,none,none,none,none,none,none,none,none,none,none,none,none,none,none,none,none,none,none,none,none],_⟩ _;cbv;rw[e0];cbv;rw[e1];cbv;rw[e2];cbv;rw[e3];clear e0 e1 e2 e3;cbv;show Wp _ ⟨[some (.str J8),some _,some (.int (J8.length:Int)),some _,some _,some _,some _,some _,some _,some _,some _,none,none,none,none,none,none,none,none,none,none,none,none,none,none,none,none,none,none],_⟩ _;have g1:(mh++[MO.list []]++[MO.list []])[mh.length]?=some (.list []):=ag aW;have g2:(mh++[MO.list []]++[MO.list []])[(mh++[MO.list []]).length]?=some (.list []):=aW;have bp:=PSt.init (J8:=J8) (aT (aT (fa mh) _) _) g1 g2 (ep _) (by simp) (by simp);generalize(mh++[MO.list []]).length=r1 at bp⊢;generalize mh.length=r0 at bp⊢;generalize mh++[MO.list []]++[MO.list []]=d1 at bp⊢;clear g1 g2;refine aQ (Q':=λf s=>f=MF.next/\∃(KB:List Nat)(rows:List TRow),At s.ρ 7 (.ref r0)/\mh<+:s.mh/\s.mh[r0]?=some (.list (KB.map .ref))/\ToksR F1 F2 J8 0 [] rows/\FlatL J8 s.mh [] KB 0 rows) ?_ ?_
  ·refine bN (σ:=Nat) (AU F1 F2 J8 mh r0 r1) (λq=>J8.length-q) ?_ NN 0 _ ?_ ?_
   ·rintro q _ ⟨hq,KA,bA,K5,L,ps,S,KB,done,f,rfl,hst,hT,cx,d9,y⟩
    obtain⟨dy,dx,dw,cf,aV,c4,b2,b1,aU,aS,aR,aP,c3,bE,b0,aN,aL,aK,ho⟩:=Hd f;rw[ho];clear ho;unfold LSp;have H:q<=600:=ml hq hl;cbv;refine⟨λhb=>?_,λhb=>?_⟩
    ·simp at hb
     cbv;obtain rfl:q=J8.length:=by lia
     obtain⟨hp,aH,cA,hF⟩:=hst.done;exact⟨rfl,aH,done,.tail (.tail (.tail (.tail (.tail (.tail (.tail .head)))))),hp,cA,by have :=hT [] .nil;rwa [m4]at this,hF⟩
    ·simp at hb
     obtain⟨c,r,hd⟩:∃c r,J8.drop q=c::r:=⟨_,_,e9 hb⟩;cbv;have M:=aM hd;refine aQ (Q':=λf s=>f=MF.next/\∃(ah:Int)(o:Option MV),s=LS.mk [some (.str J8),some (.bool false),some (.int (J8.length:Int)),some (.int (bA:Int)),some (.int (q:Int)),some (.int ((place (J8.take q)).1:Int)),some (.int ah),some (.ref r0),some (.ref L),some (topV S),some (.ref r1),o,dx,dw,cf,aV,c4,b2,b1,aU,aS,aR,aP,c3,bE,b0,aN,aL,aK] KA/\(q:Int)-ah=((place (J8.take q)).2:Int)) ?_ ?_
     ·refine aI (λhx=>?_) (λhx=>?_)
      ·obtain⟨m,hm,eq,bR⟩:=sw (a:=bA) (q:=q) (by simpa using hx) cx hq
       rw[hm];cbv;rw[bR];refine⟨rfl,(m:Int),_,rfl,?_⟩;show(q:Int)-m=((q-m:Nat):Int);lia
      ·have bR:=sx (a:=bA) (q:=q) (by simpa using hx) cx hq
       cbv;rw[bR];refine⟨rfl,K5,_,rfl,?_⟩;show(q:Int)-K5=(((place (J8.take bA)).2+(q-bA):Nat):Int);lia
     ·rintro _ _ ⟨rfl,ah,o,rfl,D⟩
      clear d9 dy;cbv;rw[D];cbv;refine aI (λbi=>?_) (λbi=>?_)
      ·cbv
       refine eM (i:=0) (j:=4) .head (.tail (.tail (.tail (.tail .head)))) (by decide) aj hb λbF cE=>?_;show Wp _ ⟨[some _,some _,some _,some _,some _,some _,some _,some _,some _,some _,some _,_,some _,some _,_,_,_,_,_,_,_,_,_,_,_,_,_,_,_],_⟩ _;have dg:=fM (J8.drop (q+1));rw[ea]at dg;rw[Ck]at bi;have en:q+1+brun (J8.drop (q+1))=q+ai (J8.drop q):=by
        rw[cP,hd,M.1];show _=q+(if isBl c then ai r+1 else 0);rw[dt bi];lia
       have eb:q+ai (J8.drop q)<=J8.length:=by lia
       rw[en];obtain⟨u,A,B⟩:=hst.at y H cE;cbv;refine bc B A (al (bF.length+1) bF.length _ _ _ _  new2 df) λKL w=>?_;cbv;rw[oa]at w;exact bB (dt (by rw[hd];exact bi)) hb hT u .white w y D rfl
      ·rw[Ck]at bi
       have n1:¬oneH isBl (J8.drop q)=true:=by rw[hd];show¬isBl c=true;rw[bi];decide
       cbv;refine aQ (Q':=λb s=>s=LSp J8 q q ah r0 L S r1 [o,some (.int ((place (J8.take q)).2:Int)),some (.str [c]),cf,aV,c4,b2,b1,aU,aS,aR,aP,c3,bE,b0,aN,aL,aK] KA/\(b=true↔(oneH (([117,85]:List Nat).contains ·) (J8.drop q)=true/\((J8.drop q).drop 1).head?=some 43/\oneH ((em++[63]).contains ·) ((J8.drop q).drop 2)=true))) ?_ ?_
       ·have hU:([117,85]:List Nat).contains c=([85,117]:List Nat).contains c:=by rw[hH];simp[or_comm]
        have hO:oneH (([117,85]:List Nat).contains ·) (J8.drop q)=([85,117]:List Nat).contains c:=by rw[hd];exact hU
        rw[hO,eo,eo,M.1];clear hU hO;cbv;refine gj (λh=>?_) (λh=>⟨rfl,⟨(λq=>by cases q),λk=>by rw[h]at k;exact k.1⟩⟩);cbv;refine gj (λh2=>?_) (λh2=>⟨rfl,⟨(λq=>by cases q),λk=>?_⟩⟩)
        ·simp at h2
         obtain⟨d,r1,bg⟩:∃d r1,J8.drop (q+1)=d::r1:=⟨_,_,e9 (by lia)⟩;obtain⟨g,r2,dF⟩:∃g r2,J8.drop (q+2)=g::r2:=⟨_,_,e9 (by lia)⟩;have hr:r=d::r1:=by rw[<-M.1,bg]
         rw[hr,dF];cbv;refine gj (λh3=>?_) (λh3=>⟨rfl,⟨(λq=>by cases q),λk=>?_⟩⟩)
         ·cbv
          exact⟨λk=>⟨h,by rw[ly]at h3;rw[(f4 h3).1];rfl,k⟩,λk=>k.2.2⟩
         ·have k1:d=43:=ec k.2.1
          subst k1;cases h3
        ·have ey:¬q+2<J8.length:=by simp at h2;lia
         rw[f6 (by lia)]at k;exact by cases k.2.2
       ·rintro b _ ⟨rfl,bh⟩
        unfold LSp;cbv;refine aI (λcl=>?_) (λcl=>?_)
        ·have hC:=bh.mp cl
         have hh:bo (J8.drop (q+2))=true\/(J8.drop (q+2)).head?=some 63:=by
          have h3:=hC.2.2;rw[eo]at h3;exact oj h3
         have d8:q+2<J8.length:=by
          rcases rb (q+2) J8.length with h|h
          ·exact h
          ·have h3:=hC.2.2
           rw[eo,f6 h]at h3;exact by cases h3
         cbv;refine aE (hR J8 (q+2) KA aj d8 hh) ?_;rintro _ bF ⟨cE,iR,rfl,et⟩;have bO:=so (J8.drop (q+2));rw[ea]at bO;obtain⟨u,A,B⟩:=hst.at y H cE;cbv;refine bc B A (V (bF.length+1) bF.length _ _ _ _ _  new2 df) λKL w=>?_;cbv;rw[k4 q 2];exact bB (by unfold ptok;rw[cw n1,dt hC,eo]) hb hT u .range w y D rfl
        ·have n2:=λk=>hX (cl.symm.trans (bh.mpr k))
         clear bh cl b;cbv;rw[iS _ _ _ (by decide)];refine aI (λh3=>?_) (λh3=>?_)
         ·have dn:(J8.drop q).take 3=[45,45,62]:=go h3
          have dK:=j0 dn rfl;rw[ea]at dK;obtain⟨u,A,B⟩:=hst.at y H (fa _);cbv;refine bc B A (C (KA.length+1) KA.length _ _ _ _  new2 df) λKL w=>?_;cbv;exact bB (by unfold ptok;rw[cw n1,cw n2,dt dn];rfl) hb hT u .lit w y D rfl
         ·have n3:¬(J8.drop q).take 3=[45,45,62]:=ku h3
          cbv;refine cB (bt _ _ _ aj hb) ?_;cbv;refine aI (λci=>?_) (λci=>?_)
          ·have e4:ptok F1 F2 S.head? (J8.drop q)=ay F1 (J8.drop q):=by unfold ptok;rw[cw n1,cw n2,cw n3,dt ci]
           clear n1 n2 n3 h3;have O:=bq (J8.drop q);have ae:=O.le;rw[ea]at ae;unfold ay at e4;cases hv:aC (J8.drop q)with
           |mk v k=>
            rw[hv]at O ae e4;dsimp only at O ae e4;simp only[eo]at e4;cbv;refine aE (hI J8 q _ _ _ aj hq O) ?_;rintro _ KP ⟨N,iA,rfl,bT⟩;cbv;rw[dX];refine aI (λbU=>?_) (λbU=>?_)
            ·rw[dt (by simpa using bU)]at e4
             obtain⟨u,A,B⟩:=hst.at y H N;cbv;refine iN B A (a3 (KP.length+1) KP.length _ _ _ _ (by lia) new2 df) λ_ KL w=>?_;cbv;exact bB e4 hb hT u .ident w y D rfl
            ·rw[cw (by simpa using bU)]at e4
             have dC:q+k<J8.length:=by
              rcases rb (q+k) J8.length with h|h
              ·exact h
              ·rw[f6 h]at bU;cases bU
             cbv;refine aE (hL v _ (by lia)) ?_;rintro _ ar ⟨rfl,bd⟩;cbv;refine aI (λbm=>?_) (λbm=>?_)
             ·cbv
              simp only[<-k4]at e4;refine eM (i:=0) (j:=18) (p:=q+k+1) .head (.tail (.tail (.tail (.tail (.tail (.tail (.tail (.tail (.tail (.tail (.tail (.tail (.tail (.tail (.tail (.tail (.tail (.tail .head)))))))))))))))))) (by decide) aj (by lia) λaw a8=>?_;have dg:q+k+1+brun (J8.drop (q+k+1))<=J8.length:=by
               have :=fM (J8.drop (q+k+1));rw[ea]at this;lia
              show Wp _ ⟨[some _,some _,some _,some _,some _,some _,some _,some _,some _,some _,some _,_,some _,some _,some _,_,_,some _,some _,_,_,_,_,_,_,_,_,_,_],_⟩ _;cbv;refine aQ (Q':=λb s=>(b=true↔oneH (([34,39]:List Nat).contains ·) (J8.drop (q+k+1+brun (J8.drop (q+k+1))))=false)/\∃b3,aw<+:b3/\s=LSp J8 q (q+k+1) ah r0 L S r1 [o,some (.int ((place (J8.take q)).2:Int)),some (.str [c]),some (.str v),aV,c4,some (.bool (v.map cQ==[117,114,108])),some (.int ((q+k+1+brun (J8.drop (q+k+1)):Nat):Int)),aU,aS,aR,aP,c3,bE,b0,aN,aL,aK] b3) ?_ ?_
              ·cases hx:J8.drop (q+k+1+brun (J8.drop (q+k+1)))with
               |nil=>
                have :=ed List.length hx;simp at this;refine wp_orK_t (by simp;lia) ⟨⟨λ_=>rfl,λ_=>rfl⟩,_,fa _,rfl⟩
               |cons c' t'=>
                have :=(aM hx).2;refine wp_orK_f (by simp;lia) ?_;cbv;exact⟨yD,_,aT (fa _) _,rfl⟩
              ·rintro b _ ⟨dh,b3,da,rfl⟩
               unfold LSp;cbv;refine aI (λck=>?_) (λck=>?_)
               ·have cX:=dh.mp ck
                rw[dt ⟨by simpa using bm,cX⟩]at e4;have hU:=jX (l:=J8.drop (q+k+1)) (by rw[eo];exact cX);cases aa:eG (J8.drop (q+k+1))with
                |mk val u2=>
                 obtain⟨k2,er⟩:=u2;rw[aa]at hU e4;dsimp only at hU;have dB:=xW hU;rw[ea]at dB;cbv;refine aE (hu J8 (q+k+1) _ val k2 er aj (by lia) hU) ?_;rintro _ J ⟨cD,iE,E,rfl,a9,hE⟩;cbv;have ao:KA<+:J:=(((N.trans bd).trans a8).trans da).trans cD;have hkind:=hU.kind;have c7:=hU.len;rw[ea]at c7;rcases hkind with⟨x,rfl,rfl|rfl⟩|⟨rfl,rfl⟩
                 ·have hx:=c7 x rfl
                  have bI:x.length<=600:=by lia
                  obtain rfl:E=.none:=hE;obtain⟨d2,bS⟩:=dd;simp only[BE];cbv;refine cB (pZ (aO ((hst.1).trans ao) bS) cq bI) ?_;have bL:=mB cq bI;obtain⟨u,A,B⟩:=hst.at y H ao;cbv;refine bc B A (av (J.length+1) J.length _ _ _ _ _  new2 df) λKL w=>?_;cbv;rw[show q+k+1+k2=q+(k+1+k2)by lia];exact bB (show ptok _ _ _ _=bn tUrl (.tup [.str x,.str (pL F1 x none)]) (k+1+k2)from e4) hb hT u .url w y D rfl
                 ·have hx:=c7 x rfl
                  have bI:x.length<=600:=by lia
                  obtain⟨jE,rfl,bf⟩:=hE;obtain⟨d2,bS⟩:=dd;simp only[BE];cbv;refine cB (pZ (aO ((hst.1).trans ao) bS) cq bI) ?_;have bL:=mB cq bI;have u:PSt J8 mh J r0 r1 L ps S KB done:=hst.ext ao;have A:=u.list;have bP:=u.len.1;have B:(KB.map MV.ref).length<=16777216:=by lia
                  cbv;refine bc B A (av (J.length+1) J.length _ _ _ _ _  new2 df) λKL w=>?_;have co:=aO ((eh _ _).trans w) A;cbv;have as:=u.leaf (p:=q) (.url (r:=pL F1 x (some eofKey)) (v:=x)) w;generalize hY:KL.set L (MO.list (KB.map MV.ref++[MV.ref (J.length+1)]))=an at as⊢;have cG:=as.list;have bM:((KB++[J.length+1]).map MV.ref).length<=16777216:=by simp at bP⊢;lia
                  have be:KL[jE]?=some (.tuple [.str eofKey.1,.str eofKey.2]):=aO ((eh _ _).trans w) bf;have dD:an[jE]?=some (.tuple [.str eofKey.1,.str eofKey.2]):=by
                   rw[<-hY];exact dJ (by rintro rfl;rw[co]at be;cases be) be
                  cbv;refine bc bM cG (I (an.length+1) an.length _ _ _ _ _ new2 df) λd0 cC=>?_;cbv;have bK:=as.leaf (p:=q) (.err (k:=eofKey.1) (m:=.str eofKey.2)) cC;rw[show q+k+1+k2=q+(k+1+k2)by lia];exact qz (show ptok _ _ _ _=⟨[(tUrl,.tup [.str x,.str (pL F1 x (some eofKey))]),(tError,.one (.str eofKey.1))],k+1+k2,.stay⟩from e4) hb hT bK y D rfl
                 ·obtain⟨jE,rfl,bf⟩:=hE
                  simp only[BE];obtain⟨u,A,B⟩:=hst.at y H ao;cbv;refine bc B A (I (J.length+1) J.length _ _ _ _ _  new2 df) λKL w=>?_;cbv;rw[show q+k+1+k2=q+(k+1+k2)by lia];exact bB (show ptok _ _ _ _=bn tError (.one (.str badKey.1)) (k+1+k2)from e4) hb hT u .err w y D rfl
               ·rw[cw (λz=>by have :=dh.mpr z.2;rw[this]at ck;cases ck)]at e4
                have ao:KA<+:b3:=((N.trans bd).trans a8).trans da;obtain⟨u,A,B⟩:=hst.at y H ao;cbv;refine ng u y H (Q ((b3++[MO.list []]).length+1) (b3++[MO.list []]).length _ _ _ _ _ (by lia) new2 df) λ_ KL an KO w ak hY bs br=>?_;cbv;exact gG e4 hb hT u .func w ak hY y D rfl
             ·rw[cw (λk=>by rw[k.1]at bm;cases bm)]at e4
              obtain⟨u,A,B⟩:=hst.at y H (N.trans bd);cbv;refine ng u y H (Q ((ar++[MO.list []]).length+1) (ar++[MO.list []]).length _ _ _ _ _ (by lia) new2 df) λ_ KL an KO w ak hY bs br=>?_;cbv;exact gG e4 hb hT u .func w ak hY y D rfl
          ·have n4:¬aJ (J8.drop q)=true:=by rw[ci];exact hX
           cbv;refine aE (hN J8 q _ aj hq) ?_;rintro _ KP ⟨N,iA,rfl,bT⟩;cases hn:bD (J8.drop q)with
           |some p=>
            obtain⟨m,b⟩:=p;have e5:ptok F1 F2 S.head? (J8.drop q)=d7 (J8.drop q) m b:=by unfold ptok;rw[cw n1,cw n2,cw n3,cw n4,hn]
            have hm:=iX hn;rw[ea]at hm;dsimp only at hm;rw[hn]at bT;change KP[iA]?=some (.tuple [.int ((q+m:Nat):Int),.bool b])at bT;cbv;rw[oa];refine aQ (Q':=λv s=>v=m9 ((J8.drop q).take m) b/\∃ar,KP<+:ar/\s=LSp J8 q (q+m) ah r0 L S r1 [o,some (.int ((place (J8.take q)).2:Int)),some (.str [c]),some (.str ((J8.drop q).take m)),aV,some (.int ((q+m:Nat):Int)),b2,b1,aU,aS,aR,aP,some (.bool b),some (.str ((J8.drop q).take m)),b0,aN,aL,aK] ar) ?_ ?_
            ·cases b with
             |false=>
              cbv;exact⟨rfl,_,fa _,rfl⟩
             |true=>
              have hint:=wg hn (by rw[ea];lia);cbv;exact⟨rfl,_,fa _,rfl⟩
            ·rintro _ _ ⟨rfl,ar,bd,rfl⟩
             unfold LSp;unfold d7 at e5;rw[eo]at e5;cbv;refine aQ (Q':=λbb s=>bb=aJ (J8.drop (q+m))/\s=LSp J8 q (q+m) ah r0 L S r1 [o,some (.int ((place (J8.take q)).2:Int)),some (.str [c]),some (.str ((J8.drop q).take m)),aV,some (.int ((q+m:Nat):Int)),b2,b1,aU,aS,aR,aP,some (.bool b),some (.str ((J8.drop q).take m)),some (m9 ((J8.drop q).take m) b),aN,aL,aK] ar) ?_ ?_
             ·refine gj (λau=>?_) (λau=>?_)
              ·simp at au
               cbv;refine cB (bt _ _ _ aj (by lia)) ?_;cbv;exact⟨rfl,rfl⟩
              ·rw[f6 (by simp at au;lia)];exact⟨rfl,rfl⟩
             ·rintro _ _ ⟨rfl,rfl⟩
              unfold LSp;cbv;refine aI (λaa=>?_) (λaa=>?_)
              ·rw[dt aa]at e5
               have O:=bq (J8.drop (q+m));have ae:=O.le;rw[ea]at ae;cases hv:aC (J8.drop (q+m))with
               |mk v k=>
                rw[hv]at O ae e5;dsimp only at O ae e5;cbv;refine aE (hI J8 (q+m) _ _ _ aj (by lia) O) ?_;rintro _ aw ⟨a8,iC,rfl,dc⟩;obtain⟨u,A,B⟩:=hst.at y H ((N.trans bd).trans a8);cbv;refine aE (ap (aw.length+1) aw.length _ _ _ _ _ _ _ (by lia) (i6 _ _) new2 df) ?_;rintro _ KL ⟨rfl,_,_,w⟩;refine⟨rfl,?_⟩;rw[ul]at w;have co:=aO ((eh _ _).trans w) A;cbv;rw[show q+m+k=q+(m+k)by lia];exact bB e5 hb hT u (.dim (i6 _ _)) w y D rfl
              ·rw[cw (by rw[aa];exact hX)]at e5
               cbv;rw[dX];refine aI (λbV=>?_) (λbV=>?_)
               ·rw[dt (by simpa using bV)]at e5
                have dC:q+m<J8.length:=by
                 rcases rb (q+m) J8.length with h|h
                 ·exact h
                 ·rw[f6 h]at bV;cases bV
                obtain⟨u,A,B⟩:=hst.at y H (N.trans bd);cbv;refine iN B A (am (ar.length+1) ar.length _ _ _ _ _ _ (i6 _ _) new2 df) λ_ KL w=>?_;cbv;exact bB e5 hb hT u (.pct (i6 _ _)) w y D rfl
               ·rw[cw (by simpa using bV)]at e5
                obtain⟨u,A,B⟩:=hst.at y H (N.trans bd);cbv;refine iN B A (a0 (ar.length+1) ar.length _ _ _ _ _ _ (i6 _ _) new2 df) λ_ KL w=>?_;cbv;exact bB e5 hb hT u (.num (i6 _ _)) w y D rfl
           |none=>
            have e5:ptok F1 F2 S.head? (J8.drop q)=aY F2 S.head? (J8.drop q) c:=by unfold ptok;rw[cw n1,cw n2,cw n3,cw n4,hn,hd];rfl
            rw[hn]at bT;change KP[iA]?=some (.tuple [.none,.bool false])at bT;clear n1 n2 n3 n4 ci h3 bi;cbv;unfold aY at e5;refine aI (λcH=>?_) (λcH=>?_)
            ·obtain rfl:c=64:=by simpa using cH
             rw[dt rfl]at e5;simp only[eo]at e5;cbv;refine aQ (Q':=λbb s=>bb=aJ (J8.drop (q+1))/\s=LSp J8 q (q+1) ah r0 L S r1 [o,some (.int ((place (J8.take q)).2:Int)),some (.str [64]),cf,aV,some .none,b2,b1,aU,aS,aR,aP,some (.bool false),bE,b0,aN,aL,aK] KP) ?_ ?_
             ·refine gj (λau=>?_) (λau=>?_)
              ·simp at au
               cbv;refine cB (bt _ _ _ aj (by lia)) ?_;cbv;exact⟨rfl,rfl⟩
              ·rw[f6 (by simp at au;lia)];exact⟨rfl,rfl⟩
             ·rintro _ _ ⟨rfl,rfl⟩
              unfold LSp;cbv;refine aI (λaa=>?_) (λaa=>?_)
              ·rw[dt aa]at e5
               have O:=bq (J8.drop (q+1));have ae:=O.le;rw[ea]at ae;cases hv:aC (J8.drop (q+1))with
               |mk v k=>
                rw[hv]at O ae e5;dsimp only at O ae e5;cbv;refine aE (hI J8 (q+1) _ _ _ aj (by lia) O) ?_;rintro _ aw ⟨a8,iC,rfl,dc⟩;obtain⟨u,A,B⟩:=hst.at y H (N.trans a8);cbv;refine iN B A (aq (aw.length+1) aw.length _ _ _ _ (by lia) new2 df) λ_ KL w=>?_;cbv;rw[show q+1+k=q+(1+k)by lia];exact bB e5 hb hT u .at w y D rfl
              ·rw[cw (by rw[aa];exact hX)]at e5
               obtain⟨u,A,B⟩:=hst.at y H N;cbv;refine bc B A (C (KP.length+1) KP.length _ _ _ _  new2 df) λKL w=>?_;cbv;exact bB e5 hb hT u .lit w y D rfl
            ·have dM:¬c=64:=by simpa using cH
             rw[cw dM]at e5;cbv;refine aI (λcJ=>?_) (λcJ=>?_)
             ·obtain rfl:c=35:=by simpa using cJ
              rw[dt rfl]at e5;simp only[eo]at e5;cbv;refine aQ (Q':=λbb s=>(bb=true↔(oneH bdC (J8.drop (q+1))=true\/bentL (J8.drop (q+1))=true))/\s=LSp J8 q (q+1) ah r0 L S r1 [o,some (.int ((place (J8.take q)).2:Int)),some (.str [35]),cf,aV,some .none,b2,b1,aU,aS,aR,aP,some (.bool false),bE,b0,aN,aL,aK] KP) ?_ ?_
              ·refine gj (λau=>?_) (λau=>?_)
               ·simp at au
                obtain⟨d,r1,bg⟩:∃d r1,J8.drop (q+1)=d::r1:=⟨_,_,e9 (by lia)⟩;rw[bg];cbv;refine sV (λh1=>?_) (λh1=>?_)
                ·cbv
                 refine⟨⟨λ_=>.inl ?_,λ_=>rfl⟩,rfl⟩;show bdC d=true;rw[<-qF];exact(ed (·||decide (127<d)) h1)
                cbv;refine sV (λh2=>?_) (λh2=>?_)
                ·cbv
                 refine⟨⟨λ_=>.inl ?_,λ_=>rfl⟩,rfl⟩;show bdC d=true;rw[<-qF,g6 (show 127<d by simp at h2;lia),x8]
                have di:bdC d=false:=by
                 rw[<-qF,f3 (show¬127<d by simp at h2;lia),t4];exact h1
                cbv;refine gj (λh3=>?_) (λh3=>?_)
                ·cbv
                 rw[b9,bg];refine⟨?_,rfl⟩;obtain rfl:d=92:=by simpa using h3
                 rw[show J8.drop (q+1+1)=r1 from(aM bg).1];show(!(true&&(r1.head?==some 10)))=true↔(bdC 92=true\/(true&&!(r1.head?==some 10))=true);rw[di,Iv,Iv];exact⟨.inr,λz=>z.resolve_left hX⟩
                ·cbv
                 refine⟨⟨(λz=>by cases z),λz=>?_⟩,rfl⟩;rcases z with z|z
                 ·rw[show oneH bdC (d::r1)=bdC d from rfl,di]at z;cases z
                 ·have z':(d==92&&!(r1.head?==some 10))=true:=z
                  rw[fi,ly]at z';rw[z'.1]at h3;cases h3
               ·rw[f6 (by simp at au;lia)];exact⟨⟨(λz=>by cases z),λz=>by rcases z with z|z<;>cases z⟩,rfl⟩
              ·rintro bb _ ⟨cF,rfl⟩
               unfold LSp;cbv;refine aI (λaa=>?_) (λaa=>?_)
               ·rw[dt (cF.mp aa)]at e5
                have cY:q+1<J8.length:=by
                 rcases rb (q+1) J8.length with h|h
                 ·exact h
                 ·have :=cF.mp aa
                  rw[f6 h]at this;rcases this with z|z<;>cases z
                have O:=bq (J8.drop (q+1));have ae:=O.le;rw[ea]at ae;cases hv:aC (J8.drop (q+1))with
                |mk v k=>
                 rw[hv]at O ae e5;dsimp only at O ae e5;cbv;refine cB (bt _ _ _ aj cY) ?_;cbv;refine aE (hI J8 (q+1) _ _ _ aj (by lia) O) ?_;rintro _ aw ⟨a8,iC,rfl,dc⟩;obtain⟨u,A,B⟩:=hst.at y H (N.trans a8);cbv;refine bc B A (aA (aw.length+1) aw.length _ _ _ _ _  new2 df) λKL w=>?_;cbv;rw[show q+1+k=q+(1+k)by lia];exact bB e5 hb hT u .hash w y D rfl
               ·rw[cw (λz=>by rw[cF.mpr z]at aa;cases aa)]at e5
                obtain⟨u,A,B⟩:=hst.at y H N;cbv;refine bc B A (C (KP.length+1) KP.length _ _ _ _  new2 df) λKL w=>?_;cbv;exact bB e5 hb hT u .lit w y D rfl
             ·have dO:¬c=35:=by simpa using cJ
              rw[cw dO]at e5;cbv;refine aI (λaZ=>?_) (λaZ=>?_)
              ·obtain rfl:c=123:=by simpa using aZ
               rw[dt rfl]at e5;obtain⟨u,A,B⟩:=hst.at y H N;cbv;refine qW u y H (U ((KP++[MO.list []]).length+1) (KP++[MO.list []]).length _ _ _ _  new2 df) λKL an KO w ak hY bs br=>?_;cbv;exact gG e5 hb hT u .curly w ak hY y D rfl
              have dq:¬c=123:=by simpa using aZ
              rw[cw dq]at e5;cbv;refine aI (λbH=>?_) (λbH=>?_)
              ·obtain rfl:c=91:=by simpa using bH
               rw[dt rfl]at e5;obtain⟨u,A,B⟩:=hst.at y H N;cbv;refine qW u y H (T ((KP++[MO.list []]).length+1) (KP++[MO.list []]).length _ _ _ _  new2 df) λKL an KO w ak hY bs br=>?_;cbv;exact gG e5 hb hT u .square w ak hY y D rfl
              have dL:¬c=91:=by simpa using bH
              rw[cw dL]at e5;cbv;refine aI (λbJ=>?_) (λbJ=>?_)
              ·obtain rfl:c=40:=by simpa using bJ
               rw[dt rfl]at e5;obtain⟨u,A,B⟩:=hst.at y H N;cbv;refine qW u y H (ab ((KP++[MO.list []]).length+1) (KP++[MO.list []]).length _ _ _ _  new2 df) λKL an KO w ak hY bs br=>?_;cbv;exact gG e5 hb hT u .paren w ak hY y D rfl
              have dN:¬c=40:=by simpa using bJ
              rw[cw dN]at e5;cbv;refine Bh ?_;refine aI (λbQ=>?_) (λbQ=>?_)
              ·have ba:=go bQ
               rw[dt ba]at e5;cases S with
               |nil=>cases ba
               |cons d S'=>
                obtain rfl:c=d:=ec ba;have u:=hst.ext N;obtain⟨dW,g1,g2⟩:=u.stack;have dA:=u.len.2;obtain⟨t,P,ei,dv,KO,w1,w2,w3,cy⟩:=u.pop;have dE:KO.length<=1000000:=by
                 rw[w1]at g1;have :=ed List.length (MO.list.inj (ec g1));rw[g8,g2]at this;simp at this dA;lia
                cbv;refine oq w1 dE ?_;have w4:(KP.set r1 (MO.list KO))[t]?=some (.tuple [.ref P,topV S']):=dJ (Ne.symm w3) w2;generalize KP.set r1 (MO.list KO)=an at w4 cy⊢;cbv;exact iy (rowsX:=[]) e5 hb hT (by rw[m4];exact cy) rfl rfl (oL _) y D rfl
              rw[cw (ku bQ)]at e5;cbv;refine aI (λaX=>?_) (λaX=>?_)
              ·rw[dt aX]at e5
               obtain⟨u,A,B⟩:=hst.at y H N;cbv;refine bc B A (I (KP.length+1) KP.length _ _ _ _ _  new2 df) λKL w=>?_;cbv;exact bB e5 hb hT u .err w y D rfl
              rw[cw (by rw[aX];exact hX)]at e5;cbv;rw[qx];refine aI (λhq=>?_) (λhq=>?_)
              ·have ch:c=34\/c=39:=by simpa using hq
               rw[dt ch]at e5;simp only[eo,M.1]at e5;have cn:=ew c r;have dj:=cn.le;have d6:r.length<=600:=by
                have :=ed List.length M.1;rw[ea]at this;lia
               cases d5:bx c r with
               |mk v ke=>
                obtain⟨k,e⟩:=ke;rw[d5]at cn e5 dj;dsimp only at cn dj;have cg:v.length<=600:=by lia
                have es:q+1+k<=J8.length:=by
                 have :=ed List.length M.1;rw[ea]at this;lia
                obtain⟨ek,c0⟩:=bg;cbv;refine aE (hs J8 q _ c r v k e aj ch hd cn) ?_;rintro _ J ⟨cD,iE,E,rfl,a9,hE⟩;have ao:KA<+:J:=(aT N _).trans cD;match e,a9,hE,e5 with
                |0,a9,hE,e5=>
                 obtain rfl:E=.none:=by
                  rcases hE with z|z
                  ·exact z.2
                  ·exact absurd rfl z.1
                 change J[iE]?=some (.tuple [.str v,.int ((q+1+k:Nat):Int),.none])at a9;cbv;refine cB (pZ (aO ((hst.1).trans ao) c0) cp cg) ?_;have bL:=mB cp cg;obtain⟨u,A,B⟩:=hst.at y H ao;cbv;refine bc B A (Y (J.length+1) J.length _ _ _ _ _  new2 df) λKL w=>?_;cbv;rw[show q+1+k=q+(1+k)by lia];exact bB (show ptok _ _ _ _=bn tString (.tup [.str v,.str (pQ F2 v 0)]) (1+k)from e5) hb hT u .string w y D rfl
                |1,a9,hE,e5=>
                 obtain⟨jE,rfl,bf⟩:∃j,E=.ref j/\J[j]?=some (.tuple (mX 1)):=by
                  rcases hE with z|z
                  ·exact absurd z.1 (by decide)
                  ·exact z.2
                 change J[iE]?=some (.tuple [.none,.int ((q+1+k:Nat):Int),.ref jE])at a9;change J[jE]?=some (.tuple [.str [98,97,100,45,115,116,114,105,110,103],.str [66,97,100,32,115,116,114,105,110,103,32,116,111,107,101,110]])at bf;obtain⟨u,A,B⟩:=hst.at y H ao;cbv;refine bc B A (I (J.length+1) J.length _ _ _ _ _  new2 df) λKL w=>?_;cbv;rw[show q+1+k=q+(1+k)by lia];exact bB (show ptok _ _ _ _=bn tError (.one (.str vL)) (1+k)from e5) hb hT u .err w y D rfl
                |n+2,a9,hE,e5=>
                 obtain⟨jE,rfl,bf⟩:∃j,E=.ref j/\J[j]?=some (.tuple (mX (n+2))):=by
                  rcases hE with z|z
                  ·exact absurd z.1 (by lia)
                  ·exact z.2
                 rw[cw (by lia)]at a9;unfold mX at bf;cbv;refine cB (pZ (aO ((hst.1).trans ao) c0) cp cg) ?_;have bL:=mB cp cg;have e6:jM F2 (v,k,n+2)=⟨[(tString,.tup [.str v,.str (pQ F2 v (n+2))]),(tError,.one (.str p8))],1+k,.stay⟩:=by
                  unfold jM;dsimp only;rw[cw (by lia),cw (by lia),cw (by lia)];rfl
                 rw[e6]at e5;have e7:pQ F2 v (n+2)=cZ ([]++[34]++si F2 v++[34]) none (some (-1)):=cw (by lia);rw[e7]at e5;have u:PSt J8 mh J r0 r1 L ps S KB done:=hst.ext ao;have A:=u.list;have bP:=u.len.1;have B:(KB.map MV.ref).length<=16777216:=by lia
                 cbv;refine bc B A (Y (J.length+1) J.length _ _ _ _ _  new2 df) λKL w=>?_;have co:=aO ((eh _ _).trans w) A;cbv;have as:=u.leaf (p:=q) (.string) w;generalize hY:KL.set L (MO.list (KB.map MV.ref++[MV.ref (J.length+1)]))=an at as⊢;have cG:=as.list;have bM:((KB++[J.length+1]).map MV.ref).length<=16777216:=by simp at bP⊢;lia
                 have be:=aO ((eh _ _).trans w) bf;have dD:an[jE]?=some (.tuple [.str [101,111,102,45,105,110,45,115,116,114,105,110,103],.str [69,79,70,32,105,110,32,115,116,114,105,110,103]]):=by
                  rw[<-hY];exact dJ (by rintro rfl;rw[co]at be;cases be) be
                 cbv;refine bc bM cG (I (an.length+1) an.length _ _ _ _ _ new2 df) λd0 cC=>?_;cbv;have bK:=as.leaf (p:=q) (.err (k:=p8)) cC;rw[show q+1+k=q+(1+k)by lia];exact qz e5 hb hT bK y D rfl
              have ch:¬(c=34\/c=39):=by simpa using hq
              rw[cw ch]at e5;have a7:KA<+:KP++[MO.tuple [MV.str [34],MV.str [39]]]:=aT N _;generalize KP++[MO.tuple [MV.str [34],MV.str [39]]]=af at a7⊢;have e8:(J8.drop q).drop 1=r:=by rw[eo];exact M.1
              rw[e8]at e5;cbv;rw[b9,hd,M.1,t7];refine aI (λcj=>?_) (λcj=>?_)
              ·rw[dt (go cj)]at e5
               have cY:q+1<J8.length:=by
                have :=az (l:=J8) (n:=q+1) (c:=42) (by rw[M.1];exact(go cj).1);exact this
               unfold iV at e5;rw[eo]at e5;cbv;rw[zI];cases c9:ca (J8.drop (q+2))with
               |none=>
                rw[c9]at e5;dsimp only at e5⊢;obtain⟨u,A,B⟩:=hst.at y H a7;cbv;refine hG db (by lia) ?_;cbv;refine bc B A (a2 (af.length+1) af.length _ _ _ _ new2 df) λKL w=>?_;cbv;obtain⟨hp,aH,cA,hF⟩:=(u.leaf (p:=q) (.com (v:=J8.drop (q+2))) w).done;exact⟨rfl,aH,_,.tail (.tail (.tail (.tail (.tail (.tail (.tail .head)))))),hp,cA,xe e5 hb hT,hF⟩
               |some m=>
                have bO:=pg c9;rw[ea]at bO;rw[c9]at e5;dsimp only at e5⊢;obtain⟨u,A,B⟩:=hst.at y H a7;cbv;refine bc B A (a2 (af.length+1) af.length _ _ _ _  new2 df) λKL w=>?_;cbv;rw[show q+2+m-(q+2)=m by lia]at w;rw[show q+2+m+2=q+(m+4)by lia];exact bB e5 hb hT u .com w y D rfl
              rw[cw (ku cj)]at e5;cbv;rw[iS _ _ _ (by decide)];refine aI (λh4=>?_) (λh4=>?_)
              ·have dm:(J8.drop q).take 4=[60,33,45,45]:=go h4
               rw[dt dm]at e5;obtain⟨u,A,B⟩:=hst.at y H a7;have dI:=j0 dm rfl;rw[ea]at dI;cbv;refine bc B A (C (af.length+1) af.length _ _ _ _  new2 df) λKL w=>?_;cbv;exact bB e5 hb hT u .lit w y D rfl
              rw[cw (show¬(J8.drop q).take 4=[60,33,45,45]from ku h4)]at e5;cbv;rw[iS _ _ _ (by decide)];refine aI (λh5=>?_) (λh5=>?_)
              ·rw[dt (show(J8.drop q).take 2=[124,124]from go h5)]at e5
               obtain⟨u,A,B⟩:=hst.at y H a7;cbv;refine bc B A (C (af.length+1) af.length _ _ _ _  new2 df) λKL w=>?_;cbv;exact bB e5 hb hT u .lit w y D rfl
              rw[cw (show¬(J8.drop q).take 2=[124,124]from ku h5)]at e5;cbv;refine aI (λh6=>?_) (λh6=>?_)
              ·rw[dt h6]at e5
               cbv;rw[dX,M.1];refine aI (λh7=>?_) (λh7=>?_)
               ·rw[dt (by simpa using h7)]at e5
                obtain⟨u,A,B⟩:=hst.at y H a7;cbv;refine bc B A (C (af.length+1) af.length _ _ _ _  new2 df) λKL w=>?_;cbv;exact bB e5 hb hT u .lit w y D rfl
               rw[cw (by simpa using h7)]at e5;obtain⟨u,A,B⟩:=hst.at y H a7;cbv;refine bc B A (C (af.length+1) af.length _ _ _ _  new2 df) λKL w=>?_;cbv;exact bB e5 hb hT u .lit w y D rfl
              rw[cw (by rw[h6];exact hX)]at e5;obtain⟨u,A,B⟩:=hst.at y H a7;cbv;refine bc B A (C (af.length+1) af.length _ _ _ _  new2 df) λKL w=>?_;cbv;exact bB e5 hb hT u .lit w y D rfl
   ·exact⟨oL _,d1,0,-1,r0,[],[],[],[],λ_=>none,rfl,bp,λKC h=>h,ep _,rfl,oL _⟩
   ·rw[de];lia
  ·rintro _ ⟨ee,ej⟩⟨rfl,KB,rows,h7,hp,hl,hn,hF⟩
   cbv;exact⟨hp,r0,KB,rows,rfl,hl,hn,hF⟩
variable{rs:List TRow}{KV:Nat}{line:Nat}
inductive FlatH(J8:List Nat)(mh:List MO):Nat->List Nat->Nat->List TRow->Prop
 |nil{n d:_}:FlatH J8 mh n [] d []
 |leaf{n i KB d C e fs p k t rows:_}:mh[e]?=some .edict->mh[i]?=some (.inst C e fs)->LeafFs (rl J8 p) (rc J8 p) C fs k t->FlatH J8 mh (n+1) KB d rows->FlatH J8 mh (n+1) (i::KB) d (⟨d,p,k,t⟩::rows)
 |block{n i KB d C e fs p k t L sub rows1 rows:_}:mh[e]?=some .edict->mh[i]?=some (.inst C e fs)->BlockFs (rl J8 p) (rc J8 p) C fs k t L->mh[L]?=some (.list (sub.map .ref))->
   FlatH J8 mh n sub (d+1) rows1->FlatH J8 mh (n+1) KB d rows->FlatH J8 mh (n+1) (i::KB) d (⟨d,p,k,t⟩::(rows1++rows))
theorem FlatL.high{A:List Nat}{d:Nat}(h:FlatL J8 mh A KB d rows):∀n,rows.length<=n->FlatH J8 mh n KB d rows:=by
 induction h with
 |nil=>exact λ_ _=>.nil
 |leaf h1 h2 e _ f=>
  intro n c;simp only[g9]at c;obtain⟨n,rfl⟩:∃m,n=m+1:=⟨n-1,by lia⟩;exact .leaf h1 h2 e (f _ (by lia))
 |block h1 h2 e h4 g _ _ b a=>
  intro n c;simp only[g9,g8]at c;obtain⟨n,rfl⟩:∃m,n=m+1:=⟨n-1,by lia⟩;exact .block h1 h2 e g (b _ (by lia)) (a _ (by lia))
theorem FlatH.pre{d:Nat}(h:FlatH J8 mh n KB d rows)(p:mh<+:KA):FlatH J8 KA n KB d rows:=by
 induction h with
 |nil=>exact .nil
 |leaf h1 h2 c _ e=>exact .leaf (aO p h1) (aO p h2) c e
 |block h1 h2 c f _ _ b a=>exact .block (aO p h1) (aO p h2) c (aO p f) b a
def iI(mh:List MO)(v:MV):Told->Prop
 |.one x=>v=x/\ft x=true
 |.tup xs=>(∃j,v=.ref j/\mh[j]?=some (.tuple xs))/\∀x∈xs,ft x=true
def sk(J8:List Nat)(line:Nat)(r:TRow):Int:=(((place (J8.take r.pos)).1+line:Nat):Int)-1
def sn(J8:List Nat)(KV:Nat)(r:TRow):Int:=((place (J8.take r.pos)).2:Int)+(if(place (J8.take r.pos)).1=1 then(KV:Int)-1 else 0)
def lU(J8:List Nat)(a line KV:Nat)(r:TRow)(t:MV):List MV:=[.int ((a+r.depth:Nat):Int),.int (sk J8 line r),.int (sn J8 KV r),.str r.kind,t]
def kf(J8:List Nat)(a line KV:Nat)(mh:List MO):List MV->List TRow->Prop:=All2 λv r=>∃i t,v=.ref i/\mh[i]?=some (.tuple (lU J8 a line KV r t))/\iI mh t r.told
theorem iI.keep{t:Told}(h:iI mh v t)(k:eH mh KA):iI KA v t:=by
 cases t with
 |one x=>exact h
 |tup xs=>
  obtain⟨⟨j,e,a⟩,q⟩:=h;exact⟨⟨j,e,k j _ a (λ_=>by simp)⟩,q⟩
theorem kf.keep{a:Nat}(h:kf J8 a line KV mh vs rs)(k:eH mh KA):kf J8 a line KV KA vs rs:=by
 refine All2.mono (λv P q=>?_) h;obtain⟨i,t,e,c,b⟩:=q;exact⟨i,t,e,k i _ c (λ_=>by simp),b.keep k⟩
def nk(n:Nat)(J9:Spec):Prop:=∀(J8:List Nat)(KB:List Nat)(d:Nat)(rows:List TRow)(i a line KV:Nat)(mh:List MO),FlatH J8 mh n KB d rows->mh[i]?=some (.list (KB.map .ref))->rows.length<=100000->
  bG (J9 [.ref i,.int ((a+d:Nat):Int),.int (line:Int),.int (KV:Int)] mh) λr KA=>mh<+:KA/\∃j vs,r=.ref j/\KA[j]?=some (.list vs)/\mh.length<=j/\kf J8 a line KV KA vs rows
theorem FlatH.len{d:Nat}(h:FlatH J8 mh n KB d rows):KB.length<=rows.length:=by
 induction h with
 |nil=>exact ep _
 |leaf _ _ _ _ a=>simpa using a
 |block _ _ _ _ _ _ _ a=>simp;lia
def NodeOk(J8:List Nat)(mh:List MO)(p C:Nat)(fs:List (Option MV))(k:List Nat)(t:Told)(sub:List Nat):Prop:=
 (LeafFs (rl J8 p) (rc J8 p) C fs k t/\sub=[])\/∃L,BlockFs (rl J8 p) (rc J8 p) C fs k t L/\mh[L]?=some (.list (sub.map .ref))
theorem yT{c:Nat}{d:Nat}(h:FlatH J8 mh D (c::KB) d rows):∃f C e fs p k t sub rows1 a,D=f+1/\mh[e]?=some .edict/\mh[c]?=some (.inst C e fs)/\NodeOk J8 mh p C fs k t sub/\
  FlatH J8 mh f sub (d+1) rows1/\FlatH J8 mh D KB d a/\rows=⟨d,p,k,t⟩::(rows1++a):=by
 cases h with
 |leaf h1 h2 b h4=>exact⟨_,_,_,_,_,_,_,[],[],_,rfl,h1,h2,.inl ⟨b,rfl⟩,.nil,h4,rfl⟩
 |block h1 h2 b j i g=>exact⟨_,_,_,_,_,_,_,_,_,_,rfl,h1,h2,.inr ⟨_,b,j⟩,i,g,rfl⟩
theorem Cy{r:Nat}(h1:mh[r]?=some (.list xs))(h2:mh[q]?=some (.list ys))(hl:xs.length+ys.length<=16777216)(k:QV (.ref r) ⟨ρ,mh.set r (.list (xs++ys))⟩):Wp (Fs (.ref r) (.ref q)) ⟨ρ,mh⟩ QV:=
 ⟨_,_,ed (Option.map _) (vY h1 h2 hl),k⟩
theorem ow(hK:HK G P){B:Spec}(c0:Con G n 824 B):∃J9,Con G (n+1) 824 J9/\∀D,(∀D',D=D'+1->nk D' B)->nk D J9:=by
 run_tac wcon
 intro D hD J8 KB d rows i E line KV mh hF hi a3;have a4:=hF.len;cbv;refine xK (Ad (items:=KB.map .ref) (λKC s=>∃(q:List Nat)(done w:List TRow)(vs:List MV)(A:List MO)(o5 o6 o7 o8 o9:Option MV),KC=q.map .ref/\s=LS.mk [some (.ref i),some (.int ((E+d:Nat):Int)),some (.int (line:Int)),some (.int (KV:Int)),some (.ref mh.length),o5,o6,o7,o8,o9] A/\mh<+:A/\A[mh.length]?=some (.list vs)/\kf J8 E line KV A vs done/\FlatH J8 mh D q d w/\done++w=rows) ?_ ?_ ?_ NN 0 _ ?_ ?_ ?_)
 ·rintro _ _⟨q,done,w,vs,A,o5,o6,o7,o8,o9,rfl,rfl,u,o,hR,M,r⟩
  exact aO u hi
 ·rintro _⟨q,done,w,vs,A,o5,o6,o7,o8,o9,he,rfl,u,o,hR,M,r⟩
  cases q with
  |cons a l=>cases he
  |nil=>
   cases M;cbv;rw[m4]at r;exact⟨u,_,vs,rfl,o,ep _,r▸hR⟩
 ·rintro _ _ _⟨q,done,w,vs,A,o5,o6,o7,o8,o9,he,rfl,u,o,hR,M,r⟩
  cases q with
  |nil=>cases he
  |cons nd U=>
   obtain⟨rfl,rfl⟩:=f4 he;obtain⟨D',C,e,fs,p,k,t,sub,rows1,T,rfl,g1,g2,hN,al,ak,rfl⟩:=yT M;have ae:=aO u g1;have ab:=aO u g2;cbv;refine nz (l:=k) ab ae (by rcases hN with⟨h,_⟩|⟨L,h,_⟩<;>cases h<;>rfl) ?_;cbv;refine aQ (Q':=λf s=>f=MF.next/\∃(b:Nat)(H:MV)(m:List MO),s=LS.mk [some (.ref i),some (.int ((E+d:Nat):Int)),some (.int (line:Int)),some (.int (KV:Int)),some (.ref mh.length),some (.ref nd),some (.str k),some (.ref b),some H,o9] m/\A<+:m/\m[b]?=some (.list (sub.map .ref))/\b≠mh.length/\iI m H t) ?_ ?_
   ·clear M al ak hR
    have g:(A++[MO.list []])[e]?=some .edict:=ag ae;have c:(A++[MO.list []])[nd]?=some (.inst C e fs):=ag ab;rcases hN with⟨h,rfl⟩|⟨L,h,hL⟩
    ·cases h with
     |err=>
      dsimp only[tError];cbv;refine aX c g rfl rfl ?_;cbv;exact⟨rfl,_,_,_,rfl,eh _ _,aW,Ne.symm (lz (aZ o)),rfl,rfl⟩
     |com=>
      dsimp only[tComment];cbv;refine aX c g rfl rfl ?_;cbv;exact⟨rfl,_,_,_,rfl,eh _ _,aW,Ne.symm (lz (aZ o)),rfl,rfl⟩
     |white=>
      dsimp only[tWhite];cbv;refine aX c g rfl rfl ?_;cbv;exact⟨rfl,_,_,_,rfl,eh _ _,aW,Ne.symm (lz (aZ o)),rfl,rfl⟩
     |lit=>
      dsimp only[tLit];cbv;refine aX c g rfl rfl ?_;cbv;exact⟨rfl,_,_,_,rfl,eh _ _,aW,Ne.symm (lz (aZ o)),rfl,rfl⟩
     |ident=>
      dsimp only[tIdent];cbv;refine aX c g rfl rfl ?_;cbv;exact⟨rfl,_,_,_,rfl,eh _ _,aW,Ne.symm (lz (aZ o)),rfl,rfl⟩
     |«at»=>
      dsimp only[tAt];cbv;refine aX c g rfl rfl ?_;cbv;exact⟨rfl,_,_,_,rfl,eh _ _,aW,Ne.symm (lz (aZ o)),rfl,rfl⟩
     |hash=>
      dsimp only[tHash];cbv;refine aX c g rfl rfl ?_;cbv;refine aX c g rfl rfl ?_;cbv;exact⟨rfl,_,_,_,rfl,aT (eh _ _) _,ag aW,Ne.symm (lz (aZ o)),⟨_,rfl,aW⟩,by simp[ft]⟩
     |string=>
      dsimp only[tString];cbv;refine aX c g rfl rfl ?_;cbv;refine aX c g rfl rfl ?_;cbv;exact⟨rfl,_,_,_,rfl,aT (eh _ _) _,ag aW,Ne.symm (lz (aZ o)),⟨_,rfl,aW⟩,by simp[ft]⟩
     |url=>
      dsimp only[tUrl];cbv;refine aX c g rfl rfl ?_;cbv;refine aX c g rfl rfl ?_;cbv;exact⟨rfl,_,_,_,rfl,aT (eh _ _) _,ag aW,Ne.symm (lz (aZ o)),⟨_,rfl,aW⟩,by simp[ft]⟩
     |range=>
      dsimp only[tURange];cbv;refine aX c g rfl rfl ?_;cbv;refine aX c g rfl rfl ?_;cbv;exact⟨rfl,_,_,_,rfl,aT (eh _ _) _,ag aW,Ne.symm (lz (aZ o)),⟨_,rfl,aW⟩,by simp[ft]⟩
     |num J=>
      dsimp only[tNum];cbv;refine aX c g rfl rfl ?_;cbv;refine aX c g rfl rfl ?_;cbv;rcases J with rfl|⟨z,rfl⟩<;>exact⟨rfl,_,_,_,rfl,aT (eh _ _) _,ag aW,Ne.symm (lz (aZ o)),⟨_,rfl,aW⟩,by simp[ft]⟩
     |pct J=>
      dsimp only[tPct];cbv;refine aX c g rfl rfl ?_;cbv;refine aX c g rfl rfl ?_;cbv;rcases J with rfl|⟨z,rfl⟩<;>exact⟨rfl,_,_,_,rfl,aT (eh _ _) _,ag aW,Ne.symm (lz (aZ o)),⟨_,rfl,aW⟩,by simp[ft]⟩
     |dim J=>
      dsimp only[tDim];cbv;refine aX c g rfl rfl ?_;cbv;refine aX c g rfl rfl ?_;cbv;refine aX c g rfl rfl ?_;cbv;rcases J with rfl|⟨z,rfl⟩<;>exact⟨rfl,_,_,_,rfl,aT (eh _ _) _,ag aW,Ne.symm (lz (aZ o)),⟨_,rfl,aW⟩,by simp[ft]⟩
    ·have N:=aO u hL
     cases h with
     |paren=>
      dsimp only[tParen];cbv;refine aX c g rfl rfl ?_;cbv;exact⟨rfl,_,_,_,rfl,eh _ _,ag N,lz (aZ hL),rfl,rfl⟩
     |square=>
      dsimp only[tSquare];cbv;refine aX c g rfl rfl ?_;cbv;exact⟨rfl,_,_,_,rfl,eh _ _,ag N,lz (aZ hL),rfl,rfl⟩
     |curly=>
      dsimp only[tCurly];cbv;refine aX c g rfl rfl ?_;cbv;exact⟨rfl,_,_,_,rfl,eh _ _,ag N,lz (aZ hL),rfl,rfl⟩
     |func=>
      dsimp only[tFunc];cbv;refine aX c g rfl rfl ?_;cbv;refine aX c g rfl rfl ?_;cbv;exact⟨rfl,_,_,_,rfl,eh _ _,ag N,lz (aZ hL),rfl,rfl⟩
   ·rintro _ _⟨rfl,b,H,m,rfl,I,a9,a8,a2⟩
    have hline:∃j,List.lookup C [(104,AK.slot 3),(134,AK.slot 2),(163,AK.slot 2),(206,AK.slot 2),(235,AK.slot 3),(265,AK.slot 3),(295,AK.slot 3),(325,AK.slot 3),(355,AK.slot 3),(385,AK.slot 3),(415,AK.slot 5),(447,AK.slot 5),(479,AK.slot 7),(513,AK.slot 2),(542,AK.slot 2),(571,AK.slot 2),(600,AK.slot 4)]=some (AK.slot j)/\fs[j]?=some (some (rl J8 p)):=by
     rcases hN with⟨h,_⟩|⟨L,h,_⟩<;>cases h<;>exact⟨_,rfl,rfl⟩
    have Y:∃j,List.lookup C [(104,AK.slot 2),(134,AK.slot 1),(163,AK.slot 1),(206,AK.slot 1),(235,AK.slot 2),(265,AK.slot 2),(295,AK.slot 2),(325,AK.slot 2),(355,AK.slot 2),(385,AK.slot 2),(415,AK.slot 4),(447,AK.slot 4),(479,AK.slot 6),(513,AK.slot 1),(542,AK.slot 1),(571,AK.slot 1),(600,AK.slot 3)]=some (AK.slot j)/\fs[j]?=some (some (rc J8 p)):=by
     rcases hN with⟨h,_⟩|⟨L,h,_⟩<;>cases h<;>exact⟨_,rfl,rfl⟩
    obtain⟨jl,aL,a5⟩:=hline;obtain⟨jc,aN,a7⟩:=Y;unfold rl at a5;unfold rc at a7;have aV:=aO I ae;have aS:=aO I ab;have O:=aO I o;have aA:=hR.keep (.pre I);cbv;refine aQ (Q':=λv s=>v=.int (if(place (J8.take p)).1=1 then(KV:Int)-1 else 0)/\s=LS.mk [some (.ref i),some (.int ((E+d:Nat):Int)),some (.int (line:Int)),some (.int (KV:Int)),some (.ref mh.length),some (.ref nd),some (.str k),some (.ref b),some H,o9] m) ?_ ?_
    ·refine aI (λh1=>?_) (λh1=>?_)
     ·have aa:(place (J8.take p)).1=1:=by simp at h1;lia
      rw[dt aa];cbv;exact⟨rfl,rfl⟩
     ·have aa:¬(place (J8.take p)).1=1:=by simp at h1;lia
      rw[cw aa];cbv;exact⟨rfl,rfl⟩
    ·rintro _ _⟨rfl,rfl⟩
     have aJ:=hR.len;have Q:=a3;rw[<-r]at Q;simp only[g8,g9]at Q;have aK:vs.length<=16777216:=by lia
     cbv;have e2:(m++[MO.tuple (lU J8 E line KV ⟨d,p,k,t⟩ H)])[mh.length]?=some (.list vs):=ag O;have pX:=bV (aT (u.trans I) [MO.tuple (lU J8 E line KV ⟨d,p,k,t⟩ H)]) (ep mh.length) (MO.list (vs++[MV.ref m.length]));have lX:=bW (y:=MO.list (vs++[MV.ref m.length])) e2;have kX:eH m _:=(eH.pre (eh m [MO.tuple (lU J8 E line KV ⟨d,p,k,t⟩ H)])).trans (eH.set (ys:=vs++[MV.ref m.length]) e2);have tX:=dJ (y:=MO.list (vs++[MV.ref m.length])) (lz (aZ O)) (aW (mh:=m) (x:=MO.tuple (lU J8 E line KV ⟨d,p,k,t⟩ H)));have bX:=dJ (y:=MO.list (vs++[MV.ref m.length])) (Ne.symm a8) (ag (mh:=m) a9:(m++[MO.tuple (lU J8 E line KV ⟨d,p,k,t⟩ H)])[b]?=_);have rX:kf J8 E line KV _ (vs++[MV.ref m.length]) (done++[⟨d,p,k,t⟩]):=(aA.keep kX).app (.cons ⟨_,H,rfl,tX,a2.keep kX⟩ .nil);change bG (B [MV.ref b,MV.int ((E+(d+1):Nat):Int),MV.int (line:Int),MV.int (KV:Int)] ((m++[MO.tuple (lU J8 E line KV ⟨d,p,k,t⟩ H)]).set mh.length (MO.list (vs++[MV.ref m.length])))) _;generalize(m++[MO.tuple (lU J8 E line KV ⟨d,p,k,t⟩ H)]).set mh.length (MO.list (vs++[MV.ref m.length]))=az at pX lX kX bX rX⊢;refine aE (hD D' rfl J8 sub (d+1) rows1 b E line KV az (al.pre pX) bX (by lia)) ?_;rintro _ a0⟨V,j,ai,rfl,a6,hge,aj⟩;have l3:=aO V lX;have aR:=aj.len;refine aq (Cy l3 a6 (by simp;lia) ?_);have rF:kf J8 E line KV (a0.set mh.length (.list (vs++[MV.ref m.length]++ai))) (vs++[MV.ref m.length]++ai) (done++[⟨d,p,k,t⟩]++rows1):=All2.app ((rX.keep (.pre V)).keep (eH.set l3)) (aj.keep (eH.set l3));cbv;exact⟨U,done++[⟨d,p,k,t⟩]++rows1,T,_,_,_,_,_,_,_,rfl,rfl,bV (pX.trans V) (ep _) _,bW l3,rF,ak,by rw[<-r];simp⟩
 ·exact⟨KB,[],rows,[],mh++[MO.list []],none,none,none,none,none,rfl,rfl,eh _ _,aW,.nil,hF,rfl⟩
 ·simp[de];lia
 ·exact oL _
theorem zk(hK:HK G P):∀D,∃J9,Con G (D+2) 824 J9/\nk D J9:=by
 intro D;induction D with
 |zero=>
  have a:Con G 1 824 (λ_ _=>none):=λ_ _ _ _ _ _ _ _ _ _ _ _ h _=>by cases h
  obtain⟨s,c,h⟩:=ow hK a;exact⟨s,c,h 0 λd e=>by cases e⟩
 |succ D b=>
  obtain⟨s0,a,h0⟩:=b;obtain⟨s,c,h⟩:=ow hK a;exact⟨s,c,h _ λd e=>by obtain rfl:=JG e;exact h0⟩
variable{Kl:List (Addr×Obj)}{binds:List (Str×Value)}{cm:Str->Option Value}
section
set_option linter.unusedSimpArgs false
end
set_option genInjectivity true in
structure Key where
 d:Nat
 l:Int
 c:Int
 k:List Nat
 t:Told
def cX(J8:List Nat)(a line KV:Nat)(r:TRow):Key:=⟨a+r.depth,sk J8 line r,sn J8 KV r,r.kind,r.told⟩
noncomputable def m5(x:Key)(t:MV):List MV:=[.int (x.d:Int),.int x.l,.int x.c,.str x.k,t]
def im(mh:List MO)(v:MV)(x:Key):Prop:=∃i t,v=.ref i/\mh[i]?=some (.tuple (m5 x t))/\iI mh t x.t
abbrev pI(mh:List MO):List MV->List Key->Prop:=All2 (im mh)
theorem kf.keys{b:Nat}(h:kf J8 b line KV mh vs rs):pI mh vs (rs.map (cX J8 b line KV)):=by
 induction h with
 |nil=>exact .nil
 |cons a _ c=>exact .cons a c
theorem im.keep{x:Key}(h:im mh v x)(k:eH mh KA):im KA v x:=by
 obtain⟨i,t,e,b,a⟩:=h;exact⟨i,t,e,k i _ b (λ_=>by simp),a.keep k⟩
theorem pI.keep{xs:List Key}(h:pI mh vs xs)(k:eH mh KA):pI KA vs xs:=All2.mono (λ_ _ q=>q.keep k) h
theorem pK{r:Nat}(h1:mh[r]?=some (.list xs))(h2:mh[q]?=some (.list ys))(hl:xs.length+ys.length<=16777216)(k:QV (.ref mh.length) ⟨ρ,mh++[.list (xs++ys)]⟩):Wp (Co (.ref r) (.ref q)) ⟨ρ,mh⟩ QV:=
 ⟨_,_,ed (Option.map _) (vY h1 h2 hl),k⟩
def TokO.ok2(x:TokO):Prop:=x.rows.length<=2
theorem wE(F1 F2:Nat->List Nat)(top:Option Nat)(l:List Nat):(ptok F1 F2 top l).ok2:=by
 have one:∀k t n,(bn k t n).ok2:=λk t n=>nl 1;have lit:∀v,(fZ v).ok2:=λv=>nl 1;have d:∀l,(ay F1 l).ok2:=λl=>by
  unfold ay;refine aN (P:=TokO.ok2) (λ_=>one _ _ _) λ_=>aN (P:=TokO.ok2) (λ_=>?_) λ_=>nl 1;unfold pn TokO.ok2;generalize eG _=u;obtain⟨a,b,c⟩:=u;cases a<;>cases c<;>simp
 unfold ptok;refine aN (P:=TokO.ok2) (λ_=>one _ _ _) λ_=>aN (P:=TokO.ok2) (λ_=>one _ _ _) λ_=>aN (P:=TokO.ok2) (λ_=>lit _) λ_=>aN (P:=TokO.ok2) (λ_=>d l) λ_=>?_;cases bD l with
 |some p=>
  unfold d7;exact aN (P:=TokO.ok2) (λ_=>one _ _ _) λ_=>aN (P:=TokO.ok2) (λ_=>one _ _ _) λ_=>one _ _ _
 |none=>
  unfold aY;refine aN (P:=TokO.ok2) (λ_=>aN (P:=TokO.ok2) (λ_=>one _ _ _) λ_=>lit _) λ_=>aN (P:=TokO.ok2) (λ_=>aN (P:=TokO.ok2) (λ_=>one _ _ _) λ_=>lit _) λ_=>?_;refine aN (P:=TokO.ok2) (λ_=>nl 1) λ_=>aN (P:=TokO.ok2) (λ_=>nl 1) λ_=>aN (P:=TokO.ok2) (λ_=>nl 1) λ_=>aN (P:=TokO.ok2) (λ_=>oL 2) λ_=>aN (P:=TokO.ok2) (λ_=>one _ _ _) λ_=>?_;refine aN (P:=TokO.ok2) (λ_=>?_) λ_=>aN (P:=TokO.ok2) (λ_=>?_) λ_=>?_
  ·unfold jM TokO.ok2
   dsimp only;split<;>split<;>simp
  ·unfold iV
   split<;>exact one _ _ _
  ·exact aN (P:=TokO.ok2) (λ_=>lit _) λ_=>aN (P:=TokO.ok2) (λ_=>lit _) λ_=>aN (P:=TokO.ok2) (λ_=>aN (P:=TokO.ok2) (λ_=>lit _) λ_=>lit _) λ_=>lit _
theorem jz(h:ToksR F1 F2 J8 q S rows):rows.length+2*q<=2*J8.length:=by
 induction h with
 |nil=>simp
 |@cons p S rows hp _ b=>
  have h1:(ptok F1 F2 S.head? (J8.drop p)).rows.length<=2:=wE F1 F2 S.head? (J8.drop p);have a:J8.drop p≠[]:=λh=>by
   have :=ed List.length h;rw[ea,xk]at this;lia
  have h2:=(eW F1 F2 S.head? a).1;rw[g8];unfold rowsAt;rw[sf];lia
theorem j3(l:List Nat)(a:Nat):cZ l none (some (a:Int))=l.take a:=by
 have e2:hiI (some (a:Int)) l.length=min a l.length:=jH a _;unfold cZ;rw[e2,show loI none l.length=0 from rfl,pu,Nat.sub_zero];rcases Nat.le_total a l.length with h|h
 ·rw[pB h]
 ·rw[l5 h,I2 h,x4]
theorem jS{c:Nat}(h:l.getLast?=some c)(hl:l.length<=16777216)(q:Q (.str [c])):Got (d3 mh (.str l) (.int (-1))) Q:=by
 cases l with
 |nil=>cases h
 |cons x r=>
  refine ah (a:=.str [c]) ?_ q;rw[pA,show(x::r).length-1=r.length from rfl]at h;show(if ssz (-1)=true then((seqIndex? (-1) (r.length+1)).bind λk=>((x::r)[k]?).map λc=>MV.str [c]) else none)=_;rw[qr];refine(dt rfl).trans ?_;rw[v4,h];rfl
theorem cC{c:Nat}(hl:(c::r).length<=16777216)(q:Q (.str [c])):Got (d3 mh (.str (c::r)) (.int 0)) Q:=gz (a:=0) rfl hl q
theorem gS{c:Nat}(hl:(c::r).length<=16777216)(q:Q (.str (r.take 1))):Got (gW (.str (c::r)) (.int 1) (.int 2)) Q:=ro (a:=1) rfl hl q
theorem nT(r:List Nat):oneH (([48,49,50,51,52,53,54,55,56,57]:List Nat).contains ·) r=bY r:=by
 cases r with
 |nil=>rfl
 |cons c r=>
  exact eF c
theorem dh{p q:Prop}[Decidable p] [Decidable q]{a a' b b':Bool}(h:p↔q)(e:p->a=a')(k:b=b'):(if p then a else b)=(if q then a' else b'):=by
 by_cases hp:p
 ·rw[dt hp,dt (h.mp hp),e hp]
 ·rw[cw hp,cw (λx=>hp (h.mpr x)),k]
theorem yW{kind:List Nat}{c x:Nat}(hx:raw.getLast?=some x):ck kind raw (c::r)=
  if(tC bdC [c]||(bentL (List.drop 0 (c::r))||[x]==[92]))=true then false
  else if(([32,10]:List Nat).contains c&&ci raw)=true then false
  else if(kind==[119,111,114,100]&&([c]==[40]||(raw==[45,45]&&[c]==[62])))=true then false
  else if((kind==[119,111,114,100])&&(([117]==raw||([85]==raw||false))&&([c]==[43]&&isS (r.take 1) (em++[63]))))=true then false
  else if(kind==[115,105,122,101]&&([c]==[43]&&isS (r.take 1) [48,49,50,51,52,53,54,55,56,57]))=true then
   !(([101]==raw.drop (af raw)||([69]==raw.drop (af raw)||false))&&(!(raw.take (af raw)).contains 101&&!(raw.take (af raw)).contains 69))
  else true:=by
 have hd:(c::r).headD 0=c:=rfl;have a:isS (r.take 1) [48,49,50,51,52,53,54,55,56,57]=bY r:=by rw[cn];exact nT r
 unfold ck;rw[hd,hx,a,cn];refine dh ?_ (λ_=>rfl) (dh ?_ (λ_=>rfl) (dh ?_ (λ_=>rfl) (dh ?_ (λ_=>rfl) (dh ?_ (λ_=>?_) rfl))))
 ·simp[tC]
 ·simp
 ·simp[cg]
 ·simp only[fi,ll,ly,t4]
  exact Jm Iff.rfl (Jm (JA Ip Ip) (Jm (by simp) Iff.rfl))
 ·simp[dC]
 ·refine ed (!·) (hH.mpr ?_)
  simp only[s3,fi,ll,ly,t4];exact Jm (JA Ip Ip) (by simp)
theorem zj(hK:HK G P):∃J9,Con G 4 845 J9/\∀(kind raw:List Nat)(c:Nat)(r:List Nat)(mh:List MO),raw.length<=100000->r.length<=10000->raw≠[]->
  bG (J9 [.str kind,.str raw,.str (c::r)] mh) λv KA=>v=.bool (ck kind raw (c::r))/\mh<+:KA:=by
 obtain⟨KS,H,h1⟩:=fm hK;obtain⟨q,E,h2⟩:=kY hK;obtain⟨t,D,z⟩:=ij hK;obtain⟨w,C,h4⟩:=sD hK;obtain⟨u,B,y⟩:=lh hK;run_tac wcon
 intro kind raw c r mh hl A n;have hb:(c::r).length<=16777216:=by simp;lia
 obtain⟨x,hx⟩:∃x,raw.getLast?=some x:=⟨_,Jt n⟩;have N:=yW (kind:=kind) (r:=r) (c:=c) hx;have a:∀{b:Bool},b=false->¬b=true:=λh=>mm.mp h;have o:(c::r).length<=100000:=by simp;lia
 cbv;refine cC hb ?_;cbv;refine gS hb ?_;cbv;refine aE (h1 _ _ mh (by rw[g7];lia)) ?_;rintro _ KA ⟨rfl,rfl⟩;cbv;refine aE (h2 _ _ (ep _)) ?_;rintro _ KA ⟨rfl,rfl⟩;cbv;refine wp_orK_all ?_;cbv;refine aE (z _ 0 _ o) ?_;rintro _ KA ⟨rfl,rfl⟩;cbv;refine wp_orK_all ?_;cbv;refine jS hx (by lia) ?_;cbv;refine aI (λe=>?_) (λe=>?_)
 ·cbv
  exact⟨ed MV.bool (by rw[N,dt e]),fa _⟩
 cbv;refine wp_andK_all ?_;cbv;refine aE (h4 _ _ hl) ?_;rintro _ KA ⟨rfl,rfl⟩;cbv;refine aI (λg=>?_) (λg=>?_)
 ·cbv
  exact⟨ed MV.bool (by rw[N,cw (a e),dt g]),fa _⟩
 cbv;refine wp_andK_all ?_;cbv;refine wp_orK_all ?_;cbv;refine wp_andK_all ?_;cbv;refine aI (λi=>?_) (λi=>?_)
 ·cbv
  exact⟨ed MV.bool (by rw[N,cw (a e),cw (a g),dt i]),fa _⟩
 cbv;refine aQ (Q':=λb s=>∃d,KA<+:d/\b=((kind==[119,111,114,100])&&(([117]==raw||([85]==raw||false))&&([c]==[43]&&isS (r.take 1) (em++[63]))))/\s=⟨[some (MV.str kind),some (MV.str raw),some (MV.str (c::r)),some (MV.str [c]),some (MV.bool (isS (List.take 1 r) [48,49,50,51,52,53,54,55,56,57])),none],d⟩) ?_ ?_
 ·cases hk:(kind==[119,111,114,100])with
  |false=>
   cbv;exact⟨KA,fa _,rfl,rfl⟩
  |true=>
   cbv;refine wp_andK_all ?_;cbv;refine wp_andK_all ?_;cbv;refine gS hb ?_;cbv;refine aE (h1 _ _ _ (by rw[g7];lia)) ?_;rintro _ m ⟨rfl,rfl⟩;cbv;exact⟨_,eh ..,rfl,rfl⟩
 rintro _ _ ⟨d,hp,rfl,rfl⟩;refine aI (λl=>?_) (λl=>?_)
 ·cbv
  exact⟨ed MV.bool (by rw[N,cw (a e),cw (a g),cw (a i),dt l]),hp⟩
 cbv;refine wp_andK_all ?_;cbv;refine wp_andK_all ?_;cbv;refine aI (λp=>?_) (λp=>?_)
 ·cbv
  refine aE (y _ 0 _ hl (oL _)) ?_;rintro _ m ⟨rfl,rfl⟩;cbv;rw[show 0+af (raw.drop 0)=af raw by rw[pu,Iq]];refine hG (by lia) (i0 raw) ?_;cbv;have f:ck kind raw (c::r)=!(([101]==raw.drop (af raw)||([69]==raw.drop (af raw)||false))&&(!(raw.take (af raw)).contains 101&&!(raw.take (af raw)).contains 69)):=by rw[N,cw (a e),cw (a g),cw (a i),cw (a l),dt p]
  refine aI (λk=>?_) (λk=>?_)
  ·rw[k]at f
   cbv;rw[j3];refine aI (λj=>?_) (λj=>?_)
   ·rw[show(!(raw.take (af raw)).contains 101)=true from j]at f
    cbv;rw[j3];exact⟨ed MV.bool f.symm,hp.trans (eh ..)⟩
   ·rw[show(!(raw.take (af raw)).contains 101)=false from j]at f
    cbv;exact⟨ed MV.bool (by rw[f];exact ed (!·) j),hp.trans (eh ..)⟩
  ·rw[k]at f
   cbv;exact⟨ed MV.bool (by rw[f];exact ed (!·) k),hp.trans (eh ..)⟩
 ·cbv
  exact⟨ed MV.bool (by rw[N,cw (a e),cw (a g),cw (a i),cw (a l),cw (a p)]),hp⟩
theorem zJ{c:Nat}(h:c∈l):jU l [c] 0=((l.idxOf c:Nat):Int):=by
 have a:=Jz h;have hg:l[l.idxOf c]?=some c:=by rw[fg a,List.getElem_idxOf a]
 unfold jU;rcases tE l [c] 0 1 (by simp) (by decide)with⟨h1,h2⟩|⟨i,r,h1,h2,d,h4⟩
 ·exact absurd (eq_of_beq (JO.mpr hg)) (h2 _ (oL _))
 ·rw[h1]
  have e:l[i]?=some c:=JO.mp (ly.mpr d);have le:l.idxOf c<=i:=Nat.le_of_not_lt λb=>by
   have :=List.not_of_lt_findIdx (p:=(·==c)) (xs:=l) (i:=i) b;obtain⟨hl,f⟩:=fd.mp e;rw[f]at this;simp at this
  by_cases q:l.idxOf c=i
  ·rw[q]
  ·exact absurd (eq_of_beq (JO.mpr hg)) (h4 _ (oL _) (by lia))
theorem nJ(h:l.length<=16777216)(q:Q (.str (l.drop a))):Got (gW (.str l) (.int (a:Int)) .none) Q:=by
 rcases Nat.le_total a l.length with ha|ha
 ·exact hG h ha q
 ·refine ah (show(if l.length<=16777216 then some (MV.str (cZ l (some (a:Int)) none)) else none)=_ by rw[dt h]) ?_
  have e1:loI (some (a:Int)) l.length=l.length:=(jH a _).trans (l5 ha);rw[f6 ha]at q;unfold cZ;rw[e1,pa,yd];exact q
theorem qQ(hK:HK G P):∃J9,Con G 2 852 J9/\∀(raw:List Nat)(c:Nat)(r:List Nat)(mh:List MO),raw.length<=100000->r.length<=10000->
  bG (J9 [.str raw,.str (c::r)] mh) λv KA=>v=.bool (bz raw (c::r))/\mh<+:KA:=by
 obtain⟨KS,u,h1⟩:=fm hK;run_tac wcon
 intro raw c r mh hl s;have hb:(c::r).length<=16777216:=by simp;lia
 have hx:isS [c] em=cD c:=ei c;have p:∀{b:Bool},b=false->¬b=true:=λh=>mm.mp h;cbv;refine nJ (a:=2) (by lia) ?_;cbv;refine cC hb ?_;cbv;refine aE (h1 _ _ _ (ep _)) ?_;rintro _ KA ⟨rfl,rfl⟩;cbv;refine aI (λk=>?_) (λk=>?_)
 ·cbv
  have m:45∈raw.drop 2:=n9.mp k;have t:=Jz m;refine aI (λd=>?_) (λd=>?_)
  ·cbv
   rw[zJ m];cbv;exact⟨ed MV.bool (by
    unfold bz;rw[dt m];refine ed (!·) (JR.mpr ?_);rw[hx]at d;exact⟨λh=>⟨d,by lia⟩,λh=>by have :=h.2;lia⟩),fa _⟩
  ·cbv
   exact⟨ed MV.bool (by
    unfold bz;rw[dt m,d];rw[hx]at d;exact(ed (!·) (f3 λh=>by rw[show cD c=true from h.1]at d;cases d)).symm),fa _⟩
 have j:45∉raw.drop 2:=λm=>by rw[n9.mpr m]at k;cases k
 cbv;refine aI (λd=>?_) (λd=>?_)
 ·have m:63∈raw.drop 2:=n9.mp d
  cbv;refine cC hb ?_;cbv;refine aI (λf=>?_) (λf=>?_)
  ·cbv
   exact⟨ed MV.bool (by
    unfold bz;rw[cw j,dt m];refine ed (!·) (JR.mpr ?_);exact⟨λh=>⟨by simpa using f,by lia⟩,λh=>by have :=h.2;lia⟩),fa _⟩
  ·cbv
   exact⟨ed MV.bool (by
    unfold bz;rw[cw j,dt m];rw[f];exact(ed (!·) (f3 λh=>by have :=h.1;simp at f;exact f this)).symm),fa _⟩
 have n:63∉raw.drop 2:=λm=>by rw[n9.mpr m]at d;cases d
 cbv;refine cC hb ?_;cbv;refine wp_andK_all ?_;cbv;refine gS hb ?_;cbv;refine aE (h1 _ _ _ (by rw[g7];lia)) ?_;rintro _ KA ⟨rfl,rfl⟩;cbv;have l:([c]==[45]&&isS (r.take 1) em)=true↔((c::r).headD 0=45/\bo ((c::r).drop 1)=true):=by
  have e:oneH (em.contains ·) r=bo r:=by cases r<;>rfl
  rw[cn,e];simp
 refine aI (λf=>?_) (λf=>?_)
 ·cbv
  exact⟨ed MV.bool (by
   unfold bz;rw[cw j,cw n,dt (l.mp f)]),fa _⟩
 cbv;have R:bz raw (c::r)=!decide ((cD c=true\/c=63)/\(raw.drop 2).length<6):=by
  unfold bz;rw[cw j,cw n,cw (λh=>p f (l.mpr h))];rfl
 have o:cD c=true\/c=63->bz raw (c::r)=!decide (((raw.drop 2).length:Int)<6):=λh=>by
  rw[R];refine ed (!·) (JR.mpr ?_);exact⟨λq=>by have :=q.2;lia,λq=>⟨h,by lia⟩⟩
 refine aI (λi=>?_) (λi=>?_)
 ·rw[i]
  cbv;exact⟨ed MV.bool (o (.inl (hx▸i))).symm,fa _⟩
 ·cbv
  refine cC hb ?_;cbv;refine aI (λg=>?_) (λg=>?_)
  ·cbv
   exact⟨ed MV.bool (o (.inr (by simpa using g))).symm,fa _⟩
  ·rw[g]
   cbv;refine⟨ed MV.bool ?_,fa _⟩;rw[R,f3 (λh=>?_)];rcases h.1 with h|h
   ·rw[hx,h]at i
    cases i
   ·rw[h]at g
    exact absurd g (by decide)
variable{bf:List Nat}
theorem xv{c:Nat}:cH bf raw (c::r)=
  if(raw==[64])=true then !ao (c::r)
  else if(raw==[35])=true then !(bdC c||bentL (c::r))
  else if(raw==[45])=true then !((isS [c] [48,49,50,51,52,53,54,55,56,57]||([c]==[46]&&isS (r.take 1) [48,49,50,51,52,53,54,55,56,57]))||([c]==[45]||(hdC c||bentL (c::r))))
  else if(raw==[43])=true then !((isS [c] [48,49,50,51,52,53,54,55,56,57]||([c]==[46]&&isS (r.take 1) [48,49,50,51,52,53,54,55,56,57]))||(([117]==bf||([85]==bf||false))&&isS [c] (em++[63])))
  else if(raw==[46])=true then !isS [c] [48,49,50,51,52,53,54,55,56,57]
  else if(raw==[47])=true then[c]!=[42]
  else if(raw==[124])=true then !([124,61]:List Nat).contains c
  else if([126]==raw||([94]==raw||([36]==raw||([42]==raw||false))))=true then[c]!=[61]
  else if(raw==[60])=true then(c::r).take 3 !=[33,45,45]
  else if(raw==[33])=true then(bf !=[60]||(c::r).take 2 !=[45,45])
  else true:=by
 have hd:(c::r).headD 0=c:=rfl;have d:isS (r.take 1) [48,49,50,51,52,53,54,55,56,57]=bY r:=by rw[cn];exact nT r
 have e:isS [c] [48,49,50,51,52,53,54,55,56,57]=cF c:=eF c;unfold cH;rw[hd,d,e];refine dh (by simp) (λ_=>rfl) (dh (by simp) (λ_=>rfl) (dh (by simp) (λ_=>?_) (dh (by simp) (λ_=>?_) (dh (by simp) (λ_=>rfl) (dh (by simp) (λ_=>?_) (dh (by simp) (λ_=>?_) (dh ?_ (λ_=>?_) (dh (by simp) (λ_=>?_) (dh (by simp) (λ_=>?_) rfl)))))))))
 ·refine ed (!·) (hH.mpr ?_)
  simp
 ·refine ed (!·) (hH.mpr ?_)
  simp only[s3,fi,ll,ly,t4];exact JA (by simp) (Jm (JA Ip Ip) Iff.rfl)
 ·exact hH.mpr (by simp)
 ·exact hH.mpr (by simp)
 ·simp only[ll,ly,t4]
  exact JA Ip (JA Ip (JA Ip Ip))
 ·exact hH.mpr (by simp)
 ·by_cases q:(c::r).take 3=[33,45,45]
  ·rw[g6 q,q];rfl
  ·rw[f3 q];exact(JS.mpr q).symm
 ·by_cases a:bf=[60]<;>by_cases b:(c::r).take 2=[45,45]
  ·rw[g6 ⟨a,b⟩,a,b];rfl
  ·rw[f3 (λh=>b h.2),JS.mpr b,x8];rfl
  ·rw[f3 (λh=>a h.1),JS.mpr a];rfl
  ·rw[f3 (λh=>a h.1),JS.mpr a];rfl
theorem zg(hK:HK G P):∃J9,Con G 3 859 J9/\∀(bf raw:List Nat)(c:Nat)(r:List Nat)(mh:List MO),raw.length<=100000->bf.length<=100000->r.length<=10000->
  bG (J9 [.str bf,.str raw,.str (c::r)] mh) λv KA=>v=.bool (cH bf raw (c::r))/\mh<+:KA:=by
 obtain⟨KS,L,h1⟩:=fm hK;obtain⟨opS,J,h2⟩:=lD hK;obtain⟨x,I,B⟩:=kY hK;obtain⟨w,H,h4⟩:=nY hK;obtain⟨y,E,z⟩:=ij hK;run_tac wcon
 intro bf raw c r mh hl A C;have hb:(c::r).length<=16777216:=by simp;lia
 have n:(c::r).length<=100000:=by simp;lia
 have a:∀{b:Bool},b=false->¬b=true:=λh=>mm.mp h;cbv;refine cC hb ?_;cbv;refine aE (h1 _ _ _ (ep _)) ?_;rintro _ KA ⟨rfl,rfl⟩;cbv;refine aQ (Q':=λv s=>v=.bool (isS [c] [48,49,50,51,52,53,54,55,56,57]||([c]==[46]&&isS (r.take 1) [48,49,50,51,52,53,54,55,56,57]))/\s=⟨[some (MV.str bf),some (MV.str raw),some (MV.str (c::r)),some (MV.str [c]),none],KA⟩) ?_ ?_
 ·refine aI (λd=>?_) (λd=>?_)
  ·rw[d]
   cbv;exact⟨rfl,rfl⟩
  ·rw[d]
   cbv;refine aI (λe=>?_) (λe=>?_)
   ·rw[e]
    cbv;refine gS hb ?_;cbv;refine aE (h1 _ _ _ (by rw[g7];lia)) ?_;rintro _ KA ⟨rfl,rfl⟩;cbv;exact⟨rfl,rfl⟩
   ·rw[e]
    cbv;exact⟨rfl,rfl⟩
 rintro _ _ ⟨rfl,rfl⟩;have N:=xv (bf:=bf) (raw:=raw) (r:=r) (c:=c);generalize(isS [c] [48,49,50,51,52,53,54,55,56,57]||([c]==[46]&&isS (r.take 1) [48,49,50,51,52,53,54,55,56,57]))=D at N⊢;cbv;refine aI (λd=>?_) (λd=>?_)
 ·cbv
  refine aE (h2 _ 0 _ n) ?_;rintro _ i ⟨rfl,rfl⟩;cbv;exact⟨ed MV.bool (by rw[N,dt d];rfl),fa _⟩
 cbv;refine aI (λe=>?_) (λe=>?_)
 ·cbv
  refine aE (B _ _ (ep _)) ?_;rintro _ i ⟨rfl,rfl⟩;cbv;refine aI (λk1=>?_) (λk1=>?_)
  ·rw[k1]
   cbv;exact⟨ed MV.bool (by rw[N,cw (a d),dt e,show bdC c=true from k1];rfl),fa _⟩
  ·cbv
   refine aE (z _ 0 _ n) ?_;rintro _ u ⟨rfl,rfl⟩;cbv;exact⟨ed MV.bool (by rw[N,cw (a d),dt e,show bdC c=false from k1];rfl),fa _⟩
 cbv;refine aI (λf=>?_) (λf=>?_)
 ·cbv
  refine aI (λk1=>?_) (λk1=>?_)
  ·rw[k1]at N⊢
   cbv;exact⟨ed MV.bool (by rw[N,cw (a d),cw (a e),dt f];rfl),fa _⟩
  ·rw[k1]at N
   cbv;refine aI (λm=>?_) (λm=>?_)
   ·rw[m]at N⊢
    cbv;exact⟨ed MV.bool (by rw[N,cw (a d),cw (a e),dt f];rfl),fa _⟩
   ·rw[m]at N
    cbv;refine aE (h4 _ _ (ep _)) ?_;rintro _ i ⟨rfl,rfl⟩;cbv;refine aI (λt=>?_) (λt=>?_)
    ·rw[t]
     cbv;exact⟨ed MV.bool (by rw[N,cw (a d),cw (a e),dt f,show hdC c=true from t];rfl),fa _⟩
    ·cbv
     refine aE (z _ 0 _ n) ?_;rintro _ u ⟨rfl,rfl⟩;cbv;exact⟨ed MV.bool (by rw[N,cw (a d),cw (a e),dt f,show hdC c=false from t];rfl),fa _⟩
 cbv;refine aI (λg=>?_) (λg=>?_)
 ·cbv
  refine aI (λk1=>?_) (λk1=>?_)
  ·rw[k1]at N⊢
   cbv;exact⟨ed MV.bool (by rw[N,cw (a d),cw (a e),cw (a f),dt g];rfl),fa _⟩
  ·rw[k1]at N
   cbv;refine aI (λm=>?_) (λm=>?_)
   ·rw[m]at N
    cbv;refine aE (h1 _ _ _ (ep _)) ?_;rintro _ i ⟨rfl,rfl⟩;cbv;exact⟨ed MV.bool (by rw[N,cw (a d),cw (a e),cw (a f),dt g];rfl),eh ..⟩
   ·rw[m]at N⊢
    cbv;exact⟨ed MV.bool (by rw[N,cw (a d),cw (a e),cw (a f),dt g];rfl),eh ..⟩
 cbv;refine aI (λj=>?_) (λj=>?_)
 ·cbv
  refine aE (h1 _ _ _ (ep _)) ?_;rintro _ i ⟨rfl,rfl⟩;cbv;exact⟨ed MV.bool (by rw[N,cw (a d),cw (a e),cw (a f),cw (a g),dt j]),fa _⟩
 cbv;refine aI (λl=>?_) (λl=>?_)
 ·cbv
  exact⟨ed MV.bool (by rw[N,cw (a d),cw (a e),cw (a f),cw (a g),cw (a j),dt l]),fa _⟩
 cbv;refine aI (λo=>?_) (λo=>?_)
 ·cbv
  exact⟨ed MV.bool (by rw[N,cw (a d),cw (a e),cw (a f),cw (a g),cw (a j),cw (a l),dt o]),fa _⟩
 cbv;refine aI (λp=>?_) (λp=>?_)
 ·cbv
  exact⟨ed MV.bool (by rw[N,cw (a d),cw (a e),cw (a f),cw (a g),cw (a j),cw (a l),cw (a o),dt p]),eh ..⟩
 cbv;refine aI (λq=>?_) (λq=>?_)
 ·cbv
  rw[show cZ (c::r) none (some 3)=(c::r).take 3 from j3 _ 3];exact⟨ed MV.bool (by rw[N,cw (a d),cw (a e),cw (a f),cw (a g),cw (a j),cw (a l),cw (a o),cw (a p),dt q]),eh ..⟩
 cbv;refine aI (λk=>?_) (λk=>?_)
 ·cbv
  refine aI (λk1=>?_) (λk1=>?_)
  ·rw[k1]at N⊢
   cbv;exact⟨ed MV.bool (by rw[N,cw (a d),cw (a e),cw (a f),cw (a g),cw (a j),cw (a l),cw (a o),cw (a p),cw (a q),dt k];rfl),eh ..⟩
  ·rw[k1]at N
   cbv;rw[show cZ (c::r) none (some 2)=(c::r).take 2 from j3 _ 2];exact⟨ed MV.bool (by rw[N,cw (a d),cw (a e),cw (a f),cw (a g),cw (a j),cw (a l),cw (a o),cw (a p),cw (a q),dt k];rfl),eh ..⟩
 cbv;exact⟨ed MV.bool (by rw[N,cw (a d),cw (a e),cw (a f),cw (a g),cw (a j),cw (a l),cw (a o),cw (a p),cw (a q),cw (a k)]),eh ..⟩
variable{top:Option Nat}{cut:Nat}
section
variable{F1 F2:Nat->List Nat}
theorem je(b:List Nat):∀p q:Nat×Nat,(b.foldl (λp c=>if c=10 then(p.1+1,1) else(p.1,p.2+1)) p).1+q.1=(b.foldl (λp c=>if c=10 then(p.1+1,1) else(p.1,p.2+1)) q).1+p.1/\
  q.1<=(b.foldl (λp c=>if c=10 then(p.1+1,1) else(p.1,p.2+1)) q).1/\
  ((b.foldl (λp c=>if c=10 then(p.1+1,1) else(p.1,p.2+1)) q).1=q.1->(b.foldl (λp c=>if c=10 then(p.1+1,1) else(p.1,p.2+1)) p).2=b.length+p.2)/\
  ((b.foldl (λp c=>if c=10 then(p.1+1,1) else(p.1,p.2+1)) q).1≠q.1->(b.foldl (λp c=>if c=10 then(p.1+1,1) else(p.1,p.2+1)) p).2=(b.foldl (λp c=>if c=10 then(p.1+1,1) else(p.1,p.2+1)) q).2):=by
 induction b with
 |nil=>intro p q;simp[sl]
 |cons c b d=>
  intro p q;rw[Iw,Iw];by_cases hc:c=10
  ·rw[dt hc,dt hc]
   obtain⟨h1,h2,a,h4⟩:=d (p.1+1,1) (q.1+1,1);have f:=(d (q.1+1,1) (q.1+1,1)).2.2.1;dsimp only at h1 h2 a h4 f;refine⟨by lia,by lia,λe=>by lia,λ_=>?_⟩;by_cases e:(b.foldl (λp c=>if c=10 then(p.1+1,1) else(p.1,p.2+1)) (q.1+1,1)).1=q.1+1
   ·rw[a e,f e]
   ·exact h4 e
  ·rw[cw hc,cw hc]
   obtain⟨h1,h2,a,h4⟩:=d (p.1,p.2+1) (q.1,q.2+1);dsimp only at h1 h2 a h4;exact⟨h1,h2,λe=>by rw[a e,g9];lia,h4⟩
theorem sv(l:List Nat)(d p:Nat):(place (l.take (d+p))).1+1=(place ((l.drop d).take p)).1+(place (l.take d)).1/\1<=(place ((l.drop d).take p)).1/\
  ((place ((l.drop d).take p)).1=1->(place (l.take (d+p))).2=(place ((l.drop d).take p)).2+(place (l.take d)).2-1/\1<=(place ((l.drop d).take p)).2)/\((place ((l.drop d).take p)).1≠1->(place (l.take (d+p))).2=(place ((l.drop d).take p)).2):=by
 have e:place (l.take (d+p))=((l.drop d).take p).foldl (λp c=>if c=10 then(p.1+1,1) else(p.1,p.2+1)) (place (l.take d)):=by
  rw[rf];exact v3 ..
 obtain⟨h1,h2,b,h4⟩:=je ((l.drop d).take p) (place (l.take d)) (1,1);obtain⟨_,_,a,_⟩:=je ((l.drop d).take p) (1,1) (1,1);rw[e];refine⟨h1,h2,λq=>?_,h4⟩;have h:=b q;have g:=a q;have f:(place ((l.drop d).take p)).2=((l.drop d).take p).length+1:=g;rw[h,f];lia
theorem place_lt{d p:Nat}(hp:0<p)(h:d+p<=l.length):(place (l.take d)).1<=(place (l.take (d+p))).1/\((place (l.take d)).1=(place (l.take (d+p))).1->(place (l.take d)).2<(place (l.take (d+p))).2):=by
 have e:place (l.take (d+p))=((l.drop d).take p).foldl (λp c=>if c=10 then(p.1+1,1)else(p.1,p.2+1)) (place (l.take d)):=by
  rw[rf];exact v3 ..
 obtain⟨_,h2,a,_⟩:=je ((l.drop d).take p) (place (l.take d)) (place (l.take d));rw[e];refine⟨h2,λq=>?_⟩;rw[a q.symm,g7,ea];lia
noncomputable def dB(D d:Nat)(r:TRow):TRow:=⟨D+r.depth,d+r.pos,r.kind,r.told⟩
theorem k7{d:Nat}(r:TRow):cX l 0 1 1 (dB D d r)=cX (l.drop d) D (place (l.take d)).1 (place (l.take d)).2 r:=by
 obtain⟨h1,h2,a,h4⟩:=sv l d r.pos;have e1:sk l 1 (dB D d r)=sk (l.drop d) (place (l.take d)).1 r:=by
  show(((place (l.take (d+r.pos))).1+1:Nat):Int)-1=(((place ((l.drop d).take r.pos)).1+(place (l.take d)).1:Nat):Int)-1;lia
 have e2:sn l 1 (dB D d r)=sn (l.drop d) (place (l.take d)).2 r:=by
  show((place (l.take (d+r.pos))).2:Int)+(if(place (l.take (d+r.pos))).1=1 then((1:Nat):Int)-1 else 0)=((place ((l.drop d).take r.pos)).2:Int)+(if(place ((l.drop d).take r.pos)).1=1 then((place (l.take d)).2:Int)-1 else 0);by_cases q:(place ((l.drop d).take r.pos)).1=1
  ·obtain⟨c,b⟩:=a q
   rw[dt q];split<;>lia
  ·rw[cw q,h4 q]
   split<;>lia
 unfold cX;rw[e1,e2];simp only[dB,Iq]
theorem Bd{r:TRow}(h:r.pos<=cut):cX (l.take cut) 0 1 1 r=cX l 0 1 1 r:=by
 unfold cX sk sn;rw[tt l h]
theorem d8{p:Nat}(h:ToksR F1 F2 l p S rows):p<=l.length/\∀r∈rows,p<=r.pos/\r.pos<=l.length:=by
 induction h with
 |nil=>exact⟨ep _,λr m=>by cases m⟩
 |@cons p S rows hp _ a=>
  refine⟨Nat.le_of_lt hp,λr m=>?_⟩;rcases j2.mp m with m|m
  ·unfold rowsAt at m
   obtain⟨x,_,rfl⟩:=nb.mp m;exact⟨ep _,Nat.le_of_lt hp⟩
  ·have :=a.2 r m
   exact⟨by lia,this.2⟩
theorem dz{p:Nat}(h:ToksR F1 F2 l p S rows)(hp:p<l.length):∃KC,rows=rowsAt S p (ptok F1 F2 S.head? (l.drop p))++KC/\ToksR F1 F2 l (p+(ptok F1 F2 S.head? (l.drop p)).len) (opS (ptok F1 F2 S.head? (l.drop p)).op S) KC:=by
 cases h with
 |nil=>lia
 |cons _ h=>exact⟨_,rfl,h⟩
theorem gF(h:ToksR F1 F2 l l.length S rows):rows=[]:=by
 generalize e:l.length=p at h;cases h with
 |nil=>rfl
 |cons hp=>lia
theorem mi{T:List Nat}{p d:Nat}(o:TokO):rowsAt (T++S) (d+p) o=(rowsAt T p o).map (dB S.length d):=by
 unfold rowsAt;rw[List.map_map];refine It λx _=>?_;simp only[Function.comp,dB,g8];congr 1;lia
theorem xj{d p:Nat}{T:List Nat}{a:List TRow}(h:ToksR F1 F2 (l.drop d) p T rows)(hd:d<=l.length)(q:ToksR F1 F2 l (d+p) T a):a=rows.map (dB 0 d):=by
 generalize hx:l.drop d=x at h;induction h generalizing a with
 |nil=>
  subst hx;rw[ea,show d+(l.length-d)=l.length by lia]at q;rw[gF q];rfl
 |@cons p S rows hp _ c=>
  subst hx;rw[ea]at hp;obtain⟨KC,rfl,b⟩:=dz q (by lia);rw[eo]at c⊢;rw[k4]at b;have e:=mi (S:=[]) (T:=S) (p:=p) (d:=d) (ptok F1 F2 S.head? (l.drop (d+p)));rw[m4]at e;rw[qi,c b,e];rfl
theorem pv{c:Nat}(a:bI S)(h:nc c=true):some c≠S.head?:=λe=>by
 have :=a c (List.mem_of_mem_head? e.symm);rcases this with rfl|rfl|rfl<;>cases h
end
variable{Kk:List Prt}
section
variable{F1 F2:Nat->List Nat}
theorem i4{kind:List Nat}{o:Option Nat}:(k6 n kind k (o.map (·+j))).2.1=(k6 n kind k (o.map (·+j))).2.2:=by
 cases o<;>rfl
theorem StrR.bad_lt{v:List Nat}{e:Nat}(h:StrR q l v k e)(h2:e=1):k<l.length:=by
 induction h with
 |eof=>cases h2
 |shut=>cases h2
 |bad=>simp
 |escEnd=>cases h2
 |escNl _ a=>have :=a h2;simp;lia
 |@esc c r v k e _ _ a=>
  have h1:=dS (c::r);have :=a h2;rw[ea]at this;simp at this h1⊢;lia
 |ch _ _ _ _ a=>have :=a h2;simp;lia
theorem yg(h:l≠[]):(aV l).2.1<=(aV l).2.2/\(aV l).2.2<=l.length:=by
 have hl:=(kr h).2;by_cases h0:oneH isBl l=true
 ·rw[fe h0]at hl⊢;exact⟨ep _,hl⟩
 have a:oneH isBl l=false:=by simpa using h0
 by_cases h1:rangeC l
 ·rw[fc a h1]at hl⊢;exact⟨ep _,hl⟩
 by_cases h2:l.take 3=[45,45,62]
 ·rw[gH a h1 h2]at hl⊢;exact⟨ep _,hl⟩
 have f:nA l:=⟨a,h1,h2⟩;by_cases j:ao l=true
 ·rw[dQ f j]at hl⊢
  unfold cy at hl⊢;by_cases k:(l.drop (av l).2).head?≠some 40
  ·rw[dt k]at hl⊢;exact⟨ep _,hl⟩
  rw[cw k]at hl⊢;by_cases d:ce (av l).1=false
  ·rw[dt d]at hl⊢;exact⟨ep _,hl⟩
  rw[cw d]at hl⊢;by_cases i:oneH (([34,39]:List Nat).contains ·) (l.drop ((av l).2+1+ai (l.drop ((av l).2+1))))=true
  ·rw[dt i]
   have :=mE i;exact⟨by show _+1<=_+1+_+1;lia,this⟩
  ·rw[cw i]at hl⊢
   rw[<-i4];exact⟨ep _,hl⟩
 have b:ao l=false:=by simpa using j
 cases h4:bD l with
 |some p=>
  rw[da f b h4]at hl⊢;have :(gM l p.1).2.1=(gM l p.1).2.2:=by
   unfold gM;split
   ·rfl
   ·split<;>rfl
  rw[<-this];exact⟨ep _,hl⟩
 |none=>
  rw[eZ f b h4]at hl⊢;by_cases g:oneH (([34,39]:List Nat).contains ·) l=true/\(bx (l.headD 0) (l.drop 1)).2.2=1
  ·obtain⟨c,r,rfl,hc⟩:=f5 g.1
   have hq:c=34\/c=39:=by simpa using hc
   have d:(bx c r).2.2=1:=g.2;have m:=(ew c r).bad_lt d;have e:cK (c::r)=eY (1+(bx c r).2.1) (bx c r).2.2:=by
    unfold cK;rw[cw (by simp;lia),cw (by simp;lia),dt g.1];rfl
   rw[e];unfold eY;rw[d,cw (by decide),dt rfl];exact⟨nl _,by show 1+_+1<=r.length+1;lia⟩
  ·have :(cK l).2.1=(cK l).2.2:=by
    unfold cK;split
    ·rfl
    ·split
     ·rfl
     ·split
      ·rename_i q
       unfold eY;split
       ·rfl
       ·rw[cw λe=>g ⟨q,e⟩]
      ·split
       ·exact i4
       ·split
        ·rfl
        ·split<;>rfl
   rw[<-this];exact⟨ep _,hl⟩
end
inductive LastR:List Nat->List Nat->List Nat->List Nat->List Nat->List Nat->Prop
 |one{bf l S:_}:(lstep l S).1.2.1=l.length->LastR bf l S (lstep l S).1.1 bf l
 |more{bf l S k bf' raw:_}:(lstep l S).1.2.1<l.length->LastR (l.take (lstep l S).1.2.1) (l.drop (lstep l S).1.2.1) (lstep l S).2 k bf' raw->LastR bf l S k bf' raw
def Tb(l S b:List Nat):Prop:=∀bf k bf' raw,LastR bf l S k bf' raw->bO k bf' raw b=false
theorem dP{c:Nat}(a:bI S)(hb:brk c=false):lstep (c::r) S=(aV (c::r),if(aV (c::r)).1=bh then 41::S else S):=by
 have h2:([40,91,123,41,93,125]:List Nat).contains c=false:=hb;simp at h2;unfold lstep;rw[cw,cw (by show¬([41,93,125]:List Nat).contains c=true;simp;lia),cw (by show¬([40,91,123]:List Nat).contains c=true;simp;lia)];rintro⟨h,e⟩;cases S with
 |nil=>exact h rfl
 |cons d S=>
  obtain rfl:=ec e;rcases a c (.head _)with q|q|q<;>lia
theorem eI{c:Nat}(a:bI S)(hb:brk c=false)(hl:(aV (c::r)).2.1=(c::r).length)(h:∀bf,bO (aV (c::r)).1 bf (c::r) b=false):Tb (c::r) S b:=by
 intro bf k bf' raw q;cases q with
 |one=>rw[dP a hb];exact h _
 |more h1=>rw[dP a hb]at h1;exact absurd h1 (by show¬(aV (c::r)).2.1<_;lia)
theorem ja{c d:Nat}(f:bI S)(hb:brk c=false)(g:(aV (c::r)).2.1=n)(hk:(aV (c::r)).1≠bh)(hd:(c::r).drop n=d::t)(a:brk d=false)(hl:(aV (d::t)).2.1=(d::t).length)
  (h:bO (aV (d::t)).1 ((c::r).take n) (d::t) b=false):Tb (c::r) S b:=by
 have e:lstep (c::r) S=(aV (c::r),S):=by rw[dP f hb,cw hk]
 intro bf k bf' raw q;cases q with
 |one h1=>
  rw[e]at h1;have h2:n=(c::r).length:=by rw[<-g];exact h1
  rw[h2,pa]at hd;cases hd
 |more h1 h2=>
  rw[e]at h2;have i:LastR ((c::r).take n) ((c::r).drop n) S k bf' raw:=by rw[<-g];exact h2
  rw[hd]at i;cases i with
  |one=>rw[dP f a];exact h
  |more j=>rw[dP f a]at j;exact absurd j (by show¬(aV (d::t)).2.1<_;lia)
theorem ks4:cg≠bA/\cg≠dw/\kAt≠bA/\kAt≠dw/\gP≠bA/\gP≠dw/\dC≠bA/\dC≠dw:=by decide
theorem dA{k:List Nat}(h:k=cg\/k=kAt\/k=gP\/k=dC):bO k bf raw b=ck k raw b:=by
 have h1:k≠bA/\k≠dw:=by
  obtain⟨a,b,c,d,e,f,g,i⟩:=ks4;rcases h with rfl|rfl|rfl|rfl
  ·exact⟨a,b⟩
  ·exact⟨c,d⟩
  ·exact⟨e,f⟩
  ·exact⟨g,i⟩
 unfold bO;rw[cw h1.1,cw h1.2,dt h]
theorem uc:bO dm bf raw b=if(ao b||(b.headD 0==37||cF (b.headD 0)))=true then false else !decide ((46∉raw/\101∉raw/\69∉raw)/\b.headD 0=46/\bY (b.drop 1)=true):=by
 unfold bO;(iterate 3 rw[cw (by decide)]);rw[dt rfl]
theorem oH:bO fh bf raw b=bz raw b:=by
 unfold bO;(iterate 4 rw[cw (by decide)]);rw[dt rfl]
theorem bp:bO au bf raw b=cH bf raw b:=by
 unfold bO;(iterate 5 rw[cw (by decide)]);rw[dt rfl]
theorem jZ:bO bA bf raw b=false:=dt rfl
theorem oI:bO dw bf raw b=!([32,10]:List Nat).contains (b.headD 0):=by
 unfold bO;rw[cw (by decide),dt rfl]
theorem zy(h:oneH isBl b=true)(a:9∉b):([32,10]:List Nat).contains (b.headD 0)=true:=by
 obtain⟨c,r,rfl,hc⟩:=f5 h;have h1:c≠9:=λe=>a (e▸.head _);show([32,10]:List Nat).contains c=true;simp[isBl]at hc;simp;lia
theorem tA{f:Nat->Bool}(h:oneH f b=true):f (b.headD 0)=true:=by
 obtain⟨c,r,rfl,hc⟩:=f5 h;exact hc
theorem mI{k:List Nat}(a:9∉b)(h:oneH bdC b=true\/bentL b=true\/raw.getLast?=some 92\/(oneH isBl b=true/\ci raw=true)):ck k raw b=false:=by
 unfold ck;by_cases h1:(bdC (b.headD 0)||(bentL b||raw.getLast?==some 92))=true
 ·rw[dt h1]
 rw[cw h1];rw[dt];rcases h with h|h|h|h
 ·exact absurd (by rw[tA h];rfl) h1
 ·exact absurd (by rw[h];simp) h1
 ·exact absurd (by rw[h];simp) h1
 ·rw[zy h.1 a,h.2];rfl
theorem d4(h:cF (b.headD 0)=true\/(b.headD 0=46/\bY (b.drop 1)=true)\/b.headD 0=45\/hdC (b.headD 0)=true\/bentL b=true):cH bf [45] b=false:=by
 unfold cH;rw[cw (by decide),cw (by decide),dt rfl,g6]
 ·rfl
 ·rcases h with h|h|h|h|h
  ·exact .inl (.inl h)
  ·exact .inl (.inr h)
  ·exact .inr (.inl h)
  ·exact .inr (.inr (.inl h))
  ·exact .inr (.inr (.inr h))
theorem oO(h:cF (b.headD 0)=true\/(b.headD 0=46/\bY (b.drop 1)=true)):cH bf [43] b=false:=by
 unfold cH;(iterate 3 rw[cw (by decide)]);rw[dt rfl,g6 (.inl h)];rfl
theorem qn(h:cF (b.headD 0)=true):cH bf [46] b=false:=by
 unfold cH;(iterate 4 rw[cw (by decide)]);rw[dt rfl,h];rfl
theorem lp1:aV [45]=bJ au 1/\aV [43]=bJ au 1/\aV [46]=bJ au 1/\aV [33]=bJ au 1/\aV [43,46]=bJ au 1/\aV [45,46]=bJ au 1/\aV [60,33]=bJ au 1/\aV [60,33,45]=bJ au 1/\aV [33,45]=bJ au 1/\aV [64]=bJ au 1/\aV [35]=bJ au 1/\aV [47]=bJ au 1:=by decide+kernel
theorem jn{x:List Nat}(h:aJ x=true)(e:1<=n):aJ (x.take n)=true\/(n=1/\∃b,x=45::b/\(b.headD 0=45\/hdC (b.headD 0)=true\/bentL b=true)):=by
 obtain⟨n,rfl⟩:∃k,n=k+1:=⟨n-1,by lia⟩;cases x with
 |nil=>cases h
 |cons c r=>
  rw[eg];unfold aJ at h⊢;dsimp only at h⊢;rw[ll]at h⊢;rcases h with h|h
  ·exact .inl (.inl h)
  by_cases hc:c=45
  ·subst hc
   rw[dt rfl]at h⊢;cases r with
   |nil=>cases h
   |cons d t=>
    dsimp only at h;rw[ll,ll]at h;cases n with
    |zero=>
     refine .inr ⟨rfl,_,rfl,?_⟩;rcases h with(h|h)|h
     ·exact .inr (.inl (by show hdC d=true;rw[rk];exact h))
     ·exact .inl (ly.mp h)
     ·exact .inr (.inr h)
    |succ n=>
     left;right;rw[eg];dsimp only;rw[ll,ll];rcases h with h|h
     ·exact .inl h
     ·right
      rw[fi]at h⊢;refine⟨h.1,?_⟩;have a:t.head?≠some 10:=by simpa using h.2
      simpa using λq=>a (eE q)
  ·left;right
   rw[cw hc]at h⊢;rw[fi]at h⊢;refine⟨h.1,?_⟩;have a:r.head?≠some 10:=by simpa using h.2
   simpa using λq=>a (eE q)
theorem cG(l:List Nat):(av l).2=(aC l).2:=(bw l).1
theorem kE(a:j<(aC y).2)(b:9∉y.drop j):(av (y.take j)).2=j/\∀pre k,ck k (pre++y.take j) (y.drop j)=false:=by
 refine⟨by rw[cG,jp (Nat.le_of_lt a)],λpre k=>mI b ?_⟩;rcases y6 (bq y) a with h|h|h|h
 ·exact .inl h
 ·exact .inr (.inl h)
 ·exact .inr (.inr (.inl (kF _ h)))
 ·exact .inr (.inr (.inr ⟨h.1,iO _ h.2⟩))
theorem iz{x:List Nat}(h:aJ x=false)(hl:(x.take m).getLast?≠some 92):aJ (x.take m)=false:=by
 cases q:aJ (x.take m)with
 |false=>rfl
 |true=>
  rcases fb h q with⟨t,rfl,rfl⟩|⟨t,rfl,rfl⟩
  ·exact absurd rfl hl
  ·exact absurd rfl hl
theorem p0(a:nA l)(h1:aJ l=false)(hp:bD l=some p)(h:p.1=l.length):aV l=bJ dm l.length:=by
 rw[da a (by rw[<-aU];exact h1) hp];unfold gM;rw[h,pa,cw (by decide),cw (by decide)]
theorem fP(a:bI S)(d:nA l)(h1:aJ l=false)(hp:bD l=some p)(h:p.1=l.length)
  (hb:ao b=true\/b.headD 0=37\/cF (b.headD 0)=true\/((46∉l/\101∉l/\69∉l)/\b.headD 0=46/\bY (b.drop 1)=true)):Tb l S b:=by
 obtain⟨c,r,rfl,hc⟩:=mN hp;have e:=p0 d h1 hp h;refine eI a hc (by rw[e];rfl) λbf=>?_;rw[e];show bO dm bf (c::r) b=false;rw[uc];by_cases q:(ao b||(b.headD 0==37||cF (b.headD 0)))=true
 ·rw[dt q]
 ·rw[cw q]
  rcases hb with h|h|h|h
  ·exact absurd (by rw[h];rfl) q
  ·exact absurd (by rw[h];simp) q
  ·exact absurd (by rw[h];simp) q
  ·rw[g6 h];rfl
theorem sg1{s:Nat}(h:s=45\/s=43):brk s=false/\aV [s]=bJ au 1/\aV [s,46]=bJ au 1/\¬isBl s=true:=by
 obtain⟨a,b,_,_,c,d,_⟩:=lp1;rcases h with rfl|rfl
 ·exact⟨rfl,a,d,by decide⟩
 ·exact⟨rfl,b,c,by decide⟩
theorem Az{s:Nat}(h:s=45\/s=43)(q:cF (b.headD 0)=true\/(b.headD 0=46/\bY (b.drop 1)=true)):bO au bf [s] b=false:=by
 rw[bp];rcases h with rfl|rfl
 ·exact d4 (q.imp_right .inl)
 ·exact oO q
theorem jG(h:bY l=true):cF (l.headD 0)=true:=by
 cases l with
 |nil=>cases h
 |cons c r=>exact h
theorem qN(h:j<aK l):bY (l.drop j)=true:=by
 induction l generalizing j with
 |nil=>cases h
 |cons c r a=>
  unfold aK at h;by_cases hc:cF c=true
  ·rw[dt hc]at h
   cases j with
   |zero=>exact hc
   |succ j=>exact a (nE h)
  ·rw[cw hc]at h;cases h
theorem gy{c:Nat}(h:l.head?=some c):l.headD 0=c:=by
 cases l with
 |nil=>cases h
 |cons d r=>exact ec h
theorem ve(h:k<=aK l):∀c∈l.take k,cF c=true:=by
 intro c m;obtain⟨j,a,rfl⟩:=kx.mp m;have h1:j<l.length:=by lia
 have :=qN (l:=l) (j:=j) (by lia);rw[e9 h1]at this;exact this
theorem xr:∀c∈l.take (aF l),c=45\/c=43:=by
 cases l with
 |nil=>intro c m;cases m
 |cons d r=>
  intro c m;by_cases h:d=45\/d=43
  ·rw[show aF (d::r)=1 from dt h,eg,nL,h9]at m
   rw[m];exact h
  ·rw[show aF (d::r)=0 from cw h,nL]at m;cases m
theorem yZ{b:Bool}(h:cb l=some (m,b)):∀c∈l.take m,c=45\/c=43\/cF c=true\/(c=46/\b=false):=by
 have key:∀c∈l.take (aF l+aK (l.drop (aF l))),c=45\/c=43\/cF c=true\/(c=46/\b=false):=λc q=>by
  rw[rf,j2]at q;rcases q with q|q
  ·rcases xr c q with e|e
   ·exact .inl e
   ·exact .inr (.inl e)
  ·exact .inr (.inr (.inl (ve (ep _) c q)))
 unfold cb at h;dsimp only at h;split at h
 ·rename_i h1
  obtain⟨rfl,rfl⟩:=v1 (ec h);intro c q;rw[rf,rf,j2,j2]at q;rcases q with(q|q)|q
  ·exact key c q
  ·right;right;right
   cases hd:l.drop (aF l+aK (l.drop (aF l)))with
   |nil=>rw[hd]at q;cases q
   |cons d t=>
    rw[hd]at q h1;obtain rfl:c=d:=by simpa using q
    exact⟨ec h1.1,rfl⟩
  ·exact .inr (.inr (.inl (ve (ep _) c q)))
 ·split at h
  ·cases h
  ·obtain⟨rfl,rfl⟩:=v1 (ec h)
   exact key
theorem yY{b:Bool}(h:cb l=some (m,b)):(101∉l.take m/\69∉l.take m)/\(b=true->46∉l.take m):=by
 have k:=yZ h;refine⟨⟨λq=>?_,λq=>?_⟩,λe q=>?_⟩
 ·rcases k _ q with e|e|e|e
  ·cases e
  ·cases e
  ·cases e
  ·cases e.1
 ·rcases k _ q with e|e|e|e
  ·cases e
  ·cases e
  ·cases e
  ·cases e.1
 ·rcases k _ q with f|f|f|f
  ·cases f
  ·cases f
  ·cases f
  ·rw[e]at f;cases f.2
theorem gv{b:Bool}(h:cb l=some (m,b)):bD l=some (m+ae (l.drop m),b&&ae (l.drop m)==0):=by unfold bD;rw[h];rfl
theorem Hk{e:Nat}(h:e=101\/e=69):(∀r,ao (e::r)=true)/\ae [e]=0/\(av [e]).2=1/\(∀s,s=45\/s=43->ae [e,s]=0)/\(av [e,43]).2=1/\(av [e,45]).2=2:=by
 rcases h with rfl|rfl
 ·exact⟨λr=>rfl,by decide+kernel,by decide+kernel,λs h=>by rcases h with rfl|rfl<;>decide+kernel,by decide+kernel,by decide+kernel⟩
 ·exact⟨λr=>rfl,by decide+kernel,by decide+kernel,λs h=>by rcases h with rfl|rfl<;>decide+kernel,by decide+kernel,by decide+kernel⟩
theorem wQ(h:b.headD 0=43)(hd:bY (b.drop 1)=true)(h1:raw.drop (af raw)=[101]\/raw.drop (af raw)=[69])(h2:101∉raw.take (af raw)/\69∉raw.take (af raw)):ck dC raw b=false:=by
 unfold ck;by_cases c:(bdC (b.headD 0)||(bentL b||raw.getLast?==some 92))=true
 ·rw[dt c]
 rw[cw c];by_cases a:(([32,10]:List Nat).contains (b.headD 0)&&ci raw)=true
 ·rw[dt a]
 rw[cw a,cw (λq=>absurd q.1 (by decide)),cw (λq=>absurd q.1 (by decide)),dt ⟨rfl,h,hd⟩,g6 ⟨h1,h2⟩];rfl
theorem pW(d:bI S)(f:nA l)(h1:aJ l=false)(hp:bD l=some p)(a:ao (l.drop p.1)=true)(h:p.1+(av (l.drop p.1)).2=l.length)(hb:ck dC l b=false):Tb l S b:=by
 obtain⟨c,r,rfl,hc⟩:=mN hp;have e:aV (c::r)=bJ dC (c::r).length:=by
  rw[da f (by rw[<-aU];exact h1) hp];unfold gM;rw[dt a,h]
 refine eI d hc (by rw[e];rfl) λbf=>?_;rw[e];show bO dC bf (c::r) b=false;rw[dA (.inr (.inr (.inr rfl)))];exact hb
theorem md{d:Nat}{k:List Nat}(f:bI S)(g:nA l)(h1:aJ l=false)(hp:bD l=some p)(a:gM l p.1=bJ k n)(hk:k≠bh)(hd:l.drop n=[d])(hb:brk d=false)(hl:aV [d]=bJ au 1)
  (h:∀bf,bO au bf [d] b=false):Tb l S b:=by
 obtain⟨c,r,rfl,hc⟩:=mN hp;have e:aV (c::r)=bJ k n:=by rw[da g (by rw[<-aU];exact h1) hp,a]
 exact ja f hc (by rw[e];rfl) (by rw[e];exact hk) hd hb (by rw[hl];rfl) (by rw[hl];exact h _)
theorem zV(h:bY l=true):oneH bdC l=true:=by
 cases l with
 |nil=>cases h
 |cons c r=>
  have h1:cF c=true:=h;have h2:cD c=true:=by
   unfold cF at h1;unfold cD;rw[h1];rfl
  exact CW h2
theorem yO{x:List Nat}{a:Nat}{T:Bool}(w:bI S)(O:nA x)(h1:aJ x=false)(hm:cb x=some (a,T))(C:1<=m)(v:a<=m)(u:m<a+ae (x.drop a))(D:9∉x.drop m)(hl:(x.take m).getLast?≠some 92)(hx:m<x.length):
  Tb (x.take m) S (x.drop m):=by
 have M:=oX hm v C;have p:=cM (n:=m) O;have o:=iz h1 hl;have f:=gv M;have g:=bC (l:=x) (n:=m) (by lia);have hd:(x.take m).drop a=(x.drop a).take (m-a):=td _ _ _;cases h:x.drop a with
 |nil=>rw[h]at u;exact absurd u (by show¬m<a+0;lia)
 |cons e r=>
  have hb:x.drop m=(e::r).drop (m-a):=by rw[<-h,eo];congr 1;lia
  by_cases hc:(e=101\/e=69)/\bY (r.drop (aF r))=true;case neg=>
   rw[h,show ae (e::r)=0 from cw hc]at u;lia
  obtain⟨z,b⟩:=hc;obtain⟨y,L,J,I,H,G⟩:=Hk z;have hex:ae (e::r)=1+aF r+aK (r.drop (aF r)):=dt ⟨z,b⟩;rw[h,hex]at u;rw[h]at hd;have B:=yY hm;have htk:(x.take m).take a=x.take a:=tt _ v;obtain⟨j,rfl⟩:∃j,m=a+j:=⟨m-a,by lia⟩;rw[oa]at hd hb;rw[hd]at f;have N:=dM r;cases j with
  |zero=>
   refine fP w p o f (by rw[g];rfl) (.inl ?_);rw[hb];exact y r
  |succ j=>
   have c:x.drop (a+(j+1))=r.drop j:=hb;rw[eg]at hd f;cases j with
   |zero=>
    rw[nL]at hd f;rw[L]at f;refine pW w p o f (by show ao ((x.take (a+1)).drop (a+0))=true;rw[xl,hd];exact y []) (by show a+0+(av ((x.take (a+1)).drop (a+0))).2=_;rw[xl,hd,J,g]) ?_;rw[pu]at c;cases i:r with
    |nil=>rw[i]at b;cases b
    |cons s t=>
     by_cases hs:s=45\/s=43
     ·rw[i,show aF (s::t)=1 from dt hs]at b
      rcases hs with rfl|rfl
      ·exact mI D (.inl (by rw[c,i];rfl))
      ·have E:af (x.take (a+1))=a:=kp f
       refine wQ (by rw[c,i];rfl) (by rw[c,i];exact b) ?_ ?_
       ·rw[E,hd]
        rcases z with rfl|rfl
        ·exact .inl rfl
        ·exact .inr rfl
       ·rw[E,htk];exact B.1
     ·rw[i,show aF (s::t)=0 from cw hs]at b
      exact mI D (.inl (by rw[c,i];exact zV b))
   |succ j=>
    by_cases h2:aF r=1/\j=0
    ·obtain⟨A,rfl⟩:=h2
     cases i:r with
     |nil=>rw[i]at A;cases A
     |cons s t=>
      have hs:s=45\/s=43:=by
       apply n7;intro q;rw[i,show aF (s::t)=0 from cw q]at A;cases A
      rw[i]at hd f c b;rw[show(s::t).take (0+1)=[s]from rfl]at hd f;rw[I s hs]at f;rw[show aF (s::t)=1 from dt hs]at b;rcases hs with rfl|rfl
      ·refine pW w p o f (by show ao ((x.take (a+(0+1+1))).drop (a+0))=true;rw[xl,hd];exact y _) (by show a+0+(av ((x.take (a+(0+1+1))).drop (a+0))).2=_;rw[xl,hd,G,g]) ?_
       exact mI D (.inl (by rw[c];exact zV b))
      ·refine md (d:=43) (n:=a+1) (k:=dC) w p o f ?_ (by decide) ?_ rfl lp1.2.1 λbf=>?_
       ·unfold gM
        show(if ao ((x.take (a+(0+1+1))).drop (a+0))=true then bJ dC (a+0+(av ((x.take (a+(0+1+1))).drop (a+0))).2) else _)=_;rw[xl,hd,dt (y _),H]
       ·rw[<-eo,hd];rfl
       ·rw[bp];exact oO (.inl (by rw[c];exact jG b))
    ·have U:aF r+1<=j+1:=by lia
     have e1:ae (e::r.take (j+1))=j+1+1:=by
      have Q:aF (r.take (j+1))=aF r:=dY (by lia);have e2:(r.take (j+1)).drop (aF r)=(r.drop (aF r)).take (j+1-aF r):=td _ _ _;show(if(e=101\/e=69)/\bY ((r.take (j+1)).drop (aF (r.take (j+1))))=true then 1+aF (r.take (j+1))+aK ((r.take (j+1)).drop (aF (r.take (j+1)))) else 0)=_;rw[Q,e2,dt ⟨z,by rw[jF (by lia)];exact b⟩,cv];lia
     rw[e1]at f;refine fP w p o f (by rw[g]) (.inr (.inr (.inl (jG ?_))));rw[c];have :=qN (l:=r.drop (aF r)) (j:=j+1-aF r) (by lia);rw[eo,show aF r+(j+1-aF r)=j+1 by lia]at this;exact this
theorem qL:ae []=0/\ae [46]=0:=by decide
theorem dn{x:List Nat}(h:m<=i):(x.take m).drop i=[]:=by rw[td,I7 h];rfl
theorem yP{x:List Nat}{H:Nat}{b0:Bool}(E:bI S)(hA:nA x)(h1:aJ x=false)(hm:cb x=some (H,b0))(U:1<=m)(af:m<H)(hl:(x.take m).getLast?≠some 92)(hx:H<=x.length):
  Tb (x.take m) S (x.drop m):=by
 have D:=cM (n:=m) hA;have C:=iz h1 hl;have z:=bC (l:=x) (n:=m) (by lia);have Q:aF (x.take m)=aF x:=dY U;have ha:=dM x;obtain⟨a,p⟩:∃a,a=aF x:=⟨_,rfl⟩;obtain⟨k,ek⟩:∃k,k=aK (x.drop a):=⟨_,rfl⟩;have B:cb x=if(x.drop (a+k)).head?=some 46/\bY (x.drop (a+k+1))=true then some (a+k+1+aK (x.drop (a+k+1)),false) else if k=0 then none else some (a+k,true):=by rw[ek,p];rfl
 have I:∀w,aK ((x.take m).drop a)=w->cb (x.take m)=if((x.take m).drop (a+w)).head?=some 46/\bY ((x.take m).drop (a+w+1))=true then some (a+w+1+aK ((x.take m).drop (a+w+1)),false) else if w=0 then none else some (a+w,true):=λw e=>by
  rw[<-e,p,<-Q];rfl
 have L:aK ((x.take m).drop a)=min (m-a) k:=by rw[td,cv,ek]
 rw[<-p]at ha;have f:((x.drop (a+k)).head?=some 46/\bY (x.drop (a+k+1))=true/\H=a+k+1+aK (x.drop (a+k+1)))\/(1<=k/\H=a+k):=by
  rw[B]at hm;split at hm
  ·rename_i q
   exact .inl ⟨q.1,q.2,(v1 (ec hm)).1.symm⟩
  ·split at hm
   ·cases hm
   ·exact .inr ⟨by lia,(v1 (ec hm)).1.symm⟩
 have A:∀j,a<=j->j<a+k->bY (x.drop j)=true:=λj h h'=>by
  have :=qN (l:=x.drop a) (j:=j-a) (by lia);rwa [eo,show a+(j-a)=j by lia]at this
 by_cases c1:m<=a
 ·-- G sign ab
  obtain rfl:a=1:=by lia
  obtain rfl:m=1:=by lia
  cases b:x with
  |nil=>rw[b]at p;cases p
  |cons s r=>
   have hs:s=45\/s=43:=by
    apply n7;intro q;rw[b,show aF (s::r)=0 from cw q]at p;cases p
   obtain⟨g1,Y,V,g4⟩:=sg1 hs;refine eI (c:=s) (r:=[]) E g1 (by rw[Y];rfl) λbf=>?_;rw[Y];refine Az hs ?_;rw[<-b];by_cases hk:k=0
   ·rcases f with⟨g,u,_⟩|⟨q,_⟩
    ·rw[hk]at g u
     exact .inr ⟨gy g,by rw[eo];exact u⟩
    ·lia
   ·exact .inl (jG (A 1 (ep _) (by lia)))
 by_cases c2:m<=a+k
 ·-- M
  have e1:=I (m-a) (by rw[L];lia);rw[show a+(m-a)=m by lia,dn (ep m),cw (λq=>by cases q.1),cw (by lia)]at e1;have v:=gv e1;rw[dn (ep m),qL.1]at v;refine fP E D C v (by rw[z];rfl) ?_;by_cases N:m<a+k
  ·exact .inr (.inr (.inl (jG (A m (by lia) N))))
  ·rcases f with⟨g,u,_⟩|⟨_,q⟩
   ·have :=yY e1
    rw[tt _ (ep m)]at this;rw[show a+k=m by lia]at g u;exact .inr (.inr (.inr ⟨⟨this.2 rfl,this.1⟩,gy g,by rw[eo];exact u⟩))
   ·lia
 rcases f with⟨g,u,q3⟩|⟨_,q⟩;case inr=>lia
 have hk:aK ((x.take m).drop a)=k:=by rw[L];lia
 have e1:=I k hk;by_cases N:m=a+k+1
 ·-- up to G point
  have hb:cF ((x.drop m).headD 0)=true:=by rw[N];exact jG u
  have hp:(x.take m).drop (a+k)=[46]:=by
   rw[td,N,show a+k+1-(a+k)=1 by lia];cases hd:x.drop (a+k)with
   |nil=>rw[hd]at g;cases g
   |cons d t=>rw[hd]at g;rw[ec g];rfl
  by_cases J:k=0
  ·subst J
   have y:∀bf,bO au bf [46] (x.drop m)=false:=λbf=>by rw[bp];exact qn hb
   cases a with
   |zero=>
    have o:x.take m=[46]:=hp;rw[o];exact eI (c:=46) (r:=[]) E rfl (by rw[lp1.2.2.1];rfl) λbf=>by rw[lp1.2.2.1];exact y bf
   |succ a=>
    obtain rfl:a=0:=by lia
    cases b:x with
    |nil=>rw[b]at p;cases p
    |cons s r=>
     have hs:s=45\/s=43:=by
      apply n7;intro q;rw[b,show aF (s::r)=0 from cw q]at p;cases p
     obtain⟨g1,Y,V,g4⟩:=sg1 hs;have o:(x.take m).drop 1=[46]:=hp;have T:m=2:=by lia
     have e2:x.take m=[s,46]:=by
      rw[b,T]at o⊢;rw[eg]at o⊢;exact ed (s::·) o
     rw[<-b,e2];exact ja (c:=s) (d:=46) (r:=[46]) (t:=[]) (n:=1) E g1 (by rw[V];rfl) (by rw[V];decide) rfl rfl (by rw[lp1.2.2.1];rfl) (by rw[lp1.2.2.1];exact y _)
  ·rw[hp,dn (i:=a+k+1) (by lia),cw (λq=>by cases q.2),cw J]at e1
   have v:=gv e1;rw[hp,qL.2]at v;refine md (d:=46) (n:=a+k) (k:=dm) E D C v ?_ (by decide) hp rfl lp1.2.2.1 λbf=>by rw[bp];exact qn hb
   unfold gM;show(if ao ((x.take m).drop (a+k+0))=true then _ else _)=_;rw[xl,hp,cw (by decide),cw (by decide)]
 ·-- O G point
  rw[dt ⟨by rw[fk (by lia)];exact g,by rw[td,jF (by lia)];exact u⟩,td,cv,show a+k+1+min (m-(a+k+1)) (aK (x.drop (a+k+1)))=m by lia]at e1;have v:=gv e1;rw[dn (ep m),qL.1]at v;refine fP E D C v (by rw[z];rfl) (.inr (.inr (.inl (jG ?_))));have :=qN (l:=x.drop (a+k+1)) (j:=m-(a+k+1)) (by lia);rwa [eo,show a+k+1+(m-(a+k+1))=m by lia]at this
theorem BL{x:List Nat}(g:bI S)(i:nA x)(h1:aJ x=false)(hp:bD x=some p)(b:1<=m)(d:m<p.1)(j:9∉x.drop m)(hl:(x.take m).getLast?≠some 92):Tb (x.take m) S (x.drop m):=by
 have e:=(iX hp).2;cases hm:cb x with
 |none=>unfold bD at hp;rw[hm]at hp;cases hp
 |some q=>
  obtain⟨a,k⟩:=q;rw[gv hm]at hp;obtain rfl:=ec hp;have c:m<a+ae (x.drop a):=d;have f:a+ae (x.drop a)<=x.length:=e;rcases rb m a with h|h
  ·exact yP g i h1 hm b h hl (by lia)
  ·exact yO g i h1 hm b h c j hl (by lia)
theorem Am{c:Nat}(d:bI S)(hb:brk c=false)(a:(aV (c::r)).2.1=n)(hk:(aV (c::r)).1≠bh)(hl:n<(c::r).length)(h:Tb ((c::r).drop n) S b):Tb (c::r) S b:=by
 have e:lstep (c::r) S=(aV (c::r),S):=by rw[dP d hb,cw hk]
 intro bf k bf' raw q;cases q with
 |one h1=>
  rw[e]at h1;have h2:n=(c::r).length:=by rw[<-a];exact h1
  lia
 |more h1 h2=>
  rw[e]at h2;exact h _ _ _ _ (by rw[<-a];exact h2)
theorem AA(h:j<ai l):oneH isBl (l.drop j)=true:=by
 induction l generalizing j with
 |nil=>cases h
 |cons c r a=>
  unfold ai at h;by_cases hc:isBl c=true
  ·rw[dt hc]at h
   cases j with
   |zero=>exact hc
   |succ j=>exact a (nE h)
  ·rw[cw hc]at h;cases h
theorem lK(h:j<aa k l):(l.drop j).headD 0=63:=by
 induction l generalizing j k with
 |nil=>cases k<;>cases h
 |cons c r a=>
  cases k with
  |zero=>cases h
  |succ k=>
   unfold aa at h;by_cases hc:c=63
   ·rw[dt hc]at h
    cases j with
    |zero=>exact hc
    |succ j=>exact a (nE h)
   ·rw[cw hc]at h;cases h
theorem D0{x:List Nat}(d:bI S)(h:oneH isBl x=true)(b:1<=m)(hm:m<ai x)(f:9∉x.drop m)(hx:m<=x.length):Tb (x.take m) S (x.drop m):=by
 have e:aV (x.take m)=bJ dw m:=by
  rw[fe (by rw[cJ b];exact h),cz,pB (Nat.le_of_lt hm)]
 have a:=bC hx;obtain⟨c,r,e2,hc⟩:=f5 (l:=x.take m) (by rw[cJ b];exact h);rw[e2]at e a⊢;have hb:brk c=false:=by simp[isBl]at hc;rcases hc with(rfl|rfl)|rfl<;>rfl
 refine eI d hb (by rw[e,a];rfl) λbf=>?_;rw[e];show bO dw bf _ _=false;rw[oI,zy (AA hm) f];rfl
theorem mu(h:b.headD 0=40\/(raw=[45,45]/\b.headD 0=62)):ck cg raw b=false:=by
 unfold ck;by_cases c:(bdC (b.headD 0)||(bentL b||raw.getLast?==some 92))=true
 ·rw[dt c]
 rw[cw c];by_cases a:(([32,10]:List Nat).contains (b.headD 0)&&ci raw)=true
 ·rw[dt a]
 rw[cw a,dt ⟨rfl,h⟩]
theorem DM(h1:raw=[117]\/raw=[85])(h2:b.headD 0=43)(e:oneH ((em++[63]).contains ·) (b.drop 1)=true):ck cg raw b=false:=by
 unfold ck;by_cases d:(bdC (b.headD 0)||(bentL b||raw.getLast?==some 92))=true
 ·rw[dt d]
 rw[cw d];by_cases c:(([32,10]:List Nat).contains (b.headD 0)&&ci raw)=true
 ·rw[dt c]
 rw[cw c];by_cases a:cg=cg/\(b.headD 0=40\/(raw=[45,45]/\b.headD 0=62))
 ·rw[dt a]
 rw[cw a,dt ⟨rfl,h1,h2,e⟩]
theorem D1{x:List Nat}(a:bI S)(h:x.take 3=[45,45,62])(b:1<=m)(hm:m<3):Tb (x.take m) S (x.drop m):=by
 obtain⟨t,rfl⟩:∃t,x=45::45::62::t:=⟨x.drop 3,by rw[<-xc 3 x,h];simp⟩;obtain rfl|rfl:m=1\/m=2:=by lia
 ·exact eI (c:=45) (r:=[]) a rfl (by rw[lp1.1];rfl) λbf=>by rw[lp1.1];show bO au _ _ _=_;rw[bp];exact d4 (.inr (.inr (.inl rfl)))
 ·have e:aV [45,45]=bJ cg 2:=by decide+kernel
  exact eI (c:=45) (r:=[45]) a rfl (by rw[e];rfl) λbf=>by rw[e];show bO cg _ _ _=_;rw[dA (.inl rfl)];exact mu (.inr ⟨rfl,rfl⟩)
theorem Fb{c:Nat}(h:cD c=true):cF c=true\/hdC c=true:=by
 rw[<-ei]at h;exact(by decide:∀c∈[48,49,50,51,52,53,54,55,56,57,97,98,99,100,101,102,65,66,67,68,69,70],cF c=true\/hdC c=true) c (n9.mp h)
theorem nG{c:Nat}(hc:cD c=false)(h:j<=aH k l):c∉l.take j:=λm=>by
 obtain⟨i,a,e⟩:=kx.mp m;obtain⟨d,h1,h2⟩:=k8 (k:=k) (j:=i) (r:=l) (by lia);rw[fd.mpr ⟨_,e⟩]at h1;rw[<-ec h1,hc]at h2;cases h2
theorem CV(h:j<aH k r):cD ((r.drop j).headD 0)=true:=by
 obtain⟨c,h1,h2⟩:=k8 h;obtain⟨hl,a⟩:=fd.mp h1;rw[e9 hl,a];exact h2
theorem qw(h1:45∉l.drop 2)(h2:63∉l.drop 2)(h:(b.headD 0=45/\bo (b.drop 1)=true)\/((cD (b.headD 0)=true\/b.headD 0=63)/\(l.drop 2).length<6)):bz l b=false:=by
 unfold bz;rw[cw h1,cw h2];by_cases q:b.headD 0=45/\bo (b.drop 1)=true
 ·rw[dt q]
 ·rw[cw q,g6 (h.resolve_left q)];rfl
theorem wC(h1:45∉l.drop 2)(h2:63∈l.drop 2)(h:b.headD 0=63/\(l.drop 2).length<6):bz l b=false:=by
 unfold bz;rw[cw h1,dt h2,g6 h];rfl
theorem sr(h1:45∈l.drop 2)(h:cD (b.headD 0)=true/\(l.drop 2).length<(l.drop 2).idxOf 45+7):bz l b=false:=by
 unfold bz;rw[dt h1,g6 h];rfl
theorem iU(y:List Nat){h:Nat}(a:aH 6 y=h)(eq:aa (6-h) (y.drop h)=q):(b8 y).2.2=if q≠0 then h+q else if(y.drop h).head?=some 45/\bo (y.drop (h+1))=true then h+1+aH 6 (y.drop (h+1)) else h:=by
 subst a eq;unfold b8;dsimp only;split
 ·rfl
 ·split<;>rfl
theorem CB(k:Nat):aa k []=0/\aa k [45]=0:=by cases k<;>exact⟨rfl,rfl⟩
theorem Dx{x:List Nat}(E:bI S)(h0:oneH isBl x=false)(w:rangeC x)(ag:1<=m)(hm:m<2+(b8 (x.drop 2)).2.2)(hx:m<x.length):Tb (x.take m) S (x.drop m):=by
 obtain⟨u,y',e1,Y⟩:=f5 w.1;have p:u=117\/u=85:=by simpa using Y
 obtain⟨y,e2⟩:∃y,x=u::43::y:=by
  rw[e1]at w⊢;cases y' with
  |nil=>exact by cases w.2.1
  |cons d y=>exact⟨y,by rw[show d=43 from ec w.2.1]⟩
 have hb:brk u=false:=by rcases p with rfl|rfl<;>rfl
 have e3:x.drop 2=y:=by rw[e2];rfl
 have D:aV [u]=bJ cg 1/\aV [u,43]=bJ cg 1:=by rcases p with rfl|rfl<;>decide+kernel
 have v:[u]=[117]\/[u]=[85]:=by rcases p with rfl|rfl<;>simp
 have hy:=w.2.2;rw[e3]at hy hm;by_cases c1:m=1
 ·subst c1
  rw[e2];exact eI (c:=u) (r:=[]) E hb (by rw[D.1];rfl) λbf=>by
   rw[D.1];show bO cg _ _ _=_;rw[dA (.inl rfl)];exact DM v rfl hy
 by_cases c2:m=2
 ·subst c2
  rw[e2];refine ja (c:=u) (r:=[43]) (d:=43) (t:=[]) (n:=1) E hb (by rw[D.2];rfl) (by rw[D.2];decide) rfl rfl (by rw[lp1.2.1];rfl) ?_;rw[lp1.2.1];show bO au _ _ _=_;rw[bp];unfold cH;(iterate 3 rw[cw (by decide)]);rw[dt rfl,g6]
  ·rfl
  ·exact .inr ⟨v,tA (b:=y) hy⟩
 obtain⟨j,rfl⟩:∃j,m=j+2:=⟨m-2,by lia⟩;have T:1<=j:=by lia
 have el:x.take (j+2)=u::43::y.take j:=by rw[e2];rfl
 have eb:x.drop (j+2)=y.drop j:=by rw[e2];rfl
 have af:j<y.length:=by rw[e2]at hx;simpa using hx
 rw[el,eb];have M:rangeC (u::43::y.take j):=⟨Y,rfl,by show oneH _ (y.take j)=true;rw[cJ T];exact hy⟩;have hp:aV (u::43::y.take j)=bJ fh (2+(b8 (y.take j)).2.2):=fc (by rcases p with rfl|rfl<;>rfl) M;have Q:(u::43::y.take j).length=j+2:=by rw[g9,g9,bC (by lia)]
 have one:(b8 (y.take j)).2.2=j->(bz (u::43::y.take j) (y.drop j)=false)->Tb (u::43::y.take j) S (y.drop j):=λh1 h2=>by
  refine eI E hb (by rw[hp,Q,h1];show 2+j=_;lia) λbf=>?_;rw[hp];show bO fh _ _ _=_;rw[oH];exact h2
 have L:(y.take j).length=j:=bC (by lia);obtain⟨h,G⟩:∃h,aH 6 y=h:=⟨_,rfl⟩;obtain⟨q,eq⟩:∃q,aa (6-h) (y.drop h)=q:=⟨_,rfl⟩;have B:=iU y G eq;have h6:=(bT 6 y).1;have N:=(gd (6-h) (y.drop h)).1;rw[G]at h6;rw[eq]at N;have a:j<(b8 y).2.2:=by lia
 rw[B]at a;by_cases c3:j<=h
 ·have o:aH 6 (y.take j)=j:=by rw[dR,G];lia
  refine one ?_ (qw (l:=u::43::y.take j) (nG (k:=6) rfl (by lia)) (nG (k:=6) rfl (by lia)) ?_)
  ·rw[iU (y.take j) o (q:=0) (by rw[dn (ep j)];exact(CB _).1),cw (by lia),cw (by rw[dn (ep j)];exact λq=>by cases q.1)]
  ·show _\/(_/\(y.take j).length<6)
   rw[L];by_cases c4:j<h
   ·exact .inr ⟨.inl (CV (k:=6) (by lia)),by lia⟩
   obtain rfl:j=h:=by lia
   by_cases H:q≠0
   ·exact .inr ⟨.inr (by have :=lK (k:=6-j) (l:=y.drop j) (j:=0) (by lia);exact this),by lia⟩
   rw[cw H]at a;split at a
   ·rename_i g
    exact .inl ⟨gy g.1,by rw[eo];exact g.2⟩
   ·lia
 have o:aH 6 (y.take j)=h:=by rw[dR,G];lia
 have s:(y.take j).drop h=(y.drop h).take (j-h):=td _ _ _;by_cases H:q≠0
 ·rw[dt H]at a
  have ha:aa (6-h) ((y.take j).drop h)=j-h:=by rw[s,il,eq];lia
  have U:63∈y.take j:=by
   have :=lK (k:=6-h) (l:=y.drop h) (j:=0) (by lia);rw[pu]at this;have hl:h<y.length:=by lia
   rw[e9 hl]at this;rw[kx];exact⟨h,by lia,this⟩
  refine one ?_ (wC (l:=u::43::y.take j) (λI=>?_) U ⟨?_,?_⟩)
  ·rw[iU (y.take j) o ha,dt (by lia)];lia
  ·obtain⟨i,hi,e⟩:=kx.mp (show 45∈y.take j from I)
   rcases rb i h with g|g
   ·exact nG (k:=6) (l:=y) (c:=45) (j:=h) rfl (by lia) (kx.mpr ⟨i,by lia,e⟩)
   ·have :=lK (k:=6-h) (l:=y.drop h) (j:=i-h) (by lia)
    rw[eo,show h+(i-h)=i by lia,e9 (by lia)]at this;have :y[i]?=some 63:=fd.mpr ⟨_,this⟩;rw[fd.mpr ⟨_,e⟩]at this;cases this
  ·have :=lK (k:=6-h) (l:=y.drop h) (j:=j-h) (by lia)
   rwa [eo,show h+(j-h)=j by lia]at this
  ·show(y.take j).length<6
   lia
 rw[cw H]at a;have O:q=0:=by lia
 split at a;case isFalse=>lia
 rename_i g;have hl:h<y.length:=az g.1;have f:y[h]=45:=by
  have :=g.1;rw[e9 hl]at this;exact ec this
 have ha:aa (6-h) ((y.take j).drop h)=0:=by rw[s,il,eq,O];lia
 have V:((y.take j).drop h).head?=some 45:=by rw[fk (by lia)];exact g.1
 have C:=iU (y.take j) o ha;rw[cw (by lia)]at C;by_cases c6:j=h+1
 ·rw[cw (λq=>by rw[dn (show j<=h+1 by lia)]at q;exact by cases q.2)]at C
  have e4:(u::43::y.take j).drop (2+h)=[45]:=by
   rw[sl];show(y.take j).drop h=[45];rw[s,show j-h=1 by lia,e9 hl,f];rfl
  refine ja (n:=2+h) (d:=45) (t:=[]) E hb (by rw[hp,C];rfl) (by rw[hp];exact(by decide:fh≠bh)) e4 rfl (by rw[lp1.1];rfl) ?_;rw[lp1.1];show bO au _ _ _=_;rw[bp];have J:cD ((y.drop j).headD 0)=true:=by
   rw[c6];have :=g.2;cases hd:y.drop (h+1)with
   |nil=>rw[hd]at this;cases this
   |cons d t=>rw[hd]at this;rw[<-ei];exact this
  rcases Fb J with z|z
  ·exact d4 (.inl z)
  ·exact d4 (.inr (.inr (.inr (.inl z))))
 ·have e5:(y.take j).drop (h+1)=(y.drop (h+1)).take (j-(h+1)):=td _ _ _
  rw[dt ⟨V,by rw[e5,kK (by lia)];exact g.2⟩,e5,dR]at C;have A:45∈y.take j:=kx.mpr ⟨h,by lia,f⟩;have ah:=(bT 6 (y.drop (h+1))).1;refine one (by rw[C];lia) (sr (l:=u::43::y.take j) A ⟨?_,?_⟩)
  ·have :=CV (k:=6) (r:=y.drop (h+1)) (j:=j-(h+1)) (by lia)
   rwa [eo,show h+1+(j-(h+1))=j by lia]at this
  ·show(y.take j).length<(y.take j).idxOf 45+7
   have e6:y.take j=y.take h++(y.take j).drop h:=by
    have :=(xc h (y.take j)).symm;rwa [tt _ (by lia)]at this
   have :(y.take j).idxOf 45=h:=by
    rw[e6,s,e9 hl,f];obtain⟨i,hi⟩:∃i,j-h=i+1:=⟨j-h-1,by lia⟩;rw[hi,eg,List.idxOf_append,cw (nG (k:=6) rfl (by lia)),List.idxOf_cons_self,bC (by lia)];lia
   lia
theorem tb1{k:List Nat}(a:bI S)(hb:∃c r,l=c::r/\brk c=false)(e:(aV l).1=k/\(aV l).2.1=l.length)(h:∀bf,bO k bf l b=false):Tb l S b:=by
 obtain⟨c,r,rfl,hc⟩:=hb;exact eI a hc e.2 λbf=>by rw[e.1];exact h bf
theorem AP{b:Nat}(h:bg b l=some j):bg b (l++t)=some j:=by
 induction l generalizing b j with
 |nil=>cases h
 |cons c r d=>
  rw[rC];unfold bg at h⊢;split at h
  ·rename_i q;rw[dt q];exact h
  ·rename_i q
   rw[cw q];cases a:bg c r with
   |none=>rw[a]at h;cases h
   |some i=>rw[a]at h;rw[d a];exact h
theorem Dz{x:List Nat}(y:bI S)(B:nA x)(h1:aJ x=true)(v:1<=m)(hx:m<x.length)(hm:m<(cy x (av x).2 (av x).1).2.2)(E:9∉x.drop m):Tb (x.take m) S (x.drop m):=by
 have a:=bC (Nat.le_of_lt hx);rw[cG]at hm;have g:aJ (x.take m)=true->(av (x.take m)).2=m->ck cg (x.take m) (x.drop m)=false->Tb (x.take m) S (x.drop m):=λh z H=>by
  refine tb1 (k:=cg) y (uD h) ?_ λbf=>by rw[dA (.inl rfl)];exact H
  rw[dQ (cM B) (by rw[<-aU];exact h),z];unfold cy;rw[dn (ep m),dt (by simp),a];exact⟨rfl,rfl⟩
 rcases rb m (aC x).2 with hk|hk
 ·obtain⟨h,z⟩:=kE hk E
  rcases jn (n:=m) h1 v with q|⟨rfl,b,rfl,q⟩
  ·exact g q h (z [] _)
  ·exact eI (c:=45) (r:=[]) y rfl (by rw[lp1.1];rfl) λbf=>by rw[lp1.1];show bO au _ _ _=_;rw[bp];exact d4 (.inr (.inr q))
 have h:=fS h1 hk;by_cases f:(x.drop (aC x).2).head?≠some 40
 ·unfold cy at hm
  rw[dt f]at hm;exact absurd hm (Jo hk)
 have d:(x.drop (aC x).2).head?=some 40:=t2 f;by_cases A:m=(aC x).2
 ·exact g h (by rw[cG,jp (JT A)]) (mu (.inl (by rw[A];exact gy d)))
 have p:aC (x.take m)=aC x:=cr hk λr e=>by rw[e]at d;cases d
 have i:ce (av (x.take m)).1=true↔ce (av x).1=true:=by rw[(bw _).2,(bw x).2,p]
 unfold cy at hm;rw[cw f]at hm;by_cases u:ce (av x).1=false
 ·rw[dt u]at hm
  have :m<(aC x).2+1:=hm;lia
 have s:ce (av x).1=true:=by simpa using u
 rw[cw u]at hm;have hw:(av (x.take m)).2=(aC x).2:=by rw[cG,p]
 have hq:¬oneH (([34,39]:List Nat).contains ·) ((x.take m).drop ((aC x).2+1+ai ((x.take m).drop ((aC x).2+1))))=true:=λq=>by
  have h2:=mE q;rw[a,td,cz]at h2;have G:ai (x.drop ((aC x).2+1))<m-((aC x).2+1):=by lia
  rw[td,td,cz,l5 (Nat.le_of_lt G)]at q;rw[dt (fF q)]at hm;have :m<(aC x).2+1+ai (x.drop ((aC x).2+1))+1:=hm;lia
 have ha:bg 40 ((x.take m).drop ((aC x).2+1))=none:=by
  cases l:bg 40 ((x.take m).drop ((aC x).2+1))with
  |none=>rfl
  |some j=>
   exfalso;have D:=sQ l;rw[ea,a]at D;by_cases o:oneH (([34,39]:List Nat).contains ·) (x.drop ((aC x).2+1+ai (x.drop ((aC x).2+1))))=true
   ·rw[dt o]at hm
    have C:m<(aC x).2+1+ai (x.drop ((aC x).2+1))+1:=hm;have w:((x.take m).drop ((aC x).2+1)).all isBl=true:=by
     rw[td];have :=pC (x.drop ((aC x).2+1));refine gb.mpr λc mc=>gb.mp this c ?_;rw[<-tt (x.drop ((aC x).2+1)) (show m-((aC x).2+1)<=ai (x.drop ((aC x).2+1))by lia)]at mc;exact List.mem_of_mem_take mc
    rw[CD w]at l;cases l
   ·rw[cw o]at hm
    have e:bg 40 (x.drop ((aC x).2+1))=some j:=by
     rw[td]at l;have :=AP (t:=(x.drop ((aC x).2+1)).drop (m-((aC x).2+1))) l;rwa[xc]at this
    rw[e]at hm;have :m<j+((aC x).2+1)+1:=hm;lia
 refine tb1 (k:=bA) y (uD h) ?_ λbf=>jZ;rw[dQ (cM B) (by rw[<-aU];exact h),hw];unfold cy;rw[cw (by rw[fk (by lia)];exact f),cw (by rw[i.mpr s];decide),cw hq,ha];exact⟨rfl,rfl⟩
theorem gL(h:ao r=true):cK (64::r)=bJ kAt (1+(av r).2):=dt ⟨rfl,h⟩
theorem gJ(h:oneH bdC r=true\/bentL r=true):cK (35::r)=bJ gP (1+(av r).2):=by
 unfold cK;rw[cw (λq=>by cases q.1),dt ⟨rfl,h⟩];rfl
theorem gI{c:Nat}(h:c=34\/c=39):cK (c::r)=eY (1+(bx c r).2.1) (bx c r).2.2:=by
 unfold cK;rw[cw (λq=>by have :=ec q.1;lia),cw (λq=>by have :=ec q.1;lia),dt (by rcases h with rfl|rfl<;>rfl)];rfl
theorem gK:cK (47::42::r)=k6 (r.length+2) dD 2 ((ca r).map (·+2)):=by
 unfold cK;rw[cw (λq=>by cases q.1),cw (λq=>by cases q.1),cw (show¬oneH (([34,39]:List Nat).contains ·) (47::42::r)=true from(by decide:¬([34,39]:List Nat).contains 47=true)),dt ⟨rfl,rfl⟩];rfl
theorem lp2:aV [60]=bJ au 1/\aV [124]=bJ au 1/\aV [126]=bJ au 1/\aV [94]=bJ au 1/\aV [36]=bJ au 1/\aV [42]=bJ au 1/\aV [64,45]=bJ au 1:=by decide+kernel
theorem fx{c:Nat}(h1:¬(c=64/\ao r=true))(h2:¬(c=35/\(oneH bdC r=true\/bentL r=true)))(a:¬(c=34\/c=39))(h4:¬(c=47/\r.head?=some 42)):
  cK (c::r)=if(c::r).take 4=[60,33,45,45]then bJ au 4 else if(c=124/\r.head?=some 124)\/(([126,124,94,36,42]:List Nat).contains c=true/\r.head?=some 61) then bJ au 2 else bJ au 1:=by
 unfold cK;rw[cw (λq=>h1 ⟨ec q.1,q.2⟩),cw (λq=>h2 ⟨ec q.1,q.2⟩),cw (by simpa[oneH]using a),cw (λq=>h4 ⟨ec q.1,q.2⟩)];congr 1;by_cases q:(c=124/\r.head?=some 124)\/(([126,124,94,36,42]:List Nat).contains c=true/\r.head?=some 61)
 ·rw[dt q,dt]
  exact q.imp (λz=>⟨by rw[z.1];rfl,z.2⟩) id
 ·rw[cw q,cw]
  exact λz=>q (z.imp (λz=>⟨ec z.1,z.2⟩) id)
theorem eP{c:Nat}(a:bI S)(hb:brk c=false)(hp:aV [c]=bJ au 1)(h:∀bf,cH bf [c] b=false):Tb [c] S b:=
 eI (c:=c) (r:=[]) a hb (by rw[hp];rfl) λbf=>by rw[hp];show bO au _ _ _=_;rw[bp];exact h bf
theorem Dy{c:Nat}(a:bI S)(hA:nA (c::r))(h1:aJ (c::r)=false)(hp:bD (c::r)=none)(hb:brk c=false)(hx:m<r.length)(hm:m+1<(cK (c::r)).2.2)(M:9∉r.drop m)(hl:(c::r.take m).getLast?≠some 92):Tb (c::r.take m) S (r.drop m):=by
 have B:nA (c::r.take m):=cM (n:=m+1) hA;have A:aJ (c::r.take m)=false:=iz (m:=m+1) h1 hl;have y:bD (c::r.take m)=none:=rH (n:=m+1) hp;have s:aV (c::r.take m)=cK (c::r.take m):=eZ B (by rw[<-aU];exact A) y;have u:(c::r.take m).length=m+1:=by rw[g9,bC (Nat.le_of_lt hx)]
 have g:∀{k:List Nat},cK (c::r.take m)=bJ k (m+1)->(∀bf,bO k bf (c::r.take m) (r.drop m)=false)->Tb (c::r.take m) S (r.drop m):=λ{k}l v=>
  eI a hb (by rw[s,l,u];rfl) λbf=>by rw[s,l];exact v bf
 by_cases p:c=64/\ao r=true
 ·obtain⟨rfl,p⟩:=p
  rw[gL p,cG]at hm;have h:m+1<1+(aC r).2:=hm;cases m with
  |zero=>exact eP a hb lp1.2.2.2.2.2.2.2.2.2.1 λbf=>by unfold cH;rw[dt rfl];show(!ao r)=false;rw[p];rfl
  |succ i=>
   obtain⟨l,v⟩:=kE (show i+1<(aC r).2 by lia) M;rcases jn (n:=i+1) (by rw[aU];exact p) (by lia)with q|⟨e,b,rfl,q⟩
   ·exact g (by rw[gL (by rw[<-aU];exact q),l,sl]) λbf=>by rw[dA (.inr (.inl rfl))];exact v [64] _
   ·obtain rfl:i=0:=by lia
    exact ja (n:=1) (d:=45) (t:=[]) a hb (by show(aV [64,45]).2.1=1;rw[lp2.2.2.2.2.2.2];rfl) (by show(aV [64,45]).1≠bh;rw[lp2.2.2.2.2.2.2];exact(by decide:au≠bh)) rfl rfl (by rw[lp1.1];rfl) (by rw[lp1.1];show bO au _ _ _=_;rw[bp];exact d4 (.inr (.inr q)))
 by_cases o:c=35/\(oneH bdC r=true\/bentL r=true)
 ·obtain⟨rfl,o⟩:=o
  rw[gJ o,cG]at hm;have h:m+1<1+(aC r).2:=hm;cases m with
  |zero=>
   exact eP a hb lp1.2.2.2.2.2.2.2.2.2.2.1 λbf=>by
    unfold cH;rw[cw (by decide),dt rfl];show(!(bdC (r.headD 0)||bentL r))=false;rcases o with z|z
    ·rw[tA z];rfl
    ·rw[z,x8];rfl
  |succ i=>
   obtain⟨l,v⟩:=kE (show i+1<(aC r).2 by lia) M;exact g (by rw[gJ (o.imp (λz=>by rw[cJ (by lia)];exact z) λz=>pD z (by lia)),l,sl]) λbf=>by rw[dA (.inr (.inr (.inl rfl)))];exact v [35] _
 by_cases x:c=34\/c=39
 ·rw[gI x]at hm
  have hR:=ew c r;obtain⟨v',hv⟩:=hR.pre (n:=m) (by
   unfold eY at hm;split at hm
   ·have :m+1<1+(bx c r).2.1:=hm
    lia
   ·split at hm
    ·have :m+1<1+(bx c r).2.1+1:=hm
     lia
    ·have :m+1<1+(bx c r).2.1:=hm
     lia) λe=>by
   unfold eY at hm;rw[dt e]at hm;have :m+1<1+(bx c r).2.1:=hm;lia
  exact g (k:=bA) (by rw[gI x,ug x hv,sl];rfl) λbf=>jZ
 by_cases w:c=47/\r.head?=some 42
 ·obtain⟨rfl,w⟩:=w
  cases r with
  |nil=>cases w
  |cons d t=>
   obtain rfl:=ec w;rw[gK]at hm;cases m with
   |zero=>exact eP a hb lp1.2.2.2.2.2.2.2.2.2.2.2 λbf=>by unfold cH;(iterate 5 rw[cw (by decide)]);rw[dt rfl];rfl
   |succ i=>
    have hr:ca (t.take i)=none:=BA λj e=>by
     rw[e]at hm;have :i+1+1<j+2+2:=hm;lia
    refine g (k:=bA) ?_ λbf=>jZ;show cK (47::42::t.take i)=_;rw[gK,hr,bC (by simpa using Nat.le_of_lt hx)];rfl
 rw[fx p o x w]at hm;by_cases D:(c::r).take 4=[60,33,45,45]
 ·rw[dt D]at hm
  have h:m+1<4:=hm;obtain⟨t,e⟩:∃t,c::r=60::33::45::45::t:=⟨(c::r).drop 4,by rw[<-xc 4 (c::r),D];simp⟩;obtain⟨rfl,rfl⟩:=f4 e;obtain⟨Y,_⟩:=lp2;obtain⟨J,s2,_,I,_,_,H,G,E,_⟩:=lp1;obtain rfl|rfl|rfl:m=0\/m=1\/m=2:=by lia
  ·exact eP a hb Y λbf=>by unfold cH;(iterate 8 rw[cw (by decide)]);rw[dt rfl];rfl
  ·refine ja (c:=60) (r:=[33]) (n:=1) (d:=33) (t:=[]) a hb (by rw[H];rfl) (by rw[H];exact(by decide:au≠bh)) rfl rfl (by rw[I];rfl) ?_
   rw[I];show bO au _ _ _=_;rw[bp];unfold cH;(iterate 9 rw[cw (by decide)]);rw[dt rfl];rfl
  ·refine Am (c:=60) (r:=[33,45]) (n:=1) a hb (by rw[G];rfl) (by rw[G];exact(by decide:au≠bh)) (by decide) ?_
   refine ja (c:=33) (r:=[45]) (n:=1) (d:=45) (t:=[]) a rfl (by rw[E];rfl) (by rw[E];exact(by decide:au≠bh)) rfl rfl (by rw[J];rfl) ?_;rw[J];show bO au _ _ _=_;rw[bp];exact d4 (.inr (.inr (.inl rfl)))
 rw[cw D]at hm;by_cases C:(c=124/\r.head?=some 124)\/(([126,124,94,36,42]:List Nat).contains c=true/\r.head?=some 61)
 ·rw[dt C]at hm
  have h:m+1<2:=hm;obtain rfl:m=0:=by lia
  obtain⟨_,L,V,U,T,Q,_⟩:=lp2;rcases C with⟨rfl,q⟩|⟨q,N⟩
  ·exact eP a hb L λbf=>by
    unfold cH;(iterate 6 rw[cw (by decide)]);rw[dt rfl,g6 (.inl (gy q))];rfl
  ·have O:c=126\/c=124\/c=94\/c=36\/c=42:=by simpa using q
   have f:(r.drop 0).headD 0=61:=gy N;rcases O with rfl|rfl|rfl|rfl|rfl
   ·exact eP a hb V λbf=>by
     unfold cH;(iterate 7 rw[cw (by decide)]);rw[dt (by simp),g6 f];rfl
   ·exact eP a hb L λbf=>by
     unfold cH;(iterate 6 rw[cw (by decide)]);rw[dt rfl,g6 (.inr f)];rfl
   ·exact eP a hb U λbf=>by
     unfold cH;(iterate 7 rw[cw (by decide)]);rw[dt (by simp),g6 f];rfl
   ·exact eP a hb T λbf=>by
     unfold cH;(iterate 7 rw[cw (by decide)]);rw[dt (by simp),g6 f];rfl
   ·exact eP a hb Q λbf=>by
     unfold cH;(iterate 7 rw[cw (by decide)]);rw[dt (by simp),g6 f];rfl
 ·rw[cw C]at hm
  exact absurd hm (by show¬m+1<1;lia)
theorem yN{x:List Nat}(o:bI S)(u:nA x)(h1:aJ x=false)(hp:bD x=some p)(s:1<=m)(hx:m<x.length)(hm:m<(gM x p.1).2.2)(v:9∉x.drop m)(hl:(x.take m).getLast?≠some 92):Tb (x.take m) S (x.drop m):=by
 rcases rb m p.1 with h|h
 ·exact BL o u h1 hp s h v hl
 have g:=cM (n:=m) u;have f:=iz h1 hl;have c:=rG hp h;have a:=bC (Nat.le_of_lt hx);unfold gM at hm;by_cases r:ao (x.drop p.1)=true
 ·rw[dt r,cG]at hm
  have l:m<p.1+(aC (x.drop p.1)).2:=hm;obtain⟨j,rfl⟩:∃j,m=p.1+j:=⟨m-p.1,by lia⟩;have hd:(x.take (p.1+j)).drop p.1=(x.drop p.1).take j:=by rw[td,oa]
  cases j with
  |zero=>exact fP o g f c a.symm (.inl r)
  |succ j=>
   have t:9∉(x.drop p.1).drop (j+1):=by rw[eo];exact v
   obtain⟨y,w⟩:=kE (show j+1<(aC (x.drop p.1)).2 by lia) t;rcases jn (n:=j+1) (by rw[aU];exact r) (by lia)with q|⟨e,b,e2,q⟩
   ·refine pW o g f c (by rw[hd,<-aU];exact q) (by rw[hd,y,a]) ?_
    have :=w (x.take p.1) dC;rw[eo,<-rf]at this;exact this
   ·obtain rfl:j=0:=by lia
    have hb:x.drop (p.1+1)=b:=by rw[<-eo,e2];rfl
    refine md (n:=p.1) (d:=45) (k:=dm) o g f c ?_ (by decide) ?_ rfl lp1.1 λbf=>?_
    ·unfold gM
     rw[hd,e2,show(45::b).take (0+1)=[45]from rfl,cw (by decide),cw (by decide)]
    ·rw[hd,e2];rfl
    ·show bO au bf [45] (x.drop (p.1+1))=false
     rw[hb,bp];exact d4 (.inr (.inr q))
 rw[cw r]at hm;by_cases i:(x.drop p.1).head?=some 37
 ·rw[dt i]at hm
  have l:m<p.1+1:=hm;obtain rfl:m=p.1:=by lia
  exact fP o g f c a.symm (.inr (.inl (gy i)))
 ·rw[cw i]at hm
  have l:m<p.1:=hm;lia
theorem Hx{x:List Nat}{c:Nat}(f:bI S)(e:x=c::r)(hb:brk c=false)(a:1<=m)(hx:m<x.length)(hs:m<(aV x).2.2)(k:9∉x.drop m)(hl:(x.take m).getLast?≠some 92):Tb (x.take m) S (x.drop m):=by
 by_cases h0:oneH isBl x=true
 ·rw[fe h0]at hs
  exact D0 f h0 a hs k (Nat.le_of_lt hx)
 have d:oneH isBl x=false:=by simpa using h0
 by_cases h:rangeC x
 ·rw[fc d h]at hs
  exact Dx f d h a hs hx
 by_cases ha:x.take 3=[45,45,62]
 ·rw[gH d h ha]at hs
  exact D1 f ha a hs
 have g:nA x:=⟨d,h,ha⟩;by_cases l:aJ x=true
 ·rw[dQ g (by rw[<-aU];exact l)]at hs
  exact Dz f g l a hx hs k
 have b:aJ x=false:=by simpa using l
 cases j:bD x with
 |some p=>
  rw[da g (by rw[<-aU];exact b) j]at hs;exact yN f g b j a hx hs k hl
 |none=>
  rw[eZ g (by rw[<-aU];exact b) j]at hs;subst e;obtain⟨i,rfl⟩:∃i,m=i+1:=⟨m-1,by lia⟩;exact Dy f g b j hb (nE hx) hs k hl
theorem og{x:List Nat}(h:xF x n m):(x.take n).getLast?=some 92:=by
 have key:∀(i:Nat)(t:List Nat),x.drop i=92::t->(x.take (i+1)).getLast?=some 92:=λi t e=>by
  rw[rf,e];exact kF _ rfl
 rcases h with⟨t,e,rfl⟩|⟨t,e,rfl⟩|⟨t,e,rfl⟩
 ·exact key 0 _ e
 ·exact key m _ e
 ·exact key (m+1) (10::t) (by rw[<-eo,e];rfl)
section
variable{F1 F2:Nat->List Nat}
theorem HS{x:List Nat}(b:bI S)(d:1<=m)(hx:m<x.length)(f:NB x)(g:9∉x.drop m)(hl:(x.take m).getLast?≠some 92):ptok F1 F2 S.head? (x.take m)=ptok F1 F2 S.head? x\/Tb (x.take m) S (x.drop m):=by
 cases x with
 |nil=>cases hx
 |cons c r=>
  have e:brk c=false->some c≠S.head?:=λh=>pv b (yV h);by_cases hb:brk c=true
  ·left
   obtain⟨i,rfl⟩:∃i,m=i+1:=⟨m-1,by lia⟩;rw[eg,d9 hb,d9 hb];exact km _ _ hb
  have a:brk c=false:=by simpa using hb
  by_cases hs:m<(aV (c::r)).2.2
  ·exact .inr (Hx b rfl a d hx hs g hl)
  ·have h1:=(Aq (F1:=F1) (F2:=F2) f b).1
   rw[dP b a]at h1;have h2:=(yg (l:=c::r) (by simp)).1;have j:(aV (c::r)).2.1=(ptok F1 F2 S.head? (c::r)).len:=h1;rcases oV (F1:=F1) (F2:=F2) (top:=S.head?) hx (by lia) (λ_=>by lia) e with q|⟨q,_⟩
   ·exact .inl q
   ·exact absurd (og q) hl
end
theorem fG{c:Nat}(h:l.getLast?=some c)(a:i+1=l.length):l[i]?=some c:=by
 rw[pA]at h;rw[show i=l.length-1 by lia];exact h
theorem vG{c:Nat}(h:l.getLast?=some c):c∈l:=List.mem_of_getLast? h
theorem oW{k:List Nat}(h:raw.getLast?=some 92):ck k raw b=false:=by
 unfold ck;rw[dt (by rw[h];simp)]
theorem CE{b:Nat}(h:bg b l=some j):l[j]?=some 41:=by
 induction l generalizing b j with
 |nil=>cases h
 |cons c r d=>
  unfold bg at h;split at h
  ·rename_i q
   obtain rfl:=ec h;rw[q.1];rfl
  ·cases a:bg c r with
   |none=>rw[a]at h;cases h
   |some i=>
    rw[a]at h;obtain rfl:i+1=j:=ec h;exact d a
theorem ql{v:List Nat}{e:Nat}(h:StrR q l v k e)(a:e=0):∃i,i+1=k/\l[i]?=some q:=by
 induction h with
 |eof=>cases a
 |shut=>exact⟨0,rfl,rfl⟩
 |bad=>cases a
 |escEnd=>cases a
 |@escNl r v k e _ b=>
  obtain⟨i,h1,h2⟩:=b a;exact⟨i+2,by lia,h2⟩
 |@esc c r v k e _ _ b=>
  obtain⟨i,h1,h2⟩:=b a;rw[gf]at h2;exact⟨(escOf (c::r)).2+i+1,by lia,h2⟩
 |ch _ _ _ _ b=>
  obtain⟨i,h1,h2⟩:=b a;exact⟨i+1,by lia,h2⟩
theorem nr(hp:bD l=some p)(h:(gM l p.1).2.1=l.length)(hl:l.getLast?=some 92)(bf:List Nat):bO (gM l p.1).1 bf l b=false:=by
 unfold gM at h⊢;split at h
 ·rename_i q;rw[dt q,show(bJ dC _).1=dC from rfl,dA (.inr (.inr (.inr rfl)))];exact oW hl
 ·rename_i q
  rw[cw q];split at h
  ·rename_i a
   have h':p.1+1=l.length:=h;have :=fG hl h';rw[yc,this]at a;cases a
  ·have h':p.1=l.length:=h
   have :=gb.mp (mr hp) 92 (by rw[h',x4];exact vG hl);cases this
theorem wI{c:Nat}(hb:brk c=false)(hl:(c::r).getLast?=some 92)(h:(aV (c::r)).2.1=(c::r).length)(bf:List Nat):bO (aV (c::r)).1 bf (c::r) b=false:=by
 have nm:∀k,(k=cg\/k=kAt\/k=gP\/k=dC)->bO k bf (c::r) b=false:=λk q=>by rw[dA q];exact oW hl
 by_cases h0:oneH isBl (c::r)=true
 ·rw[fe h0]at h
  have h':ai (c::r)=(c::r).length:=h;have :=gb.mp (pC (c::r)) 92 (by rw[h',x4];exact vG hl);cases this
 have l:oneH isBl (c::r)=false:=by simpa using h0
 by_cases a:rangeC (c::r)
 ·rw[fc l a]at h
  have h':2+(b8 ((c::r).drop 2)).2.2=(c::r).length:=h;have hy:=a.2.2;exfalso;have h2:(b8 ((c::r).drop 2)).2.2=((c::r).drop 2).length:=by rw[ea];lia
  have :=gb.mp (un ((c::r).drop 2)) 92 (by
   rw[h2,x4];have D:=mE hy;have :=fG hl (i:=(c::r).length-1) (by lia);refine xd.mpr ⟨(c::r).length-1-2,?_⟩;rw[gf,show 2+((c::r).length-1-2)=(c::r).length-1 by lia];exact this)
  cases this
 by_cases ha:(c::r).take 3=[45,45,62]
 ·rw[gH l a ha]at h
  have h':3=(c::r).length:=h;rw[h',x4]at ha;rw[ha]at hl;cases hl
 have y:nA (c::r):=⟨l,a,ha⟩;by_cases B:aJ (c::r)=true
 ·rw[dQ y (by rw[<-aU];exact B)]at h⊢
  generalize(av (c::r)).2=k at h⊢;generalize(av (c::r)).1=v at h⊢;unfold cy at h⊢;by_cases g:((c::r).drop k).head?≠some 40
  ·rw[dt g];exact nm _ (.inl rfl)
  rw[cw g]at h⊢;have call:k+1≠(c::r).length:=λq=>by
   have :=fG hl q;rw[yc,this]at g;exact g (by decide)
  by_cases A:ce v=false
  ·rw[dt A]at h;exact absurd h call
  rw[cw A]at h⊢;split at h
  ·exact absurd h call
  ·rename_i hq
   rw[cw hq];cases a:bg 40 ((c::r).drop (k+1))with
   |none=>exact jZ
   |some j=>
    rw[a]at h;have h':j+(k+1)+1=(c::r).length:=h;have h1:=fG hl h';have h2:=CE a;rw[gf,sl,h1]at h2;cases h2
 have f:aJ (c::r)=false:=by simpa using B
 cases x:bD (c::r)with
 |some p=>
  rw[da y (by rw[<-aU];exact f) x]at h⊢;exact nr x h hl bf
 |none=>
  rw[eZ y (by rw[<-aU];exact f) x]at h⊢;by_cases w:c=64/\ao r=true
  ·obtain⟨rfl,w⟩:=w
   rw[gL w];exact nm _ (.inr (.inl rfl))
  by_cases u:c=35/\(oneH bdC r=true\/bentL r=true)
  ·obtain⟨rfl,u⟩:=u
   rw[gJ u];exact nm _ (.inr (.inr (.inl rfl)))
  by_cases G:c=34\/c=39
  ·rw[gI G]at h⊢
   have n:=ew c r;generalize bx c r=s at h n⊢;obtain⟨v,k,e⟩:=s;unfold eY at h⊢;dsimp only at h n⊢;by_cases z:e=0
   ·rw[dt z]at h
    exfalso;have h':1+k=(c::r).length:=h;obtain⟨i,I,E⟩:=ql n z;have :=fG hl (i:=i+1) (by lia);have H:r[i]?=some 92:=this;rw[H]at E;have :=ec E;lia
   rw[cw z]at h⊢;by_cases e1:e=1
   ·rw[dt e1]at h
    exfalso;have h':1+k=(c::r).length:=h;have :=n.bad_lt e1;rw[g9]at h';lia
   rw[cw e1];exact jZ
  by_cases m:c=47/\r.head?=some 42
  ·obtain⟨rfl,m⟩:=m
   cases r with
   |nil=>cases m
   |cons d t=>
    obtain rfl:=ec m;rw[gK]at h⊢;cases a:ca t with
    |none=>exact jZ
    |some j=>
     rw[a]at h;exfalso;have h':j+2+2=t.length+2:=h;have h1:=jd t;rw[a]at h1;have h2:=fG hl (i:=j+1+2) (by simp only[g9];lia);have D:t[j+1]?=some 92:=h2;have h4:=h1.1;have C:((t.drop j).take 2)[1]?=some 47:=by rw[h4];rfl
     rw[hQ (by decide),gf,D]at C;cases C
  rw[fx w u G m]at h⊢;by_cases o:(c::r).take 4=[60,33,45,45]
  ·rw[dt o]at h
   have h':4=(c::r).length:=h;rw[h',x4]at o;rw[o]at hl;cases hl
  rw[cw o]at h⊢;exfalso;split at h
  ·rename_i q
   have h':2=(c::r).length:=h;cases r with
   |nil=>cases h'
   |cons d t=>
    cases t with
    |cons _ _=>simp at h'
    |nil=>
     have hd:d=92:=ec hl;subst hd;rcases q with q|q
     ·exact by cases q.2
     ·exact by cases q.2
  ·have h':1=(c::r).length:=h
   cases r with
   |cons _ _=>simp at h'
   |nil=>
    have hd:c=92:=ec hl;subst hd;rw[bs1.1]at f;cases f
theorem ud:∀(n:Nat){l S:List Nat},l.length<=n->bI S->l.getLast?=some 92->Tb l S b:=by
 intro n;induction n with
 |zero=>
  intro l S e _ hl;rw[on.mp (Nat.le_zero.mp e)]at hl;cases hl
 |succ n g=>
  intro l S e f hl bf k bf' raw q;cases l with
  |nil=>cases hl
  |cons c r=>
   have h1:=fT (l:=c::r) (S:=S) (by simp);cases q with
   |one h=>
    by_cases hb:brk c=true
    ·exfalso
     have a:(lstep (c::r) S).1.2.1=1:=by
      have h2:c∈[40,91,123,41,93,125]:=n9.mp hb;unfold lstep;split
      ·rfl
      ·split
       ·rfl
       ·rename_i j i
        rw[dt];simp[oneH]at i h2⊢;lia
     rw[a]at h;cases r with
     |cons _ _=>simp at h
     |nil=>
      have hd:c=92:=ec hl;subst hd;cases hb
    ·have d:brk c=false:=by simpa using hb
     rw[dP f d]at h⊢;exact wI d hl h bf
   |more h q=>
    refine g (by rw[ea];lia) (fW f) ?_ _ _ _ _ q;rw[Jg,cw (by lia)];exact hl
theorem mH{k pre v:List Nat}(hI:IdentR y v j)(x:1<=j)(h:j<y.length)(n:NB2 y j)(hp:92∉pre)(hb:b=y.drop j)
  (B:¬(k=cg/\(b.headD 0=40\/(pre++y.take j=[45,45]/\b.headD 0=62))))(h4:¬(k=cg/\(pre++y.take j=[117]\/pre++y.take j=[85])/\b.headD 0=43/\oneH ((em++[63]).contains ·) (b.drop 1)=true))
  (A:k=dC/\b.headD 0=43/\bY (b.drop 1)=true->¬(((pre++y.take j).drop (af (pre++y.take j))=[101]\/(pre++y.take j).drop (af (pre++y.take j))=[69])/\101∉(pre++y.take j).take (af (pre++y.take j))/\69∉(pre++y.take j).take (af (pre++y.take j)))):
  ck k (pre++y.take j) b=true:=by
 obtain⟨p,o⟩:=tO hI;rw[<-hb]at p o;have a:=bC (Nat.le_of_lt h);have d:∃c r,b=c::r:=⟨_,_,hb.trans (e9 h)⟩;have m:bdC (b.headD 0)=false:=by obtain⟨c,r,rfl⟩:=d;exact p
 have f:(pre++y.take j).getLast?≠some 92:=λe=>by
  have :=fG e (i:=pre.length+(j-1)) (by rw[g8,a];lia);rw[q0 (by lia),oa,hQ (by lia)]at this;exact nF hI (i:=j-1) (by lia) h n this
 have l:¬(([32,10]:List Nat).contains (b.headD 0)&&ci (pre++y.take j))=true:=λe=>by
  rw[fi]at e;obtain⟨i,g,w,u,s⟩:=mU e.2;rw[g8,a]at u s;rcases rb i pre.length with z|z
  ·rw[n6 z]at g
   exact hp (l6 g)
  ·rw[q0 z,hQ (by lia)]at g
   have :=nv hI g (by lia) (by lia) (λt c p1 p2 p3=>w c ?_) h n
   ·obtain⟨c,r,e2⟩:=d
    rw[<-hb,e2]at this;have h1:isBl c=false:=this;rw[e2]at e;have h2:([32,10]:List Nat).contains c=true:=e.1;simp at h2;rcases h2 with rfl|rfl<;>cases h1
   ·rw[xd]
    refine⟨pre.length+t-(i+1),?_⟩;rw[gf,show i+1+(pre.length+t-(i+1))=pre.length+t by lia,q0 (by lia),oa,hQ p2];exact p3
 unfold ck;rw[cw (by rw[m,o];simpa using f),cw l,cw B,cw h4];by_cases q:k=dC/\b.headD 0=43/\bY (b.drop 1)=true
 ·rw[dt q,f3 (A q)];rfl
 ·rw[cw q]
theorem D4(l:List Nat):oneH isBl (l.drop (ai l))=false:=by
 induction l with
 |nil=>rfl
 |cons c r a=>
  unfold ai;by_cases h:isBl c=true
  ·rw[dt h];exact a
  ·rw[cw h];show isBl c=false;simpa using h
theorem qO(l:List Nat):bY (l.drop (aK l))=false:=by
 induction l with
 |nil=>rfl
 |cons c r a=>
  unfold aK;by_cases h:cF c=true
  ·rw[dt h];exact a
  ·rw[cw h];show cF c=false;simpa using h
theorem vV(h:aH k l<k):oneH cD (l.drop (aH k l))=false:=by
 induction l generalizing k with
 |nil=>cases k<;>rfl
 |cons c r a=>
  cases k with
  |zero=>cases h
  |succ k=>
   unfold aH at h⊢;by_cases hc:bR c=true
   ·rw[dt hc]at h⊢;exact a (nE h)
   ·rw[cw hc];show cD c=false;rw[<-ei];simpa using hc
theorem vk(h:aa k l<k):(l.drop (aa k l)).head?≠some 63:=by
 induction l generalizing k with
 |nil=>cases k<;>exact λq=>by cases q
 |cons c r a=>
  cases k with
  |zero=>cases h
  |succ k=>
   unfold aa at h⊢;by_cases hc:c=63
   ·rw[dt hc]at h⊢;exact a (nE h)
   ·rw[cw hc];exact λq=>hc (ec q)
theorem tS{f:Nat->Bool}(a:l≠[])(h:oneH f l=false):f (l.headD 0)=false:=by
 cases l with
 |nil=>exact absurd rfl a
 |cons c r=>exact h
theorem yC(hl:l.drop 2=y.take j)(hb:b=y.drop j)(G:j<y.length)(J:(b8 y).2.2=j):bz l b=true:=by
 have f:b≠[]:=by rw[hb,e9 G];exact λq=>by cases q
 have p:∀c,b.headD 0=c->b.head?=some c:=λc e=>by
  cases b with
  |nil=>exact absurd rfl f
  |cons d t=>exact ed some e
 obtain⟨h,E⟩:∃h,aH 6 y=h:=⟨_,rfl⟩;obtain⟨q,eq⟩:∃q,aa (6-h) (y.drop h)=q:=⟨_,rfl⟩;have a:=iU y E eq;rw[J]at a;have L:=(bT 6 y).1;have x:=(gd (6-h) (y.drop h)).1;rw[E]at L;rw[eq]at x;have w:(l.drop 2).length=j:=by rw[hl];exact bC (Nat.le_of_lt G)
 by_cases I:q≠0
 ·rw[dt I]at a
  have C:63∈l.drop 2:=by
   have :=lK (k:=6-h) (l:=y.drop h) (j:=0) (by lia);rw[pu]at this;have m:h<y.length:=by lia
   rw[e9 m]at this;rw[hl,kx];exact⟨h,by lia,this⟩
  have D:45∉l.drop 2:=λs=>by
   rw[hl]at s;obtain⟨i,H,e⟩:=kx.mp s;rcases rb i h with g|g
   ·exact nG (k:=6) (l:=y) (c:=45) (j:=h) rfl (by lia) (kx.mpr ⟨i,by lia,e⟩)
   ·have :=lK (k:=6-h) (l:=y.drop h) (j:=i-h) (by lia)
    rw[eo,show h+(i-h)=i by lia,e9 (by lia)]at this;have :y[i]?=some 63:=fd.mpr ⟨_,this⟩;rw[fd.mpr ⟨_,e⟩]at this;cases this
  unfold bz;rw[cw D,dt C,f3]
  ·rfl
  ·rintro⟨n,r⟩
   refine vk (k:=6-h) (l:=y.drop h) (by lia) ?_;rw[eq,eo,<-a,<-hb];exact p _ n
 rw[cw I]at a;have A:q=0:=by lia
 by_cases g:(y.drop h).head?=some 45/\bo (y.drop (h+1))=true
 ·rw[dt g]at a
  have m:h<y.length:=az g.1;have o:y[h]=45:=by
   have :=g.1;rw[e9 m]at this;exact ec this
  have v:45∈l.drop 2:=by rw[hl];exact kx.mpr ⟨h,by lia,o⟩
  have B:(l.drop 2).idxOf 45=h:=by
   have e6:y.take j=y.take h++(y.drop h).take (j-h):=by
    have :=rf (l:=y) (i:=h) (j:=j-h);rwa[show h+(j-h)=j by lia]at this
   rw[hl,e6,e9 m,o];obtain⟨i,H⟩:∃i,j-h=i+1:=⟨j-h-1,by lia⟩;rw[H,eg,List.idxOf_append,cw (nG (k:=6) rfl (by lia)),List.idxOf_cons_self,bC (by lia)];lia
  unfold bz;rw[dt v,B,w,f3]
  ·rfl
  ·rintro⟨n,r⟩
   have :=vV (k:=6) (l:=y.drop (h+1)) (by lia);rw[eo,<-a,<-hb]at this;rw[tS f this]at n;cases n
 rw[cw g]at a;have u:∀c,cD c=false->c∉l.drop 2:=λc hc=>by rw[hl];exact nG (k:=6) hc (by lia)
 unfold bz;rw[cw (u 45 rfl),cw (u 63 rfl),cw,f3]
 ·rfl
 ·rintro⟨n,r⟩
  rcases n with z|z
  ·have :=vV (k:=6) (l:=y) (by lia)
   rw[E,<-a,<-hb]at this;rw[tS f this]at z;cases z
  ·have :=vk (k:=6-h) (l:=y.drop h) (by lia)
   rw[eq,A,pu,<-a,<-hb]at this;exact this (p _ z)
 ·rintro⟨n,r⟩
  refine g ⟨by rw[<-a,<-hb];exact p _ n,?_⟩;rw[hb,eo,a]at r;exact r
theorem wS{x:List Nat}{a:Nat}{b:Bool}(h:cb x=some (a,b)):bY (x.drop a)=false/\(46∉x.take a->¬((x.drop a).head?=some 46/\bY (x.drop (a+1))=true)):=by
 unfold cb at h;dsimp only at h;split at h
 ·rename_i g
  obtain⟨rfl,_⟩:=v1 (ec h);refine⟨by rw[<-eo];exact qO _,λz=>absurd ?_ z⟩;have hl:=az g.1;have :=g.1;rw[e9 hl]at this;exact kx.mpr ⟨aF x+aK (x.drop (aF x)),by lia,ec this⟩
 ·rename_i g
  split at h
  ·cases h
  ·obtain⟨rfl,_⟩:=v1 (ec h)
   exact⟨by rw[<-eo];exact qO _,λ_=>g⟩
theorem uy{x:List Nat}(h:bD x=some p):bY (x.drop p.1)=false/\(46∉x.take p.1->101∉x.take p.1->69∉x.take p.1->¬((x.drop p.1).head?=some 46/\bY (x.drop (p.1+1))=true))/\(101∉x.take p.1->69∉x.take p.1->ae (x.drop p.1)=0):=by
 have g:=(iX h).2;cases hm:cb x with
 |none=>unfold bD at h;rw[hm]at h;cases h
 |some q=>
  obtain⟨c,b⟩:=q;rw[gv hm]at h;obtain rfl:=ec h;have f:c+ae (x.drop c)<=x.length:=g;obtain⟨j,i⟩:=wS hm;show bY (x.drop (c+ae (x.drop c)))=false/\(46∉x.take (c+ae (x.drop c))->101∉x.take (c+ae (x.drop c))->69∉x.take (c+ae (x.drop c))->¬((x.drop (c+ae (x.drop c))).head?=some 46/\bY (x.drop (c+ae (x.drop c)+1))=true))/\(101∉x.take (c+ae (x.drop c))->69∉x.take (c+ae (x.drop c))->ae (x.drop (c+ae (x.drop c)))=0);by_cases d:ae (x.drop c)=0
  ·rw[d,xl]
   exact⟨j,λa _ _=>i a,λ_ _=>d⟩
  ·cases hx:x.drop c with
   |nil=>rw[hx]at d;exact absurd rfl d
   |cons e r=>
    rw[hx]at d f;by_cases hc:(e=101\/e=69)/\bY (r.drop (aF r))=true;case neg=>exact absurd (cw hc) d
    have hex:ae (e::r)=1+aF r+aK (r.drop (aF r)):=dt hc;have hmem:e∈x.take (c+ae (e::r)):=by
     have hl:c<x.length:=by lia
     refine kx.mpr ⟨c,by lia,?_⟩;rw[e9 hl]at hx;exact(f4 hx).1
    refine⟨?_,λ_ a b=>?_,λa b=>?_⟩
    ·rw[<-eo,hx,hex,show 1+aF r+aK (r.drop (aF r))=aF r+aK (r.drop (aF r))+1 by lia]
     show bY (r.drop (aF r+aK (r.drop (aF r))))=false;rw[<-eo];exact qO _
    ·rcases hc.1 with rfl|rfl
     ·exact absurd hmem a
     ·exact absurd hmem b
    ·rcases hc.1 with rfl|rfl
     ·exact absurd hmem a
     ·exact absurd hmem b
theorem uu(h:remLen l<l.length):∃i,i+1=remLen l/\l[i]?=some 41:=by
 induction l using remLen.induct with
 |case1=>cases h
 |case2 c=>exact absurd h (by show¬1<1;lia)
 |case3 d r=>exact⟨0,by simp[remLen],rfl⟩
 |case4 c d r h1 h2 a=>
  rw[cj,cw h1,dt h2]at h⊢;obtain⟨i,e,b⟩:=a (by simp at h;lia);exact⟨i+2,by lia,b⟩
 |case5 c d r h1 h2 a=>
  rw[cj,cw h1,cw h2]at h⊢;obtain⟨i,e,b⟩:=a (by simp at h⊢;lia);exact⟨i+1,by lia,b⟩
theorem xE{v:List Nat}{o:BOut}{w n e}(h:AfterR l o v w n e)(hb:EC l o)(a:n<l.length):∃i,i+1=n/\l[i]?=some 41:=by
 cases h with
 |eof=>cases a
 |close=>exact⟨0,rfl,rfl⟩
 |@bad c r v=>
  obtain⟨i,f,b⟩:=uu (l:=r) (by simp at a;lia);exact⟨i+1,by lia,b⟩
 |@blank0 c r v h=>
  have :=ed List.length h;simp at this a;lia
 |@blank1 c r v t h=>exact⟨1+brun r,rfl,by rw[sl];show r[brun r]?=some 41;rw[<-yc,h];rfl⟩
 |@blank2 c r v d t h _=>
  have h1:=ed List.length h;simp at h1 a;obtain⟨i,f,b⟩:=uu (l:=d::t) (by simp;lia);refine⟨1+brun r+i,by lia,?_⟩;rw[<-h,gf]at b;rw[show 1+brun r+i=brun r+i+1 by lia];exact b
theorem uY{w k e}(h:UrlR l w k e)(hk:k<l.length):∃i,i+1=k/\l[i]?=some 41:=by
 cases h with
 |none h=>
  have :=ed List.length h;simp at this;lia
 |close0 h=>exact⟨_,rfl,by rw[<-yc,h];rfl⟩
 |@body c r v k o w n e h h2 b f=>
  have h1:=ed List.length h;simp at h1;have a:=b.le.1;simp at a;obtain⟨i,g,d⟩:=xE f b.fin (by rw[ea,g9];lia);refine⟨brun l+k+i,by lia,?_⟩;rw[<-h,gf,gf]at d;rw[k4];exact d
section
variable{F1 F2:Nat->List Nat}{top:Option Nat}
noncomputable def k1(o:TokO):List Nat:=(o.rows.head?.map Prod.fst).getD []
theorem yv(F:Nat->List Nat)(l:List Nat):k1 (ay F l)=tIdent\/k1 (ay F l)=tUrl\/k1 (ay F l)=tError\/k1 (ay F l)=[]\/k1 (ay F l)=tFunc:=by
 unfold ay;refine aN (P:=λo=>k1 o=tIdent\/k1 o=tUrl\/k1 o=tError\/k1 o=[]\/k1 o=tFunc) (λ_=>.inl rfl) λ_=>?_;refine aN (P:=λo=>k1 o=tIdent\/k1 o=tUrl\/k1 o=tError\/k1 o=[]\/k1 o=tFunc) (λ_=>?_) λ_=>.inr (.inr (.inr (.inr rfl)));unfold pn;generalize eG _=u;obtain⟨a,b,c⟩:=u;cases a with
 |some v=>exact .inr (.inl rfl)
 |none=>cases c with
  |some e=>exact .inr (.inr (.inl rfl))
  |none=>exact .inr (.inr (.inr (.inl rfl)))
theorem p9(l:List Nat)(n:Nat)(b:Bool):(aJ (l.drop n)=true/\k1 (d7 l n b)=tDim)\/(aJ (l.drop n)=false/\(l.drop n).head?=some 37/\k1 (d7 l n b)=tPct)\/(aJ (l.drop n)=false/\(l.drop n).head?≠some 37/\k1 (d7 l n b)=tNum):=by
 unfold d7;by_cases h:aJ (l.drop n)=true
 ·rw[dt h];exact .inl ⟨h,rfl⟩
 ·have h':aJ (l.drop n)=false:=by simpa using h
  rw[cw h];by_cases q:(l.drop n).head?=some 37
  ·rw[dt q];exact .inr (.inl ⟨h',q,rfl⟩)
  ·rw[cw q];exact .inr (.inr ⟨h',q,rfl⟩)
def k9:List (List Nat):=[tAt,tLit,tHash,tCurly,tSquare,tParen,[],tError,tString,tComment]
theorem CR(F:Nat->List Nat)(l:List Nat)(c:Nat):k1 (aY F top l c)∈k9:=by
 have lit:∀v,k1 (fZ v)∈k9:=λv=>by show tLit∈k9;decide
 have at':tAt∈k9/\tHash∈k9/\tCurly∈k9/\tSquare∈k9/\tParen∈k9/\[]∈k9/\tError∈k9/\tString∈k9/\tComment∈k9:=by decide
 obtain⟨k,j,i,g,f,e,a,d,b⟩:=at';unfold aY;refine aN (P:=λo=>k1 o∈k9) (λ_=>aN (P:=λo=>k1 o∈k9) (λ_=>k) λ_=>lit _) λ_=>aN (P:=λo=>k1 o∈k9) (λ_=>aN (P:=λo=>k1 o∈k9) (λ_=>j) λ_=>lit _) λ_=>?_;refine aN (P:=λo=>k1 o∈k9) (λ_=>i) λ_=>aN (P:=λo=>k1 o∈k9) (λ_=>g) λ_=>aN (P:=λo=>k1 o∈k9) (λ_=>f) λ_=>aN (P:=λo=>k1 o∈k9) (λ_=>e) λ_=>aN (P:=λo=>k1 o∈k9) (λ_=>a) λ_=>?_;refine aN (P:=λo=>k1 o∈k9) (λ_=>?_) λ_=>aN (P:=λo=>k1 o∈k9) (λ_=>?_) λ_=>?_
 ·unfold jM
  generalize bx _ _=s;by_cases h:s.2.2=1
  ·rw[dt h,cw (by lia)];exact a
  ·rw[cw h];exact d
 ·unfold iV;split<;>exact b
 ·exact aN (P:=λo=>k1 o∈k9) (λ_=>lit _) λ_=>aN (P:=λo=>k1 o∈k9) (λ_=>lit _) λ_=>aN (P:=λo=>k1 o∈k9) (λ_=>aN (P:=λo=>k1 o∈k9) (λ_=>lit _) λ_=>lit _) λ_=>lit _
theorem tL(x:List Nat):(oneH isBl x=true/\k1 (ptok F1 F2 top x)=tWhite)\/(rangeC x/\k1 (ptok F1 F2 top x)=tURange)\/(k1 (ptok F1 F2 top x)=tLit/\(ptok F1 F2 top x).len=3)\/(nA x/\aJ x=true)\/(∃p,nA x/\aJ x=false/\bD x=some p)\/(nA x/\aJ x=false/\bD x=none):=by
 by_cases h0:oneH isBl x=true
 ·rw[gu h0];exact .inl ⟨h0,rfl⟩
 have a:oneH isBl x=false:=by simpa using h0
 by_cases c:rangeC x
 ·rw[fw a c];exact .inr (.inl ⟨c,rfl⟩)
 by_cases ha:x.take 3=[45,45,62]
 ·rw[j6 a c ha];exact .inr (.inr (.inl ⟨rfl,rfl⟩))
 have d:nA x:=⟨a,c,ha⟩;by_cases e:aJ x=true
 ·exact .inr (.inr (.inr (.inl ⟨d,e⟩)))
 have b:aJ x=false:=by simpa using e
 cases f:bD x with
 |some p=>exact .inr (.inr (.inr (.inr (.inl ⟨p,d,b,rfl⟩))))
 |none=>exact .inr (.inr (.inr (.inr (.inr ⟨d,b,rfl⟩))))
theorem wf{x:List Nat}(h:k1 (ptok F1 F2 top x)=tIdent):nA x/\aJ x=true:=by
 rcases tL (F1:=F1) (F2:=F2) (top:=top) x with⟨_,q⟩|⟨_,q⟩|⟨q,_⟩|q|⟨p,a,b,c⟩|⟨a,b,c⟩
 ·rw[h]at q;exact absurd q (by decide)
 ·rw[h]at q;exact absurd q (by decide)
 ·rw[h]at q;exact absurd q (by decide)
 ·exact q
 ·rw[dN a b c]at h
  rcases p9 x p.1 p.2 with⟨_,z⟩|⟨_,_,z⟩|⟨_,_,z⟩<;>(rw[h]at z;exact absurd z (by decide))
 ·rw[cA a b c]at h
  have :=CR (top:=top) F2 x (x.headD 0);rw[h]at this;exact absurd this (by decide)
theorem vP{x:List Nat}(h:k1 (ptok F1 F2 top x)=tNum\/k1 (ptok F1 F2 top x)=tDim):nA x/\aJ x=false/\∃p,bD x=some p:=by
 rcases tL (F1:=F1) (F2:=F2) (top:=top) x with⟨_,q⟩|⟨_,q⟩|⟨q,_⟩|⟨a,b⟩|⟨p,a,b,c⟩|⟨a,b,c⟩
 ·rw[q]at h;exact absurd h (by decide)
 ·rw[q]at h;exact absurd h (by decide)
 ·rw[q]at h;exact absurd h (by decide)
 ·rw[cx a b]at h
  rcases yv F1 x with z|z|z|z|z<;>(rw[z]at h;exact absurd h (by decide))
 ·exact⟨a,b,p,c⟩
 ·rw[cA a b c]at h
  have :=CR (top:=top) F2 x (x.headD 0);rcases h with h|h<;>(rw[h]at this;exact absurd this (by decide))
theorem DZ{x:List Nat}{k:List Nat}(h:k1 (ptok F1 F2 top x)=k)(hk:k=tAt\/k=tHash\/k=tString\/k=tComment\/(k=tLit/\(ptok F1 F2 top x).len≠3)):nA x/\aJ x=false/\bD x=none:=by
 have ne:k≠tWhite/\k≠tURange/\k≠tIdent/\k≠tUrl/\k≠tError/\k≠[]/\k≠tFunc/\k≠tDim/\k≠tPct/\k≠tNum:=by
  rcases hk with rfl|rfl|rfl|rfl|⟨rfl,_⟩<;>decide
 obtain⟨r,o,n,m,l,j,i,g,f,d⟩:=ne;rcases tL (F1:=F1) (F2:=F2) (top:=top) x with⟨_,q⟩|⟨_,q⟩|⟨q,e⟩|⟨a,b⟩|⟨p,a,b,c⟩|q
 ·exact absurd (h.symm.trans q) r
 ·exact absurd (h.symm.trans q) o
 ·rw[q]at h
  subst h;rcases hk with z|z|z|z|⟨_,z⟩
  ·exact absurd z (by decide)
  ·exact absurd z (by decide)
  ·exact absurd z (by decide)
  ·exact absurd z (by decide)
  ·exact absurd e z
 ·rw[cx a b]at h
  rcases yv F1 x with z|z|z|z|z
  ·exact absurd (h.symm.trans z) n
  ·exact absurd (h.symm.trans z) m
  ·exact absurd (h.symm.trans z) l
  ·exact absurd (h.symm.trans z) j
  ·exact absurd (h.symm.trans z) i
 ·rw[dN a b c]at h
  rcases p9 x p.1 p.2 with⟨_,z⟩|⟨_,_,z⟩|⟨_,_,z⟩
  ·exact absurd (h.symm.trans z) g
  ·exact absurd (h.symm.trans z) f
  ·exact absurd (h.symm.trans z) d
 ·exact q
def Bfr(bf raw b:List Nat):Prop:=(raw=[43]/\(bf=[117]\/bf=[85])/\(em++[63]).contains (b.headD 0)=true)\/(raw=[33]/\bf=[60]/\b.take 2=[45,45])
theorem nb2{x:List Nat}(h:NB (x.take m)):NB2 x m:=λj a e q=>h j (by rw[hQ (by lia)];exact e) (by rw[hQ a];exact q)
theorem eX{x:List Nat}(h:NB2 x (n+m)):NB2 (x.drop n) m:=λj a e q=>by
 rw[gf]at e q;exact h (n+j) (by lia) e q
theorem BG{x:List Nat}(n:1<=m)(hx:m<x.length)(r:NB (x.take m))(s:nA (x.take m))(p:aJ (x.take m)=true)(hc:(av (x.take m)).2=m)(hT:ptok F1 F2 top x=ptok F1 F2 top (x.take m)):ck cg (x.take m) (x.drop m)=true:=by
 have f:=bC (Nat.le_of_lt hx);rw[cG]at hc;have e:ptok F1 F2 top (x.take m)=bn tIdent (.one (.str (aC (x.take m)).1)) m:=by rw[cx s p,jf F1 (hc.trans f.symm),f]
 rw[e]at hT;obtain⟨a,b⟩:=wf (F1:=F1) (F2:=F2) (top:=top) (x:=x) (by rw[hT];rfl);rw[cx a b]at hT;have hw:(x.drop (aC x).2).head?≠some 40:=λq=>by
  unfold ay at hT;rw[cw (by rw[q];simp)]at hT;split at hT
  ·have :=ed k1 hT
   unfold pn at this;generalize eG _=u at this;obtain⟨a,b,c⟩:=u;cases a with
   |some v=>exact absurd (show tUrl=tIdent from this) (by decide)
   |none=>cases c with
    |some e=>exact absurd (show tError=tIdent from this) (by decide)
    |none=>exact absurd (show[]=tIdent from this) (by decide)
  ·exact absurd (show tFunc=tIdent from ed k1 hT) (by decide)
 unfold ay at hT;rw[dt hw]at hT;have hk:(aC x).2=m:=ed TokO.len hT;have hI:=bq x;rw[hk]at hI hw;have :=mH (k:=cg) (pre:=[]) hI n hx (nb2 r) (by simp) rfl ?_ ?_ (λq=>absurd q.1 (by decide))
 ·exact this
 ·rintro⟨_,q|⟨j,h⟩⟩
  ·refine hw ?_
   rw[e9 hx]at q⊢;exact ed some q
  ·have g:x.take m=[45,45]:=j
   have l:m=2:=by rw[<-f,g];rfl
   refine a.ar ?_;rw[l]at g h hx;rw[e9 hx]at h;rw[List.take_succ_eq_append_getElem hx,g,show x[2]=62 from h];rfl
 ·rintro⟨_,j,h,o⟩
  refine a.rg ?_;have i:m=1:=by rcases j with q|q<;>(have :=ed List.length q;rw[JE,f]at this;exact this)
  subst i;cases x with
  |nil=>cases hx
  |cons u t=>
   refine⟨?_,?_,o⟩
   ·rcases j with q|q<;>(have :=(f4 q).1;subst this;rfl)
   ·cases t with
    |nil=>simp at hx
    |cons d t=>exact ed some h
end
section
variable{F1 F2:Nat->List Nat}{top:Option Nat}
theorem wM{x:List Nat}(hx:m<x.length)(o:nA (x.take m))(n:aJ (x.take m)=false)(hp:bD (x.take m)=some p)(hc:p.1=m)(hT:ptok F1 F2 top x=ptok F1 F2 top (x.take m))(bf:List Nat):bO dm bf (x.take m) (x.drop m)=true:=by
 have e:ptok F1 F2 top (x.take m)=bn tNum (.tup [.str ((x.take m).take p.1),m9 ((x.take m).take p.1) p.2]) p.1:=by
  rw[dN o n hp];unfold d7;rw[hc,dn (ep m),cw (by decide),cw (by decide)]
 rw[e,hc]at hT;obtain⟨a,b,q,hq⟩:=vP (F1:=F1) (F2:=F2) (top:=top) (x:=x) (.inl (by rw[hT];rfl));rw[dN a b hq]at hT;have h1:=p9 x q.1 q.2;rw[hT]at h1;rcases h1 with⟨_,z⟩|⟨_,_,z⟩|⟨d,c,_⟩
 ·exact absurd (show tNum=tDim from z) (by decide)
 ·exact absurd (show tNum=tPct from z) (by decide)
 unfold d7 at hT;rw[cw (by rw[d];decide),cw c]at hT;have g:q.1=m:=ed TokO.len hT;obtain⟨f,j,_⟩:=uy hq;rw[g]at d c f j;rw[uc,cw,f3]
 ·rfl
 ·rintro⟨⟨i,h,r⟩,l,k⟩
  refine j i h r ⟨?_,by rw[eo]at k;exact k⟩;rw[e9 hx]at l⊢;exact ed some l
 ·rw[<-aU,d]
  rw[e9 hx]at c f⊢;have i:¬x[m]=37:=λz=>c (ed some z);have h:cF x[m]=false:=f;show¬(false||(x[m]==37||cF x[m]))=true;rw[h];simpa using i
theorem BH{x:List Nat}(hx:m<x.length)(M:NB (x.take m))(N:nA (x.take m))(J:aJ (x.take m)=false)(hp:bD (x.take m)=some p)(H:aJ ((x.take m).drop p.1)=true)(hc:p.1+(aC ((x.take m).drop p.1)).2=m)(hT:ptok F1 F2 top x=ptok F1 F2 top (x.take m)):ck dC (x.take m) (x.drop m)=true:=by
 have f:=bC (Nat.le_of_lt hx);have o:=(iX hp).2;rw[f]at o;have e:ptok F1 F2 top (x.take m)=bn tDim (.tup [.str ((x.take m).take p.1),m9 ((x.take m).take p.1) p.2,.str (aC ((x.take m).drop p.1)).1]) m:=by
  rw[dN N J hp];unfold d7;rw[dt H,hc]
 rw[e]at hT;obtain⟨a,b,q,hq⟩:=vP (F1:=F1) (F2:=F2) (top:=top) (x:=x) (.inr (by rw[hT];rfl));rw[dN a b hq]at hT;have h1:=p9 x q.1 q.2;rw[hT]at h1;rcases h1 with⟨s,_⟩|⟨_,_,z⟩|⟨_,_,z⟩;case inr.inl=>exact absurd (show tDim=tPct from z) (by decide)
 case inr.inr=>exact absurd (show tDim=tNum from z) (by decide)
 unfold d7 at hT;rw[dt s]at hT;have n:=ed TokO.rows hT;have G:=(iX hq).2;have h:q.1=p.1:=by
  have h2:=(v1 (f4 n).1).2;have O:=(f4 (Told.tup.inj h2)).1;have h4:=ed List.length (MV.str.inj O);rw[g7,g7,f]at h4;lia
 have c:q.1+(aC (x.drop q.1)).2=m:=ed TokO.len hT;rw[h]at c s;have hI:=bq (x.drop p.1);have hg:=ej s;obtain⟨j,I⟩:∃j,j=(aC (x.drop p.1)).2:=⟨_,rfl⟩;rw[<-I]at hI hg c;have E:x.take m=x.take p.1++(x.drop p.1).take j:=by rw[<-c,rf]
 have Q:x.drop m=(x.drop p.1).drop j:=by rw[eo,c]
 obtain⟨_,_,A⟩:=uy hq;rw[h]at A;have w:92∉x.take p.1:=λz=>by
  have :=mr hq;rw[h]at this;exact absurd (gb.mp this 92 z) (by decide)
 have :=mH (k:=dC) (pre:=x.take p.1) hI hg (by rw[ea];lia) (eX (by rw[c];exact nb2 M)) w rfl (λz=>absurd z.1 (by decide)) (λz=>absurd z.1 (by decide)) ?_
 ·rw[E,Q];exact this
 ·rintro⟨_,y,D⟩
  rw[<-E,kp hp];rintro⟨i,C,B⟩;rw[tt _ o]at C B;have hd:(x.take m).drop p.1=(x.drop p.1).take j:=by rw[td,<-c,oa]
  rw[hd]at i;have L:=A C B;have u:j=1:=by
   have hl:((x.drop p.1).take j).length=j:=bC (by rw[ea];lia);rcases i with g|g<;>(rw[g]at hl;exact hl.symm)
  subst u;cases l:x.drop p.1 with
  |nil=>rw[l]at i;simp at i
  |cons e t=>
   rw[l]at y D i L;have v:e=101\/e=69:=by
    rcases i with g|g
    ·exact .inl (f4 g).1
    ·exact .inr (f4 g).1
   cases t with
   |nil=>cases y
   |cons d t=>
    have r:d=43:=y;subst r;have :ae (e::43::t)=1+1+aK t:=dt ⟨v,D⟩;lia
theorem FH(hx:m<r.length)(g:NB (64::r.take m))(f:aJ (r.take m)=true)(hc:(av (r.take m)).2=m)(hT:ptok F1 F2 top (64::r)=ptok F1 F2 top (64::r.take m)):ck kAt (64::r.take m) (r.drop m)=true:=by
 rw[cG]at hc;obtain⟨p1,p2,p3,_⟩:=eR (c:=64) (x:=r.take m) (by lia);obtain⟨d,b,a,_⟩:=eR (c:=64) (x:=r) (by lia);have e:ptok F1 F2 top (64::r.take m)=aY F2 top (64::r.take m) 64:=cA p1 p2 p3;have e2:ptok F1 F2 top (64::r)=aY F2 top (64::r) 64:=cA d b a;rw[e,e2,fR,fR,dt f]at hT;by_cases h2:aJ r=true;case neg=>
  rw[cw h2]at hT;exact absurd (show tLit=tAt from ed k1 hT) (by decide)
 rw[dt h2]at hT;have hk:1+(aC r).2=1+(aC (r.take m)).2:=ed TokO.len hT;have hI:=bq r;rw[show(aC r).2=m by lia]at hI;have hg:=ej h2;exact mH (k:=kAt) (pre:=[64]) hI (by lia) hx (eX (x:=64::r) (n:=1) (by rw[sl];exact nb2 (x:=64::r) (m:=m+1) g)) (by decide) rfl (λz=>absurd z.1 (by decide)) (λz=>absurd z.1 (by decide)) (λz=>absurd z.1 (by decide))
theorem BJ(hx:m<r.length)(g:NB (35::r.take m))(f:oneH bdC (r.take m)=true\/bentL (r.take m)=true)(hc:(av (r.take m)).2=m)(hT:ptok F1 F2 top (35::r)=ptok F1 F2 top (35::r.take m)):ck gP (35::r.take m) (r.drop m)=true:=by
 rw[cG]at hc;obtain⟨p1,p2,p3,_⟩:=eR (c:=35) (x:=r.take m) (by lia);obtain⟨d,b,a,_⟩:=eR (c:=35) (x:=r) (by lia);have e:ptok F1 F2 top (35::r.take m)=aY F2 top (35::r.take m) 35:=cA p1 p2 p3;have e2:ptok F1 F2 top (35::r)=aY F2 top (35::r) 35:=cA d b a;rw[e,e2,fQ,fQ,dt f]at hT;by_cases h2:oneH bdC r=true\/bentL r=true;case neg=>
  rw[cw h2]at hT;exact absurd (show tLit=tHash from ed k1 hT) (by decide)
 rw[dt h2]at hT;have hk:1+(aC r).2=1+(aC (r.take m)).2:=ed TokO.len hT;have hI:=bq r;rw[show(aC r).2=m by lia]at hI;have hg:=jo h2;exact mH (k:=gP) (pre:=[35]) hI (by lia) hx (eX (x:=35::r) (n:=1) (by rw[sl];exact nb2 (x:=35::r) (m:=m+1) g)) (by decide) rfl (λz=>absurd z.1 (by decide)) (λz=>absurd z.1 (by decide)) (λz=>absurd z.1 (by decide))
theorem DI{c:Nat}(h:c=34\/c=39)(hx:m<r.length)(p:(bx c (r.take m)).2.2≠0)(g:(bx c (r.take m)).2.2≠1)(hT:ptok F1 F2 top (c::r)=ptok F1 F2 top (c::r.take m))(A:some c≠top):False:=by
 obtain⟨p1,p2,p3,_⟩:=eR (c:=c) (x:=r.take m) (by lia);obtain⟨w,u,t,_⟩:=eR (c:=c) (x:=r) (by lia);have e:∀y,nA (c::y)->aJ (c::y)=false->bD (c::y)=none->ptok F1 F2 top (c::y)=jM F2 (bx c y):=λy a b d=>by
  rw[cA a b d];show aY F2 top (c::y) c=_;unfold aY;rw[cw (by lia),cw (by lia),cw (by lia),cw (by lia),cw (by lia),cw A,cw (by simp;lia),dt h];rfl
 rw[e _ p1 p2 p3,e _ w u t]at hT;have n:=ew c r;have j:=ew c (r.take m);generalize bx c r=s at hT n;generalize bx c (r.take m)=q at hT j p g;have f:=ed TokO.rows hT;have o:1+s.2.1=1+q.2.1:=ed TokO.len hT;unfold jM at f;dsimp only at f;rw[cw g,cw p,cw g]at f;have h0:s.2.2≠0:=λz=>by
  rw[dt z,cw (by lia)]at f;exact absurd (ed List.length f) (by simp)
 have h1:s.2.2≠1:=λz=>by
  rw[dt z,cw (by lia)]at f;exact absurd (ed List.length f) (by simp)
 have key:∀{l v:List Nat}{k e:Nat},StrR c l v k e->e=0\/e=1\/e=2:=λh=>by
  induction h with
  |eof=>exact .inr (.inr rfl)
  |shut=>exact .inl rfl
  |bad=>exact .inr (.inl rfl)
  |escEnd=>exact .inr (.inr rfl)
  |escNl _ i=>exact i
  |esc _ _ i=>exact i
  |ch _ _ _ _ i=>exact i
 have h2:s.2.2=2:=by rcases key n with z|z|z<;>lia
 have :=n.end h2;have B:=j.le.1;rw[g7]at B;lia
theorem DJ(hx:i<t.length)(d:ca (t.take i)=none)(hT:ptok F1 F2 top (47::42::t)=ptok F1 F2 top (47::42::t.take i))(f:some 47≠top):False:=by
 have e:∀y,ptok F1 F2 top (47::42::y)=iV (47::42::y):=λy=>by
  obtain⟨p1,p2,p3,_⟩:=eR (c:=47) (x:=42::y) (by lia);rw[cA p1 p2 p3];show aY F2 top (47::42::y) 47=_;unfold aY;(iterate 5 rw[cw (by decide)]);rw[cw f,cw (by decide),cw (by decide),dt ⟨rfl,rfl⟩]
 rw[e,e]at hT;have a:=ed TokO.len hT;unfold iV at a;rw[show(47::42::t.take i).drop 2=t.take i from rfl,d,show(47::42::t).drop 2=t from rfl]at a;have g:(47::42::t.take i).length=i+2:=by rw[g9,g9,bC (Nat.le_of_lt hx)]
 cases b:ca t with
 |none=>
  rw[b]at a;have :t.length+2=(47::42::t.take i).length:=a;lia
 |some j=>
  rw[b]at a;have :j+4=(47::42::t.take i).length:=a;rw[qt b (by lia)]at d;cases d
end
section
variable{F1 F2:Nat->List Nat}{top:Option Nat}
theorem AO{b:Nat}(h:bg b l=some j)(e:j<n):bg b (l.take n)=some j:=by
 induction l generalizing b j n with
 |nil=>cases h
 |cons c r d=>
  obtain⟨n,rfl⟩:∃k,n=k+1:=⟨n-1,by lia⟩;rw[eg];unfold bg at h⊢;split at h
  ·rename_i q;rw[dt q];exact h
  ·rename_i q
   rw[cw q];cases a:bg c r with
   |none=>rw[a]at h;cases h
   |some i=>
    rw[a]at h;obtain rfl:i+1=j:=ec h;rw[d a (by lia)];rfl
theorem DH{x:List Nat}(hx:m<x.length)(I:NB (x.take m))(T:(x.take m).getLast?≠some 92->NB x)(B:nA (x.take m))(L:aJ (x.take m)=true)(g:((x.take m).drop (aC (x.take m)).2).head?=some 40)(A:(aC (x.take m)).1.map cQ=[117,114,108])
  (hq:¬oneH (([34,39]:List Nat).contains ·) ((x.take m).drop ((aC (x.take m)).2+1+ai ((x.take m).drop ((aC (x.take m)).2+1))))=true)(ha:bg 40 ((x.take m).drop ((aC (x.take m)).2+1))=none)(hT:ptok F1 F2 top x=ptok F1 F2 top (x.take m)):False:=by
 have k:=bC (Nat.le_of_lt hx);have E:=Dc g;have Q:3<=(aC (x.take m)).2:=by
  have h1:=(bq (x.take m)).le.2;have h2:=ed List.length A;rw[sf]at h2;have :(aC (x.take m)).1.length=3:=h2;lia
 have o:oneH (([34,39]:List Nat).contains ·) (((x.take m).drop ((aC (x.take m)).2+1)).drop (brun ((x.take m).drop ((aC (x.take m)).2+1))))=false:=by rw[cP,eo];simpa using hq
 have J:nA x:=by
  refine⟨by rw[<-cJ (n:=m) (by lia)];exact B.bl,λq=>B.rg ⟨by rw[cJ (by lia)];exact q.1,by rw[fk (by lia)];exact q.2.1,by rw[td,cJ (by lia)];exact q.2.2⟩,λq=>B.ar (by rw[tt _ (by lia)];exact q)⟩
 have G:aJ x=true:=by
  cases h:aJ x with
  |true=>rfl
  |false=>rcases fb h L with⟨t,_,e⟩|⟨t,_,e⟩<;>lia
 have s:aC (x.take m)=aC x:=by
  have h1:(aC x).2<=m:=by
   apply n7;intro z;have :=jp (l:=x) (n:=m) (by lia);lia
  refine cr h1 λr e z=>?_;have :=gQ e z;lia
 rw[cx B L,cx J G]at hT;rw[s]at g A E Q o ha;have w:=fK g;have N:ay F1 (x.take m)=pn F1 (aC x).2 (eG ((x.take m).drop ((aC x).2+1))):=by
  unfold ay;rw[s,cw (by rw[g];simp),dt ⟨A,o⟩]
 have O:k1 (ay F1 (x.take m))≠tFunc:=by
  rw[N];unfold pn;generalize eG _=u;obtain⟨a,b,c⟩:=u;cases a with
  |some v=>exact(by decide:tUrl≠tFunc)
  |none=>cases c with
   |some e=>exact(by decide:tError≠tFunc)
   |none=>exact(by decide:[]≠tFunc)
 have d:=ed TokO.len hT;have D:(ay F1 (x.take m)).len=m:=by
  rw[N];show(aC x).2+1+(eG ((x.take m).drop ((aC x).2+1))).2.1=m;have :=mP o (I.drop _);rw[lL,ha]at this;have h':(eG ((x.take m).drop ((aC x).2+1))).2.1=((x.take m).drop ((aC x).2+1)).length:=this;rw[ea,k]at h';lia
 rw[D]at d;unfold ay at hT d;rw[cw (by rw[w];simp)]at hT d;by_cases f:oneH (([34,39]:List Nat).contains ·) ((x.drop ((aC x).2+1)).drop (brun (x.drop ((aC x).2+1))))=false;case neg=>
  rw[cw (λz=>f z.2)]at hT;exact O (by unfold ay;rw[<-hT];rfl)
 rw[dt ⟨A,f⟩]at d;have hk:(aC x).2+1+(eG (x.drop ((aC x).2+1))).2.1=m:=d;obtain⟨i,U,M⟩:=uY (jX f) (by rw[ea];lia);rw[gf]at M;have p:(x.take m).getLast?=some 41:=by
  rw[pA,k,hQ (by lia),show m-1=(aC x).2+1+i by lia];exact M
 have H:=T (by rw[p];decide);have h1:=mP f (H.drop _);rw[lL]at h1;cases C:bg 40 (x.drop ((aC x).2+1))with
 |none=>
  rw[C]at h1;have y:(eG (x.drop ((aC x).2+1))).2.1=(x.drop ((aC x).2+1)).length:=h1;rw[ea]at y;lia
 |some j=>
  rw[C]at h1;have y:(eG (x.drop ((aC x).2+1))).2.1=j+1:=h1;rw[td,AO C (by lia)]at ha;cases ha
end
theorem xh:∀k∈[eD,jk,gw,gx,dD,m6,jj],k≠bA/\k≠dw/\¬(k=cg\/k=kAt\/k=gP\/k=dC)/\k≠dm/\k≠fh/\k≠au:=by decide
theorem pN{k:List Nat}(h:k∈[eD,jk,gw,gx,dD,m6,jj]):bO k bf raw b=true:=by
 obtain⟨h1,h2,d,h4,c,a⟩:=xh k h;unfold bO;rw[cw h1,cw h2,cw d,cw h4,cw c,cw a]
theorem kj(h:2<=raw.length):cH bf raw b=true:=by
 have ne:∀c,raw≠[c]:=λc e=>by rw[e]at h;simp at h
 unfold cH;rw[cw (ne _),cw (ne _),cw (ne _),cw (ne _),cw (ne _),cw (ne _),cw (ne _),cw (λz=>by rcases z with z|z|z|z<;>exact ne _ z),cw (ne _),cw (ne _)]
theorem mq{c:Nat}(h:((c=45\/c=43)/\(bY b=true\/(b.head?=some 46/\bY (b.drop 1)=true)))\/(c=46/\bY b=true)):bD (c::b)≠none:=by
 intro e;have hm:cb (c::b)=none:=by
  cases hm:cb (c::b)with
  |none=>rfl
  |some p=>rw[gv (m:=p.1) (b:=p.2) hm]at e;cases e
 unfold cb at hm;dsimp only at hm;rcases h with⟨hs,h⟩|⟨rfl,h⟩
 ·rw[show aF (c::b)=1 from dt hs]at hm
  have e1:(c::b).drop 1=b:=rfl;rw[e1]at hm;by_cases hk:aK b=0
  ·rw[hk]at hm
   rcases h with h|h
   ·cases b with
    |nil=>cases h
    |cons d t=>
     unfold aK at hk;rw[dt (show cF d=true from h)]at hk;cases hk
   ·rw[dt ⟨h.1,h.2⟩]at hm;cases hm
  ·split at hm
   ·cases hm
   ·cases hm
 ·rw[show aF (46::b)=0 from rfl,show aK ((46::b).drop 0)=0 from rfl,dt ⟨rfl,h⟩]at hm
  cases hm
theorem tT(a:b≠[]):cF (b.headD 0)=bY b:=by
 cases b with
 |nil=>exact absurd rfl a
 |cons d t=>rfl
theorem kQ{c:Nat}(a:b≠[])(h:b.headD 0=c):b.head?=some c:=by
 cases b with
 |nil=>exact absurd rfl a
 |cons d t=>exact ed some h
section
variable{F1 F2:Nat->List Nat}{top:Option Nat}
theorem BI{c:Nat}(f:b≠[])(hb:brk c=false)(hq:¬(c=34\/c=39))(I:some c≠top)(M:nA [c])(L:aJ [c]=false)(J:bD [c]=none)(hT:ptok F1 F2 top (c::b)=ptok F1 F2 top [c]):cH bf [c] b=true\/Bfr bf [c] b:=by
 have h2:([40,91,123,41,93,125]:List Nat).contains c=false:=hb;simp at h2;have Q:aY F2 top [c] c=fZ [c]:=by
  unfold aY;by_cases m:c=64
  ·subst m;rfl
  rw[cw m];by_cases j:c=35
  ·subst j;rfl
  rw[cw j,cw (by lia),cw (by lia),cw (by lia),cw I,cw (by simp;lia),cw hq,cw (λz=>by cases z.1),cw (λz=>absurd (ed List.length z) (by simp)),cw (λz=>absurd (ed List.length z) (by simp))];split
  ·rw[cw (λz=>by cases z)]
  ·rfl
 rw[cA M L J,show aY F2 top [c] ([c].headD 0)=fZ [c]from Q]at hT;obtain⟨T,H,n⟩:=DZ (F1:=F1) (F2:=F2) (top:=top) (x:=c::b) (k:=tLit) (by rw[hT];rfl) (.inr (.inr (.inr (.inr ⟨rfl,by rw[hT];exact(by decide:(1:Nat)≠3)⟩))));rw[cA T H n,show(c::b).headD 0=c from rfl]at hT;have a:(aY F2 top (c::b) c).len=1:=by rw[hT];rfl
 have e:k1 (aY F2 top (c::b) c)=tLit:=by rw[hT];rfl
 unfold cH;by_cases m:[c]=[64]
 ·rw[dt m]
  obtain rfl:c=64:=(f4 m).1;left;rw[fR]at e;rw[<-aU];cases i:aJ b with
  |false=>rfl
  |true=>rw[dt i]at e;exact absurd (show tAt=tLit from e) (by decide)
 rw[cw m];by_cases j:[c]=[35]
 ·rw[dt j]
  obtain rfl:c=35:=(f4 j).1;left;rw[fQ]at e;by_cases i:oneH bdC b=true\/bentL b=true
  ·rw[dt i]at e;exact absurd (show tHash=tLit from e) (by decide)
  ·cases b with
   |nil=>exact absurd rfl f
   |cons d t=>
    have O:bdC d=false:=by cases g:bdC d with|false=>rfl|true=>exact absurd (.inl g) i
    have N:bentL (d::t)=false:=by cases g:bentL (d::t)with|false=>rfl|true=>exact absurd (.inr g) i
    show(!(bdC d||bentL (d::t)))=true;rw[O,N];rfl
 rw[cw j];by_cases G:[c]=[45]
 ·rw[dt G]
  obtain rfl:c=45:=(f4 G).1;left;rw[f3]
  ·rfl
  rintro((z|⟨v,u⟩)|z|z|z)
  ·exact mq (.inl ⟨.inl rfl,.inl (by rw[<-tT f];exact z)⟩) n
  ·exact mq (.inl ⟨.inl rfl,.inr ⟨kQ f v,u⟩⟩) n
  all_goals
   rw[aU]at H;have h:(b.head?==some 45||(oneH hdC b||bentL b))=false:=H
  ·rw[kQ f z]at h;cases h
  ·rw[show oneH hdC b=true from by cases b with|nil=>exact absurd rfl f|cons d t=>exact z]at h;simp at h
  ·rw[z]at h;simp at h
 rw[cw G];by_cases s:[c]=[43]
 ·rw[dt s]
  by_cases q:(bf=[117]\/bf=[85])/\(em++[63]).contains (b.headD 0)=true
  ·exact .inr (.inl ⟨s,q⟩)
  ·left
   obtain rfl:c=43:=(f4 s).1;rw[f3]
   ·rfl
   rintro((z|⟨v,u⟩)|z)
   ·exact mq (.inl ⟨.inr rfl,.inl (by rw[<-tT f];exact z)⟩) n
   ·exact mq (.inl ⟨.inr rfl,.inr ⟨kQ f v,u⟩⟩) n
   ·exact q z
 rw[cw s];by_cases E:[c]=[46]
 ·rw[dt E]
  obtain rfl:c=46:=(f4 E).1;left;rw[tT f];cases g:bY b with
  |false=>rfl
  |true=>exact absurd n (mq (.inr ⟨rfl,g⟩))
 rw[cw E];have w:c≠64:=λz=>m (by rw[z]);have B:c≠35:=λz=>j (by rw[z]);unfold aY at a e;rw[cw w,cw B,cw (by lia),cw (by lia),cw (by lia),cw I,cw (by simp;lia),cw hq]at a e;by_cases r:[c]=[47]
 ·rw[dt r]
  obtain rfl:c=47:=(f4 r).1;left;rw[f3]
  ·rfl
  intro z;rw[dt ⟨kQ f z,rfl⟩]at e;unfold iV at e;split at e<;>exact absurd (show tComment=tLit from e) (by decide)
 rw[cw r];have A:c≠47:=λz=>r (by rw[z]);rw[cw (λz=>A z.2)]at a;by_cases p:[c]=[124]
 ·rw[dt p]
  obtain rfl:c=124:=(f4 p).1;left;rw[f3]
  ·rfl
  rw[cw (show¬(124::b).take 4=[60,33,45,45]from λz=>absurd (f4 z).1 (by decide))]at a;cases b with
  |nil=>exact absurd rfl f
  |cons d t=>
   rintro(z|z)
   ·rw[show d=124 from z,dt (show(124::124::t).take 2=[124,124]from rfl)]at a;exact absurd a (by decide)
   ·rw[show d=61 from z,cw (show¬(124::61::t).take 2=[124,124]from λy=>absurd (f4 (f4 y).2).1 (by decide)),dt (by decide),dt (show((124::61::t).drop 1).head?=some 61 from rfl)]at a;exact absurd a (by decide)
 rw[cw p];have o:c≠124:=λz=>p (by rw[z]);by_cases D:[c]=[126]\/[c]=[94]\/[c]=[36]\/[c]=[42]
 ·rw[dt D]
  have hc:c=126\/c=94\/c=36\/c=42:=D.imp (λz=>(f4 z).1) λz=>z.imp (λz=>(f4 z).1) λz=>z.imp (λz=>(f4 z).1) λz=>(f4 z).1;left;rw[f3]
  ·rfl
  intro z;rw[cw (show¬(c::b).take 4=[60,33,45,45]from λy=>absurd (f4 y).1 (by lia)),cw (show¬(c::b).take 2=[124,124]from λy=>absurd (f4 y).1 o),dt (by simp;lia),dt (show((c::b).drop 1).head?=some 61 from kQ f z)]at a;exact absurd a (show¬(2:Nat)=1 by decide)
 rw[cw D];by_cases C:[c]=[60]
 ·rw[dt C]
  obtain rfl:c=60:=(f4 C).1;left;rw[f3]
  ·rfl
  intro z;rw[dt (by rw[eg,z])]at a;exact absurd a (by decide)
 rw[cw C];by_cases l:[c]=[33]
 ·rw[dt l]
  by_cases q:bf=[60]/\b.take 2=[45,45]
  ·exact .inr (.inr ⟨l,q⟩)
  ·rw[f3 q];exact .inl rfl
 ·rw[cw l];exact .inl rfl
theorem BW{x:List Nat}{c:Nat}(hS:bI S)(w:1<=m)(hx:m<x.length)(b:NB (x.take m))(hN:(x.take m).getLast?≠some 92->NB x)(el:x.take m=c::r)(hb:brk c=false)(hc:(aV (x.take m)).2.1=m)(hk:(aV (x.take m)).1≠bh)
  (hT:ptok F1 F2 S.head? x=ptok F1 F2 S.head? (x.take m))(bf:List Nat):bO (aV (x.take m)).1 bf (x.take m) (x.drop m)=true\/Bfr bf (x.take m) (x.drop m):=by
 have D:=bC (Nat.le_of_lt hx);have v:x.drop m≠[]:=by rw[e9 hx];exact λq=>by cases q
 have N:some c≠S.head?:=pv hS (yV hb);have e:∀k,k∈[eD,jk,gw,gx,dD,m6,jj]->bO k bf (x.take m) (x.drop m)=true\/Bfr bf (x.take m) (x.drop m):=λk h=>.inl (pN h);by_cases h0:oneH isBl (x.take m)=true
 ·rw[fe h0]at hc⊢
  left;show bO dw _ _ _=true;have z:oneH isBl x=true:=by rwa[cJ w]at h0
  rw[gu h0,gu z]at hT;have h1:ai x=ai (x.take m):=ed TokO.len hT;have h2:ai (x.take m)=m:=hc;have V:=D4 x;rw[h1,h2]at V;have h4:=tS v V;rw[oI];generalize(x.drop m).headD 0=d at h4;simp[isBl]at h4;simp[h4.1.1,h4.1.2]
 have f:oneH isBl (x.take m)=false:=by simpa using h0
 have z:oneH isBl x=false:=by rwa[cJ w]at f
 by_cases u:rangeC (x.take m)
 ·rw[fc f u]at hc⊢
  left;show bO fh _ _ _=true;rw[oH];have aj:2<m:=by have :=mE u.2.2;lia
  have O:rangeC x:=⟨fF u.1,fK u.2.1,fF (n:=m-2) (by rw[<-td];exact u.2.2)⟩;rw[fw f u,fw z O]at hT;have h1:2+(b8 (x.drop 2)).2.2=2+(b8 ((x.take m).drop 2)).2.2:=ed TokO.len hT;have h2:2+(b8 ((x.take m).drop 2)).2.2=m:=hc;exact yC (y:=x.drop 2) (j:=m-2) (td _ _ _) (by rw[eo];congr 1;lia) (by rw[ea];lia) (by lia)
 by_cases ha:(x.take m).take 3=[45,45,62]
 ·rw[gH f u ha]at hc⊢
  left;show bO au _ _ _=true;have V:3=m:=hc;rw[bp];exact kj (by lia)
 have l:nA (x.take m):=⟨f,u,ha⟩;by_cases J:aJ (x.take m)=true
 ·rw[dQ l (by rw[<-aU];exact J)]at hc hk⊢
  have hw:=cG (x.take m);obtain⟨_,hu⟩:=bw (x.take m);unfold cy at hc hk⊢;by_cases o:((x.take m).drop (av (x.take m)).2).head?≠some 40
  ·rw[dt o]at hc⊢
   left;show bO cg _ _ _=true;rw[dA (.inl rfl)];exact BG w hx b l J hc hT
  rw[cw o]at hc hk⊢;by_cases U:ce (av (x.take m)).1=false
  ·rw[dt U]at hk;exact absurd rfl hk
  rw[cw U]at hc hk⊢;split at hk
  ·exact absurd rfl hk
  rename_i T;rw[cw T]at hc⊢;cases hq:bg 40 ((x.take m).drop ((av (x.take m)).2+1))with
  |some j=>exact e eD (by decide)
  |none=>
   exfalso;rw[hw]at o T hq;exact DH hx b hN l J (t2 o) (hu.mp (by simpa using U)) T hq hT
 have a:aJ (x.take m)=false:=by simpa using J
 cases A:bD (x.take m)with
 |some p=>
  rw[da l (by rw[<-aU];exact a) A]at hc⊢;unfold gM at hc⊢;by_cases I:ao ((x.take m).drop p.1)=true
  ·rw[dt I,cG]at hc
   rw[dt I];left;show bO dC _ _ _=true;rw[dA (.inr (.inr (.inr rfl)))];exact BH hx b l a A (by rw[aU];exact I) hc hT
  rw[cw I]at hc⊢;by_cases E:((x.take m).drop p.1).head?=some 37
  ·rw[dt E];exact e jk (by decide)
  rw[cw E]at hc⊢;exact .inl (wM hx l a A hc hT bf)
 |none=>
  rw[eZ l (by rw[<-aU];exact a) A]at hc⊢;obtain⟨i,rfl⟩:∃i,m=i+1:=⟨m-1,by lia⟩;cases C:x with
  |nil=>rw[C]at hx;cases hx
  |cons s t=>
   subst C;rw[eg]at el hc hT b l a A⊢;obtain⟨rfl,rfl⟩:=f4 el;have g:i<t.length:=nE hx;have Y:(s::t).drop (i+1)=t.drop i:=rfl;rw[Y]at v⊢;by_cases H:s=64/\ao (t.take i)=true
   ·obtain⟨rfl,H⟩:=H
    rw[gL H]at hc⊢;left;show bO kAt _ _ _=true;rw[dA (.inr (.inl rfl))];have Q:1+(av (t.take i)).2=i+1:=hc;exact FH g b (by rw[aU];exact H) (by lia) hT
   by_cases G:s=35/\(oneH bdC (t.take i)=true\/bentL (t.take i)=true)
   ·obtain⟨rfl,G⟩:=G
    rw[gJ G]at hc⊢;left;show bO gP _ _ _=true;rw[dA (.inr (.inr (.inl rfl)))];have Q:1+(av (t.take i)).2=i+1:=hc;exact BJ g b G (by lia) hT
   by_cases L:s=34\/s=39
   ·rw[gI L]
    unfold eY;by_cases e0:(bx s (t.take i)).2.2=0
    ·rw[dt e0];exact e gw (by decide)
    rw[cw e0];by_cases e1:(bx s (t.take i)).2.2=1
    ·rw[dt e1];exact e gx (by decide)
    exact(DI L g e0 e1 hT N).elim
   by_cases B:s=47/\(t.take i).head?=some 42
   ·obtain⟨rfl,B⟩:=B
    cases i with
    |zero=>cases B
    |succ i=>
     cases t with
     |nil=>cases B
     |cons d t=>
      obtain rfl:d=42:=ec B;rw[eg]at hT⊢;rw[gK];cases hq:ca (t.take i)with
      |some j=>exact e dD (by decide)
      |none=>exact(DJ (nE g) hq hT N).elim
   rw[fx H G L B]at hc⊢;have af:(s::t.take i).length=i+1:=D;split
   ·left;show bO au _ _ _=true
    rename_i q;rw[dt q]at hc;have :4=i+1:=hc;rw[bp];exact kj (by lia)
   ·rename_i q
    rw[cw q]at hc;split
    ·left;show bO au _ _ _=true
     rename_i M;rw[dt M]at hc;have :2=i+1:=hc;rw[bp];exact kj (by lia)
    ·rename_i M
     rw[cw M]at hc;have :1=i+1:=hc;obtain rfl:i=0:=by lia
     show bO au _ _ _=true\/_;rw[bp];exact BI (top:=S.head?) v hb L N l a A hT
end
section
variable{F1 F2:Nat->List Nat}
inductive Al(F1 F2:Nat->List Nat)(b:List Nat):List Nat->List Nat->Prop
 |nil:Al F1 F2 b [] []
 |cons{l S:_}:l≠[]->ptok F1 F2 S.head? (l++b)=ptok F1 F2 S.head? l->Al F1 F2 b (l.drop (lstep l S).1.2.1) (lstep l S).2->Al F1 F2 b l S
inductive Fin3:List Nat->List Nat->List Nat->Prop
 |nil{S:_}:Fin3 [] S S
 |cons{l S S':_}:l≠[]->Fin3 (l.drop (lstep l S).1.2.1) (lstep l S).2 S'->Fin3 l S S'
theorem kT(h:Fin3 [] S S'):S=S':=by
 cases h with
 |nil=>rfl
 |cons h=>exact absurd rfl h
theorem tH(h1:NB l)(h2:NB b)(h:l.getLast?≠some 92):NB (l++b):=λi e q=>by
 rcases rb (i+1) l.length with z|z
 ·rw[n6 (by lia)]at e
  rw[n6 z]at q;exact h1 i e q
 ·rcases rb i l.length with y|y
  ·rw[n6 y]at e
   rw[pA,show l.length-1=i by lia]at h;exact h e
  ·rw[q0 y]at e
   rw[q0 (by lia),show i+1-l.length=i-l.length+1 by lia]at q;exact h2 _ e q
theorem wU{c:Nat}(hb:brk c=true):lstep (c::r) S=((m6,1,1),S.tail)\/lstep (c::r) S=((jj,1,1),S)\/∃d,lstep (c::r) S=((vK,1,1),d::S):=by
 have h2:c∈[40,91,123,41,93,125]:=n9.mp hb;unfold lstep;split
 ·exact .inl rfl
 ·split
  ·exact .inr (.inl rfl)
  ·rename_i b a
   rw[dt]
   ·exact .inr (.inr ⟨_,rfl⟩)
   ·simp[oneH]at a h2⊢
    lia
theorem D5(o:bI S)(hb:b≠[])(hT:ptok F1 F2 S.head? (l++b)=ptok F1 F2 S.head? l)(e:l.take n=bf)(h:Bfr bf (l.drop n) b):False:=by
 have c:l=bf++l.drop n:=by rw[<-e,xc]
 rcases h with⟨h1,h2,i⟩|⟨h1,h2,i⟩
 ·rw[h1]at c
  obtain⟨u,f,e2⟩:∃u,(u=117\/u=85)/\l=[u,43]:=by rcases h2 with rfl|rfl<;>exact⟨_,by simp,c⟩
  subst e2;have g:oneH ((em++[63]).contains ·) b=true:=by cases b with|nil=>exact absurd rfl hb|cons d t=>exact i
  have k:rangeC ([u,43]++b):=⟨by rcases f with rfl|rfl<;>rfl,rfl,g⟩;rw[fw (by rcases f with rfl|rfl<;>rfl) k]at hT;have a:nA [u,43]/\aJ [u,43]=true:=by
   rcases f with rfl|rfl<;>exact⟨⟨rfl,(λq=>by cases q.2.2),by decide⟩,rfl⟩
  rw[cx a.1 a.2]at hT;have hk:=ed k1 hT;have ne:tURange≠tIdent/\tURange≠tUrl/\tURange≠tError/\tURange≠[]/\tURange≠tFunc:=by decide
  rcases yv F1 [u,43]with z|z|z|z|z
  ·exact ne.1 (hk.trans z)
  ·exact ne.2.1 (hk.trans z)
  ·exact ne.2.2.1 (hk.trans z)
  ·exact ne.2.2.2.1 (hk.trans z)
  ·exact ne.2.2.2.2 (hk.trans z)
 ·rw[h1,h2]at c
  subst c;have h4:([60]++[33]++b).take 4=[60,33,45,45]:=by show 60::33::b.take 2=_;rw[i]
  have a:nA ([60]++[33]++b):=⟨rfl,(λq=>by cases q.1),(λq=>by cases(f4 q).1)⟩;have m:bD ([60]++[33]++b)=none:=rfl;have hl:=(eW F1 F2 S.head? (l:=[60]++[33]) (by simp)).2;rw[<-hT,cA a rfl m]at hl;have j:some 60≠S.head?:=pv o rfl;have e3:(aY F2 S.head? ([60]++[33]++b) (([60]++[33]++b).headD 0)).len=4:=by
   show(aY F2 S.head? ([60]++[33]++b) 60).len=4;unfold aY;(iterate 5 rw[cw (by decide)]);rw[cw j,cw (by decide),cw (by decide),cw (λz=>absurd z.2 (by decide)),dt h4];rfl
  rw[e3]at hl;exact absurd hl (by decide)
theorem A3(d:bI S)(hl:l≠[])(hb:b≠[])(e:NB l)(a:NB b)(f:9∉b):ptok F1 F2 S.head? (l++b)=ptok F1 F2 S.head? l\/Tb l S b:=by
 by_cases hq:l.getLast?=some 92
 ·exact .inr (ud _ (ep _) d hq)
 have h1:1<=l.length:=by cases l with|nil=>exact absurd rfl hl|cons c r=>simp
 have h2:1<=b.length:=by cases b with|nil=>exact absurd rfl hb|cons c r=>simp
 have :=HS (F1:=F1) (F2:=F2) (x:=l++b) (m:=l.length) d h1 (by rw[g8];lia) (tH e a hq) (by rw[t5];exact f) (by rw[pc];exact hq);rw[pc,t5]at this;exact this.imp Eq.symm id
theorem rU(l S bf:List Nat):l≠[]->∃k bf' raw,LastR bf l S k bf' raw:=by
 have key:∀(n:Nat)(l S bf:List Nat),l.length<=n->l≠[]->∃k bf' raw,LastR bf l S k bf' raw:=by
  intro n;induction n with
  |zero=>exact λl _ _ h h'=>absurd (on.mp (Nat.le_zero.mp h)) h'
  |succ n a=>
   intro l S bf h h';have h1:=fT (l:=l) (S:=S) h';by_cases e:(lstep l S).1.2.1=l.length
   ·exact⟨_,_,_,.one e⟩
   ·obtain⟨k,bf',raw,q⟩:=a (l.drop (lstep l S).1.2.1) (lstep l S).2 (l.take (lstep l S).1.2.1) (by rw[ea];lia) (λz=>by
     have :=ed List.length z;rw[ea,xk]at this;lia)
    exact⟨k,bf',raw,.more (by lia) q⟩
 exact key _ l S bf (ep _)
theorem GX(hb:b≠[])(a:NB b)(j:9∉b):∀(n:Nat){l S bf:List Nat},l.length<=n->bI S->NB l->Fin3 l S []->(∀k bf' raw,LastR bf l S k bf' raw->bO k bf' raw b=true)->Al F1 F2 b l S:=by
 intro n;induction n with
 |zero=>
  intro l S bf d _ _ hf _;obtain rfl:=on.mp (Nat.le_zero.mp d);rw[kT hf];exact .nil
 |succ n i=>
  intro l S bf d f g hf c;by_cases hl:l=[]
  ·subst hl;rw[kT hf];exact .nil
  have h1:=fT (l:=l) (S:=S) hl;rcases A3 (F1:=F1) (F2:=F2) f hl hb g a j with h|h
  ·refine .cons hl h ?_
   cases hf with
   |nil=>exact absurd rfl hl
   |cons _ hf=>
    by_cases e:(lstep l S).1.2.1=l.length
    ·rw[e,pa]at hf⊢
     rw[kT hf];exact .nil
    ·exact i (by rw[ea];lia) (fW f) (g.drop _) hf λk bf' raw q=>c _ _ _ (.more (by lia) q)
  ·obtain⟨k,bf',raw,q⟩:=rU l S bf hl
   have h2:=h _ _ _ _ q;rw[c _ _ _ q]at h2;cases h2
theorem GW(hb:b≠[])(o:NB b)(h:Al F1 F2 b l S):bI S->NB l->Fin3 l S []/\∀bf k bf' raw,LastR bf l S k bf' raw->bO k bf' raw b=true\/(raw=l/\bf'=bf/\Bfr bf l b):=by
 induction h with
 |nil=>
  intro _ _;refine⟨.nil,λbf k bf' raw q=>?_⟩;cases q with
  |one h=>
   have :lstep [] []=((aV []),if(aV []).1=bh then[41]else[]):=rfl;rw[this];left;rfl
  |more h=>cases h
 |@cons l S hl hT _ s=>
  intro j p;obtain⟨g,n⟩:=s (fW j) (p.drop _);refine⟨.cons hl g,λbf k bf' raw q=>?_⟩;cases q with
  |more h q=>
   rcases n _ _ _ _ q with z|⟨rfl,rfl,z⟩
   ·exact .inl z
   ·exact(D5 j hb hT rfl z).elim
  |one h=>
   rw[h,pa]at g;have hst:=kT g;cases l with
   |nil=>exact absurd rfl hl
   |cons c r=>
    by_cases i:brk c=true
    ·left
     rcases wU (r:=r) (S:=S) i with e|e|⟨d,e⟩
     ·rw[e];exact pN (k:=m6) (by decide)
     ·rw[e];exact pN (k:=jj) (by decide)
     ·rw[e]at hst;cases hst
    ·have f:brk c=false:=by simpa using i
     have e:=dP (r:=r) j f;rw[e]at h hst⊢;have hk:(aV (c::r)).1≠bh:=λz=>by
      have a:(if(aV (c::r)).1=bh then 41::S else S)=[]:=hst;rw[dt z]at a;cases a
     have h2:1<=b.length:=by cases b with|nil=>exact absurd rfl hb|cons c r=>simp
     have :=BW (F1:=F1) (F2:=F2) (x:=c::r++b) (m:=(c::r).length) (c:=c) (r:=r) j (by simp) (by rw[g8];lia) (by rw[pc];exact p) (by rw[pc];exact tH p o) (pc ..) f (by rw[pc];exact h) (by rw[pc];exact hk) (by rw[pc];exact hT) bf;rw[pc,t5]at this;rcases this with z|z
     ·exact .inl z
     ·exact .inr ⟨rfl,rfl,z⟩
end
section
variable{F1 F2:Nat->List Nat}
def opG(k:List Nat):Op:=if k=tFunc then .push 41 else if k=tCurly then .push 125 else if k=tSquare then .push 93 else if k=tParen then .push 41 else if k=[]then .pop else .stay
theorem xD{v:List Nat}{o:BOut}{w n e}(h:AfterR l o v w n e)(hw:w=none):e≠none:=by
 cases h with
 |eof=>cases hw
 |close=>cases hw
 |bad=>exact λq=>by cases q
 |blank0=>cases hw
 |blank1=>cases hw
 |blank2=>exact λq=>by cases q
theorem uX{l w k e}(h:UrlR l w k e)(hw:w=none):e≠none:=by
 cases h with
 |none=>cases hw
 |close0=>cases hw
 |body _ _ _ a=>exact xD a hw
theorem gs:opG tWhite=.stay/\opG tURange=.stay/\opG tLit=.stay/\opG tIdent=.stay/\opG tUrl=.stay/\opG tError=.stay/\opG tFunc=.push 41/\opG tDim=.stay/\opG tPct=.stay/\opG tNum=.stay/\opG tAt=.stay/\opG tHash=.stay/\opG tCurly=.push 125/\opG tSquare=.push 93/\opG tParen=.push 41/\opG []=.pop/\opG tString=.stay/\opG tComment=.stay:=by
 refine⟨rfl,rfl,rfl,rfl,rfl,rfl,rfl,rfl,rfl,rfl,rfl,rfl,rfl,rfl,rfl,rfl,rfl,rfl⟩
theorem yM(top:Option Nat)(x:List Nat):(ptok F1 F2 top x).op=opG (k1 (ptok F1 F2 top x)):=by
 obtain⟨D,C,B,A,z,d,y,w,t,q,n,m,l,k,j,i,g,f⟩:=gs;have lit:∀v,(fZ v).op=opG (k1 (fZ v)):=λv=>B.symm;unfold ptok;refine aN (P:=λo:TokO=>o.op=opG (k1 o)) (λ_=>D.symm) λ_=>aN (P:=λo:TokO=>o.op=opG (k1 o)) (λ_=>C.symm) λ_=>aN (P:=λo:TokO=>o.op=opG (k1 o)) (λ_=>lit _) λ_=>aN (P:=λo:TokO=>o.op=opG (k1 o)) (λ_=>?_) λ_=>?_
 ·unfold ay
  refine aN (P:=λo:TokO=>o.op=opG (k1 o)) (λ_=>A.symm) λ_=>aN (P:=λo:TokO=>o.op=opG (k1 o)) (λh=>?_) λ_=>y.symm;have r:=jX h.2;unfold pn;generalize eG _=u at r;obtain⟨a,b,c⟩:=u;cases a with
  |some v=>exact z.symm
  |none=>cases c with
   |some e=>exact d.symm
   |none=>exact absurd rfl (uX r rfl)
 ·cases bD x with
  |some p=>
   unfold d7;exact aN (P:=λo:TokO=>o.op=opG (k1 o)) (λ_=>w.symm) λ_=>aN (P:=λo:TokO=>o.op=opG (k1 o)) (λ_=>t.symm) λ_=>q.symm
  |none=>
   unfold aY;refine aN (P:=λo:TokO=>o.op=opG (k1 o)) (λ_=>aN (P:=λo:TokO=>o.op=opG (k1 o)) (λ_=>n.symm) λ_=>lit _) λ_=>aN (P:=λo:TokO=>o.op=opG (k1 o)) (λ_=>aN (P:=λo:TokO=>o.op=opG (k1 o)) (λ_=>m.symm) λ_=>lit _) λ_=>?_;refine aN (P:=λo:TokO=>o.op=opG (k1 o)) (λ_=>l.symm) λ_=>aN (P:=λo:TokO=>o.op=opG (k1 o)) (λ_=>k.symm) λ_=>aN (P:=λo:TokO=>o.op=opG (k1 o)) (λ_=>j.symm) λ_=>aN (P:=λo:TokO=>o.op=opG (k1 o)) (λ_=>i.symm) λ_=>aN (P:=λo:TokO=>o.op=opG (k1 o)) (λ_=>d.symm) λ_=>?_;refine aN (P:=λo:TokO=>o.op=opG (k1 o)) (λ_=>?_) λ_=>aN (P:=λo:TokO=>o.op=opG (k1 o)) (λ_=>?_) λ_=>?_
   ·unfold jM
    generalize bx _ _=s;by_cases h:s.2.2=1
    ·rw[dt h,cw (by lia)];exact d.symm
    ·rw[cw h];exact g.symm
   ·unfold iV;split<;>exact f.symm
   ·exact aN (P:=λo:TokO=>o.op=opG (k1 o)) (λ_=>lit _) λ_=>aN (P:=λo:TokO=>o.op=opG (k1 o)) (λ_=>lit _) λ_=>aN (P:=λo:TokO=>o.op=opG (k1 o)) (λ_=>aN (P:=λo:TokO=>o.op=opG (k1 o)) (λ_=>lit _) λ_=>lit _) λ_=>lit _
theorem A7(x:List Nat):(ptok F1 F2 none x).rows≠[]:=by
 have lit:∀v,(fZ v).rows≠[]:=λv q=>by cases q
 unfold ptok;refine aN (P:=λo:TokO=>o.rows≠[]) (λ_ q=>by cases q) λ_=>aN (P:=λo:TokO=>o.rows≠[]) (λ_ q=>by cases q) λ_=>aN (P:=λo:TokO=>o.rows≠[]) (λ_=>lit _) λ_=>aN (P:=λo:TokO=>o.rows≠[]) (λ_=>?_) λ_=>?_
 ·unfold ay
  refine aN (P:=λo:TokO=>o.rows≠[]) (λ_ q=>by cases q) λ_=>aN (P:=λo:TokO=>o.rows≠[]) (λh=>?_) λ_ q=>by cases q
  have d:=jX h.2;unfold pn;generalize eG _=u at d;obtain⟨a,b,c⟩:=u;cases a with
  |some v=>exact λq=>by cases q
  |none=>cases c with
   |some e=>exact λq=>by cases q
   |none=>exact absurd rfl (uX d rfl)
 ·cases bD x with
  |some p=>
   unfold d7;exact aN (P:=λo:TokO=>o.rows≠[]) (λ_ q=>by cases q) λ_=>aN (P:=λo:TokO=>o.rows≠[]) (λ_ q=>by cases q) λ_ q=>by cases q
  |none=>
   unfold aY;refine aN (P:=λo:TokO=>o.rows≠[]) (λ_=>aN (P:=λo:TokO=>o.rows≠[]) (λ_ q=>by cases q) λ_=>lit _) λ_=>aN (P:=λo:TokO=>o.rows≠[]) (λ_=>aN (P:=λo:TokO=>o.rows≠[]) (λ_ q=>by cases q) λ_=>lit _) λ_=>?_;refine aN (P:=λo:TokO=>o.rows≠[]) (λ_ q=>by cases q) λ_=>aN (P:=λo:TokO=>o.rows≠[]) (λ_ q=>by cases q) λ_=>aN (P:=λo:TokO=>o.rows≠[]) (λ_ q=>by cases q) λ_=>aN (P:=λo:TokO=>o.rows≠[]) (λh=>by cases h) λ_=>aN (P:=λo:TokO=>o.rows≠[]) (λ_ q=>by cases q) λ_=>?_;refine aN (P:=λo:TokO=>o.rows≠[]) (λ_=>?_) λ_=>aN (P:=λo:TokO=>o.rows≠[]) (λ_=>?_) λ_=>?_
   ·unfold jM
    generalize bx _ _=s;by_cases h:s.2.2=1
    ·rw[dt h,cw (by lia)];exact λq=>by cases q
    ·rw[cw h];exact λq=>by cases q
   ·unfold iV;split<;>exact λq=>by cases q
   ·exact aN (P:=λo:TokO=>o.rows≠[]) (λ_=>lit _) λ_=>aN (P:=λo:TokO=>o.rows≠[]) (λ_=>lit _) λ_=>aN (P:=λo:TokO=>o.rows≠[]) (λ_=>aN (P:=λo:TokO=>o.rows≠[]) (λ_=>lit _) λ_=>lit _) λ_=>lit _
theorem E3{x:List Nat}(h:(aV x).2.1<(aV x).2.2):(nA x/\aJ x=true/\(x.drop (aC x).2).head?=some 40/\(aC x).1.map cQ=[117,114,108]/\(aV x).2.2=(aC x).2+1+ai (x.drop ((aC x).2+1))+1)\/∃c r,x=c::r/\(c=34\/c=39)/\(bx c r).2.2=1/\(aV x).2.2=1+(bx c r).2.1+1:=by
 have a:∀{k n},aV x=bJ k n->False:=λe=>by rw[e]at h;exact o4 _ h
 by_cases h0:oneH isBl x=true
 ·exact(a (fe h0)).elim
 have f:oneH isBl x=false:=by simpa using h0
 by_cases s:rangeC x
 ·exact(a (fc f s)).elim
 by_cases ha:x.take 3=[45,45,62]
 ·exact(a (gH f s ha)).elim
 have l:nA x:=⟨f,s,ha⟩;by_cases u:aJ x=true
 ·left
  have e:=dQ l (by rw[<-aU];exact u);rw[cG]at e;unfold cy at e;by_cases b:(x.drop (aC x).2).head?≠some 40
  ·rw[dt b]at e;rw[e]at h;exact absurd h (o4 _)
  rw[cw b]at e;by_cases q:ce (av x).1=false
  ·rw[dt q]at e;rw[e]at h;exact absurd h (o4 _)
  rw[cw q]at e;split at e
  ·refine⟨l,u,t2 b,(bw x).2.mp (by simpa using q),by rw[e]⟩
  ·rw[e]at h;exact absurd h (by rw[i4];exact o4 _)
 have i:aJ x=false:=by simpa using u
 cases w:bD x with
 |some p=>
  have e:=da l (by rw[<-aU];exact i) w;unfold gM at e;split at e
  ·exact(a e).elim
  ·split at e
   ·exact(a e).elim
   ·exact(a e).elim
 |none=>
  have e:=eZ l (by rw[<-aU];exact i) w;cases x with
  |nil=>exact(a (k:=au) (n:=1) (e.trans rfl)).elim
  |cons c r=>
   by_cases o:c=64/\ao r=true
   ·obtain⟨rfl,o⟩:=o;rw[gL o]at e;exact(a e).elim
   by_cases m:c=35/\(oneH bdC r=true\/bentL r=true)
   ·obtain⟨rfl,m⟩:=m;rw[gJ m]at e;exact(a e).elim
   by_cases v:c=34\/c=39
   ·right
    rw[gI v]at e;unfold eY at e;split at e
    ·rw[e]at h;exact absurd h (o4 _)
    ·split at e
     ·rename_i g
      exact⟨c,r,rfl,v,g,by rw[e]⟩
     ·rw[e]at h;exact absurd h (o4 _)
   by_cases j:c=47/\r.head?=some 42
   ·obtain⟨rfl,j⟩:=j
    cases r with
    |nil=>cases j
    |cons d t=>
     obtain rfl:=ec j;rw[gK]at e;rw[e]at h;exact absurd h (by rw[i4];exact o4 _)
   rw[fx o m v j]at e;split at e
   ·exact(a e).elim
   ·split at e<;>exact(a e).elim
theorem mY{p:Nat}:∀{c b r1 a:List TRow},c++r1=b++a->(∀y∈c,y.pos=p)->(∀y∈b,y.pos=p)->(∀y∈r1,y.pos≠p)->(∀y∈a,y.pos≠p)->c=b/\r1=a
 |[],[],_,_,e,_,_,_,_=>⟨rfl,e⟩
 |[],y::b,r1,a,e,_,h2,d,_=>absurd (h2 y (.head _)) (d y (by rw[show r1=_ from e];exact .head _))
 |x::c,[],r1,a,e,h1,_,_,h4=>absurd (h1 x (.head _)) (h4 x (by rw[<-show _=a from e];exact .head _))
 |x::c,y::b,r1,a,e,h1,h2,d,h4=>by
  obtain⟨rfl,h⟩:=f4 e;obtain⟨g,f⟩:=mY h (λy m=>h1 y (.tail _ m)) (λy m=>h2 y (.tail _ m)) d h4;exact⟨by rw[g],f⟩
theorem sj{p:Nat}{o o':TokO}(h:rowsAt S p o=rowsAt S p o'):o.rows=o'.rows:=by
 unfold rowsAt at h;refine List.map_inj_right ?_|>.mp h;rintro⟨a,b⟩ ⟨c,d⟩ e;obtain⟨_,_,e1,e2⟩:=TRow.mk.inj e;exact Prod.ext e1 e2
end
variable{rB:List TRow}
section
variable{F1 F2:Nat->List Nat}
theorem nQ{a:List Nat}{p:Nat}(h:p<=a.length):(a++b).drop p=a.drop p++b:=List.drop_append_of_le_length h
theorem ue(b:NB l)(a:bI S)(hl:l≠[]):(lstep l S).1.2.1=(ptok F1 F2 S.head? l).len/\(lstep l S).2=opS (ptok F1 F2 S.head? l).op S:=by
 cases l with
 |nil=>exact absurd rfl hl
 |cons c r=>exact Aq b a
theorem CC{a:List Nat}(u:NB a)(v:ToksR F1 F2 b 0 [] rB)(h:Al F1 F2 b l S):∀{p:Nat}{rW rA:List TRow},l=a.drop p->p<=a.length->bI S->ToksR F1 F2 (a++b) p S rW->ToksR F1 F2 a p S rA->rW=rA++rB.map (dB 0 a.length):=by
 induction h with
 |nil=>
  intro p rW rA e hp _ k m;have j:p=a.length:=by
   have :=ed List.length e;rw[ea,xk]at this;lia
  subst j;rw[gF m,JE];exact xj (l:=a++b) (d:=a.length) (p:=0) (T:=[]) (by rw[t5];exact v) (by rw[g8];lia) k
 |@cons l S hl hT _ t=>
  intro p rW rA e hp o k m;subst e;have i:p<a.length:=by
   apply n7;intro z;exact hl (f6 (by lia))
  obtain⟨r,e1,c⟩:=dz k (by rw[g8];lia);obtain⟨s,e2,g⟩:=dz m i;obtain⟨n,q⟩:=ue (F1:=F1) (F2:=F2) (u.drop p) o hl;have f:=eW F1 F2 S.head? hl;rw[ea]at f;rw[nQ hp,hT]at e1 c;rw[<-n,<-q]at c g;have :=t (p:=p+(lstep (a.drop p) S).1.2.1) (by rw[eo]) (by rw[n];lia) (fW o) c g;rw[e1,e2,this,kv]
theorem ox(hb:b≠[])(d:ToksR F1 F2 b 0 [] rB):∃y r,rB=y::r/\y.pos=0/\y.depth=0:=by
 have h1:0<b.length:=by cases b with|nil=>exact absurd rfl hb|cons c r=>simp
 obtain⟨f,e,_⟩:=dz d h1;have :=A7 (F1:=F1) (F2:=F2) (b.drop 0);unfold rowsAt at e;cases a:(ptok F1 F2 ([]:List Nat).head? (b.drop 0)).rows with
 |nil=>exact absurd a this
 |cons z t=>
  rw[a]at e;exact⟨_,_,e,rfl,rfl⟩
theorem fX{p:Nat}{o:TokO}:∀y∈rowsAt S p o,y.pos=p/\y.depth=S.length:=λy m=>by
 unfold rowsAt at m;obtain⟨z,_,rfl⟩:=nb.mp m;exact⟨rfl,rfl⟩
theorem xf{x:List Nat}(t:bI S)(ab:1<=m)(hx:m<x.length)(Q:NB x)(hl:(x.take m).getLast?≠some 92)(p:(ptok F1 F2 S.head? x).rows=(ptok F1 F2 S.head? (x.take m)).rows)(G:(ptok F1 F2 S.head? x).len<=m):ptok F1 F2 S.head? x=ptok F1 F2 S.head? (x.take m):=by
 cases k:x with
 |nil=>rw[k]at hx;cases hx
 |cons c r=>
  have O:brk c=false->some c≠S.head?:=λh=>pv t (yV h);obtain⟨i,rfl⟩:∃i,m=i+1:=⟨m-1,by lia⟩;by_cases hb:brk c=true
  ·rw[eg,d9 hb,d9 hb]
   exact km _ _ hb
  have o:brk c=false:=by simpa using hb
  by_cases hs:(aV (c::r)).2.2<=i+1
  ·subst k
   rcases oV (F1:=F1) (F2:=F2) (top:=S.head?) hx G (λ_=>hs) O with q|⟨q,_⟩
   ·exact q.symm
   ·exact absurd (og q) hl
  exfalso;subst k;have h1:=(Aq (F1:=F1) (F2:=F2) Q t).1;rw[dP t o]at h1;have u:(aV (c::r)).2.1=(ptok F1 F2 S.head? (c::r)).len:=h1;rcases E3 (x:=c::r) (by lia)with⟨A,w,j,D,e⟩|⟨c',r',e1,hc,h3,e⟩
  ·-- a call named url up to KO quote
   have B:ptok F1 F2 S.head? (c::r)=ay F1 (c::r):=cx A w;have hk:(aC (c::r)).2+1<=i+1:=by
    have h2:(aV (c::r)).2.1=(aC (c::r)).2+1:=by
     rw[u,B];have e4:=dQ A (by rw[<-aU];exact w);rw[cG]at e4;unfold cy at e4;rw[cw (by rw[j];simp)]at e4;have l:=(bw (c::r)).2.mpr D;rw[cw (by rw[l];decide)]at e4;split at e4
     ·have :(aV (c::r)).2.1=(aC (c::r)).2+1:=by rw[e4]
      rw[<-this,u,B]
     ·exfalso
      have :(aV (c::r)).2.1=(aV (c::r)).2.2:=by rw[e4];exact i4
      lia
    lia
   have J:=fS (n:=i+1) w (by lia);have I:aC ((c::r).take (i+1))=aC (c::r):=cr (by lia) λz e=>by rw[e]at j;cases j
   have L:=cM (n:=i+1) A;have ek:=ed (λz:List (List Nat×Told)=>(z.head?.map Prod.fst).getD []) p;have M:k1 (ptok F1 F2 S.head? (c::r))=k1 (ptok F1 F2 S.head? ((c::r).take (i+1))):=ek;have g:=yM (F1:=F1) (F2:=F2) S.head? (c::r);rw[M,<-yM]at g;rw[cx L J,B]at g;have Y:(ay F1 (c::r)).op=.push 41:=by
    have s:=(Aq (F1:=F1) (F2:=F2) Q t).2;rw[dP t o]at s;have H:(aV (c::r)).1=bh:=by
     have e4:=dQ A (by rw[<-aU];exact w);rw[cG]at e4;unfold cy at e4;rw[cw (by rw[j];simp)]at e4;have l:=(bw (c::r)).2.mpr D;rw[cw (by rw[l];decide)]at e4;split at e4
     ·rw[e4]
     ·exfalso
      have :(aV (c::r)).2.1=(aV (c::r)).2.2:=by rw[e4];exact i4
      lia
    have f:41::S=opS (ptok F1 F2 S.head? (c::r)).op S:=by rw[<-s];exact(dt H).symm
    rw[B]at f;cases E:(ay F1 (c::r)).op with
    |stay=>rw[E]at f;exact absurd (ed List.length f) (by show¬S.length+1=S.length;lia)
    |push d=>rw[E]at f;rw[(f4 f).1]
    |pop=>rw[E]at f;exact absurd (ed List.length f) (by show¬S.length+1=S.tail.length;rw[List.length_tail];lia)
   rw[Y]at g;unfold ay at g;dsimp only at g;rw[I,s4 TokO.op,s4 TokO.op]at g;split at g
   ·cases g
   ·split at g
    ·cases g
    ·rename_i g1 g2
     refine g2 ⟨D,?_⟩;rw[cP,td,cz,td];rcases rb (ai ((c::r).drop ((aC (c::r)).2+1))) (i+1-((aC (c::r)).2+1))with z|z
     ·lia
     ·rw[pB z,I1];rfl
  ·-- a string N a v end C
   obtain⟨rfl,rfl⟩:=f4 e1;obtain⟨p1,p2,p3,_⟩:=eR (c:=c) (x:=r.take i) (by lia);obtain⟨V,U,T,_⟩:=eR (c:=c) (x:=r) (by lia);have es:∀y,nA (c::y)->aJ (c::y)=false->bD (c::y)=none->ptok F1 F2 S.head? (c::y)=jM F2 (bx c y):=λy a b d=>by
    rw[cA a b d];show aY F2 S.head? (c::y) c=_;unfold aY;rw[cw (by lia),cw (by lia),cw (by lia),cw (by lia),cw (by lia),cw (O o),cw (by simp;lia),dt hc];rfl
   rw[eg,es _ p1 p2 p3,es _ V U T]at p;obtain⟨v',hv⟩:=(ew c r).pre (n:=i) (by lia) (λz=>by lia);rw[ug hc hv]at p;unfold jM at p;rw[h3]at p;exact absurd (ed List.length p) (by simp)
theorem A8{a:List Nat}(hb:b≠[])(J:NB a)(G:NB b)(hl:a.getLast?≠some 92)(hB:ToksR F1 F2 b 0 [] rB):∀(n:Nat){p:Nat}{S:List Nat}{rW rA:List TRow},a.length-p<=n->p<=a.length->bI S->ToksR F1 F2 (a++b) p S rW->ToksR F1 F2 a p S rA->rW=rA++rB.map (dB 0 a.length)->Al F1 F2 b (a.drop p) S:=by
 obtain⟨y,O,L,N,M⟩:=ox hb hB;have ab:1<=b.length:=by cases b with|nil=>exact absurd rfl hb|cons c r=>simp
 have T:(a++b).length=a.length+b.length:=g8;have D:∀z∈rB.map (dB 0 a.length),a.length<=z.pos:=λz m=>by
  obtain⟨w,_,rfl⟩:=nb.mp m;exact tj _ _
 have hy:dB 0 a.length y∈rB.map (dB 0 a.length):=nb.mpr ⟨y,by rw[L];exact .head _,rfl⟩;have k:(dB 0 a.length y).pos=a.length:=by show a.length+y.pos=_;rw[N];rfl
 intro n;induction n with
 |zero=>
  intro p S rW rA U hp s v A e;have o:p=a.length:=by lia
  subst o;rw[pa];rw[gF A,JE]at e;obtain⟨j,e1,d⟩:=dz v (by lia);rw[e,L]at e1;have f:(a++b).drop a.length≠[]:=by rw[t5];exact hb
  have q:=(eW F1 F2 S.head? f).1;have E:S.length=0:=by
   cases B:rowsAt S a.length (ptok F1 F2 S.head? ((a++b).drop a.length))with
   |nil=>
    rw[B]at e1;have :=(d8 d).2 (dB 0 a.length y) (by rw[JE]at e1;rw[<-e1];exact .head _);rw[k]at this;lia
   |cons z t=>
    rw[B]at e1;have e2:=(f4 e1).1;have :=(fX z (by rw[B];exact .head _)).2;rw[<-this,<-e2];show 0+y.depth=0;rw[M]
  rw[on.mp E];exact .nil
 |succ n I=>
  intro p S rW rA U hp s v A e;by_cases o:p=a.length
  ·exact I (by lia) hp s v A e
  have C:p<a.length:=by lia
  have f:a.drop p≠[]:=λz=>by
   have :=ed List.length z;rw[ea,xk]at this;lia
  obtain⟨j,e1,d⟩:=dz v (by lia);obtain⟨Q,e2,i⟩:=dz A C;rw[nQ hp]at e1 d;have Y:=(eW F1 F2 S.head? (l:=a.drop p++b) (by simp[f])).1;have aa:=eW F1 F2 S.head? f;have key:=mY (p:=p) (e1.symm.trans (e.trans (by rw[e2,kv]))) (λy m=>(fX y m).1) (λy m=>(fX y m).1)
   (λy m=>by have :=((d8 d).2 y m).1;lia)
   (λy m=>by
    rcases j2.mp m with m|m
    ·have :=((d8 i).2 y m).1;lia
    ·have :=D y m;lia)
  have h:=sj key.1;have V:(ptok F1 F2 S.head? (a.drop p++b)).len<=a.length-p:=by
   have h1:dB 0 a.length y∈j:=by rw[key.2];exact s5 _ hy
   have :=((d8 d).2 _ h1).1;rw[k]at this;lia
  have g:(a.drop p).getLast?≠some 92:=by rw[Jg,cw (by lia)];exact hl
  have q:(a.drop p).length=a.length-p:=ea;have hT:=xf (F1:=F1) (F2:=F2) (x:=a.drop p++b) (m:=(a.drop p).length) s (by lia) (by rw[g8];lia) (tH (J.drop p) G g) (by rw[pc];exact g) (by rw[pc];exact h) (by lia);rw[pc]at hT;refine .cons f hT ?_;obtain⟨u,H⟩:=ue (F1:=F1) (F2:=F2) (J.drop p) s f;rw[hT,<-u,<-H]at d;rw[<-u,<-H]at i;have :=I (p:=p+(lstep (a.drop p) S).1.2.1) (by rw[u];lia) (by rw[u];lia) (fW s) d i key.2;rwa [<-eo]at this
end
section
variable{F1 F2:Nat->List Nat}
theorem Ax{v:List Nat}{e:Nat}(h:StrR q l v k e)(b:e=1):NB2 l k->∀{i:Nat},i+1=k->l[i]?≠some 92:=by
 induction h with
 |eof=>cases b
 |shut=>cases b
 |bad=>exact λ_ _ h=>by cases h
 |escEnd=>cases b
 |@escNl r v k e _ d=>
  intro a i m z;cases i with
  |zero=>lia
  |succ i=>
   cases i with
   |zero=>cases z
   |succ i=>exact d b (eX (x:=92::10::r) (n:=2) a) (by lia) z
 |@esc c r v k e _ _ d=>
  intro a i m z;have hp:=vb (r:=c::r) (by simp);cases i with
  |zero=>lia
  |succ j=>
   by_cases o:j<(escOf (c::r)).2
   ·exact tW (r:=c::r) a (by lia) o z
   ·refine d b (eX (x:=92::c::r) (n:=1+(escOf (c::r)).2) a|>λf=>?_) (i:=j-(escOf (c::r)).2) (by lia) ?_
    ·rw[sl]at f;exact f
    ·rw[gf,show(escOf (c::r)).2+(j-(escOf (c::r)).2)=j by lia];exact z
 |@ch c r v k e _ g _ _ d=>
  intro a i m z;cases i with
  |zero=>exact g (ec z)
  |succ i=>exact d b (eX (x:=c::r) (n:=1) (by rw[sl];exact a)) (by lia) z
theorem Fu{x:List Nat}(hS:bI S)(a:i+1=(ptok F1 F2 S.head? x).len)(hx:i+1<x.length)(h:x[i]?=some 92)(V:NB2 x (i+1)):i=0/\k1 (ptok F1 F2 S.head? x)=tLit/\(ptok F1 F2 S.head? x).rows≠[]:=by
 have f:∀{y:List Nat}{o:Nat},o+(aC y).2=i+1->y=x.drop o->1<=(aC y).2->False:=λ{y o}e1 e2 e3=>by
  have hl:y.length=x.length-o:=by rw[e2,ea]
  refine nF (bq y) (i:=(aC y).2-1) (by lia) (by lia) ?_ ?_
  ·rw[e2]at e1⊢;exact eX (by rw[e1];exact V)
  ·rw[e2]at e1⊢
   rw[gf,show o+((aC (x.drop o)).2-1)=i by rw[e2]at e3;lia];exact h
 have m:∀{o c:Nat},o=i->(x.drop o).head?=some c->c=92:=λ{o c}e1 e2=>by
  rw[e1,yc,h]at e2;exact(ec e2).symm
 by_cases h0:oneH isBl x=true
 ·rw[gu h0]at a
  have :=AA (l:=x) (j:=i) (by have :i+1=ai x:=a;lia);rw[tB h]at this;cases this
 have D:oneH isBl x=false:=by simpa using h0
 by_cases u:rangeC x
 ·exfalso
  rw[fw D u]at a;have b:i+1=2+(b8 (x.drop 2)).2.2:=a;have hy:=u.2.2;have hq:=u.2.1;have B:=un (x.drop 2);by_cases z:i<2
  ·obtain rfl|rfl:i=0\/i=1:=by lia
   ·lia
   ·rw[yc,h]at hq;cases hq
  ·have :=gb.mp B 92 (by
    refine xd.mpr ⟨i-2,?_⟩;rw[hQ (by lia),gf,show 2+(i-2)=i by lia];exact h)
   cases this
 by_cases ha:x.take 3=[45,45,62]
 ·exfalso
  rw[j6 D u ha]at a;have b:i+1=3:=a;have :(x.take 3)[i]?=some 92:=by rw[hQ (by lia)];exact h
  rw[ha,show i=2 by lia]at this;cases this
 have J:nA x:=⟨D,u,ha⟩;by_cases A:aJ x=true
 ·exfalso
  rw[cx J A]at a;have hg:=ej A;unfold ay at a;dsimp only at a;by_cases C:(x.drop (aC x).2).head?≠some 40
  ·rw[dt C]at a
   have b:i+1=(aC x).2:=a;exact f (y:=x) (o:=0) (by lia) rfl hg
  rw[cw C]at a;have H:=t2 C;split at a
  ·rename_i g
   have b:i+1=(aC x).2+1+(eG (x.drop ((aC x).2+1))).2.1:=a;obtain⟨j,j1,T⟩:=uY (jX g.2) (by rw[ea];lia);rw[gf,show(aC x).2+1+j=i by lia,h]at T;cases T
  ·have b:i+1=(aC x).2+1:=a
   have :=m (o:=(aC x).2) (by lia) H;cases this
 have w:aJ x=false:=by simpa using A
 cases I:bD x with
 |some p=>
  exfalso;rw[dN J w I]at a;unfold d7 at a;split at a
  ·rename_i g
   exact f (o:=p.1) (show p.1+(aC (x.drop p.1)).2=i+1 from a.symm) rfl (ej g)
  ·split at a
   ·rename_i g
    have b:i+1=p.1+1:=a;have :=m (o:=p.1) (by lia) g;cases this
   ·have b:i+1=p.1:=a
    have :=gb.mp (mr I) 92 (xd.mpr ⟨i,by rw[hQ (by lia)];exact h⟩);cases this
 |none=>
  cases x with
  |nil=>cases h
  |cons c r=>
   have L:ptok F1 F2 S.head? (c::r)=aY F2 S.head? (c::r) c:=cA J w I;rw[L]at a⊢;have zero:∀{d:Nat},c=d->d≠92->i=0->False:=λe1 e2 e3=>by
    subst e3;exact e2 (e1.symm.trans (ec h))
   have one:∀v:List Nat,i+1=(fZ v).len->v=[c]->i=0/\k1 (fZ v)=tLit/\(fZ v).rows≠[]:=λv e1 e2=>by
    subst e2;have :i+1=1:=e1;exact⟨by lia,rfl,λq=>by cases q⟩
   by_cases c1:c=64
   ·subst c1
    rw[fR]at a⊢;by_cases g:aJ r=true
    ·rw[dt g]at a
     exact(f (o:=1) (show 1+(aC r).2=i+1 from a.symm) rfl (ej g)).elim
    ·rw[cw g]at a⊢;exact one _ a rfl
   by_cases c2:c=35
   ·subst c2
    rw[fQ]at a⊢;by_cases g:oneH bdC r=true\/bentL r=true
    ·rw[dt g]at a
     exact(f (o:=1) (show 1+(aC r).2=i+1 from a.symm) rfl (jo g)).elim
    ·rw[cw g]at a⊢;exact one _ a rfl
   unfold aY at a⊢;rw[cw c1,cw c2]at a⊢;have step:∀{P:Prop}[Decidable P]{o o':TokO},(P->o.len=1/\c≠92)->i+1=(if P then o else o').len->¬P/\i+1=o'.len:=λ{P}_{o o'}g e=>by
    by_cases q:P
    ·rw[dt q,(g q).1]at e
     exact(zero rfl (g q).2 (by lia)).elim
    ·rw[cw q]at e;exact⟨q,e⟩
   obtain⟨q1,a⟩:=step (λq=>⟨rfl,by lia⟩) a;rw[cw q1];obtain⟨q2,a⟩:=step (λq=>⟨rfl,by lia⟩) a;rw[cw q2];obtain⟨q3,a⟩:=step (λq=>⟨rfl,by lia⟩) a;rw[cw q3];obtain⟨q4,a⟩:=step (λq=>⟨rfl,λz=>by
    subst z;cases S with
    |nil=>cases q
    |cons d t=>
     have :=ec q;rcases hS d (.head _)with y|y|y<;>lia⟩) a
   rw[cw q4];obtain⟨q5,a⟩:=step (λq=>⟨rfl,λz=>by subst z;exact absurd q (by decide)⟩) a;rw[cw q5];by_cases c3:c=34\/c=39
   ·exfalso
    rw[dt c3]at a;have b:i+1=1+(bx c r).2.1:=a;have B:=ew c r;generalize bx c r=s at b B;have hl:i+1<r.length+1:=hx;cases i with
    |zero=>exact zero rfl (by lia) rfl
    |succ j=>
     have U:r[j]?=some 92:=h;by_cases L:s.2.2=0
     ·obtain⟨t,t1,Q⟩:=ql B L
      rw[show t=j by lia,U]at Q;have :=ec Q;lia
     by_cases e1:s.2.2=1
     ·exact Ax B e1 (eX (x:=c::r) (n:=1) (by rw[<-b];exact V)) (i:=j) (by lia) U
     ·have key:∀{q:Nat}{l v:List Nat}{k e:Nat},StrR q l v k e->e=0\/e=1\/e=2:=λh=>by
       induction h with
       |eof=>exact .inr (.inr rfl)
       |shut=>exact .inl rfl
       |bad=>exact .inr (.inl rfl)
       |escEnd=>exact .inr (.inr rfl)
       |escNl _ G=>exact G
       |esc _ _ G=>exact G
       |ch _ _ _ _ G=>exact G
      have e2:s.2.2=2:=by rcases key B with z|z|z<;>lia
      have :=B.end e2;lia
   rw[cw c3]at a⊢;by_cases E:((c::r).drop 1).head?=some 42/\c=47
   ·exfalso
    rw[dt E]at a;unfold iV at a;obtain⟨E,rfl⟩:=E;cases r with
    |nil=>cases E
    |cons d t=>
     obtain rfl:=ec E;rw[show(47::42::t).drop 2=t from rfl]at a;cases u:ca t with
     |none=>
      rw[u]at a;have :i+1=(47::42::t).length:=a;lia
     |some j=>
      rw[u]at a;have b:i+1=j+4:=a;have h1:=jd t;rw[u]at h1;have h3:t[j+1]?=some 92:=by rw[show i=j+1+2 by lia]at h;exact h
      have Y:((t.drop j).take 2)[1]?=some 47:=by rw[h1.1];rfl
      rw[hQ (by decide),gf,h3]at Y;cases Y
   rw[cw E]at a⊢;by_cases O:(c::r).take 4=[60,33,45,45]
   ·exfalso
    rw[dt O]at a;have b:i+1=4:=a;have :((c::r).take 4)[i]?=some 92:=by rw[hQ (by lia)];exact h
    rw[O,show i=3 by lia]at this;cases this
   rw[cw O]at a⊢;by_cases N:(c::r).take 2=[124,124]
   ·exfalso
    rw[dt N]at a;have b:i+1=2:=a;have :((c::r).take 2)[i]?=some 92:=by rw[hQ (by lia)];exact h
    rw[N,show i=1 by lia]at this;cases this
   rw[cw N]at a⊢;by_cases M:([126,124,94,36,42]:List Nat).contains c=true
   ·exfalso
    rw[dt M]at a;split at a
    ·rename_i g
     have b:i+1=2:=a;have :=m (o:=1) (by lia) g;cases this
    ·have b:i+1=1:=a
     refine zero rfl (λz=>?_) (by lia);subst z;exact absurd M (by decide)
   rw[cw M]at a⊢;exact one _ a rfl
end
variable{rA:List TRow}{rW:List TRow}
section
variable{F1 F2:Nat->List Nat}
theorem xw{x:List Nat}(a:bI S):bI (opS (ptok F1 F2 top x).op S):=by
 have push:∀d,(d=41\/d=93\/d=125)->bI (opS (.push d) S):=λd h c m=>by
  rcases l9.mp m with rfl|m
  ·exact h
  ·exact a c m
 rw[yM];unfold opG;refine aN (P:=λo=>bI (opS o S)) (λ_=>push _ (.inl rfl)) λ_=>aN (P:=λo=>bI (opS o S)) (λ_=>push _ (.inr (.inr rfl))) λ_=>aN (P:=λo=>bI (opS o S)) (λ_=>push _ (.inr (.inl rfl))) λ_=>aN (P:=λo=>bI (opS o S)) (λ_=>push _ (.inl rfl)) λ_=>aN (P:=λo=>bI (opS o S)) (λ_=>λc m=>a c (List.mem_of_mem_tail m)) λ_=>a
theorem Dv{w:List Nat}{y:TRow}(hy:y.pos=n){p:Nat}(h:ToksR F1 F2 w p S rW):bI S->y∈rW->p<n->∃a S',bI S'/\a<n/\a+(ptok F1 F2 S'.head? (w.drop a)).len=n/\∀z∈rowsAt S' a (ptok F1 F2 S'.head? (w.drop a)),z∈rW:=by
 induction h with
 |nil=>exact λ_ m=>by cases m
 |@cons p S rows hp q d=>
  intro c m f;rcases j2.mp m with m|m
  ·have :=(fX y m).1
   lia
  ·have b:=((d8 q).2 y m).1
   by_cases e:p+(ptok F1 F2 S.head? (w.drop p)).len=n
   ·exact⟨p,S,c,f,e,λz h=>JZ _ h⟩
   ·obtain⟨a,S',h1,h2,g,h4⟩:=d (xw c) m (by lia)
    exact⟨a,S',h1,h2,g,λz h=>s5 _ (h4 z h)⟩
theorem C9{w:List Nat}{y:TRow}{p:Nat}(h:ToksR F1 F2 w p S rW):y∈rW->∃S':List Nat,y∈rowsAt S' y.pos (ptok F1 F2 S'.head? (w.drop y.pos)):=by
 induction h with
 |nil=>exact λm=>by cases m
 |@cons p S rows hp q a=>
  intro m;rcases j2.mp m with m|m
  ·have :=(fX y m).1
   rw[this];exact⟨S,m⟩
  ·exact a m
theorem A9{a:List Nat}(hb:b≠[])(O:NB a)(hl:a.getLast?=some 92)(M:ToksR F1 F2 (a++b) 0 [] rW)(T:ToksR F1 F2 a 0 [] rA)(Q:ToksR F1 F2 b 0 [] rB)(e:rW=rA++rB.map (dB 0 a.length)):False:=by
 obtain⟨y,H,Y,D,_⟩:=ox hb Q;have J:1<=b.length:=by cases b with|nil=>exact absurd rfl hb|cons c r=>simp
 have L:1<=a.length:=by cases a with|nil=>cases hl|cons c r=>simp
 have hmem:dB 0 a.length y∈rW:=by rw[e,Y];exact s5 _ (.head _)
 obtain⟨d,S',N,hp,h,f⟩:=Dv (n:=a.length) (by show a.length+y.pos=_;rw[D];rfl) M (λc m=>by cases m) hmem (by lia);rw[nQ (by lia)]at h f;have g:(a.drop d++b)[a.length-1-d]?=some 92:=by
  rw[n6 (by rw[ea];lia),gf,show d+(a.length-1-d)=a.length-1 by lia];exact fG hl (by lia)
 obtain⟨h1,h2,U⟩:=Fu (F1:=F1) (F2:=F2) N (i:=a.length-1-d) (by lia) (by rw[g8,ea];lia) g (λj hj C B=>by
  rw[n6 (by rw[ea];lia),gf]at C B;exact O _ C B)
 have s:d=a.length-1:=by lia
 cases p:(ptok F1 F2 S'.head? (a.drop d++b)).rows with
 |nil=>exact U p
 |cons z t=>
  have hk:z.1=tLit:=by
   unfold k1 at h2;rw[p]at h2;exact h2
  have A:(⟨S'.length,d,z.1,z.2⟩:TRow)∈rW:=f _ (by unfold rowsAt;rw[p];exact .head _);rw[e]at A;rcases j2.mp A with m|m
  ·obtain⟨v,I⟩:=C9 T m
   have u:a.drop d=[92]:=by
    rw[s,e9 (by lia),f6 (by lia)];have :=fG hl (i:=a.length-1) (by lia);rw[fg (by lia)]at this;rw[ec this]
   have k:nA [92]:=⟨rfl,(λq=>by cases q.1),by decide⟩;have V:ptok F1 F2 v.head? (a.drop d)=bn tIdent (.one (.str (aC [92]).1)) 1:=by rw[u,cx k bs1.1,jf F1 bs1.2.1];rfl
   have o:(⟨S'.length,d,z.1,z.2⟩:TRow)∈rowsAt v d (ptok F1 F2 v.head? (a.drop d)):=I;rw[V]at o;unfold rowsAt at o;obtain⟨w,G,l⟩:=nb.mp o;have E:w=(tIdent,.one (.str (aC [92]).1)):=by simpa [bn]using G
   have x:w.1=z.1:=(TRow.mk.inj l).2.2.1;rw[E,hk]at x;exact absurd x (by decide)
  ·obtain⟨w,_,l⟩:=nb.mp m
   have :a.length+w.pos=d:=(TRow.mk.inj l).2.1;lia
theorem vz{a:List Nat}(ha:a≠[])(hb:b≠[])(f:NB a)(d:NB b)(l:9∉b)(h:ToksR F1 F2 (a++b) 0 [] rW)(j:ToksR F1 F2 a 0 [] rA)(i:ToksR F1 F2 b 0 [] rB):
  rW=rA++rB.map (dB 0 a.length)↔Fin3 a [] []/\∀k bf raw,LastR [] a [] k bf raw->bO k bf raw b=true:=by
 have g:bI []:=λc m=>by cases m
 constructor
 ·intro e
  by_cases hl:a.getLast?=some 92
  ·exact(A9 hb f hl h j i e).elim
  ·have :=A8 hb f d hl i _ (p:=0) (ep _) (oL _) g h j e
   obtain⟨h1,h2⟩:=GW hb d this g f;refine⟨h1,λk bf raw q=>?_⟩;rcases h2 _ _ _ _ q with z|⟨_,_,z⟩
   ·exact z
   ·rcases z with⟨_,z,_⟩|⟨_,z,_⟩
    ·rcases z with z|z<;>cases z
    ·cases z
 ·rintro⟨h1,h2⟩
  exact CC f i (GX (F1:=F1) (F2:=F2) hb d l _ (ep _) g f h1 h2) (p:=0) rfl (oL _) g h j
theorem Bc{r a:TRow}(h:cX l 0 1 1 r=cX l 0 1 1 a)(h1:r.pos<=l.length)(h2:a.pos<=l.length):r=a:=by
 obtain⟨e1,e2,e3,e4,e5⟩:=Key.mk.inj h;have hp:r.pos=a.pos:=by
  have k:∀{p q:Nat},p<q->q<=l.length->((place (l.take p)).1,(place (l.take p)).2)≠((place (l.take q)).1,(place (l.take q)).2):=λ{p q}h h' e=>by
   obtain⟨d,rfl⟩:∃d,q=p+d:=⟨q-p,by lia⟩;have :=(place_lt (l:=l) (d:=p) (p:=d) (by lia) h').2 (v1 e).1;have :=(v1 e).2;lia
  have f:(place (l.take r.pos)).1=(place (l.take a.pos)).1:=by
   have g:(((place (l.take r.pos)).1:Nat):Int)+((1:Nat):Int)-1=(((place (l.take a.pos)).1:Nat):Int)+((1:Nat):Int)-1:=e2;lia
  have c:(place (l.take r.pos)).2=(place (l.take a.pos)).2:=by
   have b:((place (l.take r.pos)).2:Int)+(if(place (l.take r.pos)).1=1 then((1:Nat):Int)-1 else 0)=((place (l.take a.pos)).2:Int)+(if(place (l.take a.pos)).1=1 then((1:Nat):Int)-1 else 0):=e3;split at b<;>split at b<;>lia
  rcases Nat.lt_trichotomy r.pos a.pos with z|z|z
  ·exact absurd (by rw[f,c]) (k z h2)
  ·exact z
  ·exact absurd (by rw[f,c]) (k z h1)
 cases r;cases a;simp only[TRow.mk.injEq];exact⟨by simpa using e1,hp,e4,e5⟩
theorem yq{a:List TRow}(h1:∀r∈rs,r.pos<=l.length)(h2:∀r∈a,r.pos<=l.length):rs.map (cX l 0 1 1)=a.map (cX l 0 1 1)↔rs=a:=by
 constructor
 ·intro h
  induction rs generalizing a with
  |nil=>cases a with|nil=>rfl|cons=>cases h
  |cons r rs c=>
   cases a with
   |nil=>cases h
   |cons b a=>
    obtain⟨e1,e2⟩:=f4 h;rw[Bc e1 (h1 r (.head _)) (h2 b (.head _)),c (λy m=>h1 y (.tail _ m)) (λy m=>h2 y (.tail _ m)) e2]
 ·rintro rfl;rfl
end
section
variable{F1 F2:Nat->List Nat}
theorem xu(bf raw t:List Nat):cH bf raw (47::42::t)=true:=by
 unfold cH;rw[show(47::42::t:List Nat).headD 0=47 from rfl];have e1:(!ao (47::42::t))=true:=rfl;have e2:(!(bdC 47||bentL (47::42::t)))=true:=rfl;repeat' split
 ·exact e1
 ·exact e2
 ·rfl
 ·rw[f3]
  ·rfl
  ·rintro((z|⟨z,_⟩)|⟨_,z⟩)<;>exact absurd z (by decide)
 ·rfl
 ·rfl
 ·rfl
 ·rfl
 ·rw[f3]
  ·rfl
  ·exact λz=>by cases(f4 z).1
 ·rw[f3]
  ·rfl
  ·exact λz=>by cases(f4 z.2).1
 ·rfl
theorem Aj{k:List Nat}(hk:k≠bA)(hl:raw.getLast?≠some 92):bO k bf raw (47::42::t)=true:=by
 unfold bO;rw[cw hk,show(47::42::t:List Nat).headD 0=47 from rfl];repeat' split
 ·rfl
 ·unfold ck
  rw[show(47::42::t:List Nat).headD 0=47 from rfl,cw (by show¬(false||(false||raw.getLast?==some 92))=true;simpa using hl),cw (by show¬(false&&_)=true;simp),cw (λz=>by rcases z.2 with y|y;exact absurd y (by decide);exact absurd y.2 (by decide)),cw (λz=>absurd z.2.2.1 (by decide)),cw (λz=>absurd z.2.1 (by decide))]
 ·rename_i h;exact absurd h (by show¬(ao (47::42::t)||_)=true;exact(by decide:¬false=true))
 ·rw[f3]
  ·rfl
  ·exact λz=>absurd z.2.1 (by decide)
 ·unfold bz
  rw[show(47::42::t:List Nat).headD 0=47 from rfl];repeat' split
  ·rw[f3]
   ·rfl
   ·exact λz=>absurd z.1 (by decide)
  ·rw[f3]
   ·rfl
   ·exact λz=>absurd z.1 (by decide)
  ·rename_i h;exact absurd h.1 (by decide)
  ·rw[f3]
   ·rfl
   ·rintro⟨z|z,_⟩<;>exact absurd z (by decide)
 ·exact xu bf raw t
 ·rfl
theorem mS{p:Nat}{r a:List TRow}(h:ToksR F1 F2 l p S r)(h':ToksR F1 F2 l p S a):r=a:=by
 induction h generalizing a with
 |nil=>exact(gF h').symm
 |cons hp _ b=>
  obtain⟨KC,e,q⟩:=dz h' hp;rw[e,b q]
theorem wd{a:List Nat}(c:ToksR F1 F2 a 0 [] rA):rA.map (cX a 0 1 1)++rB.map (cX b 0 (place a).1 (place a).2)=(rA++rB.map (dB 0 a.length)).map (cX (a++b) 0 1 1):=by
 rw[qi,List.map_map];congr 1
 ·refine It λr m=>?_
  have :=Bd (l:=a++b) (cut:=a.length) ((d8 c).2 r m).2;rwa[pc]at this
 ·refine It λr _=>?_
  have :=k7 (l:=a++b) (D:=0) (d:=a.length) r;rw[t5,pc]at this;exact this.symm
def f8(a b:List Nat):Prop:=(a=[]\/b=[])\/(Fin3 a [] []/\∀k bf raw,LastR [] a [] k bf raw->bO k bf raw b=true)
theorem m7{a:List Nat}(j:NB a)(g:NB b)(k:9∉b)(d:ToksR F1 F2 (a++b) 0 [] rW)(c:ToksR F1 F2 a 0 [] rA)(e:ToksR F1 F2 b 0 [] rB):
  rW.map (cX (a++b) 0 1 1)=rA.map (cX a 0 1 1)++rB.map (cX b 0 (place a).1 (place a).2)↔f8 a b:=by
 by_cases ha:a=[]
 ·subst ha
  rw[gF c,mS d e];exact⟨λ_=>.inl (.inl rfl),λ_=>rfl⟩
 by_cases hb:b=[]
 ·subst hb
  rw[gF e];have f:ToksR F1 F2 a 0 [] rW:=by rwa[m4]at d
  rw[mS f c,m4];exact⟨λ_=>.inl (.inr rfl),λ_=>by rw[List.map_nil,m4]⟩
 rw[wd c];rw[yq (λr m=>((d8 d).2 r m).2) (λr m=>?_),vz ha hb j g k d c e]
 ·exact⟨.inr,λh=>h.resolve_left λz=>z.elim ha hb⟩
 ·rw[g8]
  rcases j2.mp m with m|m
  ·have :=((d8 c).2 r m).2;lia
  ·obtain⟨w,i,rfl⟩:=nb.mp m
   have :=((d8 e).2 w i).2;show a.length+w.pos<=_;lia
theorem nf(g:ToksR F1 F2 b 0 [] rB):ToksR F1 F2 (47::42::42::47::b) 0 [] (⟨0,0,tComment,.one (.str [])⟩::rB.map (dB 0 4)):=by
 have e:ptok F1 F2 ([]:List Nat).head? ((47::42::42::47::b).drop 0)=bn tComment (.one (.str [])) 4:=by
  obtain⟨p1,p2,p3,_⟩:=eR (c:=47) (x:=42::42::47::b) (by lia);show ptok F1 F2 none (47::42::42::47::b)=_;rw[cA p1 p2 p3];show aY F2 none (47::42::42::47::b) 47=_;unfold aY;(iterate 5 rw[cw (by decide)]);rw[cw (λz=>by cases z),cw (by decide),cw (by decide),dt ⟨rfl,rfl⟩];unfold iV;rw[show ca ((47::42::42::47::b).drop 2)=some 0 from dt ⟨rfl,rfl⟩];rfl
 have key:∀{p:Nat}{S:List Nat}{r:List TRow},ToksR F1 F2 b p S r->ToksR F1 F2 (47::42::42::47::b) (4+p) S (r.map (dB 0 4)):=λh=>by
  induction h with
  |nil=>
   have :(47::42::42::47::b).length=4+b.length:=by simp;lia
   rw[<-this];exact .nil
  |@cons p S rows hp _ a=>
   have f:(47::42::42::47::b).drop (4+p)=b.drop p:=by rw[sl];rfl
   rw[<-k4,<-f]at a;have :=ToksR.cons (F1:=F1) (F2:=F2) (J8:=47::42::42::47::b) (p:=4+p) (S:=S) (by simp;lia) a;rw[f]at this;rw[qi];have i:rowsAt S (4+p) (ptok F1 F2 S.head? (b.drop p))=(rowsAt S p (ptok F1 F2 S.head? (b.drop p))).map (dB 0 4):=by
    have :=mi (S:=[]) (T:=S) (p:=p) (d:=4) (ptok F1 F2 S.head? (b.drop p));rwa [m4]at this
   rw[<-i];exact this
 have :=ToksR.cons (F1:=F1) (F2:=F2) (J8:=47::42::42::47::b) (p:=0) (S:=[]) (by simp) (by rw[e];exact key g);rw[e]at this;exact this
def lO(a:List Nat):Prop:=a=[]\/(Fin3 a [] []/\a.getLast?≠some 92/\∀k bf raw,LastR [] a [] k bf raw->k≠bA)
theorem rR{k bf':List Nat}(h:LastR bf l S k bf' raw):l≠[]->raw≠[]/\raw.getLast?=l.getLast?:=by
 induction h with
 |one=>exact λh=>⟨h,rfl⟩
 |@more bf l S k bf' raw hl _ a=>
  intro b;obtain⟨h1,h2⟩:=a (λz=>by
   have :=ed List.length z;rw[ea,xk]at this;lia)
  refine⟨h1,h2.trans ?_⟩;rw[Jg,cw (by lia)]
theorem sd(a b:List Nat):f8 a (47::42::b)↔lO a:=by
 by_cases ha:a=[]
 ·exact⟨λ_=>.inl ha,λ_=>.inl (.inl ha)⟩
 constructor
 ·rintro((h|h)|⟨h1,h2⟩)
  ·exact absurd h ha
  ·cases h
  ·refine .inr ⟨h1,λhl=>?_,λk bf raw q e=>?_⟩
   ·obtain⟨k,bf,raw,q⟩:=rU a [] [] ha
    have :=ud (b:=47::42::b) _ (ep _) (show bI []from λc m=>by cases m) hl _ _ _ _ q;rw[h2 _ _ _ q]at this;cases this
   ·have :=h2 _ _ _ q
    rw[e,jZ]at this;cases this
 ·rintro(h|⟨h1,h2,d⟩)
  ·exact absurd h ha
  ·exact .inr ⟨h1,λk bf raw q=>Aj (d _ _ _ q) (by rw[(rR q ha).2];exact h2)⟩
end
inductive ScanF(J8:List Nat):Nat->List Nat->List Prt->List Nat->Prop
 |nil{S:_}:ScanF J8 J8.length S [] S
 |cons{p S rows S':_}:p<J8.length->ScanF J8 (p+(lstep (J8.drop p) S).1.2.1) (lstep (J8.drop p) S).2 rows S'->ScanF J8 p S (prtOf p (lstep (J8.drop p) S).1 S.length::rows) S'
theorem qM{p:Nat}(h:p<J8.length):J8.drop p≠[]:=λe=>by
 have :=List.drop_eq_nil_iff.mp e;lia
theorem Bm{A:List Nat}(h:Fin3 l S A):∀{B:List Nat},Fin3 l S B->A=B:=by
 induction h with
 |nil=>intro B q;exact kT q
 |cons hl _ a=>
  intro B q;cases q with
  |nil=>exact absurd rfl hl
  |cons _ q=>exact a q
theorem rT{k:List Nat}(h:LastR bf l S k b raw):∀{c b' a:List Nat},LastR bf l S c b' a->c=k/\b'=b/\a=raw:=by
 induction h with
 |one e=>
  intro c b' a q;cases q with
  |one=>exact⟨rfl,rfl,rfl⟩
  |more q=>lia
 |more e _ d=>
  intro c b' a q;cases q with
  |one q=>lia
  |more _ q=>exact d q
theorem v7{p:Nat}{rows:List Prt}(h:ScanF J8 p S rows S'):Fin3 (J8.drop p) S S':=by
 induction h with
 |nil=>rw[pa];exact .nil
 |cons hp _ a=>exact .cons (qM hp) (by rw[eo];exact a)
noncomputable def l0(J8 bf:List Nat)(rows:List Prt):List Nat:=match rows.dropLast.getLast? with
 |none=>bf
 |some Q=>(J8.drop Q.k).take (Q.m-Q.k)
theorem mf{p:Nat}{rows:List Prt}(h:ScanF J8 p S rows S'):∀(bf:List Nat),p<J8.length->∃P,rows.getLast?=some P/\LastR bf (J8.drop p) S P.kind (l0 J8 bf rows) (J8.drop P.k):=by
 induction h with
 |nil=>intro bf h;lia
 |@cons p S rows S' hp a b=>
  intro bf _;have hl:=fT (S:=S) (qM hp);have hd:(J8.drop p).length=J8.length-p:=ea;rcases rb (p+(lstep (J8.drop p) S).1.2.1) J8.length with z|z
  ·obtain⟨P,h1,h2⟩:=b ((J8.drop p).take (lstep (J8.drop p) S).1.2.1) z
   cases rows with
   |nil=>exact absurd h1 (by simp)
   |cons R rows=>
    refine⟨P,by rw[r4];exact h1,.more (by lia) ?_⟩;rw[eo];have e:l0 J8 bf (prtOf p (lstep (J8.drop p) S).1 S.length::R::rows)=l0 J8 ((J8.drop p).take (lstep (J8.drop p) S).1.2.1) (R::rows):=by
     cases rows with
     |nil=>simp[l0,prtOf]
     |cons T rows=>simp[l0,List.dropLast,List.getLast?_cons]
    rw[e];exact h2
  ·have c:rows=[]:=by
    generalize p+(lstep (J8.drop p) S).1.2.1=q at a z;generalize(lstep (J8.drop p) S).2=T at a;cases a with
    |nil=>rfl
    |cons q _=>lia
   subst c;exact⟨_,rfl,.one (by lia)⟩
theorem rz{a:List Nat}{rows:List Prt}(h:ScanF a 0 [] rows S'):Fin3 a [] []↔S'=[]:=by
 have q:=v7 h;rw[pu]at q;exact⟨λz=>Bm q z,λe=>e▸q⟩
theorem lR{a:List Nat}{rows:List Prt}(h:ScanF a 0 [] rows S')(ha:a≠[]):
  ∃P,rows.getLast?=some P/\(∀b,f8 a b↔b=[]\/(S'=[]/\bO P.kind (l0 a [] rows) (a.drop P.k) b=true))/\
   (lO a↔S'=[]/\a.getLast?≠some 92/\P.kind≠bA):=by
 obtain⟨P,h1,h2⟩:=mf h [] (List.length_pos_iff.mpr ha);rw[pu]at h2;refine⟨P,h1,λb=>?_,?_⟩
 ·unfold f8
  rw[rz h];constructor
  ·rintro((e|e)|⟨e,z⟩)
   ·exact absurd e ha
   ·exact .inl e
   ·exact .inr ⟨e,z _ _ _ h2⟩
  ·rintro(e|⟨e,z⟩)
   ·exact .inl (.inr e)
   ·refine .inr ⟨e,λk bf raw q=>?_⟩
    obtain⟨rfl,rfl,rfl⟩:=rT h2 q;exact z
 ·unfold lO
  rw[rz h];constructor
  ·rintro(e|⟨e,z,y⟩)
   ·exact absurd e ha
   ·exact⟨e,z,y _ _ _ h2⟩
  ·rintro⟨e,z,y⟩
   refine .inr ⟨e,z,λk bf raw q=>?_⟩;obtain⟨rfl,rfl,rfl⟩:=rT h2 q;exact y
theorem oy(hK:HK G P):∃J9,Con G 6 817 J9/\∀(J8:List Nat)(mh:List MO),J8.length<=100000->bG (J9 [.str J8] mh) λv KA=>mh<+:KA/\∃i r1 r2 vs rows S,v=.ref i/\KA[i]?=some (.tuple [.ref r1,.ref r2])/\KA[r1]?=some (.list vs)/\KA[r2]?=some (.list (eK S))/\gD KA vs rows/\ScanF J8 0 [] rows S:=by
 have cU:=ww hK;obtain⟨V,c1,h1⟩:=zh hK;apply D2 (ps:=["text"]) (names:=["text","parts","shuts","k","depth","c","kind","m","safe"]) (hf:=nK hK ?e);case e=>exact rfl
 case hs=>exact⟨⟨by decide+kernel,by decide+kernel⟩,⟨["parts","shuts","k","depth","c","kind","m","safe"],rfl⟩,by decide+kernel,rfl,rfl,rfl⟩
 case hp=>exact plainly1 λ_ _ _ _ _ _ _ _ _=>rfl
 case hb=>
  intro lo;run_tac mwalk
  ·exact cU
  ·decide
 case hd=>
  intro J8 mh hl;have al:J8.length<=16777216:=by lia
  cbv;have e2:(mh++[MO.list []]).length=mh.length+1:=by simp
  rw[e2];refine aQ (Q':=λf s=>f=MF.next/\∃(S:List Nat)(vs:List MV)(done:List Prt)(a:List MO)(N M L J I:Option MV),s=LS.mk [some (.str J8),some (.ref mh.length),some (.ref (mh.length+1)),some (.int (J8.length:Int)),N,M,L,J,I] a/\mh<+:a/\a[mh.length]?=some (.list vs)/\a[mh.length+1]?=some (.list (eK S))/\gD a vs done/\ScanF J8 0 [] done S) ?_ ?_
  ·refine bN (σ:=Nat) (λp s=>p<=J8.length/\∃(S:List Nat)(vs:List MV)(done:List Prt)(a:List MO)(N M L J I:Option MV),s=LS.mk [some (.str J8),some (.ref mh.length),some (.ref (mh.length+1)),some (.int (p:Int)),N,M,L,J,I] a/\mh<+:a/\a[mh.length]?=some (.list vs)/\a[mh.length+1]?=some (.list (eK S))/\gD a vs done/\S.length<=p/\vs.length<=p/\(∀KC E,ScanF J8 p S KC E->ScanF J8 0 [] (done++KC) E)) (λp=>J8.length-p) ?_ NN 0 _ ?_ ?_
   ·rintro p _ ⟨hp,S,vs,done,a,N,M,L,J,I,rfl,g,o,d,D,U,an,t⟩
    cbv;refine⟨λhb=>?_,λhb=>?_⟩
    ·simp at hb
     cbv;obtain rfl:p=J8.length:=by lia
     have :=t [] _ .nil;rw[m4]at this;exact⟨rfl,S,vs,done,a,_,_,_,_,_,rfl,g,o,d,D,this⟩
    ·simp at hb
     obtain⟨c,r,hd⟩:∃c r,J8.drop p=c::r:=⟨_,_,e9 hb⟩;have ap:(eK S).length<=16777216:=by rw[eJ];lia
     cbv;rw[eJ];have as:=(aM hd);refine aQ (Q':=λb s=>s=LS.mk [some (MV.str J8),some (MV.ref mh.length),some (MV.ref (mh.length+1)),some (MV.int ↑p),some (MV.int ↑S.length),some (MV.str [c]),L,J,I] a/\b=decide (S≠[]/\some c=S.head?)) ?_ ?_
     ·cases S with
      |nil=>exact wp_andK_f rfl ⟨rfl,rfl⟩
      |cons x S=>
       rw[fu]at d⊢;refine wp_andK_t (by simp) ?_;cbv;refine ah (item_last d (by rw[eJ];simp at U;lia)) ?_;cbv;rw[bv,hH];simp[Ip]
     ·rintro _ _ ⟨rfl,rfl⟩
      refine aQ (Q':=λf s=>f=MF.next/\∃(j:List MO)(S' kind:List Nat)(m y:Nat),s=LS.mk [some (MV.str J8),some (MV.ref mh.length),some (MV.ref (mh.length+1)),some (MV.int ↑p),some (MV.int ↑S.length),some (MV.str [c]),some (.str kind),some (.int ((p+m:Nat):Int)),some (.int ((p+y:Nat):Int))] j/\mh<+:j/\j[mh.length]?=some (.list vs)/\j[mh.length+1]?=some (.list (eK S'))/\gD j vs done/\S'.length<=S.length+1/\lstep (c::r) S=((kind,m,y),S')) ?_ ?_
      ·refine aI (λhx=>?_) (λhx=>?_)
       ·obtain⟨O,aa⟩:=go hx
        obtain⟨x,S,rfl⟩:∃x S1,S=x::S1:=by
         cases S with
         |nil=>exact absurd rfl O
         |cons x S=>exact⟨x,S,rfl⟩
        obtain rfl:c=x:=ec aa;rw[fu]at d;cbv;refine oq d (by rw[eJ];simp at U;lia) ?_;cbv;exact⟨rfl,_,S,m6,1,1,rfl,aT (bV g (by lia) _) _,ag (dJ (by lia) o),ag (bW d),D.keep ((eH.set d).trans (eH.pre (eh _ _))),by simp;lia,dt ⟨O,rfl⟩⟩
       ·cbv
        have C:¬(S≠[]/\(c::r).head?=S.head?):=ku hx;refine aI (λh2=>?_) (λh2=>?_)
        ·cbv
         exact⟨rfl,_,S,jj,1,1,rfl,aT g _,ag o,ag d,D.keep (eH.pre (eh _ _)),by lia,by unfold lstep;rw[cw C];exact dt h2⟩
        ·have T:¬(oneH (([41,93,125]:List Nat).contains ·) (c::r)=true):=by
          show¬(([41,93,125]:List Nat).contains c=true);rw[h2];exact hX
         cbv;refine aI (λQ=>?_) (λQ=>?_)
         ·obtain⟨dd,Y⟩:∃dd,iT c=some dd:=by
           simp at Q;rcases Q with rfl|rfl|rfl<;>exact⟨_,rfl⟩
          cbv;refine⟨rfl,_,dd::S,vK,1,1,rfl,aT (bV g (by lia) _) _,ag (dJ (by lia) o),by rw[fu];exact ag (bW d),D.keep ((eH.set d).trans (eH.pre (eh _ _))),by simp,?_⟩;unfold lstep;rw[cw C,cw T,dt (show oneH (([40,91,123]:List Nat).contains ·) (c::r)=true from Q)];show((vK,1,1),(iT c).getD 0::S)=_;rw[Y];rfl
         ·have ab:¬(oneH (([40,91,123]:List Nat).contains ·) (c::r)=true):=by
           show¬(([40,91,123]:List Nat).contains c=true);rw[Q];exact hX
          cbv;refine aE (h1 J8 p a hl hb) ?_;rintro _ j ⟨z,i3,rfl,w⟩;rw[BD hp,hd]at w;have q:lstep (c::r) S=(aV (c::r),if(aV (c::r)).1=bh then 41::S else S):=by
           unfold lstep;rw[cw C,cw T,cw ab]
          generalize aV (c::r)=x at w q;obtain⟨kind,m,y⟩:=x;unfold eV at w;have ar:j[i3]?=some (.tuple [.str kind,.int ((p+m:Nat):Int),.int ((p+y:Nat):Int)]):=w;replace q:lstep (c::r) S=((kind,m,y),if kind=bh then 41::S else S):=q;clear w;have B:=aO z o;have u:=aO z d;have A:=D.keep (eH.pre z);have k:=g.trans z;cbv;refine aI (λh4=>?_) (λh4=>?_)
          ·obtain rfl:kind=bh:=ly.mp h4
           cbv;exact⟨rfl,_,41::S,bh,m,y,rfl,bV k (by lia) _,dJ (by lia) B,by rw[fu];exact bW u,A.keep (eH.set u),by simp,by rw[q,dt rfl]⟩
          ·have hk:¬kind=bh:=by
            rintro rfl;exact by cases h4
           rw[cw hk]at q;cbv;exact⟨rfl,_,S,kind,m,y,rfl,k,B,u,A,by lia,q⟩
      ·rintro _ _ ⟨rfl,j,S',kind,m,y,rfl,k,H,ae,A,au,n⟩
       have ao:vs.length<=16777216:=by lia
       have hst:=fT (S:=S) (l:=c::r) (by simp);rw[n]at hst;have aj:m<=J8.length-p:=by
        have :=ed List.length hd;rw[ea]at this;rw[this];exact hst.2
       have ak:1<=m:=hst.1;have aq:=aZ H;cbv;refine⟨p+m,⟨by lia,S',vs++[.ref j.length],done++[prtOf p (kind,m,y) S.length],_,_,_,_,_,_,rfl,bV (aT k _) (ep _) _,bW (ag H),dJ (by lia) (ag ae),?_,by lia,by simp;lia,λKC E h=>?_⟩,by lia⟩
       ·exact All2.app (A.keep ((eH.pre (eh _ _)).trans (eH.set (ag H)))) (.cons ⟨_,rfl,dJ (by lia) aW⟩ .nil)
       ·have hc:=ScanF.cons (S:=S) hb (rows:=KC) (by rw[hd,n];exact h)
        rw[hd,n]at hc;rw[kv];exact t _ _ hc
   ·exact⟨oL _,[],[],[],_,none,none,none,none,none,rfl,aT (aT (fa _) _) _,ag aW,by rw[<-e2];exact aW,.nil,ep _,ep _,λKC E h=>h⟩
   ·rw[de];lia
  ·rintro _ _ ⟨rfl,S,vs,done,a,N,M,L,J,I,rfl,g,o,d,D,U⟩
   cbv;exact⟨aT g _,_,_,_,vs,done,S,rfl,aW,ag o,ag d,D.keep (eH.pre (eh _ _)),U⟩
theorem qs{p:Nat}{R:Prt}{rows:List Prt}(h:ScanF J8 p S (R::rows) S'):R.k=p/\∃a,ScanF J8 R.m a rows S':=by
 cases h with
 |cons _ h=>exact⟨rfl,_,h⟩
theorem v8:∀{rows:List Prt}{S:List Nat}{p:Nat},ScanF J8 p S rows S'->∀Q P,rows.dropLast.getLast?=some Q->rows.getLast?=some P->Q.m=P.k:=by
 intro rows;induction rows with
 |nil=>intro S p _ Q P e;cases e
 |cons R rows c=>
  intro S p h Q P e1 e2;obtain⟨_,d,h2⟩:=qs h;cases rows with
  |nil=>cases e1
  |cons b rows=>
   rw[r4]at e2;cases rows with
   |nil=>
    cases e1;cases e2;exact(qs h2).1.symm
   |cons a rows=>
    refine c h2 Q P ?_ e2;rw[show(R::b::a::rows).dropLast=R::b::(a::rows).dropLast from rfl,r4]at e1;exact e1
theorem oR{p:Nat}{rows:List Prt}(h:ScanF J8 p S rows S'):p+rows.length<=J8.length:=by
 induction h with
 |nil=>simp
 |@cons p S rows S' hp b a=>
  have hl:=fT (S:=S) (qM hp);rw[g9];lia
theorem rM(l S:List Nat):(lstep l S).2.length<=S.length+1:=by
 unfold lstep;split
 ·simp;lia
 ·split
  ·simp
  ·split
   ·simp
   ·dsimp only
    split<;>simp
theorem lT{p:Nat}{rows:List Prt}(h:ScanF J8 p S rows S'):S'.length<=S.length+rows.length:=by
 induction h with
 |nil=>simp
 |@cons p S rows S' hp b a=>
  have hl:=rM (J8.drop p) S;rw[g9];lia
theorem gA{r:Nat}(h:mh[r]?=some (.list xs))(b:xs.getLast?=some v)(hl:xs.length<=16777216)(q:Q v):Got (d3 mh (.ref r) (.int (-1))) Q:=by
 cases xs with
 |nil=>cases b
 |cons x t=>
  rw[pA,show(x::t).length-1=t.length from rfl]at b;refine ah (a:=v) ?_ q;show(match mh[r]? with|some (.list xs)|some (.tuple xs)=>if ssz (-1)=true then(seqIndex? (-1) xs.length).bind λk=>xs[k]? else none|_=>none)=_;rw[h];refine(dt rfl).trans ?_;rw[show(x::t).length=t.length+1 from rfl,qr,v4,b]
theorem ny{r:Nat}(h:mh[r]?=some (.list xs))(b:xs.dropLast.getLast?=some v)(hl:xs.length<=16777216)(q:Q v):Got (d3 mh (.ref r) (.int (-2))) Q:=by
 have h2:2<=xs.length:=by
  cases xs with
  |nil=>cases b
  |cons x t=>cases t with
   |nil=>cases b
   |cons y t=>simp
 have e:xs[xs.length-2]?=some v:=by
  rw[pA,List.length_dropLast,List.getElem?_dropLast]at b;rw[show xs.length-1-1=xs.length-2 by lia,dt (by lia)]at b;exact b
 refine ah (a:=v) ?_ q;show(match mh[r]? with|some (.list xs)|some (.tuple xs)=>if ssz (-2)=true then(seqIndex? (-2) xs.length).bind λk=>xs[k]? else none|_=>none)=_;rw[h];refine(dt rfl).trans ?_;have :seqIndex? (-2) xs.length=some (xs.length-2):=by
  unfold seqIndex?;simp;lia
 rw[this,v4,e]
theorem jg{rows:List Prt}(h:gD mh vs rows){P:Prt}(b:rows.getLast?=some P):∃i,vs.getLast?=some (.ref i)/\mh[i]?=some (.tuple (yE P)):=by
 rw[pA]at b;have hl:=h.len;have lt:=(fd.mp b).1;have c:vs[vs.length-1]?=some (vs[vs.length-1]'(by lia)):=fg (by lia);obtain⟨f,e,i,a,d⟩:=h.get c;rw[hl,b]at e;cases e;exact⟨i,by rw[pA,c,a],d⟩
theorem s8{rows:List Prt}(h:gD mh vs rows){P:Prt}(a:rows.dropLast.getLast?=some P):∃i,vs.dropLast.getLast?=some (.ref i)/\mh[i]?=some (.tuple (yE P)):=
 jg (vs:=vs.dropLast) (rows:=rows.dropLast) h.dropLast a
theorem Ak{kind:List Nat}{c:Nat}(hk:kind≠bA):bO kind bf raw (c::r)=
  if(kind==[98,108,97,110,107])=true then !([32,10]:List Nat).contains c
  else if([119,111,114,100]==kind||([97,116]==kind||([104,97,115,104]==kind||([115,105,122,101]==kind||false))))=true then ck kind raw (c::r)
  else if(kind==[110,117,109,98,101,114])=true then
   if(ao (c::r)||([c]==[37]||isS [c] [48,49,50,51,52,53,54,55,56,57]))=true then false
   else !((!raw.contains 46&&(!raw.contains 101&&!raw.contains 69))&&([c]==[46]&&isS (r.take 1) [48,49,50,51,52,53,54,55,56,57]))
  else if(kind==[114,97,110,103,101])=true then bz raw (c::r)
  else if(kind==[115,105,103,110])=true then cH bf raw (c::r)
  else true:=by
 have hd:(c::r).headD 0=c:=rfl;have a:isS (r.take 1) [48,49,50,51,52,53,54,55,56,57]=bY r:=by rw[cn];exact nT r
 have b:isS [c] [48,49,50,51,52,53,54,55,56,57]=cF c:=eF c;unfold bO;rw[cw hk,hd,a,b];refine dh (by simp[dw]) (λ_=>rfl) (dh ?_ (λ_=>rfl) (dh (by simp[dm]) (λ_=>dh (by simp) (λ_=>rfl) ?_) (dh (by simp[fh]) (λ_=>rfl) (dh (by simp[au]) (λ_=>rfl) rfl))))
 ·simp only[ll,ly,t4]
  exact JA Ip (JA Ip (JA Ip Ip))
 ·refine ed (!·) (hH.mpr ?_)
  simp
theorem te(hK:HK G P):∃J9,Con G 7 866 J9/\∀(a b:List Nat)(mh:List MO),a.length<=10000->b.length<=10000->
  bG (J9 [.str a,.str b] mh) λv KA=>mh<+:KA/\∃x:Bool,v=.bool x/\(x=true↔f8 a b):=by
 obtain⟨ab,c1,h1⟩:=oy hK;obtain⟨ae,c2,h2⟩:=zj hK;obtain⟨opS,c3,h3⟩:=lD hK;obtain⟨KS,c4,h4⟩:=fm hK;obtain⟨wA,c5,h5⟩:=qQ hK;obtain⟨as,c6,h6⟩:=zg hK;run_tac wcon
 intro a b mh a0 al;cbv;refine aE (h1 _ _ (by lia)) ?_;rintro _ E⟨M,i,r1,r2,vs,rows,S,rfl,hi,n,A,o,p⟩;cbv;refine wp_orK_all ?_;cbv;refine aI (λw=>?_) (λw=>?_)
 ·cbv
  refine⟨M,true,rfl,λ_=>.inl ?_,λ_=>rfl⟩;simpa using w
 have ar:a≠[]/\b≠[]:=by simpa using w
 obtain⟨ha,J⟩:=ar;obtain⟨P,hP,hst,_⟩:=lR p ha;replace hst:=hst b;have C:a.drop P.k≠[]:=by
  obtain⟨P',V,T⟩:=mf p [] (List.length_pos_iff.mpr ha);rw[hP]at V;cases V;rw[pu]at T;exact(rR T ha).1
 obtain⟨pi,L,O⟩:=jg o hP;have az:=oR p;have a5:=o.len;have H:vs.length<=16777216:=by lia
 have Q:a.length<=16777216:=by lia
 cbv;refine gA n L H ?_;cbv;refine oo (v:=.str P.kind) O (by simp) ?_;cbv;refine gA n L H ?_;cbv;refine ol (v:=.int (P.k:Int)) O (by simp) ?_;cbv;refine nJ Q ?_;cbv;have n:=ag (l:=[MO.tuple [MV.str P.kind,MV.int ↑P.k]]) n;have A:=ag (l:=[MO.tuple [MV.str P.kind,MV.int ↑P.k]]) A;have o:gD (E++[MO.tuple [MV.str P.kind,MV.int ↑P.k]]) vs rows:=o.mono λ_ _⟨i,e,h⟩=>⟨i,e,ag h⟩;have I:=M.trans (eh E [MO.tuple [MV.str P.kind,MV.int ↑P.k]]);generalize E++[MO.tuple [MV.str P.kind,MV.int ↑P.k]]=D at n A o I⊢;refine aQ (Q':=λv s=>v=.str (l0 a [] rows)/\s=⟨[some (MV.str a),some (MV.str b),some (MV.ref r1),some (MV.ref r2),some (.str P.kind),some (.int (P.k:Int)),some (.str (a.drop P.k)),none,none],D⟩) ?_ ?_
 ·cases hq:rows.dropLast.getLast? with
  |none=>
   have l1:rows.length<=1:=by
    have :=List.getLast?_eq_none_iff.mp hq;have :=ed List.length this;rw[List.length_dropLast]at this;simp at this;lia
   refine wp_pick_f (by simp;lia) ?_;cbv;unfold l0;rw[hq];exact⟨rfl,rfl⟩
  |some R=>
   have l2:1<rows.length:=by
    cases rows with
    |nil=>cases hq
    |cons x t=>cases t with
     |nil=>cases hq
     |cons y t=>simp
   obtain⟨ri,ah,ak⟩:=s8 o hq;refine wp_pick_t (by simp;lia) ?_;cbv;refine ny n ah H ?_;cbv;refine ol (u:=.str R.kind) (v:=.int (R.k:Int)) (xs:=[.int (R.m:Int),.int (R.safe:Int),.int (R.depth:Int)]) ak (by simp) ?_;cbv;unfold l0;rw[hq];exact⟨ed MV.str (by show _=List.take (R.m-R.k) _;rw[v8 p R P hq hP]),rfl⟩
 rintro _ _⟨rfl,rfl⟩;have U:(l0 a [] rows).length<=100000:=by
  unfold l0;cases rows.dropLast.getLast? with
  |none=>simp
  |some R=>simp only[g7,ea];lia
 generalize l0 a [] rows=bf at hst U⊢;cbv;refine iZ A (by rw[eJ];have :=lT p;simp at this;lia) ?_;cbv;refine wp_orK_all ?_;cbv;refine aI (λq=>?_) (λq=>?_)
 ·cbv
  refine⟨I,false,rfl,(λh=>by cases h),λh=>?_⟩;rcases hst.mp h with e|⟨rfl,e⟩
  ·exact absurd e J
  ·have e2:P.kind=bA:=by simpa[eK,bA]using q
   unfold bO at e;rw[dt e2]at e;exact e
 have aq:S=[]/\P.kind≠bA:=by simpa[eK,bA]using q
 obtain⟨hS,aj⟩:=aq;have hst:f8 a b↔bO P.kind bf (a.drop P.k) b=true:=hst.trans ⟨λh=>h.elim (λe=>absurd e J) (·.2),λh=>.inr ⟨hS,h⟩⟩;clear q;have g:(a.drop P.k).length<=100000:=by rw[ea];lia
 generalize a.drop P.k=raw at hst C g⊢;cases b with
 |nil=>exact absurd rfl J
 |cons c r=>
 have hb:(c::r).length<=16777216:=by lia
 have am:(c::r).length<=100000:=by lia
 have hr:r.length<=10000:=by simp at al;lia
 have j:∀{b:Bool},b=false->¬b=true:=λh=>mm.mp h;have fin:∀{f:List MO}{x:Bool},D<+:f->x=bO P.kind bf raw (c::r)->(mh<+:f/\∃y:Bool,MV.bool x=.bool y/\(y=true↔f8 a (c::r))):=λh e=>⟨I.trans h,_,rfl,by rw[hst,e]⟩;have N:=Ak (bf:=bf) (raw:=raw) (r:=r) (c:=c) aj;generalize P.kind=kind at N fin⊢;cbv;refine aI (λw=>?_) (λw=>?_)
 ·cbv
  refine cC hb ?_;cbv;exact fin (fa _) (by rw[N,dt w])
 cbv;refine aI (λq=>?_) (λq=>?_)
 ·cbv
  refine aE (h2 _ _ _ _ _ g hr C) ?_;rintro _ f⟨rfl,d⟩;cbv;exact fin ((eh ..).trans d) (by rw[N,cw (j w),dt q])
 cbv;refine aI (λY=>?_) (λY=>?_)
 ·cbv
  have z:bO kind bf raw (c::r)=if(ao (c::r)||([c]==[37]||isS [c] [48,49,50,51,52,53,54,55,56,57]))=true then false else !((!raw.contains 46&&(!raw.contains 101&&!raw.contains 69))&&([c]==[46]&&isS (r.take 1) [48,49,50,51,52,53,54,55,56,57])):=by rw[N,cw (j w),cw (j q),dt Y]
  refine aQ (Q':=λv s=>v=.bool (!raw.contains 46&&(!raw.contains 101&&!raw.contains 69))/\∃f,D<+:f/\s=⟨[some (MV.str a),some (MV.str (c::r)),some (MV.ref r1),some (MV.ref r2),some (MV.str kind),some (MV.int ↑P.k),some (MV.str raw),some (MV.str bf),none],f⟩) ?_ ?_
  ·refine aI (λk1=>?_) (λk1=>?_)
   ·rw[show(!raw.contains 46)=true from k1]
    cbv;refine aI (λB=>?_) (λB=>?_)
    ·rw[show(!raw.contains 101)=true from B]
     cbv;exact⟨rfl,_,eh ..,rfl⟩
    ·rw[show(!raw.contains 101)=false from B]
     cbv;exact⟨ed MV.bool B,_,eh ..,rfl⟩
   ·rw[show(!raw.contains 46)=false from k1]
    cbv;exact⟨ed MV.bool k1,_,eh ..,rfl⟩
  rintro _ _⟨rfl,f,d,rfl⟩;generalize(!raw.contains 46&&(!raw.contains 101&&!raw.contains 69))=plain at z⊢;cbv;refine aE (h3 _ 0 _ am) ?_;rintro _ ay⟨rfl,rfl⟩;cbv;refine wp_orK_all ?_;cbv;refine cC hb ?_;cbv;refine wp_orK_all ?_;cbv;refine cC hb ?_;cbv;refine aE (h4 _ _ _ (ep _)) ?_;rintro _ aw⟨rfl,rfl⟩;cbv;refine aI (λk1=>?_) (λk1=>?_)
  ·cbv
   exact fin d (by rw[z];exact(dt k1).symm)
  ·cbv
   replace z:=z.trans (cw (j k1));refine aI (λB=>?_) (λB=>?_)
   ·rw[B]at z
    cbv;refine cC hb ?_;cbv;refine aI (λk3=>?_) (λk3=>?_)
    ·rw[k3]at z
     cbv;refine gS hb ?_;cbv;refine aE (h4 _ _ _ (by rw[g7];lia)) ?_;rintro _ av⟨rfl,rfl⟩;cbv;exact fin d (by rw[z];rfl)
    ·rw[k3]at z⊢
     cbv;exact fin d (by rw[z];rfl)
   ·rw[B]at z⊢
    cbv;exact fin d (by rw[z];rfl)
 cbv;refine aI (λg4=>?_) (λg4=>?_)
 ·cbv
  refine aE (h5 _ _ _ _ g hr) ?_;rintro _ f⟨rfl,d⟩;cbv;exact fin ((eh ..).trans d) (by rw[N,cw (j w),cw (j q),cw (j Y),dt g4])
 cbv;refine aI (λg5=>?_) (λg5=>?_)
 ·cbv
  refine aE (h6 _ _ _ _ _ g U hr) ?_;rintro _ f⟨rfl,d⟩;cbv;exact fin ((eh ..).trans d) (by rw[N,cw (j w),cw (j q),cw (j Y),cw (j g4),dt g5])
 cbv;exact fin (eh ..) (by rw[N,cw (j w),cw (j q),cw (j Y),cw (j g4),cw (j g5)])
theorem w6(hK:HK G P):∃J9,Con G 7 873 J9/\∀(a:List Nat)(mh:List MO),a.length<=10000->
  bG (J9 [.str a] mh) λv KA=>mh<+:KA/\∃x:Bool,v=.bool x/\(x=true↔lO a):=by
 obtain⟨h,y,h1⟩:=oy hK;run_tac wcon
 intro a mh r;cbv;refine aE (h1 _ _ (by lia)) ?_;rintro _ p ⟨b,i,r1,u,vs,rows,S,rfl,w,l,k,d,c⟩;cbv;refine aI (λo=>?_) (λo=>?_)
 ·cbv
  exact⟨b,true,rfl,λ_=>.inl (by simpa using o),λ_=>rfl⟩
 have ha:a≠[]:=by simpa using o
 obtain⟨P,s,_,hst⟩:=lR c ha;obtain⟨pi,m,n⟩:=jg d s;obtain⟨x,hx⟩:∃x,a.getLast?=some x:=⟨_,Jt ha⟩;have q:=oR c;have t:=d.len;have j:vs.length<=16777216:=by lia
 rw[hx]at hst;cbv;refine iZ k (by rw[eJ];have :=lT c;simp at this;lia) ?_;cbv;refine aI (λf=>?_) (λf=>?_)
 ·cbv
  refine gA l m j ?_;cbv;refine oo (v:=.str P.kind) n (by simp) ?_;cbv;refine aI (λg=>?_) (λg=>?_)
  ·cbv
   refine jS hx (by lia) ?_;cbv;exact⟨b,_,rfl,by rw[hst];exact⟨λe=>⟨by simpa[eK] using f,by simpa using e,by simpa[bA] using g⟩,λe=>by simpa using e.2.1⟩⟩
  ·cbv
   exact⟨b,_,rfl,by rw[hst,g];exact⟨(λe=>by cases e),λe=>absurd (show P.kind=[117,110,101,110,100,101,100]by simpa using g) e.2.2⟩⟩
 ·cbv
  exact⟨b,_,rfl,by rw[hst,f];exact⟨(λe=>by cases e),λe=>by rw[e.1]at f;cases f⟩⟩
def noB:Told->Prop
 |.one v=>∃s,v=.str s
 |.tup vs=>∀v∈vs,∀b,v≠.bool b
def KSh(k:List Nat)(t:Told):Prop:=(k=tHash/\∃s b,t=.tup [.str s,.bool b])\/(k≠tHash/\noB t)
theorem vI{v:List Nat}:∀p∈(fZ v).rows,KSh p.1 p.2:=λp m=>by
 rw[h9.mp m];exact .inr ⟨by show tLit≠tHash;decide,_,rfl⟩
theorem mK{k s:List Nat}(h:k≠tHash):∀p∈(bn k (.one (.str s)) n).rows,KSh p.1 p.2:=λp m=>by
 rw[h9.mp m];exact .inr ⟨h,_,rfl⟩
theorem mJ{k:List Nat}(h:k≠tHash)(a:∀v∈vs,∀b,v≠.bool b):∀p∈(bn k (.tup vs) n).rows,KSh p.1 p.2:=λp m=>by
 rw[h9.mp m];exact .inr ⟨h,a⟩
theorem yp{s:List Nat}{b:Bool}:∀p∈(bn tHash (.tup [.str s,.bool b]) n).rows,KSh p.1 p.2:=λp m=>by
 rw[h9.mp m];exact .inl ⟨rfl,_,_,rfl⟩
theorem rV{k s:List Nat}{o:Op}(h:k≠tHash):∀p∈(TokO.mk [(k,.one (.str s))] n o).rows,KSh p.1 p.2:=λp m=>by
 rw[h9.mp m];exact .inr ⟨h,_,rfl⟩
theorem qB{b:Bool}:∀c,m9 l b≠.bool c:=by
 intro c;unfold m9;split<;>exact λh=>by cases h
theorem wb(F:Nat->List Nat)(l:List Nat):∀p∈(ay F l).rows,KSh p.1 p.2:=by
 unfold ay;dsimp only;split
 ·exact mK (by decide)
 ·split
  ·intro p m
   rcases j2.mp m with m|m
   ·revert m
    cases(eG (l.drop ((aC l).2+1))).1 with
    |none=>exact λm=>by cases m
    |some v=>
     intro m;rw[h9.mp m];exact .inr ⟨by show tUrl≠tHash;decide,by intro v m b;simp at m;rcases m with rfl|rfl<;>exact λh=>by cases h⟩
   ·revert m
    cases(eG (l.drop ((aC l).2+1))).2.2 with
    |none=>exact λm=>by cases m
    |some e=>
     intro m;rw[h9.mp m];exact .inr ⟨by show tError≠tHash;decide,_,rfl⟩
  ·exact rV (by decide)
theorem BZ(l:List Nat)(n:Nat)(b:Bool):∀p∈(d7 l n b).rows,KSh p.1 p.2:=by
 unfold d7;split
 ·exact mJ (by decide) (by intro v m c;simp at m;rcases m with rfl|rfl|rfl;exact λh=>(by cases h);exact qB c;exact λh=>by cases h)
 ·split
  ·exact mJ (by decide) (by intro v m c;simp at m;rcases m with rfl|rfl;exact λh=>(by cases h);exact qB c)
  ·exact mJ (by decide) (by intro v m c;simp at m;rcases m with rfl|rfl;exact λh=>(by cases h);exact qB c)
theorem BY(F:Nat->List Nat)(s:List Nat×Nat×Nat):∀p∈(jM F s).rows,KSh p.1 p.2:=by
 intro p m;rcases j2.mp m with m|m
 ·split at m
  ·cases m
  ·rw[h9.mp m]
   exact .inr ⟨by show tString≠tHash;decide,by intro v m b;simp at m;rcases m with rfl|rfl<;>exact λh=>by cases h⟩
 ·split at m
  ·cases m
  ·rw[h9.mp m]
   exact .inr ⟨by show tError≠tHash;decide,_,rfl⟩
theorem Bb(l:List Nat):∀p∈(iV l).rows,KSh p.1 p.2:=by
 unfold iV;split<;>exact mK (by decide)
theorem Ba{c:Prop}[Decidable c]{a b:TokO}(ha:∀p∈a.rows,KSh p.1 p.2)(hb:∀p∈b.rows,KSh p.1 p.2):∀p∈(if c then a else b).rows,KSh p.1 p.2:=by
 split
 ·exact ha
 ·exact hb
theorem wa(F:Nat->List Nat)(top:Option Nat)(l:List Nat)(c:Nat):∀p∈(aY F top l c).rows,KSh p.1 p.2:=by
 unfold aY;repeat' first
  |exact vI
  |exact mK (by decide)
  |exact rV (by decide)
  |exact BY _ _
  |exact Bb _
  |exact yp
  |refine Ba ?_ ?_
  |exact λp m=>absurd m Jp
theorem BX(F1 F2:Nat->List Nat)(top:Option Nat)(l:List Nat):∀p∈(ptok F1 F2 top l).rows,KSh p.1 p.2:=by
 unfold ptok;split
 ·exact mK (by decide)
 ·split
  ·exact mJ (by decide) (by intro v m c;simp at m;rcases m with rfl|rfl<;>exact λh=>by cases h)
  ·split
   ·exact vI
   ·split
    ·exact wb _ _
    ·split
     ·exact BZ _ _ _
     ·exact wa _ _ _ _
theorem gN{p:Nat}(h:ToksR F1 F2 J8 p S rows):∀r∈rows,KSh r.kind r.told:=by
 induction h with
 |nil=>exact λr m=>by cases m
 |cons _ _ a=>
  intro r m;rcases j2.mp m with m|m
  ·obtain⟨q,hq,rfl⟩:=nb.mp m
   exact BX _ _ _ _ q hq
  ·exact a r m
theorem zR{a b:MV}(ha:ft a=true)(hb:ft b=true)(h:eqP a b=true)(d:∀x y,a=.bool x->b=.int y->False)(c:∀x y,a=.int x->b=.bool y->False):a=b:=by
 cases a with
 |none=>cases b with
  |none=>rfl
  |_=>cases h
 |bool x=>cases b with
  |bool y=>rw[eq_of_beq (show(x==y)=true from h)]
  |int y=>exact(d _ _ rfl rfl).elim
  |_=>cases h
 |int x=>cases b with
  |int y=>rw[eq_of_beq (show(x==y)=true from h)]
  |bool y=>exact(c _ _ rfl rfl).elim
  |_=>cases h
 |str x=>cases b with
  |str y=>rw[eq_of_beq (show(x==y)=true from h)]
  |_=>cases h
 |_=>cases ha
theorem r6{a:MV}(ha:ft a=true):eqP a a=true:=by
 cases a with
 |none=>rfl
 |bool x=>exact ti x
 |int x=>exact ti x
 |str x=>exact ti x
 |_=>cases ha
theorem xZ{t u:Told}(h:iI mh v t)(q:iI mh v u):t=u:=by
 cases t with
 |one x=>cases u with
  |one y=>rw[<-h.1,q.1]
  |tup ys=>
   obtain⟨⟨j,rfl,_⟩,_⟩:=q;obtain⟨rfl,hs⟩:=h;cases hs
 |tup xs=>cases u with
  |one y=>
   obtain⟨⟨j,rfl,_⟩,_⟩:=h;obtain⟨rfl,hs⟩:=q;cases hs
  |tup ys=>
   obtain⟨⟨i,rfl,b⟩,_⟩:=h;obtain⟨⟨j,e,a⟩,_⟩:=q;cases e;rw[b]at a;cases a;rfl
theorem vr{a b:MV}{t u:Told}(h:iI mh a t)(q:iI mh b u):∃r,EqR mh 1 a b r:=by
 cases t with
 |one x=>
  obtain⟨rfl,hx⟩:=h;cases u with
  |one y=>
   obtain⟨rfl,hy⟩:=q;exact⟨_,.inl ⟨hx,hy,rfl⟩⟩
  |tup ys=>
   obtain⟨⟨j,rfl,c⟩,_⟩:=q;exact⟨_,.inr (.inr (.inl ⟨rfl,j,ys,rfl,c,hx⟩))⟩
 |tup xs=>
  obtain⟨⟨i,rfl,g⟩,f⟩:=h;cases u with
  |one y=>
   obtain⟨rfl,hy⟩:=q;exact⟨_,.inr (.inl ⟨rfl,i,xs,rfl,g,hy⟩)⟩
  |tup ys=>
   obtain⟨⟨j,rfl,c⟩,d⟩:=q;by_cases e:i=j
   ·exact⟨_,.inr (.inr (.inr ⟨i,j,xs,ys,rfl,rfl,g,c,.inl ⟨e,rfl⟩⟩))⟩
   ·refine⟨_,.inr (.inr (.inr ⟨i,j,xs,ys,rfl,rfl,g,c,.inr ⟨e,λk=>match xs[k]?,ys[k]? with|some x,some y=>eqP x y|_,_=>true,λk x y h1 h2=>?_,rfl⟩⟩))⟩
    exact⟨f x (l6 h1),d y (l6 h2),by dsimp only;rw[h1,h2]⟩
theorem wc{k:List Nat}(h:KSh k (.tup xs))(q:KSh k (.tup ys)){x y:MV}(hx:xs[i]?=some x)(hy:ys[i]?=some y):(∀p z,x=.bool p->y=.int z->False)/\(∀z p,x=.int z->y=.bool p->False):=by
 rcases h with⟨hk,s,b,e⟩|⟨hk,h⟩
 ·rcases q with⟨_,j,b',g⟩|⟨a,_⟩
  ·cases e
   cases g;have c:∀{s:List Nat}{b:Bool}{v:MV},[MV.str s,.bool b][i]?=some v->∀z,v≠.int z:=by
    intro s b v d z f;subst f;cases i with
    |zero=>cases d
    |succ i=>cases i with
     |zero=>cases d
     |succ i=>cases d
   exact⟨λp z _ e=>c hy z e,λz p e _=>c hx z e⟩
  ·exact absurd hk a
 ·rcases q with⟨a,_⟩|⟨_,q⟩
  ·exact absurd a hk
  ·exact⟨λp z e _=>h x (l6 hx) p e,λz p _ e=>q y (l6 hy) p e⟩
theorem ua{k:List Nat}{a b:MV}{t u:Told}{r:Bool}(h:iI mh a t)(q:iI mh b u)(p:KSh k t)(C:KSh k u)(e:EqR mh 1 a b r):r=true↔t=u:=by
 cases t with
 |one x=>
  obtain⟨rfl,hx⟩:=h;cases u with
  |one y=>
   obtain⟨rfl,hy⟩:=q;rcases e with⟨_,_,rfl⟩|⟨rfl,i,xs,rfl,_⟩|⟨rfl,i,xs,rfl,_⟩|⟨i,j,xs,ys,rfl,_⟩
   ·constructor
    ·intro e
     obtain⟨s,es⟩:∃s,a=.str s:=by
      rcases p with⟨_,s,b,e⟩|⟨_,h⟩
      ·cases e
      ·exact h
     subst es;rw[zR hx hy e (λ_ _ e=>by cases e) (λ_ _ e=>by cases e)]
    ·intro e
     cases e;exact r6 hx
   ·cases hx
   ·cases hy
   ·cases hx
  |tup ys=>
   obtain⟨⟨j,rfl,g⟩,_⟩:=q;rcases e with⟨_,e,_⟩|⟨_,i,xs,rfl,_⟩|⟨rfl,_⟩|⟨i,j,xs,ys,rfl,_⟩
   ·cases e
   ·cases hx
   ·exact⟨(λe=>by cases e),λe=>by cases e⟩
   ·cases hx
 |tup xs=>
  obtain⟨⟨i,rfl,v⟩,E⟩:=h;cases u with
  |one y=>
   obtain⟨rfl,hy⟩:=q;rcases e with⟨e,_⟩|⟨rfl,_⟩|⟨_,_,_,_,_,e⟩|⟨i,j,xs,ys,_,rfl,_⟩
   ·cases e
   ·exact⟨(λe=>by cases e),λe=>by cases e⟩
   ·cases e
   ·cases hy
  |tup ys=>
   obtain⟨⟨j,rfl,g⟩,D⟩:=q;rcases e with⟨e,_⟩|⟨_,_,_,_,_,e⟩|⟨_,_,_,_,_,e⟩|⟨I,H,z,w,e1,e2,d,c,e⟩
   ·cases e
   ·cases e
   ·cases e
   ·cases e1
    cases e2;rw[v]at d;rw[g]at c;cases d;cases c;rcases e with⟨rfl,rfl⟩|⟨_,f,hf,rfl⟩
    ·rw[v]at g
     cases g;exact⟨λ_=>rfl,λ_=>rfl⟩
    ·constructor
     ·intro e
      rw[fi,gb,ly]at e;obtain⟨G,J⟩:=e;refine ed Told.tup (JM λn=>?_);cases h1:xs[n]? with
      |none=>rw[nh (by have :=JK.mp h1;lia)]
      |some x=>
       have m:=(fd.mp h1).1;have h2:ys[n]?=some (ys[n]'(by lia)):=fg (by lia);rw[h2];obtain⟨l,o,e3⟩:=hf n _ _ h1 h2;have e4:=G n (y1.mpr (by lia));obtain⟨B,A⟩:=wc p C h1 h2;exact ed some (zR l o (e3▸e4) B A)
     ·intro e
      cases e;rw[fi,gb,ly];refine⟨λn m=>?_,rfl⟩;have m:=y1.mp m;have h1:xs[n]?=some (xs[n]'(by lia)):=fg (by lia);obtain⟨l,o,e3⟩:=hf n _ _ h1 h1;rw[e3];exact r6 l
theorem kU{a b:MV}{r:Bool}(ha:ft a=true)(hb:ft b=true)(e:EqR mh (n+1) a b r):r=eqP a b:=by
 rcases e with⟨_,_,rfl⟩|⟨_,i,xs,rfl,_⟩|⟨_,i,xs,rfl,_⟩|⟨i,j,xs,ys,rfl,_⟩
 ·rfl
 ·cases ha
 ·cases hb
 ·cases ha
theorem yr{w:MV}{x y:Key}(h:im mh v x)(q:im mh w y):∃r,EqR mh 2 v w r:=by
 obtain⟨i,t,rfl,g,o⟩:=h;obtain⟨j,u,rfl,f,n⟩:=q;obtain⟨m,h4⟩:=vr o n;by_cases e:i=j
 ·exact⟨_,.inr (.inr (.inr ⟨i,j,_,_,rfl,rfl,g,f,.inl ⟨e,rfl⟩⟩))⟩
 ·refine⟨_,.inr (.inr (.inr ⟨i,j,_,_,rfl,rfl,g,f,.inr ⟨e,λk=>match k with|0=>eqP (.int x.d) (.int y.d)|1=>eqP (.int x.l) (.int y.l)|2=>eqP (.int x.c) (.int y.c)|3=>eqP (.str x.k) (.str y.k)|_=>m,λk a b h1 h2=>?_,rfl⟩⟩))⟩
  match k,h1,h2 with
  |0,h1,h2=>cases h1;cases h2;exact .inl ⟨rfl,rfl,rfl⟩
  |1,h1,h2=>cases h1;cases h2;exact .inl ⟨rfl,rfl,rfl⟩
  |2,h1,h2=>cases h1;cases h2;exact .inl ⟨rfl,rfl,rfl⟩
  |3,h1,h2=>cases h1;cases h2;exact .inl ⟨rfl,rfl,rfl⟩
  |4,h1,h2=>cases h1;cases h2;exact h4
  |k+5,h1,h2=>cases h1
theorem yu{w:MV}{x y:Key}{r:Bool}(h:im mh v x)(q:im mh w y)(E:KSh x.k x.t)(D:KSh y.k y.t)(e:EqR mh 2 v w r):r=true↔x=y:=by
 obtain⟨i,t,rfl,G,C⟩:=h;obtain⟨j,u,rfl,b,B⟩:=q;obtain⟨z,s,A,g,p⟩:=x;obtain⟨n,m,o,d,l⟩:=y;rcases e with⟨e,_⟩|⟨_,_,_,_,_,e⟩|⟨_,_,_,_,_,e⟩|⟨i',j',J,I,e1,e2,c,a,e⟩
 ·cases e
 ·cases e
 ·cases e
 ·cases e1
  cases e2;rw[G]at c;rw[b]at a;cases c;cases a;rcases e with⟨rfl,rfl⟩|⟨_,f,hf,rfl⟩
  ·rw[G]at b
   unfold m5 at b;simp only[Option.some.injEq,MO.tuple.injEq,Jv,MV.int.injEq,MV.str.injEq,and_true]at b;obtain⟨e1,e2,e3,e4,rfl⟩:=b;refine⟨λ_=>?_,λ_=>rfl⟩;have e5:=xZ C B;simp only at e5;rw[JP e1,e2,e3,e4,e5]
  ·have T:=kU rfl rfl (hf 0 _ _ rfl rfl)
   have Q:=kU rfl rfl (hf 1 _ _ rfl rfl);have O:=kU rfl rfl (hf 2 _ _ rfl rfl);have N:=kU rfl rfl (hf 3 _ _ rfl rfl);have H:=hf 4 _ _ rfl rfl;have U:((List.range (min (m5 ⟨z,s,A,g,p⟩ t).length (m5 ⟨n,m,o,d,l⟩ u).length)).all f&&(m5 ⟨z,s,A,g,p⟩ t).length==(m5 ⟨n,m,o,d,l⟩ u).length)=(f 0&&(f 1&&(f 2&&(f 3&&f 4)))):=by
    simp[m5,List.range_succ]
   rw[U,T,Q,O,N];simp only[fi];constructor
   ·rintro⟨a0,a1,a2,Y,V⟩
    have M:g=d:=eq_of_beq (show(g==d)=true from Y);subst M;have L:p=l:=(ua C B E D H).mp V;rw[JP (eq_of_beq (show((z:Int)==(n:Int))=true from a0)),eq_of_beq (show(s==m)=true from a1),eq_of_beq (show(A==o)=true from a2),L]
   ·intro e
    cases e;exact⟨ti _,ti _,ti _,ti _,(ua C B E D H).mpr rfl⟩
theorem vJ{ws:List MV}{ks ls:List Key}(B:mh[i]?=some (.list vs))(A:mh[j]?=some (.list ws))(p:i≠j)(h:pI mh vs ks)(q:pI mh ws ls)(hk:∀k∈ks,KSh k.k k.t)(hl:∀k∈ls,KSh k.k k.t):
  ∃r,lG mh (.ref i) (.ref j)=some r/\(r=true↔ks=ls):=by
 have G:=h.len;have E:=q.len;have d:∀{n:Nat}{v w:MV},vs[n]?=some v->ws[n]?=some w->∃x y,ks[n]?=some x/\ls[n]?=some y/\im mh v x/\im mh w y:=λz hw=>by
  obtain⟨x,hx,g⟩:=h.get z;obtain⟨y,hy,f⟩:=q.get hw;exact⟨x,y,hx,hy,g,f⟩
 have b:∃r,EqL mh (.ref i) (.ref j) r:=by
  by_cases m:vs.length=ws.length
  ·have hc:∀n:Nat,∃r:Bool,∀v w,vs[n]?=some v->ws[n]?=some w->EqR mh 2 v w r:=λn=>by
    cases z:vs[n]? with
    |none=>exact⟨true,λv w e=>by cases e⟩
    |some v=>cases hw:ws[n]? with
     |none=>exact⟨true,λv w _ e=>by cases e⟩
     |some w=>
      obtain⟨x,y,_,_,g,f⟩:=d z hw;obtain⟨r,D⟩:=yr g f;exact⟨r,λ_ _ e1 e2=>by cases e1;cases e2;exact D⟩
   obtain⟨e,u⟩:=Classical.axiomOfChoice hc;exact⟨_,i,j,vs,ws,rfl,rfl,B,A,p,.inr ⟨m,e,λk x y h1 h2=>u k x y h1 h2,rfl⟩⟩
  ·exact⟨_,i,j,vs,ws,rfl,rfl,B,A,p,.inl ⟨m,rfl⟩⟩
 have J9:=b.choose_spec;refine⟨b.choose,by unfold lG;rw[dif_pos b],?_⟩;generalize b.choose=r at J9;obtain⟨I,H,vs',C,e1,e2,s,o,_,hc⟩:=J9;cases e1;cases e2;rw[B]at s;rw[A]at o;cases s;cases o;rcases hc with⟨m,rfl⟩|⟨m,e,u,rfl⟩
 ·exact⟨(λe=>by cases e),λe=>absurd (ed List.length e) (by lia)⟩
 ·rw[gb]
  constructor
  ·intro a
   refine JM λn=>?_;by_cases c:n<vs.length
   ·obtain⟨x,y,hx,hy,g,f⟩:=d (fg c) (fg (l:=ws) (i:=n) (by lia))
    rw[hx,hy];exact ed some ((yu g f (hk x (l6 hx)) (hl y (l6 hy)) (u n _ _ (fg c) (fg (by lia)))).mp (a n (y1.mpr c)))
   ·rw[nh (by lia),nh (by lia)]
  ·rintro rfl n m
   have c:=y1.mp m;obtain⟨x,y,hx,hy,g,f⟩:=d (fg c) (fg (l:=ws) (i:=n) (by lia));rw[hx]at hy;cases hy;exact(yu g f (hk x (l6 hx)) (hk x (l6 hx)) (u n _ _ (fg c) (fg (by lia)))).mpr rfl
theorem wF(a:List Nat):place (a++[47,42,42,47])=((place a).1,(place a).2+4):=by
 unfold place;rw[v3];generalize List.foldl _ _ a=p;rfl
theorem zp{a:List Nat}{c:List TRow}(d:ToksR F1 F2 b 0 [] rB)(hC:ToksR F1 F2 (47::42::42::47::b) 0 [] c):
  c.map (cX (47::42::42::47::b) 0 (place a).1 (place a).2)=⟨0,(place a).1,(place a).2,tComment,.one (.str [])⟩::rB.map (cX b 0 (place a).1 ((place a).2+4)):=by
 obtain rfl:=mS hC (nf d);have e1:∀r:TRow,cX (47::42::42::47::b) 0 (place a).1 (place a).2 r=cX (a++(47::42::42::47::b)) 0 1 1 (dB 0 a.length r):=λr=>by
  rw[k7,t5,pc]
 have e2:∀r:TRow,cX b 0 (place a).1 ((place a).2+4) r=cX (a++(47::42::42::47::b)) 0 1 1 (dB 0 (a.length+4) r):=λr=>by
  rw[k7,show a++(47::42::42::47::b)=(a++[47,42,42,47])++b by simp,show a.length+4=(a++[47,42,42,47]).length by simp,t5,pc,wF]
 rw[rx,List.map_map];refine congr (ed List.cons ?_) (It λr _=>?_)
 ·have h1:sk (47::42::42::47::b) (place a).1 ⟨0,0,tComment,.one (.str [])⟩=((place a).1:Int):=by
   unfold sk;show((1+(place a).1:Nat):Int)-1=_;lia
  have h2:sn (47::42::42::47::b) (place a).2 ⟨0,0,tComment,.one (.str [])⟩=((place a).2:Int):=by
   unfold sn;refine(ed ((1:Int)+·) (dt rfl)).trans ?_;lia
  unfold cX;rw[h1,h2];rfl
 ·rw[Function.comp,e1,e2]
  congr 1;unfold dB;simp;lia
structure PO(l:List Nat):Prop where
 ok:TextOk l
 last:l.getLast?≠some 92
 tab:9∉l
def poB(l:List Nat):Bool:=okB l&&(l.getLast? !=some 92)&&!l.contains 9
theorem yF(h:poB l=true):PO l:=by
 unfold poB at h;rw[fi,fi]at h;obtain⟨⟨h1,h2⟩,a⟩:=h;exact⟨pt h1,by simpa using h2,by simpa using a⟩
theorem vu:∀l∈dW,PO l:=λl hl=>yF (gb.mp (show dW.all poB=true by decide+kernel) l hl)
theorem wG:∀l∈dZ,PO l:=λl hl=>yF (gb.mp (show dZ.all poB=true by decide+kernel) l hl)
theorem qk{p:List Nat}(h:PO l)(q:TextOk p)(a:l.length+p.length<=40):TextOk (l++p):=h.ok.app q a λe=>h.last (by rw[pA];exact e.1)
theorem po_app{p:List Nat}(h:PO l)(q:PO p)(a:l.length+p.length<=40):PO (l++p):=by
 refine⟨qk h q.ok a,?_,λm=>(j2.mp m).elim h.tab q.tab⟩;rw[List.getLast?_append];cases e:p.getLast? with
 |none=>exact h.last
 |some c=>exact λz=>q.last (e.trans z)
theorem po_nil:PO []:=⟨⟨by decide,(λc hc=>by cases hc),λi a=>by cases a⟩,(λe=>by cases e),λm=>by cases m⟩
theorem exI{p q:α->Prop}{d:α}(h1:p d)(h2:q d):∃d,p d/\q d:=⟨d,h1,h2⟩
theorem xI{r:Nat}(I:Nat->List MV->LS->Prop)
  (b:∀i l s,I i l s->s.mh[r]?=some (.list items))
  (stop:∀i s,I i [] s->QF .next s)
  (step:∀i v l s,I i (v::l) s->Wp (T (.ref s.mh.length)) {s with mh:=s.mh++[.tuple [.int (i:Int),v]]} λ_ s=>Wp B s (CG (I (i+1) l) QF)):
  ∀(N i:Nat)(st:LS),I i (items.drop i) st->items.length<N+i->i<=items.length->Wp (jT T B r N i) st QF:=by
 intro N;induction N with
 |zero=>intro i x _ h1 h2;lia
 |succ N c=>
  intro i x h h1 h2;unfold Wp jT;simp only[b _ _ x h];by_cases a:i<items.length
  ·have hd:items.drop i=items[i]::items.drop (i+1):=e9 a
   rw[hd]at h;simp only[fg a];refine aq (aQ (step _ _ _ x h) λg s q=>aq (aQ q λf s q=>?_));cases f with
   |next=>exact c (i+1) s q (by lia) (by lia)
   |cont=>exact c (i+1) s q (by lia) (by lia)
   |brk=>exact dT q
   |ret v=>exact dT q
  ·have d:i=items.length:=by lia
   subst d;rw[pa]at h;simp only[nh (ep _)];exact⟨_,_,rfl,stop _ x h⟩
theorem xJ{r:Nat}{st:LS}(h:Wp (jT T B r N 0) st QF):Wp (zH T B N (.ref r)) st QF:=h
theorem gO{d l c:Nat}(h:∀r∈rows,KSh r.kind r.told):∀k∈rows.map (cX J8 d l c),KSh k.k k.t:=λk m=>by
 obtain⟨r,a,rfl⟩:=nb.mp m;exact h r a
theorem DL(h:NB b):NB (47::42::42::47::b):=λi a=>by
 match i,a with
 |0,a=>cases a
 |1,a=>cases a
 |2,a=>cases a
 |3,a=>cases a
 |i+4,a=>exact h i a
theorem s9{a:List Nat}{f:List TRow}(h:NB a)(c:NB b)(j:9∉b)(g:ToksR F1 F2 (a++[47,42,42,47]++b) 0 [] f)(i:ToksR F1 F2 a 0 [] rA)(d:ToksR F1 F2 b 0 [] rB):
  f.map (cX (a++[47,42,42,47]++b) 0 1 1)=rA.map (cX a 0 1 1)++[⟨0,(place a).1,(place a).2,tComment,.one (.str [])⟩]++rB.map (cX b 0 (place a).1 ((place a).2+4))↔lO a:=by
 have e:a++[47,42,42,47]++b=a++(47::42::42::47::b):=by simp
 rw[e]at g⊢;rw[kv,show[(⟨0,(place a).1,(place a).2,tComment,.one (.str [])⟩:Key)]++rB.map (cX b 0 (place a).1 ((place a).2+4))=_ from(zp d (nf d)).symm];exact(m7 h (DL c) (by simpa using j) g i (nf d)).trans (sd a (42::47::b))
def vF(P:Params):Option (Arguments×List Stmt×Scope×Value):=zF (Internal.hd.heap_39 P) 880
theorem DW{Φ:List Stmt->Scope->Prop}(e:vF P=some (params,body,scope,dV))(hl:LocalsOk scope ["script","first","second","front","back","place","n","piece","a","b","left","right","line","column","joined","parted"])(h:LocalsOk scope ["script","first","second","front","back","place","n","piece","a","b","left","right","line","column","joined","parted"]->Φ body scope):
  ∀b c a f,vF P=some (b,c,a,f)->Φ c a:=by
 intro b c a f d;rw[e]at d;injection d with d;injection d with _ d;injection d with e1 d;injection d with e2 _;subst e1 e2;exact h hl
def qc(a:Addr)(d:Den MF):Prop:=Wp d ⟨[some (.sref a),none,none,none,none,none,none,none,none,none,none,none,none,none,none,none],[.dict [],.dict []]⟩ (AT λr mh=>r=.bool true/\[.dict [],.dict []]<+:mh)
theorem B2(hK:HK G P)(hcl:G.cl=[])(hP:P=G.w.params)(h0:G.φ0[0]?=some 36)(h1:G.φ0[1]?=some 29){a:Addr}(hS:SL G a zs):
  ∀aa ak C cb,vF P=some (aa,ak,C,cb)->∃d,fD G C ["script","first","second","front","back","place","n","piece","a","b","left","right","line","column","joined","parted"] 104 ak d/\qc a d:=by
 obtain⟨cq,c1,hE⟩:=zl hK;obtain⟨cc,cQ,bg⟩:=tc hK;obtain⟨ce,cP,bh⟩:=tq hK;obtain⟨F1,cU,bT⟩:=tf hK h0;obtain⟨F2,cV,bS⟩:=tg hK hP h1;obtain⟨bu,c2,av⟩:=wz hK cU cV bT bS;obtain⟨bV,c3,aj⟩:=zk hK 100;obtain⟨bp,c4,bN⟩:=wv hK;obtain⟨b0,c5,a7⟩:=te hK;obtain⟨bY,c6,bj⟩:=w6 hK;apply DW (Φ:=λbody scope=>∃d,fD G scope ["script","first","second","front","back","place","n","piece","a","b","left","right","line","column","joined","parted"] 104 body d/\qc a d);case e=>exact rfl
 case hl=>exact⟨by decide+kernel,by decide+kernel⟩
 case h=>
  intro lo;apply exI;case h1=>
   run_tac mwalk
   any_goals exact hS
  case h2=>
   unfold qc;cbv;refine vn ?_;refine aQ (Q':=λv s=>∃z:Int,v=.int z/\s=⟨[some (.sref a),none,none,none,none,none,none,none,none,none,none,none,none,none,none,none],[.dict [],.dict []]⟩) ?_ ?_
   ·cases zs with
    |nil=>
     refine wp_pick_f rfl ?_;cbv;exact⟨0,rfl,rfl⟩
    |cons z t=>
     refine wp_pick_t rfl ?_;cbv;refine qe (k:=0) rfl (vy _) rfl ?_;cbv;exact⟨z,rfl,rfl⟩
   rintro _ _ ⟨z1,rfl,rfl⟩;cbv;refine zB ?_;cbv;refine aQ (Q':=λv s=>∃z:Int,v=.int z/\s=⟨[some (.sref a),some (.int z1),none,none,none,none,none,none,none,none,none,none,none,none,none,none],[.dict [],.dict []]⟩) ?_ ?_
   ·refine aI (λg=>?_) (λg=>?_)
    ·cbv
     have g2:1<zs.length:=by simp at g;lia
     refine qe (k:=1) rfl (by unfold seqIndex?;simp;lia) (fg g2) ?_;cbv;exact⟨_,rfl,rfl⟩
    ·cbv
     exact⟨_,rfl,rfl⟩
   rintro _ _ ⟨z2,rfl,rfl⟩;cbv;refine xL (a:=2) (b:=24) ?_;cbv;generalize b6:(List.take (24-2) (List.drop 2 zs))=us;have cD:us.length<=22:=by rw[<-b6,g7];lia
   have m0:([MO.dict [],.dict []]++[MO.list (us.map MV.int)])[2]?=some (.list (us.map MV.int)):=rfl;have bf:=eh [MO.dict [],.dict []] [MO.list (us.map MV.int)];generalize [MO.dict [],.dict []]++[MO.list (us.map MV.int)]=aR at m0 bf⊢;refine xJ (xI (items:=us.map MV.int) (λi KC s=>∃(ws:List Int)(fr bk:List Nat)(y:List MO)(o5 o6 o7:Option MV),KC=ws.map MV.int/\s=⟨[some (.sref a),some (.int z1),some (.int z2),some (.str fr),some (.str bk),o5,o6,o7,none,none,none,none,none,none,none,none],y⟩/\aR<+:y/\PO fr/\fr.length<=5/\PO bk/\bk.length<=5) ?_ ?_ ?_ NN 0 _ ⟨us,[],[],aR,none,none,none,rfl,rfl,fa _,po_nil,by simp,po_nil,by simp⟩ ?_ (oL _))
   ·rintro i _ _ ⟨ws,fr,bk,y,o5,o6,o7,rfl,rfl,hp,_⟩
    exact aO hp m0
   ·rintro i _ ⟨ws,fr,bk,y,o5,o6,o7,e,rfl,hp,pf,lf,pb,lb⟩
    cbv;refine cB (hE _) ?_;cbv;refine cB (hE _) ?_;cbv;obtain⟨k1,a3,ca⟩:=qJ z1 (n:=(List.map MV.str ic).length) (by rw[sf];decide);rw[sf]at a3;rw[ca];refine gB (ls:=ic) (ag aW) a3 (by decide) ?_;obtain⟨p1,bb⟩:∃N,N=ic.getD k1 []:=⟨_,rfl⟩;have bd:p1∈ic:=by
     rw[bb,E0,fg a3];exact Jq _
    rw[<-bb];have cF:=(vc p1 bd).2;cbv;refine cB (bg _) ?_;cbv;refine cB (bg _) ?_;cbv;obtain⟨k2,a2,bZ⟩:=qJ z2 (n:=(List.map MV.str dW).length) (by rw[sf];decide);rw[sf]at a2;rw[bZ];refine gB (ls:=dW) (ag aW) a2 (by decide) ?_;obtain⟨p2,aY⟩:∃N,N=dW.getD k2 []:=⟨_,rfl⟩;have bc:p2∈dW:=by
     rw[aY,E0,fg a2];exact Jq _
    rw[<-aY];have cE:=(vv p2 bc).2;cbv;have aq:=aT (aT (aT (aT (bf.trans hp) [MO.list (List.map MV.str ic)]) [MO.list (List.map MV.str ic)]) [MO.list (List.map MV.str dW)]) [MO.list (List.map MV.str dW)];generalize y++[MO.list (List.map MV.str ic)]++[MO.list (List.map MV.str ic)]++[MO.list (List.map MV.str dW)]++[MO.list (List.map MV.str dW)]=ap at aq⊢;have L:TextOk (fr++p1):=qk pf (vc p1 bd).1 (by lia);have o:PO (p2++bk):=po_app (vu p2 bc) pb (by lia);have lA:(fr++p1).length<=15:=by rw[g8];lia
    have lB:(p2++bk).length<=15:=by rw[g8];lia
    generalize fr++p1=A at L lA⊢;generalize p2++bk=B at o lB⊢;have a6:∀c∈A,c≠0/\c≠12/\c≠13:=λc m=>⟨(L.signs c m).1,(L.signs c m).2.1,(L.signs c m).2.2.1⟩;have a5:∀c∈B,c≠0/\c≠12/\c≠13:=λc m=>⟨(o.ok.signs c m).1,(o.ok.signs c m).2.1,(o.ok.signs c m).2.2.1⟩;refine aE (av A _ (by lia) a6 ⟨_,aO aq rfl⟩ ⟨_,aO aq rfl⟩) ?_;rintro _ b5 ⟨bC,iA,aH,rA,rfl,bK,hA,bR⟩;have nA:=jz hA;cbv;refine aE (aj A aH 0 rA iA 0 1 1 b5 (bR.high 100 (by lia)) bK (by lia)) ?_;rintro _ cz ⟨bB,jA,O,rfl,bH,_,au⟩;replace au:=au.keys;have H:=aq.trans (bC.trans bB);cbv;refine aE (av B _ (by lia) a5 ⟨_,aO H rfl⟩ ⟨_,aO H rfl⟩) ?_;rintro _ cy ⟨aX,iB,aw,rB,rfl,be,hB,bi⟩;have nB:=jz hB;cbv;refine aE (bN A _ (by lia)) ?_;rintro _ cx ⟨aV,iw,rfl,cG⟩;cbv;have bL:∀c∈A++B,c≠0/\c≠12/\c≠13:=λc m=>(j2.mp m).elim (a6 c) (a5 c);have ay:=H.trans (aX.trans aV);refine aE (av (A++B) _ (by rw[g8];lia) bL ⟨_,aO ay rfl⟩ ⟨_,aO ay rfl⟩) ?_;rintro _ b4 ⟨bA,iW,aF,rW,rfl,bI,hW,bP⟩;have nW:=jz hW;rw[g8]at nW;cbv;refine aE (aj (A++B) aF 0 rW iW 0 1 1 b4 (bP.high 100 (by lia)) bI (by lia)) ?_;rintro _ b3 ⟨b9,jW,vW,rfl,bD,_,a8⟩;replace a8:=a8.keys;cbv;have u:=aV.trans (bA.trans b9);refine aE (aj B aw 0 rB iB 0 _ _ b3 ((bi.high 100 (by lia)).pre u) (aO u be) (by lia)) ?_;rintro _ E ⟨I,jB,vB,rfl,bG,_,as⟩;replace as:=as.keys;have q:=aX.trans (u.trans I);have af:=aO q bH;have ai:=au.keep (.pre q);have eA:=au.len;have eB:=as.len;rw[sf]at eA eB;cbv;refine pK af bG (by lia) ?_;cbv;have p:=eh E [MO.list (O++vB)];have aM:(E++[MO.list (O++vB)])[E.length]?=some (.list (O++vB)):=aW;have ae:=aO I bD;have ct:=aZ ae;have ab:=aO p ae;generalize E++[MO.list (O++vB)]=ci at p aM ab⊢;obtain⟨r1,b8,aC⟩:=vJ ab aM (by lia) (a8.keep (.pre (I.trans p))) ((ai.keep (.pre p)).app (as.keep (.pre p))) (gO (gN hW)) (λk m=>(j2.mp m).elim (gO (gN hA) k) (gO (gN hB) k));have aC:r1=true↔f8 A B:=aC.trans (m7 L.back o.ok.back o.tab hW hA hB);refine ah b8 ?_;cbv;refine aE (a7 A B _ (by lia) (by lia)) ?_;rintro _ j ⟨ba,x1,rfl,bX⟩;cbv;obtain rfl:r1=x1:=hH.mpr (aC.trans bX.symm);refine wp_pick_f (by simp) ?_;cbv;have l:=p.trans ba;have a4:=aO l af;have Y:=aT (eh j [MO.tuple [MV.int 0,MV.int ↑(place A).fst,MV.int ↑(place A).snd,MV.str [99,111,109,109,101,110,116],MV.str []]]) [MO.list [MV.ref j.length]];have aD:(j++[MO.tuple [MV.int 0,MV.int ↑(place A).fst,MV.int ↑(place A).snd,MV.str [99,111,109,109,101,110,116],MV.str []]]++[MO.list [MV.ref j.length]])[j.length]?=_:=ag aW;have aL:(j++[MO.tuple [MV.int 0,MV.int ↑(place A).fst,MV.int ↑(place A).snd,MV.str [99,111,109,109,101,110,116],MV.str []]]++[MO.list [MV.ref j.length]])[(j++[MO.tuple [MV.int 0,MV.int ↑(place A).fst,MV.int ↑(place A).snd,MV.str [99,111,109,109,101,110,116],MV.str []]]).length]?=_:=aW;generalize j++[MO.tuple [MV.int 0,MV.int ↑(place A).fst,MV.int ↑(place A).snd,MV.str [99,111,109,109,101,110,116],MV.str []]]++[MO.list [MV.ref j.length]]=r at Y aD aL⊢;have kC:im r (.ref j.length) ⟨0,(place A).1,(place A).2,tComment,.one (.str [])⟩:=⟨_,_,rfl,aD,rfl,rfl⟩;refine pK (aO Y a4) aL (by simp;lia) ?_;cbv;have V:=eh r [MO.list (O++[MV.ref j.length])];have aK:(r++[MO.list (O++[MV.ref j.length])])[r.length]?=_:=aW;generalize r++[MO.list (O++[MV.ref j.length])]=aP at V aK⊢;have Q:=I.trans (l.trans (Y.trans V));refine aE (aj B aw 0 rB iB 0 (place A).1 ((place A).2+4) aP ((bi.high 100 (by lia)).pre (u.trans Q)) (aO (u.trans Q) be) (by lia)) ?_;rintro _ D ⟨an,jC,vC,rfl,bF,_,ar⟩;replace ar:=ar.keys;have eC:=ar.len;rw[sf]at eC;cbv;refine pK (aO an aK) bF (by simp;lia) ?_;cbv;have U:=eh D [MO.list (O++[MV.ref j.length]++vC)];have a0:(D++[MO.list (O++[MV.ref j.length]++vC)])[D.length]?=some (.list (O++[MV.ref j.length]++vC)):=aW;generalize D++[MO.list (O++[MV.ref j.length]++vC)]=ch at U a0⊢;have co:=aZ a0;have x:=H.trans (q.trans (l.trans (Y.trans (V.trans (an.trans U)))));have bM:∀c∈A++[47,42,42,47]++B,c≠0/\c≠12/\c≠13:=λc m=>by
     rcases j2.mp m with m|m
     ·rcases j2.mp m with m|m
      ·exact a6 c m
      ·simp at m
       lia
     ·exact a5 c m
    refine aE (av (A++[47,42,42,47]++B) _ (by simp;lia) bM ⟨_,aO x rfl⟩ ⟨_,aO x rfl⟩) ?_;rintro _ aN ⟨J,iD,aG,rD,rfl,bJ,hD,bQ⟩;have nD:=jz hD;rw[g8,g8]at nD;have l4:([47,42,42,47]:List Nat).length=4:=rfl;cbv;refine aE (aj _ aG 0 rD iD 0 1 1 aN (bQ.high 100 (by lia)) bJ (by lia)) ?_;rintro _ cg ⟨T,jD,vD,rfl,bE,hge,a9⟩;replace a9:=a9.keys;have cp:=J.length_le;cbv;have ao:=Y.trans (V.trans (an.trans (U.trans (J.trans T))));obtain⟨r2,b7,aB⟩:=vJ bE (aO (J.trans T) a0) (by lia) a9 (((ai.keep (.pre (l.trans ao))).app (.cons (kC.keep (.pre (V.trans (an.trans (U.trans (J.trans T)))))) .nil)).app (ar.keep (.pre (U.trans (J.trans T))))) (gO (gN hD)) (λk m=>by
     rcases j2.mp m with m|m
     ·rcases j2.mp m with m|m
      ·exact gO (gN hA) k m
      ·rw[h9.mp m]
       exact .inr ⟨by show tComment≠tHash;decide,_,rfl⟩
     ·exact gO (gN hB) k m)
    have aB:r2=true↔lO A:=aB.trans (s9 L.back o.ok.back o.tab hD hA hB);refine ah b7 ?_;cbv;refine aE (bj A _ (by lia)) ?_;rintro _ cf ⟨b2,x2,rfl,bW⟩;cbv;obtain rfl:r2=x2:=hH.mpr (aB.trans bW.symm);exact⟨ed MV.bool (ti r2),x.trans (J.trans (T.trans b2))⟩
   ·rintro i _ _ _ ⟨ws,fr,bk,y,o5,o6,o7,e,rfl,hp,pf,lf,pb,lb⟩
    cases ws with
    |nil=>cases e
    |cons w ws=>
     obtain⟨rfl,rfl⟩:=f4 e;cbv;refine cB (bh _) ?_;cbv;refine cB (bh _) ?_;cbv;obtain⟨k,hk,ek⟩:=qJ w (n:=(List.map MV.str dZ).length) (by rw[sf];decide);rw[sf]at hk;rw[ek];refine gB (ls:=dZ) (ag aW) hk (by decide) ?_;obtain⟨N,aU⟩:∃N,N=dZ.getD k []:=⟨_,rfl⟩;have hm:N∈dZ:=by
      rw[aU,E0,fg hk];exact Jq _
     have pp:=wG N hm;have pl:=(wH N hm).2;rw[<-aU];cbv;dsimp only;have a1:=aT (aT (aT hp [MO.tuple [MV.int ↑i,MV.int w]]) [MO.list (List.map MV.str dZ)]) [MO.list (List.map MV.str dZ)];generalize y++[MO.tuple [MV.int ↑i,MV.int w]]++[MO.list (List.map MV.str dZ)]++[MO.list (List.map MV.str dZ)]=ap at a1⊢;clear hp;refine wp_andK_all ?_;cbv;refine aQ (Q':=λf s=>f=MF.next/\∃M:List Nat,s=⟨[some (.sref a),some (.int z1),some (.int z2),some (.str M),some (.str bk),some (.int (i:Int)),some (.int w),some (.str N),none,none,none,none,none,none,none,none],ap⟩/\PO M/\M.length<=5) ?_ ?_
     ·refine aI (λg1=>?_) (λg1=>?_)
      ·have g2:fr.length+N.length<=5:=by
        rw[fi]at g1;have :=g1.2;simp at this;lia
       cbv;exact⟨rfl,_,rfl,po_app pf pp (by lia),by rw[g8];exact g2⟩
      ·cbv
       exact⟨rfl,_,rfl,pf,lf⟩
     rintro _ _ ⟨rfl,M,rfl,aJ,aS⟩;cbv;refine wp_andK_all ?_;cbv;refine aI (λg1=>?_) (λg1=>?_)
     ·have g2:bk.length+N.length<=5:=by
       rw[fi]at g1;have :=g1.2;simp at this;lia
      cbv;exact⟨ws,M,_,ap,_,_,_,rfl,rfl,a1,aJ,aS,po_app pb pp (by lia),by rw[g8];exact g2⟩
     ·cbv
      exact⟨ws,M,_,ap,_,_,_,rfl,rfl,a1,aJ,aS,pb,lb⟩
   ·rw[de,sf]
    lia
variable{Kg:ExcName->Option Value}{cl:Str->Option Addr}
open PySem.Spec
noncomputable abbrev ip:List (Addr×Addr):=[(40,36),(33,29)]
def Cr(a:Shared)(r:Result)(c:Shared):Prop:=
 (∃v,r=.ok (.ret v)/\v=.bool true)/\(∀b o,b≠36->b≠29->a.heap.get? b=some o->c.heap.get? b=some o)/\(∃ps,c.heap.get? 36=some (tabObj ps))/\(∃ps,c.heap.get? 29=some (tabObj ps))/\c.os=a.os/\AllBare c.gens
theorem BQ{M:Model}{m:Code}{a:Shared}{j:ClaimW}{args:List WData}(hT:TabsAt ip a.heap)(t:∀x,j.raises args x=false)(hp:j.post args (.bool true) args=true)
  (h:codeAny M A m (Cr a) s):codeAny M A m (GoodWG j cl Kg args a) s:=by
 refine codeAny_mono h ?_;rintro r l ⟨⟨v,e,p⟩,hk,g,i,d,hg⟩;subst e p;have key:∀b o,a.heap.get? b=some o->l.heap.get? b=some o\/∃c,(c,b)∈ip/\∃ps,l.heap.get? b=some (tabObj ps):=by
  intro b o e;by_cases h1:b=36
  ·subst h1;exact .inr ⟨40,by simp,g⟩
  ·by_cases h2:b=29
   ·subst h2;exact .inr ⟨33,by simp,i⟩
   ·exact .inl (hk b o h1 h2 e)
 refine⟨.inl ⟨_,_,[],rfl,t,ReadsW.bool true,hp,λ_=>⟨List.nodup_nil,λ_ hm=>(by cases hm)⟩⟩,⟨λb o e=>?_,λb o e=>?_⟩,d,hg⟩
 ·rcases key b o e with q|⟨c,hc,ps,f⟩
  ·exact .inl q
  ·obtain⟨n,k⟩:=hT _ hc
   rw[e]at k;obtain rfl:=ec k;exact .inr (.inl ⟨(n.tab e).isCodeTable,rfl,#[],ps,rfl,by rw[Array.empty_append];exact f⟩)
 ·rcases key b o e with q|⟨c,hc,ps,f⟩
  ·exact⟨o,q⟩
  ·exact⟨_,f⟩
theorem vQ{vs:List Value}(h:IntsAre vs zs)(φ:List Addr):All2 (VR φ) (zs.map MV.int) vs:=by
 induction h with
 |nil=>exact .nil
 |cons a t _ b=>exact .cons ⟨_,rfl⟩ b
theorem isList_stays{l:Addr}{vs:Array Value}(st:h.StaysIn h')(q:h.IsList l vs):h'.IsList l vs:=by
 obtain⟨o,a,hc⟩:=q;exact⟨o,st _ _ a,hc⟩
theorem DV{w:World}{p:Program}{loose:List Str}{mg mb:Str->Option Value}{c:Shared}(T:Top p loose Kg mg mb c.heap)(KX:(Internal.hd.heap_39 w.params).In c.heap)(hT:TabsAt ip c.heap)(hg:c.gens=#[])
    (hf:vF w.params=some (params,body,scope,dV))(e1:env.scope=scope)(e2:env.locals=c.heap.objs.size)(e3:env.globals=mainGlobals)(e4:env.builtins=builtinsNs)(e5:env.frame=some c.heap.objs.size)
    (e6:(scope.names.all λe=>decide (e.2≠.cell))=true)(e7:scope.kind=.function)
    {l:Addr}{vs:List Value}(hL:c.heap.IsList l vs.toArray)(hI:IntsAre vs zs)(hzl:zs.length<=63)
    {g:Heap}{k:Nat}{m:Str->Option Value}(F:Fr c.heap c.heap.objs.size g m)(hm:m "script"=some (.ref l))(htk:1<=k):
    wpAny (model prog w) (callerA.deeper env) (execs body env) (λf U=>Cr c (.ok (.ret (match f with|.ret v=>v|_=>.none))) U) NoE {heap:=g,gens:=c.gens,drawn:=c.drawn,toks:=k,os:=c.os}:=by
  have Q:=ghost_top hT T;let G:Glo:={prog:=prog,w:=w,K:=Internal.hd.heap_39 w.params,p:=topProg,loose:=loose++(recsOf p).map (·.name)++(litsOf p).map (·.1)++(clssOf p loose).map (·.name),mg:=mg,mb:=mb,φ0:=[36,29],cl:=[],pre:=λh=>h.IsList l vs.toArray,pmono:=λst q=>isList_stays st q};have hK:G.K=Internal.hd.heap_39 w.params:=rfl;obtain⟨N,E,M2⟩:=bmod_of_top Q;have L:noTabs (Internal.hd.heap_39 w.params)=true:=by kernel_rfl
  have M:=ghost_list hT hL;have O:vs.length=zs.length:=by have :=(vQ hI []).len;simpa using this.symm
  have ok:Fok G 104 scope env c.heap.objs.size (ghostOf c.heap ip) (callerA.deeper env):=
    { scope:=e1,kind:=e7,loc:=e2,glob:=e3,blt:=e4,frame:=λ_=>e5,
      below:=λ_=>⟨callerA,_,[],ghost_below hT,Around.frames_deeper rfl⟩,
      cells:=λx i hi _=>by cases hi
      inK:=ghost_K hT KX L,top:=topRead_of Q,bm:=⟨N,E,M2⟩,hnd:=rfl,pre:=M,depth:=by show callerA.depth+1+104<900;decide,units:=by show callerA.units+3+8*104+100<cLine;decide}
  have hS:SL G l zs:=⟨by lia,λh q=>⟨vs.toArray,q,λφ=>by simpa using vQ hI φ⟩⟩;obtain⟨d,hB,u⟩:=B2 hK rfl rfl rfl rfl hS _ _ _ _ hf;obtain⟨fl,KG,B,j⟩:=u;have N2:=ghost_news hT F (show News c.heap c.heap.objs.size g []from λq hq=>by cases hq);have F2:=ghost_fr hT F;have am:c.heap.objs.size<g.objs.size:=F.ns.lt;have ao:(36:Nat)<c.heap.objs.size:=ry (hT (40,36) (by simp)).2;have ap:(29:Nat)<c.heap.objs.size:=ry (hT (33,29) (by simp)).2;have z:b7 G ["script","first","second","front","back","place","n","piece","a","b","left","right","line","column","joined","parted"] [36,29] [] ⟨[some (.sref l),none,none,none,none,none,none,none,none,none,none,none,none,none,none,none],[.dict [],.dict []]⟩ (ghostOf c.heap ip) c.heap.objs.size g:=by
    refine⟨m,[tabObj #[],tabObj #[]],F2,?_,?_,.cons ⟨#[],rfl,trivial⟩ (.cons ⟨#[],rfl,trivial⟩ .nil),rfl,?_,fa _⟩
    · intro q hq
      refine N2 q ?_;simp at hq⊢;exact hq
    ·simp
    · refine .cons ⟨.ref l,hm,rfl⟩ ?_
      exact(.cons trivial (.cons trivial (.cons trivial (.cons trivial (.cons trivial (.cons trivial (.cons trivial (.cons trivial (.cons trivial (.cons trivial (.cons trivial (.cons trivial (.cons trivial (.cons trivial (.cons trivial .nil)))))))))))))))
  refine hB ⟨_,env,_,_,[],ok⟩ _ ⟨_,[36,29]⟩ (λf s=>f=fl/\s=KG) _ ⟨z,htk⟩ (wEq B) λf0 s0 C f2 Y H V=>?_;obtain⟨rfl,rfl⟩:=Y;have n:(match f2 with|.ret v=>v|_=>Value.none)=.bool true/\[.dict [],.dict []]<+:s0.mh:=by
    cases f0 with
    |ret v=>
      obtain⟨v',rfl,hr⟩:=V;have r:v=MV.bool true/\[.dict [],.dict []]<+:s0.mh:=j;obtain⟨hv,t⟩:=r;subst hv;exact⟨hr,t⟩
    |next=>exact absurd j.1 (by simp)
    |brk=>exact absurd j (by simp[AT])
    |cont=>exact absurd j (by simp[AT])
  obtain⟨n,t⟩:=n;obtain⟨m3,D,F3,N3,ab,aa,af,I⟩:=id H.sim.1;obtain⟨kd,J,lg,kg,kb⟩:=H.same;have tab:∀{i:Nat}{P:Addr},[MO.dict [],MO.dict []][i]?=some (.dict [])->([36,29]:List Addr)[i]?=some P->∃ps,C.s.heap.get? P=some (tabObj ps):=by
    intro i P h1 h2;have A:C.φ[i]?=some P:=aO I.2 h2;obtain⟨a,o,g1,g2,⟨ps,rfl,_⟩,_⟩:=H.sim.1.obj (aO t h1);obtain rfl:P=a:=ec (A.symm.trans g1);exact⟨ps,g2⟩
  refine⟨⟨_,rfl,n⟩,λb o h1 h2 e=>F3.keep b o (ghost_ne e (by simp;exact⟨h1,h2⟩)),tab (i:=0) rfl rfl,tab (i:=1) rfl rfl,J,?_⟩;have :C.s.gens=c.gens++lg.toArray:=kg;rw[this,hg];intro y hy;simp at hy;exact kb y hy
theorem whole:PySem.Challenge.rw_te0062_03.Holds:=by
 refine Internal.hd ?_;k_fill;intro w n e mg mb G Y v o pm y doc dV kV r hd l s j hg args m z f g i h k;have KX:=kIn_of Y;refine Ground.open G ?_;intro T B D C A;try(refine guard_noD D (by decide+kernel) ?_;clear D)
 obtain⟨t,p,M⟩:=bmod_of_top T;have d:=tab_of (x:=PySem.Str.ofString "serialize_url") (c:=40) (P:=36) T KX (by exact rfl) (by exact rfl);have b:=tab_of (x:=PySem.Str.ofString "serialize_string_value") (c:=33) (P:=29) T KX (by exact rfl) (by exact rfl);have a:TabsAt ip e.heap:=by
  intro q hq;rcases l9.mp hq with rfl|hq
  ·exact d
  ·rw[h9.mp hq];exact b
 clear j;wrow_args f g i h k;all_goals(
  first|refine callC_kw (enter_call ?_)|refine enter_call ?_|refine callC_kw (enter_callW ?_)|refine enter_callW ?_|w_how
  refine BQ a (λ_=>rfl) ?hp ?_;case hp=>first|exact postW_of (by wrow_shape) (by wtm_val) (by str_meet;first|done|w_fin)
  w_top u;w_call any r hd l s T F;refine IH ?_;apply DV (T:=T) (KX:=KX) (hT:=a) (hg:=hg) (F:=F);case hf=>exact rfl
  case hL=>assumption
  case hI=>assumption
  case hzl=>lia
  case hm=>exact rfl
  case e1=>exact rfl
  case e2=>exact rfl
  case e3=>exact rfl
  case e4=>exact rfl
  case e5=>exact rfl
  case e7=>exact rfl
  case e6=>decide+kernel
  case htk=>exact JD 1 _)
end
end Internal
theorem PySem.Challenge.cw_te0062_03_holds : PySem.Challenge.rw_te0062_03.Holds := by
  exact Internal.whole
