import PyProof.Rows.All
import Wide.All
import OpenK.AllK
import Wide.FinOn
import Lean
import PySem.Challenge.RW_mj0259_01
set_option Elab.async false
set_option maxRecDepth 100000
set_option maxHeartbeats 0
set_option linter.all false
set_option genSizeOf false
set_option genInjectivity false
set_option compiler.extract_closed false
set_option bootstrap.genMatcherCode false
namespace Mine
noncomputable def dg(k:Nat):Nat→List Nat:=Nat.rec (motive:=fun _=>Nat→List Nat) (fun _=>[]) (fun _ ih n=>Bool.rec (motive:=fun _=>List Nat) (Nat.mod n 16::ih (Nat.div n 16)) (Nat.mod (Nat.div n 16) 256::ih (Nat.div n 4096)) (Nat.beq (Nat.mod n 16) 15)) k
section
open PySem PySem.W
noncomputable abbrev Z1x:Code→Sem Fin:=Fast.tw11892475500146522536 Fast.tw14364793385576792824
noncomputable abbrev U1:=Fast.tw12563942051412417395
noncomputable abbrev Z1b:=Fast.tw12362719219628433562
noncomputable abbrev tFor:=Fast.tw15207555903498437823
noncomputable abbrev tComp:=Fast.tw1180062409338748621
noncomputable abbrev tLot:=Fast.tw1623429502029203251
noncomputable abbrev U2:=Fast.tw17756973803653878507
noncomputable abbrev Stk:=List (Code × Pos)
noncomputable abbrev Led:=List (Addr × Obj)
noncomputable def er:Value→Value
 | .int i _=>.int i 0
 | .float b _=>.float b 0
 | .str s _=>.str s 0
 | .bytes b _=>.bytes b 0
 | v=>v
set_option genInjectivity true in
inductive Cell where
 | a (n:Nat)
 | c (c:Code)
 | s (s:String)
 | v (vs:List Value)
 | l (l:Led)
 | b (b:Stk)
 | g (g:Array GenState)
 | o (o:Option GenState)
structure PItem where
 d:Bool
 id:String
 args:List Value
 pre:Led
 v:Nat→List Value→Value
 k:Nat
inductive Kd where
 | done (f:Flow)
 | raise (e:Value)
 | pause (t:Sem Fin)
 | pauseT (c:Code)
 | fail (n:Nat)
structure Rs where
 kd:Kd
 code:Code
 pos:Pos
 led:Led
 sz:Nat
 tk:Nat
 hs:List Nat
 its:List PItem
 ob:List (Cell × Cell)
noncomputable def YQ:Code→Bool
 | .func ..=>true
 | .block ..=>true
 | .whileLoop ..=>true
 | .forLoop ..=>true
 | .compStart ..=>true
 | .compLoop ..=>true
 | _=>false
noncomputable def Z1W (f:Flow):Sem Fin:=match f with
 | .ret v=>.pure (.done (.ret v))
 | _=>.pure (.done (.ret .none))
noncomputable def Yj (c:Code):Sem Fin:=match c with
 | .func body env=>.point [] fun _=>R.bindR (U1 body env) Z1W
 | .block stmts env=>R.bindR (U1 stmts env) fun f=>.pure (.done f)
 | .whileLoop test body orelse env=>Z1b test body orelse env
 | .forLoop target it body orelse env=>tFor target it body orelse env
 | .compStart e depth it acc env=>U2 e depth it acc env
 | .compLoop e depth it acc env=>tComp e depth it acc env
 | c=>Z1x c
noncomputable abbrev Jf:=Fast.tw10665104254819526710
noncomputable abbrev KQ:=@Fast.tw7687323783571163205
noncomputable abbrev NU:=Fast.tw2947500364327052199
noncomputable abbrev Wq:=Fast.tw6609576154772507232
noncomputable abbrev Jd:=Fast.tw17858455048448223758
noncomputable abbrev YN:=Fast.tw5670386056902412789
noncomputable def Yk (acts:Stk):List Env:=List.rec (motive:=fun _=>List Env) [] (fun x _ ih=>match x.1.isFrame with | true=>(match x.1.env? with | some e=>e::ih | none=>ih) | false=>ih) acts
noncomputable def ZO (acts:Stk):Option Addr:=match Yk acts with | env::_=>env.frame | []=>none
noncomputable def Nw (acts:Stk):List String:=List.rec (motive:=fun _=>List String) [] (fun x _ ih=>match x.1 with | .builtin id _=>id::ih | _=>ih) acts
noncomputable def Qn (acts:Stk):List String:=List.rec (motive:=fun _=>List String) [] (fun x r ih=>match x.1.isFrame with | true=>Nw r | false=>ih) acts
noncomputable def Nv (b:Bool)(acts:Stk):List Value :=
 [if (NU (Qn acts).eraseDups).length>sizeLine then .none else .str (NU (Qn acts).eraseDups) 0,.bool b]
noncomputable def Z1h (b:Bool)(acts:Stk):List Value:=match acts with
 | (_,pos)::_=>if pos.line==0 then [] else [rawInt pos.line,rawInt pos.endLine,rawInt pos.col,rawInt pos.endCol]++Nv b acts
 | []=>[]
noncomputable def QJ:Value→Bool
 | .none=>true
 | _=>false
noncomputable def Z08 (e:Value)(f:Addr)(head:Value)(b:Bool):Sem Unit :=
 R.bindR (Sem.stack fun acts=>R.bindR (Jf (Yk acts)) fun x=>match x with | some v=>Sem.pure v | none=>Sem.unsupported "x") fun fr =>
 Sem.stack fun acts=>R.bindR (@KQ head fr .none (rawInt f) .none (Z1h b acts)) fun en=>Jd e 1 en
noncomputable def Z0z (k:Nat)(e:Value)(f:Addr):Sem Unit:=R.bindR (Wq e 1) fun head=>match k with
 | 0=>(match QJ head with | true=>Z08 e f .none false | false=>.unsupported "x")
 | _+1=>(match QJ head with | true=>.unsupported "x" | false=>R.bindR (Wq head 3) fun fl=>match QJ fl with | true=>R.bindR (Jd head 3 .none) fun _=>Z08 e f head true | false=>.unsupported "x")
noncomputable def KN (c:Code)(e:Value):Sem Unit:=match c with
 | .func _ _=>YN e none
 | .block _ _=>tLot e
 | .whileLoop _ _ _ _=>tLot e
 | .forLoop _ _ _ _ _=>tLot e
 | .compStart a b i d env=>(match (Code.compStart a b i d env).isFrame with | true=>YN e none | false=>standAt theWindowsPlace)
 | .compLoop a b i d env=>(match (Code.compLoop a b i d env).isFrame with | true=>YN e none | false=>tLot e)
 | _=>.unsupported "x"
noncomputable def UA (c:Code)(e:Value):Sem Fin:=R.bindR (KN c e) fun _=>.raise e
noncomputable def hndX (k:Nat)(c:Code)(e:Value)(f:Addr):Sem Fin:=R.bindR (Z0z k e f) fun _=>UA c e
noncomputable def Vk (o:Obj)(i:Nat):Value:=match o.data with
 | .fields vs=>(match vs[i]? with | some v=>v | none=>.notImplemented)
 | _=>.notImplemented
noncomputable def isNI:Value→Bool
 | .notImplemented=>true
 | _=>false
noncomputable def at? {α:Type}(l:List α)(n:Nat):Option α :=
 List.rec (motive:=fun _=>Nat→Option α) (fun _=>none) (fun x _ ih n=>Nat.rec (motive:=fun _=>Option α) (some x) (fun m _=>ih m) n) l n
noncomputable def WD {α:Type}(l:List α)(n:Nat)(y:α):List α :=
 List.rec (motive:=fun _=>Nat→List α) (fun _=>[]) (fun x r ih n=>Nat.rec (motive:=fun _=>List α) (y::r) (fun m _=>x::ih m) n) l n
noncomputable def lk (l:List (Nat × Obj))(a:Nat):Option Obj :=
 List.rec (motive:=fun _=>Option Obj) none (fun x _ ih=>Bool.rec (motive:=fun _=>Option Obj) ih (some x.2) (Nat.beq x.1 a)) l
noncomputable def UL (pre:Led)(led:Led)(hs:List Nat):Option (Led × List Nat) :=
 List.rec (motive:=fun _=>List Nat→Option (Led × List Nat)) (fun hs=>some ([],hs))
  (fun _ _ ih hs=>match hs with
   | []=>none
   | h::hs=>match at? led h with
    | none=>none
    | some q=>match ih hs with
     | none=>none
     | some (l,hs)=>some (q::l,hs)) pre hs
noncomputable abbrev GoT:=Nat→Bool→Option Value→Code→Stk→Pos→Sem Fin→Led→Nat→Nat→List Nat→List PItem→List (Cell × Cell)→Rs
structure Cfg where
 prog:Program
 P:Params
 top:List (Nat × Obj)
 ids:List String
noncomputable def Z2z (n:Nat):GoT:=fun _ _ _ c _ p _ led sz tk hs its ob=>⟨.fail n,c,p,led,sz,tk,hs,its,ob⟩
noncomputable def pz (lvl:Nat)(m:Bool)(t:Sem Fin)(c:Code)(p:Pos)(led:Led)(sz tk:Nat)(hs:List Nat)(its:List PItem)(ob:List (Cell × Cell)):Rs:=match lvl with
 | 0=>(match m with
  | true=>⟨.pause t,c,p,led,sz,tk,hs,its,ob⟩
  | false=>⟨.fail 13,c,p,led,sz,tk,hs,its,ob⟩)
 | _+1=>⟨.fail 13,c,p,led,sz,tk,hs,its,ob⟩
noncomputable def Yz (C:Cfg)(ih:GoT):GoT:=fun lvl m H c B p t led sz tk hs its ob =>
 match t with
 | .pure fin=>(match fin with
  | .done f=>⟨.done f,c,p,led,sz,tk,hs,its,ob⟩
  | .again c'=>(match hs with
   | []=>⟨.fail 1,c,p,led,sz,tk,hs,its,ob⟩
   | h::hs=>(match c' with
    | .builtin id args=>(match h with
     | 0=>(match lvl with
      | 0=>(match hs with
       | []=>⟨.fail 33,c,p,led,sz,tk,hs,its,ob⟩
       | h::hs=>(match at? C.ids h with
        | some id'=>⟨.pauseT (.builtin id args),c,p,led,sz,tk,hs,its,(.s id,.s id')::ob⟩
        | none=>⟨.fail 31,c,p,led,sz,tk,hs,its,ob⟩))
      | _+1=>⟨.fail 2,c,p,led,sz,tk,hs,its,ob⟩)
     | h+1=>(match at? C.ids h with
      | some id'=>ih lvl true H (.builtin id args) B p (Yj (.builtin id args)) led sz tk hs its ((.s id,.s id')::ob)
      | none=>⟨.fail 31,c,p,led,sz,tk,hs,its,ob⟩))
    | c'=>(match h with
     | 0=>(match lvl with
      | 0=>⟨.pauseT c',c,p,led,sz,tk,hs,its,ob⟩
      | _+1=>⟨.fail 2,c,p,led,sz,tk,hs,its,ob⟩)
     | _+1=>ih lvl true H c' B p (Yj c') led sz tk hs its ob))))
 | .raise e=>(match m with
  | false=>⟨.raise e,c,p,led,sz,tk,hs,its,ob⟩
  | true=>(match YQ c with
   | false=>⟨.raise e,c,p,led,sz,tk,hs,its,ob⟩
   | true=>(match hs with
    | []=>⟨.fail 50,c,p,led,sz,tk,hs,its,ob⟩
    | h::hs=>(match c.env? with
     | none=>⟨.fail 51,c,p,led,sz,tk,hs,its,ob⟩
     | some env=>(match env.frame with
      | none=>⟨.fail 52,c,p,led,sz,tk,hs,its,ob⟩
      | some f=>(match h with
       | 0=>(match hs with
        | i::j::hs=>(match at? led i with
         | some q=>(match at? led j with
          | some r=>ih lvl false H c B p (UA c e) led sz tk hs its ((.v [e],.v [.ref q.1])::(.v [Vk q.2 1],.v [.ref r.1])::(.v [Vk r.2 3],.v [rawInt f])::ob)
          | none=>⟨.fail 53,c,p,led,sz,tk,hs,its,ob⟩)
         | none=>⟨.fail 53,c,p,led,sz,tk,hs,its,ob⟩)
        | _=>⟨.fail 54,c,p,led,sz,tk,hs,its,ob⟩)
       | k+1=>(match ZO ((c,p)::B) with
        | none=>⟨.fail 55,c,p,led,sz,tk,hs,its,ob⟩
        | some f1=>ih lvl false H c B p (hndX k c e f) led sz tk hs its ((.a f1,.a f)::ob))))))))
 | .rule _ k=>ih lvl m H c B p (k ()) led sz tk hs its ob
 | .at p' k=>ih lvl m H c B p' (k ()) led sz tk hs its ob
 | .point _ k=>ih lvl m H c B p (k ()) led sz tk hs its ob
 | .ask k=>ih lvl m H c B p (k ⟨C.prog,C.P⟩) led sz tk hs its ob
 | .load a _ k=>(match hs with
  | []=>⟨.fail 3,c,p,led,sz,tk,hs,its,ob⟩
  | h::hs=>(match h with
   | 0=>(match lk C.top a with
    | some o=>ih lvl m H c B p (k o) led sz tk hs its ob
    | none=>⟨.fail 4,c,p,led,sz,tk,hs,its,ob⟩)
   | i+1=>(match at? led i with
    | some q=>ih lvl m H c B p (k q.2) led sz tk hs its ((.a a,.a q.1)::ob)
    | none=>⟨.fail 5,c,p,led,sz,tk,hs,its,ob⟩)))
 | .loadIfAlive a k=>(match hs with
  | []=>⟨.fail 3,c,p,led,sz,tk,hs,its,ob⟩
  | h::hs=>(match h with
   | 0=>(match lk C.top a with
    | some o=>ih lvl m H c B p (k (some o)) led sz tk hs its ob
    | none=>⟨.fail 4,c,p,led,sz,tk,hs,its,ob⟩)
   | i+1=>(match at? led i with
    | some q=>ih lvl m H c B p (k (some q.2)) led sz tk hs its ((.a a,.a q.1)::ob)
    | none=>⟨.fail 5,c,p,led,sz,tk,hs,its,ob⟩)))
 | .update a _ f k=>(match hs with
  | []=>⟨.fail 6,c,p,led,sz,tk,hs,its,ob⟩
  | i::hs=>(match at? led i with
   | some q=>(match (f q.2).isFreed with
    | false=>ih lvl m H c B p (k ()) (WD led i (q.1,f q.2)) sz tk hs its ((.a a,.a q.1)::ob)
    | true=>⟨.fail 7,c,p,led,sz,tk,hs,its,ob⟩)
   | none=>⟨.fail 8,c,p,led,sz,tk,hs,its,ob⟩))
 | .alloc o k=>(match o.isFreed with
  | false=>ih lvl m H c B p (k sz) ((sz,o)::led) (sz+1) tk hs its ob
  | true=>⟨.fail 9,c,p,led,sz,tk,hs,its,ob⟩)
 | .fresh k=>ih lvl m H c B p (k tk) led sz (tk+1) hs its ob
 | .handled own k=>(match own with
  | false=>ih lvl m H c B p (k H) led sz tk hs its ob
  | true=>⟨.fail 10,c,p,led,sz,tk,hs,its,ob⟩)
 | .stack k=>ih lvl m H c B p (k ((c,p)::B)) led sz tk hs its ob
 | .call c' hd gd lv k=>(match hs with
  | []=>⟨.fail 11,c,p,led,sz,tk,hs,its,ob⟩
  | h::hs=>(match h with
   | 0=>pz lvl m (.call c' hd gd lv k) c p led sz tk hs its ob
   | h+1=>(match hd with
    | some e=>(match isNI e with
     | true=>⟨.fail 17,c,p,led,sz,tk,hs,its,ob⟩
     | false=>(match ih (lvl+1) true (some e) c' ((c,p)::B) p (Yj c') led sz tk hs its ob with
      | ⟨kd,c₁,_,led,sz,tk,hs,its,ob⟩=>(match kd with
       | .done f=>ih lvl m H c B p (k (.ok f)) led sz tk hs its ob
       | .raise e=>ih lvl m H c B p (k (.error e)) led sz tk hs its ob
       | .fail n=>⟨.fail n,c,p,led,sz,tk,hs,its,ob⟩
       | _=>⟨.fail 19,c,p,led,sz,tk,hs,its,ob⟩)))
    | none=>(match h with
     | 0=>(match its with
      | []=>⟨.fail 12,c,p,led,sz,tk,hs,its,ob⟩
      | it::its=>(match UL it.pre led hs with
       | none=>⟨.fail 16,c,p,led,sz,tk,hs,its,ob⟩
       | some (qs,hs)=>(match c' with
        | .call (.builtin id) ⟨args,[]⟩=>(match it.d with
         | false=>ih lvl m H c B p (k (.ok (.ret (it.v tk args)))) led sz (tk+it.k) hs its ((.l qs,.l it.pre)::(.s id,.s it.id)::(.v (args.map er),.v it.args)::ob)
         | true=>⟨.fail 18,c,p,led,sz,tk,hs,its,ob⟩)
        | .builtin id ⟨args,[]⟩=>(match it.d with
         | true=>ih lvl m H c B p (k (.ok (.ret (it.v tk args)))) led sz (tk+it.k) hs its ((.l qs,.l it.pre)::(.s id,.s it.id)::(.v (args.map er),.v it.args)::ob)
         | false=>⟨.fail 18,c,p,led,sz,tk,hs,its,ob⟩)
        | _=>⟨.fail 14,c,p,led,sz,tk,hs,its,ob⟩)))
     | _+1=>(match ih (lvl+1) true H c' ((c,p)::B) p (Yj c') led sz tk hs its ob with
      | ⟨kd,c₁,_,led,sz,tk,hs,its,ob⟩=>(match kd with
       | .done f=>ih lvl m H c B p (k (.ok f)) led sz tk hs its ob
       | .raise e=>ih lvl m H c B p (k (.error e)) led sz tk hs its ob
       | .fail n=>⟨.fail n,c,p,led,sz,tk,hs,its,ob⟩
       | _=>⟨.fail 19,c,p,led,sz,tk,hs,its,ob⟩))))))
 | .unsupported _=>⟨.fail 20,c,p,led,sz,tk,hs,its,ob⟩
 | .finish _=>⟨.fail 21,c,p,led,sz,tk,hs,its,ob⟩
 | .register _ _=>⟨.fail 22,c,p,led,sz,tk,hs,its,ob⟩
 | .choose _ _ _=>⟨.fail 23,c,p,led,sz,tk,hs,its,ob⟩
 | .os _ _ _=>⟨.fail 24,c,p,led,sz,tk,hs,its,ob⟩
 | .newGen c' k=>pz lvl m (.newGen c' k) c p led sz tk hs its ob
 | .genState gi k=>pz lvl m (.genState gi k) c p led sz tk hs its ob
 | .resume gi r l k=>pz lvl m (.resume gi r l k) c p led sz tk hs its ob
 | .yield _ _ _ _=>⟨.fail 28,c,p,led,sz,tk,hs,its,ob⟩
 | .fork _ _=>⟨.fail 29,c,p,led,sz,tk,hs,its,ob⟩
 | .thread k=>ih lvl m H c B p (k 0) led sz tk hs its ob
 | .await _ _ _ _ _=>⟨.fail 32,c,p,led,sz,tk,hs,its,ob⟩
noncomputable def goN (C:Cfg)(n:Nat):GoT:=Nat.rec (motive:=fun _=>GoT) (Z2z 99) (fun _ ih=>Yz C ih) n
section
open Sem (wp finPost)
theorem Jg:Z1x=denote table:=by
 unfold Z1x
 rw[←Fast.te11892475500146522536,←Fast.te14364793385576792824,table_eq_tree]
theorem Qo:U1=execs:=Fast.te12563942051412417395.symm
theorem Wm:Z1b=whileTurn:=Fast.te12362719219628433562.symm
theorem Z1w:tFor=forTurn:=Fast.te15207555903498437823.symm
theorem NV:tComp=compTurn:=Fast.te1180062409338748621.symm
theorem Ws:U2=PySem.compStart:=Fast.te17756973803653878507.symm
noncomputable def AllEq (l:List (Cell × Cell)):Prop:=l.map (·.1)=l.map (·.2)
theorem AllEq.cons{x:Cell × Cell}{l:List (Cell × Cell)}(h:AllEq (x::l)):x.1=x.2∧AllEq l:=by
 unfold AllEq at h ⊢
 simp only[List.map_cons,List.cons.injEq] at h
 exact h
theorem AllEq.append{l r:List (Cell × Cell)}(h:AllEq (l++r)):AllEq r:=by
 unfold AllEq at h ⊢
 rw[List.map_append,List.map_append] at h
 exact (List.append_inj h (by simp)).2
noncomputable def hnd (c:Code)(e:Value):Sem Unit:=match c with
 | .func _ env=>leaving env e
 | .block _ env=>(do noteFrame e env;theTreesLotGoes e)
 | .whileLoop _ _ _ env=>(do noteFrame e env;theTreesLotGoes e)
 | .forLoop _ _ _ _ env=>(do noteFrame e env;theTreesLotGoes e)
 | .compStart a b i d env=>if (Code.compStart a b i d env).isFrame then leaving env e else (do noteFrame e env;standAt theWindowsPlace)
 | .compLoop a b i d env=>if (Code.compLoop a b i d env).isFrame then leaving env e else (do noteFrame e env;theTreesLotGoes e)
 | _=>pure ()
theorem Nc{e:Value}(h:isNI e=false):(e==byPass)=false:=by
 cases e <;> first | rfl | cases h
section
variable {prog:Program}{w:World}
noncomputable def EP (M:Model)(Γ:Ctx)(Rr:Result→Shared→Prop):Value→Pos→Shared→Prop:=fun e p s=>match YQ Γ.code with
 | false=>Rr (.error e) s
 | true=>wp M Γ (hnd Γ.code e) (fun _ _ s'=>Rr (.error e) s') (fun e' _ s'=>Rr (.error e') s') p s
noncomputable def EPm (M:Model)(m:Bool)(Γ:Ctx)(Rr:Result→Shared→Prop):Value→Pos→Shared→Prop:=match m with
 | true=>EP M Γ Rr
 | false=>fun e _ s=>Rr (.error e) s
theorem Jr(acts:Stk):Yk acts=(acts.filter (·.1.isFrame)).filterMap (·.1.env?):=by
 induction acts with
 | nil=>rfl
 | cons x r ih =>
  show (match x.1.isFrame with | true=>(match x.1.env? with | some e=>e::Yk r | none=>Yk r) | false=>Yk r)=_
  rw[List.filter_cons]
  cases x.1.isFrame with
  | false=>simpa using ih
  | true =>
   rw[if_pos rfl,List.filterMap_cons,ih]
   cases x.1.env? <;> rfl
theorem Z11(acts:Stk):Nw acts=acts.filterMap fun (c,_)=>match c with | .builtin id _=>some id | _=>none:=by
 induction acts with
 | nil=>rfl
 | cons x r ih =>
  show (match x.1 with | .builtin id _=>id::Nw r | _=>Nw r)=_
  rw[List.filterMap_cons,ih]
  obtain ⟨c,p⟩:=x
  cases c <;> rfl
theorem JZ{f:Addr}:∀ {acts:Stk},ZO acts=some f→EntryCells.beneath f acts=some (Qn acts).eraseDups
 | [],h=>by cases h
 | (c,p)::r,h=>by
  unfold EntryCells.beneath
  have h':(match (match c.isFrame with | true=>(match c.env? with | some e=>e::Yk r | none=>Yk r) | false=>Yk r) with | env::_=>env.frame | []=>none)=some f:=h
  have hu:Qn ((c,p)::r)=(match c.isFrame with | true=>Nw r | false=>Qn r):=rfl
  rw[hu]
  cases hc:c.isFrame with
  | false =>
   rw[hc] at h'
   have ih:=JZ (acts:=r) h'
   unfold EntryCells.beneath at ih
   rw[List.dropWhile_cons]
   simp only[hc,Bool.false_and,Bool.not_false,if_true]
   exact ih
  | true =>
   rw[hc] at h'
   cases he:c.env? with
   | none =>
    exfalso
    cases c <;> first | (cases he;done) | (cases hc;done)
   | some env =>
    rw[he] at h'
    have hf:env.frame=some f:=h'
    rw[List.dropWhile_cons]
    simp only[hc,he,Option.bind_some,hf,beq_self_eq_true,Bool.and_self,Bool.not_true]
    rw[Z11]
    rfl
theorem KS:Jf=frameObject:=Fast.te10665104254819526710.symm
theorem KP:@KQ=@EntryCells.newEntry:=Fast.te7687323783571163205.symm
theorem NT:NU=EntryCells.make:=Fast.te2947500364327052199.symm
theorem KT:Wq=field:=Fast.te6609576154772507232.symm
theorem QG:Jd=setField:=Fast.te17858455048448223758.symm
theorem Yu:YN=setFlight:=Fast.te5670386056902412789.symm
theorem Ka:tLot=theTreesLotGoes:=Fast.te1623429502029203251.symm
theorem Jq{v:Value}(h:QJ v=true):v=.none:=by cases v <;> first | rfl | cases h
theorem Vj{v:Value}(h:QJ v=false):(v != .none)=true:=by cases v <;> first | rfl | cases h
section
variable {M:Model}{Γ:Ctx}
theorem Z0j{env:Env}{f:Addr}{p:Pos}(hc:Γ.code.env?=some env)(hf:env.frame=some f)(h1:ZO ((Γ.code,p)::Γ.below)=some f)(b:Bool)(Q:List Value→Pos→Shared→Prop)(E:Value→Pos→Shared→Prop)(s:Shared) :
  wp M Γ (entryPlaceOf f b) Q E p s=Q (Z1h b ((Γ.code,p)::Γ.below)) p s:=by
 unfold entryPlaceOf
 rw[Sem.wp_bind']
 show wp M Γ (Sem.stack Sem.pure) _ E p s=_
 rw[Sem.wp_stack,Sem.wp_pure]
 have hfind:List.find? (fun (c,_)=>c.env?.bind (·.frame)==some f) ((Γ.code,p)::Γ.below)=some (Γ.code,p):=by
  rw[List.find?_cons]
  simp only[hc,Option.bind_some,hf,beq_self_eq_true]
 have hcells:EntryCells.cells f b ((Γ.code,p)::Γ.below)=Nv b ((Γ.code,p)::Γ.below):=by
  unfold EntryCells.cells Nv
  rw[JZ h1,NT]
 simp only[hfind]
 rw[Sem.wp_pure',hcells]
 rfl
theorem UZ{env:Env}{f:Addr}{p:Pos}(hf:env.frame=some f)(h1:ZO ((Γ.code,p)::Γ.below)=some f){Q:Value→Pos→Shared→Prop}{E:Value→Pos→Shared→Prop}{s:Shared}
  (h:wp M Γ (Sem.stack fun acts=>R.bindR (Jf (Yk acts)) fun x=>match x with | some v=>Sem.pure v | none=>Sem.unsupported "x") Q E p s):wp M Γ (frameOf env) Q E p s:=by
 unfold frameOf frameEnvs
 rw[Sem.wp_bind',Sem.wp_bind']
 show wp M Γ (Sem.stack Sem.pure) _ E p s
 rw[Sem.wp_stack,Sem.wp_pure,Sem.wp_pure',Sem.wp_bind']
 rw[Sem.wp_stack,←R.bindR_eq,Sem.wp_bind,KS,Jr] at h
 have hd:(((Γ.code,p)::Γ.below).filter (·.1.isFrame) |>.filterMap (·.1.env?)).dropWhile (·.frame != env.frame)=(((Γ.code,p)::Γ.below).filter (·.1.isFrame) |>.filterMap (·.1.env?)):=by
  unfold ZO at h1
  rw[Jr] at h1
  generalize (((Γ.code,p)::Γ.below).filter (·.1.isFrame) |>.filterMap (·.1.env?))=l at h1
  cases l with
  | nil=>rfl
  | cons a r =>
   have ha:a.frame=some f:=h1
   rw[List.dropWhile_cons]
   simp only[ha,hf,bne_self_eq_false,Bool.false_eq_true,if_false]
 rw[hd]
 refine Sem.wp_mono _ _ _ (fun x p' s' hx=>?_) (fun _ _ _ e=>e) p s h
 cases x with
 | none=>exact False.elim hx
 | some v=>exact hx
end
section
variable {M:Model}{Γ:Ctx}
theorem WH{env:Env}{f:Addr}{e head:Value}{b:Bool}{p:Pos}(hc:Γ.code.env?=some env)(hf:env.frame=some f)(h1:∀ p,ZO ((Γ.code,p)::Γ.below)=some f){Q:Unit→Pos→Shared→Prop}{E:Value→Pos→Shared→Prop}{s:Shared}
  (h:wp M Γ (Z08 e f head b) Q E p s):wp M Γ (frameOf env >>= fun fr=>entryPlaceOf f b >>= fun pl=>EntryCells.newEntry head fr .none (rawInt f) .none pl >>= fun en=>setField e 1 en) Q E p s:=by
 unfold Z08 at h
 rw[←R.bindR_eq,Sem.wp_bind,R.bindR_eq] at h
 rw[Sem.wp_bind']
 refine UZ hf (h1 p) (Sem.wp_mono _ _ _ (fun fr p' s' hx=>?_) (fun _ _ _ e=>e) p s h)
 rw[Sem.wp_stack,←R.bindR_eq,Sem.wp_bind,KP,QG] at hx
 rw[Sem.wp_bind',Z0j hc hf (h1 p'),Sem.wp_bind']
 exact hx
theorem WT{env:Env}{f:Addr}{e:Value}{k:Nat}{p:Pos}(hc:Γ.code.env?=some env)(hf:env.frame=some f)(h1:∀ p,ZO ((Γ.code,p)::Γ.below)=some f){Q:Unit→Pos→Shared→Prop}{E:Value→Pos→Shared→Prop}{s:Shared}
  (h:wp M Γ (Z0z k e f) Q E p s):wp M Γ (noteFrame e env) Q E p s:=by
 unfold Z0z at h
 rw[←R.bindR_eq,Sem.wp_bind,KT,R.bindR_eq] at h
 unfold noteFrame
 simp only[hf]
 rw[Sem.wp_bind']
 refine Sem.wp_mono _ _ _ (fun head p' s' hx=>?_) (fun _ _ _ e=>e) p s h
 cases k with
 | zero =>
  dsimp only at hx
  cases hn:QJ head with
  | false=>rw[hn] at hx;exact False.elim hx
  | true =>
   rw[hn] at hx
   obtain rfl:=Jq hn
   exact WH hc hf h1 hx
 | succ k =>
  dsimp only at hx
  cases hn:QJ head with
  | true=>rw[hn] at hx;exact False.elim hx
  | false =>
   rw[hn] at hx
   dsimp only at hx
   rw[←R.bindR_eq,Sem.wp_bind] at hx
   try rw[KT] at hx
   have hne:=Vj hn
   simp only[hne,if_true]
   rw[Sem.wp_bind']
   refine Sem.wp_mono _ _ _ (fun fl p' s' hy=>?_) (fun _ _ _ e=>e) _ _ hx
   cases hm:QJ fl with
   | false=>rw[hm] at hy;exact False.elim hy
   | true =>
    rw[hm] at hy
    obtain rfl:=Jq hm
    dsimp only at hy
    rw[Sem.wp_bind,QG] at hy
    have hfl:((Value.none:Value)==rawInt (f:Int))=false:=rfl
    simp only[hfl,Bool.false_eq_true,if_false]
    rw[Sem.wp_bind']
    refine Sem.wp_mono _ _ _ (fun u p'' s'' hz=>?_) (fun _ _ _ e=>e) _ _ hy
    exact WH hc hf h1 hz
theorem Wl{env:Env}{e:Value}{p:Pos}{s:Shared}{Rr:Result→Shared→Prop}(hw:YQ Γ.code=true)(hc:Γ.code.env?=some env)
  (h:wp M Γ (noteFrame e env) (fun _ p' s'=>wp M Γ (KN Γ.code e) (fun _ _ s''=>Rr (.error e) s'') (fun e' _ s''=>Rr (.error e') s'') p' s') (fun e' _ s'=>Rr (.error e') s') p s):EP M Γ Rr e p s:=by
 unfold EP
 rw[hw]
 dsimp only
 obtain ⟨c,hd,ow,B,pa⟩:=Γ
 dsimp only at hw hc h ⊢
 cases c <;> first | (cases hw;done) | replace hc:=Option.some.inj hc
 ·subst hc
  show wp M _ (do noteFrame e _;theTreesLotGoes e) _ _ p s
  rw[Sem.wp_bind']
  unfold KN at h
  rw[Ka] at h
  exact h
 ·subst hc
  show wp M _ (leaving _ e) _ _ p s
  unfold leaving
  rw[Sem.wp_bind']
  unfold KN at h
  rw[Yu] at h
  exact h
 ·subst hc
  show wp M _ (do noteFrame e _;theTreesLotGoes e) _ _ p s
  rw[Sem.wp_bind']
  unfold KN at h
  rw[Ka] at h
  exact h
 ·subst hc
  show wp M _ (do noteFrame e _;theTreesLotGoes e) _ _ p s
  rw[Sem.wp_bind']
  unfold KN at h
  rw[Ka] at h
  exact h
 ·subst hc
  unfold hnd
  unfold KN at h
  dsimp only at h ⊢
  split
  ·rename_i hf
   simp only[hf] at h
   unfold leaving
   rw[Sem.wp_bind']
   rw[Yu] at h
   exact h
  ·rename_i hf
   simp only[Bool.not_eq_true] at hf
   simp only[hf] at h
   rw[Sem.wp_bind']
   exact h
 ·subst hc
  unfold hnd
  unfold KN at h
  dsimp only at h ⊢
  split
  ·rename_i hf
   simp only[hf] at h
   unfold leaving
   rw[Sem.wp_bind']
   rw[Yu] at h
   exact h
  ·rename_i hf
   simp only[Bool.not_eq_true] at hf
   simp only[hf] at h
   rw[Sem.wp_bind']
   rw[Ka] at h
   exact h
theorem Z31{env:Env}{f:Addr}{e:Value}{k:Nat}{p:Pos}{s:Shared}{Rr:Result→Shared→Prop}(hw:YQ Γ.code=true)(hc:Γ.code.env?=some env)(hf:env.frame=some f)(h1:ZO ((Γ.code,p)::Γ.below)=some f)
  (h:wp M Γ (hndX k Γ.code e f) (finPost M Γ Rr) (EPm M false Γ Rr) p s):EP M Γ Rr e p s:=by
 unfold hndX UA at h
 rw[←R.bindR_eq,Sem.wp_bind] at h
 refine Wl hw hc (WT hc hf (fun _=>h1) (Sem.wp_mono _ _ _ (fun _ p' s' hx=>?_) (fun _ _ _ e=>e) p s h))
 rw[Sem.wp_bind] at hx
 exact hx
theorem W5{env:Env}{f ea ha:Addr}{oe oh:Obj}{e:Value}{p:Pos}{s:Shared}{Rr:Result→Shared→Prop}(hw:YQ Γ.code=true)(hc:Γ.code.env?=some env)(hf:env.frame=some f)
  (he:s.heap.get? ea=some oe)(hh:s.heap.get? ha=some oh)(e1:e=.ref ea)(e2:Vk oe 1=.ref ha)(e3:Vk oh 3=rawInt f)
  (h:wp M Γ (UA Γ.code e) (finPost M Γ Rr) (EPm M false Γ Rr) p s):EP M Γ Rr e p s:=by
 unfold UA at h
 rw[←R.bindR_eq,Sem.wp_bind] at h
 refine Wl hw hc ?_
 subst e1
 have fld:∀ {a:Addr}{o:Obj}{i:Nat}{v:Value}{Q:Value→Pos→Shared→Prop}{E:Value→Pos→Shared→Prop},s.heap.get? a=some o→Vk o i=v→v≠.notImplemented→Q v p s→wp M Γ (field (.ref a) i) Q E p s:=by
  intro a o i v Q E ho hv hn hq
  unfold field fieldsOf
  rw[Sem.wp_bind']
  show wp M Γ ((PySem.load a) >>= _) _ E p s
  rw[Sem.wp_bind']
  show wp M Γ (Sem.load a none Sem.pure) _ E p s
  rw[Sem.wp_load]
  refine ⟨o,ho,?_⟩
  rw[Sem.wp_pure]
  unfold Vk at hv
  cases hd:o.data with
  | fields vs =>
   rw[hd] at hv
   dsimp only at hv ⊢
   rw[Sem.wp_pure']
   cases hi:vs[i]? with
   | none=>rw[hi] at hv;exact absurd hv.symm hn
   | some x =>
    rw[hi] at hv
    dsimp only at hv ⊢
    subst hv
    rw[Sem.wp_pure']
    exact hq
  | _=>rw[hd] at hv;exact absurd hv.symm hn
 unfold noteFrame
 simp only[hf]
 rw[Sem.wp_bind']
 refine fld he e2 (fun x=>by cases x) ?_
 have hne:((Value.ref ha:Value) != .none)=true:=rfl
 simp only[hne,if_true]
 rw[Sem.wp_bind']
 refine fld hh e3 (fun x=>by cases x) ?_
 simp only[beq_self_eq_true,if_true]
 rw[Sem.wp_pure']
 exact h
end
theorem ZW{Γ:Ctx}{Rr:Result→Shared→Prop}{p:Pos}{s:Shared}(h:wp (model prog w) Γ (Yj Γ.code) (finPost (model prog w) Γ Rr) (EP (model prog w) Γ Rr) p s) :
  wpCode (model prog w) Γ Rr p s:=by
 rw[wpCode_iff_wp]
 show wp (model prog w) Γ (denote table Γ.code) _ _ p s
 obtain ⟨c,hd,ow,B,pa⟩:=Γ
 dsimp only at h ⊢
 cases c with
 | func body env =>
  have h2:wp (model prog w) ⟨.func body env,hd,ow,B,pa⟩ (Sem.bind (execs body env) Z1W) (finPost (model prog w) ⟨.func body env,hd,ow,B,pa⟩ Rr) (EP (model prog w) ⟨.func body env,hd,ow,B,pa⟩ Rr) p s:=by
   have:=h
   unfold Yj at this
   rw[Sem.wp_point,Qo,←R.bindR_eq] at this
   exact this
  rw[Sem.wp_bind] at h2
  show wp (model prog w) _ (point >>= fun _=>((execs body env).onRaise (leaving env)) >>= fun f=>match f with | .ret v=>ret v | _=>ret .none) _ _ p s
  rw[Sem.wp_bind']
  show wp (model prog w) _ (((execs body env).onRaise (leaving env)) >>= fun f=>match f with | .ret v=>ret v | _=>ret .none) _ _ p s
  rw[Sem.wp_bind',Sem.wp_onRaise]
  refine Sem.wp_mono _ _ _ (fun f p' s' hf=>?_) (fun e p' s' he=>?_) p s h2
  ·cases f <;> exact hf
  ·exact he
 | block stmts env =>
  have h2:wp (model prog w) ⟨.block stmts env,hd,ow,B,pa⟩ (Sem.bind (execs stmts env) (fun f=>.pure (.done f))) (finPost (model prog w) ⟨.block stmts env,hd,ow,B,pa⟩ Rr) (EP (model prog w) ⟨.block stmts env,hd,ow,B,pa⟩ Rr) p s:=by
   have:=h
   unfold Yj at this
   rw[Qo,←R.bindR_eq] at this
   exact this
  rw[Sem.wp_bind] at h2
  show wp (model prog w) _ (((execs stmts env).onRaise (fun x=>do noteFrame x env;theTreesLotGoes x)) >>= fun f=>pure (PySem.Fin.done f)) _ _ p s
  rw[Sem.wp_bind',Sem.wp_onRaise]
  exact Sem.wp_mono _ _ _ (fun f p' s' hf=>hf) (fun e p' s' he=>he) p s h2
 | whileLoop test body orelse env =>
  have h2:wp (model prog w) ⟨.whileLoop test body orelse env,hd,ow,B,pa⟩ (whileTurn test body orelse env) (finPost (model prog w) ⟨.whileLoop test body orelse env,hd,ow,B,pa⟩ Rr) (EP (model prog w) ⟨.whileLoop test body orelse env,hd,ow,B,pa⟩ Rr) p s:=by
   have:=h
   unfold Yj at this
   rw[Wm] at this
   exact this
  show wp (model prog w) _ ((whileTurn test body orelse env).onRaise (fun x=>do noteFrame x env;theTreesLotGoes x)) _ _ p s
  rw[Sem.wp_onRaise]
  exact Sem.wp_mono _ _ _ (fun f p' s' hf=>hf) (fun e p' s' he=>he) p s h2
 | forLoop target it body orelse env =>
  have h2:wp (model prog w) ⟨.forLoop target it body orelse env,hd,ow,B,pa⟩ (forTurn target it body orelse env) (finPost (model prog w) ⟨.forLoop target it body orelse env,hd,ow,B,pa⟩ Rr) (EP (model prog w) ⟨.forLoop target it body orelse env,hd,ow,B,pa⟩ Rr) p s:=by
   have:=h
   unfold Yj at this
   rw[Z1w] at this
   exact this
  show wp (model prog w) _ ((forTurn target it body orelse env).onRaise (fun x=>do noteFrame x env;theTreesLotGoes x)) _ _ p s
  rw[Sem.wp_onRaise]
  exact Sem.wp_mono _ _ _ (fun f p' s' hf=>hf) (fun e p' s' he=>he) p s h2
 | compStart a b i d env =>
  have h2:wp (model prog w) ⟨.compStart a b i d env,hd,ow,B,pa⟩ (PySem.compStart a b i d env) (finPost (model prog w) ⟨.compStart a b i d env,hd,ow,B,pa⟩ Rr) (EP (model prog w) ⟨.compStart a b i d env,hd,ow,B,pa⟩ Rr) p s:=by
   have:=h
   unfold Yj at this
   rw[Ws] at this
   exact this
  show wp (model prog w) _ (if (Code.compStart a b i d env).isFrame then (PySem.compStart a b i d env).onRaise (leaving env) else (PySem.compStart a b i d env).onRaise (fun x=>do noteFrame x env;standAt theWindowsPlace)) _ _ p s
  by_cases hf:(Code.compStart a b i d env).isFrame
  ·rw[if_pos hf,Sem.wp_onRaise]
   refine Sem.wp_mono _ _ _ (fun f p' s' hf=>hf) (fun e p' s' he=>?_) p s h2
   have he':wp (model prog w) ⟨.compStart a b i d env,hd,ow,B,pa⟩ (if (Code.compStart a b i d env).isFrame then leaving env e else (do noteFrame e env;standAt theWindowsPlace)) (fun _ _ s'=>Rr (.error e) s') (fun e' _ s'=>Rr (.error e') s') p' s':=he
   rw[if_pos hf] at he'
   exact he'
  ·rw[if_neg hf,Sem.wp_onRaise]
   refine Sem.wp_mono _ _ _ (fun f p' s' hf=>hf) (fun e p' s' he=>?_) p s h2
   have he':wp (model prog w) ⟨.compStart a b i d env,hd,ow,B,pa⟩ (if (Code.compStart a b i d env).isFrame then leaving env e else (do noteFrame e env;standAt theWindowsPlace)) (fun _ _ s'=>Rr (.error e) s') (fun e' _ s'=>Rr (.error e') s') p' s':=he
   rw[if_neg hf] at he'
   exact he'
 | compLoop a b i d env =>
  have h2:wp (model prog w) ⟨.compLoop a b i d env,hd,ow,B,pa⟩ (compTurn a b i d env) (finPost (model prog w) ⟨.compLoop a b i d env,hd,ow,B,pa⟩ Rr) (EP (model prog w) ⟨.compLoop a b i d env,hd,ow,B,pa⟩ Rr) p s:=by
   have:=h
   unfold Yj at this
   rw[NV] at this
   exact this
  show wp (model prog w) _ (if (Code.compLoop a b i d env).isFrame then (compTurn a b i d env).onRaise (leaving env) else (compTurn a b i d env).onRaise (fun x=>do noteFrame x env;theTreesLotGoes x)) _ _ p s
  by_cases hf:(Code.compLoop a b i d env).isFrame
  ·rw[if_pos hf,Sem.wp_onRaise]
   refine Sem.wp_mono _ _ _ (fun f p' s' hf=>hf) (fun e p' s' he=>?_) p s h2
   have he':wp (model prog w) ⟨.compLoop a b i d env,hd,ow,B,pa⟩ (if (Code.compLoop a b i d env).isFrame then leaving env e else (do noteFrame e env;theTreesLotGoes e)) (fun _ _ s'=>Rr (.error e) s') (fun e' _ s'=>Rr (.error e') s') p' s':=he
   rw[if_pos hf] at he'
   exact he'
  ·rw[if_neg hf,Sem.wp_onRaise]
   refine Sem.wp_mono _ _ _ (fun f p' s' hf=>hf) (fun e p' s' he=>?_) p s h2
   have he':wp (model prog w) ⟨.compLoop a b i d env,hd,ow,B,pa⟩ (if (Code.compLoop a b i d env).isFrame then leaving env e else (do noteFrame e env;theTreesLotGoes e)) (fun _ _ s'=>Rr (.error e) s') (fun e' _ s'=>Rr (.error e') s') p' s':=he
   rw[if_neg hf] at he'
   exact he'
 | _=>exact (congrFun Jg _)▸h
end
end
section
open Sem (wp finPost)
structure Env0 where
 K:List (Nat × Obj)
 h₀:Heap
 W:List Addr
 g:Array GenState
 d:Drawn
 os:OsState
structure Desc (V:Env0)(led:Led)(sz tk:Nat)(s:Shared):Prop where
 size:s.heap.objs.size=sz
 toks:s.toks=tk
 gens:s.gens=V.g
 drawn:s.drawn=V.d
 os:s.os=V.os
 top:∀ a o,lk V.K a=some o→s.heap.get? a=some o
 here:∀ q∈led,s.heap.get? q.1=some q.2
 nodup:(led.map (·.1)).Nodup
 own:∀ q∈led,lk V.K q.1=none
 base:∀ q∈led,q.1∈V.W∨V.h₀.objs.size≤q.1
 frame:∀ a o,V.h₀.get? a=some o→a∉V.W→s.heap.get? a=some o
 old:V.h₀.objs.size≤sz
theorem at?_cons{α:Type}(x:α)(l:List α)(n:Nat):at? (x::l) n=(match n with | 0=>some x | m+1=>at? l m):=by cases n <;> rfl
theorem at?_mem{α:Type}:∀ {l:List α}{n:Nat}{x:α},at? l n=some x→x∈l
 | [],n,x,h=>by cases h
 | y::l,0,x,h=>by rw[at?_cons] at h;cases h;exact .head _
 | y::l,n+1,x,h=>by rw[at?_cons] at h;exact .tail _ (at?_mem h)
theorem Jh{α:Type}(x:α)(l:List α)(n:Nat)(y:α):WD (x::l) n y=(match n with | 0=>y::l | m+1=>x::WD l m y):=by cases n <;> rfl
theorem KU:∀ {l:Led}{n:Nat}{q:Addr × Obj}{o:Obj},at? l n=some q→(WD l n (q.1,o)).map (·.1)=l.map (·.1)
 | [],n,q,o,h=>by cases h
 | y::l,0,q,o,h=>by rw[at?_cons] at h;cases h;rfl
 | y::l,n+1,q,o,h=>by
  rw[at?_cons] at h
  rw[Jh]
  exact congrArg (y.1::·) (KU h)
theorem QR:∀ {l:Led}{n:Nat}{q r:Addr × Obj}{o:Obj},(l.map (·.1)).Nodup→at? l n=some q→r∈WD l n (q.1,o)→r=(q.1,o)∨(r∈l∧r.1≠q.1)
 | [],n,q,r,o,_,h,_=>by cases h
 | y::l,0,q,r,o,nd,h,hr=>by
  rw[at?_cons] at h
  cases h
  rw[Jh] at hr
  rcases List.mem_cons.mp hr with rfl | hr
  ·exact .inl rfl
  ·refine .inr ⟨.tail _ hr,fun e=>?_⟩
   rw[List.map_cons,List.nodup_cons] at nd
   exact nd.1 (e▸List.mem_map_of_mem hr)
 | y::l,n+1,q,r,o,nd,h,hr=>by
  rw[at?_cons] at h
  rw[Jh] at hr
  rw[List.map_cons,List.nodup_cons] at nd
  rcases List.mem_cons.mp hr with rfl | hr
  ·exact .inr ⟨.head _,fun e=>nd.1 (e▸List.mem_map_of_mem (at?_mem h))⟩
  ·rcases QR nd.2 h hr with e | ⟨a,b⟩
   ·exact .inl e
   ·exact .inr ⟨.tail _ a,b⟩
theorem lk_eq:∀(l:List (Nat × Obj))(a:Nat),lk l a=(match l with | []=>none | x::r=>if x.1=a then some x.2 else lk r a)
 | [],_=>rfl
 | x::r,a=>by
  show Bool.rec (motive:=fun _=>Option Obj) (lk r a) (some x.2) (Nat.beq x.1 a)=_
  by_cases h:x.1=a
  ·subst h;rw[show Nat.beq x.1 x.1=true from Nat.beq_refl _];simp
  ·rw[show Nat.beq x.1 a=false from by cases hb:Nat.beq x.1 a with | false=>rfl | true=>exact absurd (Nat.eq_of_beq_eq_true hb) h];simp[h]
section
variable {V:Env0}{led:Led}{sz tk:Nat}{s:Shared}
theorem Desc.alloc(D:Desc V led sz tk s){o:Obj}(ho:o.isFreed=false):Desc V ((sz,o)::led) (sz+1) tk { s with heap:=s.heap.push o }:=by
 refine ⟨by rw[←D.size];exact Heap.size_push _ _,D.toks,D.gens,D.drawn,D.os,fun a x h=>Heap.get?_push_of_some o (D.top a x h),fun q hq=>?_,?_,fun q hq=>?_,fun q hq=>?_,fun a x h1 h2=>Heap.get?_push_of_some o (D.frame a x h1 h2),Nat.le_succ_of_le D.old⟩
 ·rcases List.mem_cons.mp hq with rfl | hq
  ·rw[←D.size];exact Heap.get?_push_size _ ho
  ·exact Heap.get?_push_of_some o (D.here q hq)
 ·rw[List.map_cons,List.nodup_cons]
  refine ⟨fun h=>?_,D.nodup⟩
  obtain ⟨q,hq,e⟩:=List.mem_map.mp h
  have:=Heap.lt_size (D.here q hq)
  rw[D.size] at this
  exact absurd (e▸this) (Nat.lt_irrefl _)
 ·rcases List.mem_cons.mp hq with rfl | hq
  ·cases h:lk V.K sz with
   | none=>rfl
   | some x =>
    have:=Heap.lt_size (D.top _ _ h)
    rw[D.size] at this
    exact absurd this (Nat.lt_irrefl _)
  ·exact D.own q hq
 ·rcases List.mem_cons.mp hq with rfl | hq
  ·exact .inr D.old
  ·exact D.base q hq
theorem Desc.fresh(D:Desc V led sz tk s)(k:Nat):Desc V led sz (tk+k) { s with toks:=s.toks+k } :=
 ⟨D.size,by rw[←D.toks],D.gens,D.drawn,D.os,D.top,D.here,D.nodup,D.own,D.base,D.frame,D.old⟩
theorem Desc.update(D:Desc V led sz tk s){i:Nat}{q:Addr × Obj}(hi:at? led i=some q){f:Obj→Obj}(hf:(f q.2).isFreed=false) :
  Desc V (WD led i (q.1,f q.2)) sz tk { s with heap:=s.heap.update q.1 f }:=by
 have hm:=at?_mem hi
 have hg:=D.here q hm
 have self:(s.heap.update q.1 f).get? q.1=some (f q.2):=Heap.get?_update_self f hg hf
 have other:∀ b,b≠q.1→(s.heap.update q.1 f).get? b=s.heap.get? b:=fun b hb=>Heap.get?_update_other _ f (Ne.symm hb)
 have keys:=KU (o:=f q.2) hi
 refine ⟨(Heap.SameBut.update s.heap q.1 f).1.trans D.size,D.toks,D.gens,D.drawn,D.os,fun a x h=>?_,fun r hr=>?_,by rw[keys];exact D.nodup,fun r hr=>?_,fun r hr=>?_,fun a x h1 h2=>?_,D.old⟩
 ·refine (other a fun e=>?_).trans (D.top a x h)
  rw[e,D.own q hm] at h
  cases h
 ·rcases QR D.nodup hi hr with rfl | ⟨h1,h2⟩
  ·exact self
  ·exact (other _ h2).trans (D.here r h1)
 ·rcases QR D.nodup hi hr with rfl | ⟨h1,_⟩
  ·exact D.own q hm
  ·exact D.own r h1
 ·rcases QR D.nodup hi hr with rfl | ⟨h1,_⟩
  ·exact D.base q hm
  ·exact D.base r h1
 ·refine (other a fun e=>?_).trans (D.frame a x h1 h2)
  subst e
  rcases D.base q hm with hw | hw
  ·exact h2 hw
  ·exact absurd (Heap.lt_size h1) (Nat.not_lt.mpr hw)
end
noncomputable def PItem.code (it:PItem)(args:List Value):Code:=match it.d with
 | true=>.builtin it.id ⟨args,[]⟩
 | false=>.call (.builtin it.id) ⟨args,[]⟩
noncomputable def PItem.Valid (M:Model)(it:PItem):Prop:=∀(Γ:Ctx)(p:Pos)(s:Shared)(Rr:Result→Shared→Prop)(args:List Value),args.map er=it.args →
 (∀ q∈it.pre,s.heap.get? q.1=some q.2)→Rr (.ok (.ret (it.v s.toks args))) { s with toks:=s.toks+it.k }→wpCode M (Γ.enter (it.code args) none p) Rr p s
noncomputable def K1 (M:Model)(V:Env0)(H o:Option Value)(B:Stk)(q:Option Value)(Rr:Result→Shared→Prop)(r:Rs):Prop:=match r.kd with
 | .done f=>∀ s,Desc V r.led r.sz r.tk s→Rr (.ok f) s
 | .raise e=>∀ s,Desc V r.led r.sz r.tk s→Rr (.error e) s
 | .pause t=>∀ s,Desc V r.led r.sz r.tk s→wp M ⟨r.code,H,o,B,q⟩ t (finPost M ⟨r.code,H,o,B,q⟩ Rr) (EP M ⟨r.code,H,o,B,q⟩ Rr) r.pos s
 | .pauseT c=>∀ s,Desc V r.led r.sz r.tk s→wpCode M ⟨c,H,o,B,q⟩ Rr r.pos s
 | .fail _=>False
noncomputable def Z12 (M:Model)(V:Env0)(go:GoT):Prop:=∀ lvl m H c B p t led sz tk hs its ob,AllEq (go lvl m H c B p t led sz tk hs its ob).ob→(∀ it∈its,it.Valid M) →
 ∀ o q s Rr,Desc V led sz tk s→K1 M V H o B q Rr (go lvl m H c B p t led sz tk hs its ob)→wp M ⟨c,H,o,B,q⟩ t (finPost M ⟨c,H,o,B,q⟩ Rr) (EPm M m ⟨c,H,o,B,q⟩ Rr) p s
noncomputable def Mono (go:GoT):Prop:=∀ lvl m H c B p t led sz tk hs its ob,(∃ l,(go lvl m H c B p t led sz tk hs its ob).ob=l++ob)∧∀ it∈(go lvl m H c B p t led sz tk hs its ob).its,it∈its
theorem Kk (lvl m t c p led sz tk hs)(its:List PItem)(ob:List (Cell × Cell)):(∃ l,(pz lvl m t c p led sz tk hs its ob).ob=l++ob)∧∀ it∈(pz lvl m t c p led sz tk hs its ob).its,it∈its:=by
 cases lvl <;> cases m <;> exact ⟨⟨[],rfl⟩,fun _ h=>h⟩
theorem QX {M:Model}{V:Env0}{H o:Option Value}{B:Stk}{q:Option Value}{Rr:Result→Shared→Prop} {lvl m t c p led sz tk hs}{its:List PItem}{ob:List (Cell × Cell)}
  (h:K1 M V H o B q Rr (pz lvl m t c p led sz tk hs its ob)){s:Shared}(D:Desc V led sz tk s):wp M ⟨c,H,o,B,q⟩ t (finPost M ⟨c,H,o,B,q⟩ Rr) (EPm M m ⟨c,H,o,B,q⟩ Rr) p s:=by
 cases lvl with
 | zero=>cases m with
  | true=>exact h s D
  | false=>exact False.elim h
 | succ _=>exact False.elim h
theorem QW(c:Code)(h:∀ id args,c≠.builtin id args):c.quiet=true:=by
 cases c <;> first | rfl | exact absurd rfl (h _ _)
theorem V7:∀ {pre led:Led}{hs:List Nat}{r:Led × List Nat},UL pre led hs=some r→∀ q∈r.1,q∈led
 | [],led,hs,r,h=>by cases h;exact fun _ hq=>(nomatch hq)
 | x::pre,led,hs,r,h=>by
  cases hs with
  | nil=>cases h
  | cons i hs =>
   have h':(match at? led i with | none=>none | some q=>match UL pre led hs with | none=>none | some (l,hs)=>some (q::l,hs))=some r:=h
   cases ha:at? led i with
   | none=>rw[ha] at h';cases h'
   | some q =>
    rw[ha] at h'
    dsimp only at h'
    cases hp:UL pre led hs with
    | none=>rw[hp] at h';cases h'
    | some lh =>
     rw[hp] at h'
     cases h'
     intro y hy
     rcases List.mem_cons.mp hy with rfl | hy
     ·exact at?_mem ha
     ·exact V7 hp y hy
end
section
open Sem (wp finPost)
theorem WW(n:Nat):Mono (Z2z n):=fun _ _ _ _ _ _ _ _ _ _ _ its ob=>⟨⟨[],rfl⟩,fun _ h=>h⟩
theorem WV{C:Cfg}{ih:GoT}(mo:Mono ih):Mono (Yz C ih):=by
 intro lvl m H c B p t led sz tk hs its ob
 have id1:∀ {its:List PItem}{ob:List (Cell × Cell)},(∃ l,ob=l++ob)∧∀ it∈its,it∈its:=⟨⟨[],rfl⟩,fun _ h=>h⟩
 have one:∀ {x:Cell × Cell}{r:Rs}{its:List PItem}{ob:List (Cell × Cell)},((∃ l,r.ob=l++(x::ob))∧∀ it∈r.its,it∈its)→(∃ l,r.ob=l++ob)∧∀ it∈r.its,it∈its :=
  fun {x r its ob} ⟨⟨l,e⟩,h⟩=>⟨⟨l++[x],by rw[e];simp⟩,h⟩
 cases t with
 | pure fin =>
  cases fin with
  | done f=>exact id1
  | again c' =>
   cases hs with
   | nil=>exact id1
   | cons h hs =>
    cases c' with
    | builtin id args =>
     cases h with
     | zero =>
      cases lvl with
      | succ _=>exact id1
      | zero =>
       cases hs with
       | nil=>exact id1
       | cons h hs =>
        show (∃ l,(match at? C.ids h with | some id'=>⟨.pauseT (.builtin id args),c,p,led,sz,tk,hs,its,(.s id,.s id')::ob⟩ | none=>⟨.fail 31,c,p,led,sz,tk,hs,its,ob⟩:Rs).ob=l++ob)∧∀ it∈(match at? C.ids h with | some id'=>⟨.pauseT (.builtin id args),c,p,led,sz,tk,hs,its,(.s id,.s id')::ob⟩ | none=>⟨.fail 31,c,p,led,sz,tk,hs,its,ob⟩:Rs).its,it∈its
        cases at? C.ids h with
        | none=>exact id1
        | some id'=>exact ⟨⟨[(.s id,.s id')],rfl⟩,fun _ h=>h⟩
     | succ h =>
      show (∃ l,(match at? C.ids h with | some id'=>ih lvl true H (.builtin id args) B p (Yj (.builtin id args)) led sz tk hs its ((.s id,.s id')::ob) | none=>⟨.fail 31,c,p,led,sz,tk,hs,its,ob⟩:Rs).ob=l++ob)∧∀ it∈(match at? C.ids h with | some id'=>ih lvl true H (.builtin id args) B p (Yj (.builtin id args)) led sz tk hs its ((.s id,.s id')::ob) | none=>⟨.fail 31,c,p,led,sz,tk,hs,its,ob⟩:Rs).its,it∈its
      cases at? C.ids h with
      | none=>exact id1
      | some id'=>exact one (mo ..)
    | _ =>
     cases h with
     | zero=>cases lvl <;> exact id1
     | succ h=>exact mo ..
 | load a q k =>
  cases hs with
  | nil=>exact id1
  | cons h hs =>
   cases h with
   | zero =>
    show (∃ l,(match lk C.top a with | some o=>ih lvl m H c B p (k o) led sz tk hs its ob | none=>⟨.fail 4,c,p,led,sz,tk,hs,its,ob⟩:Rs).ob=l++ob)∧∀ it∈(match lk C.top a with | some o=>ih lvl m H c B p (k o) led sz tk hs its ob | none=>⟨.fail 4,c,p,led,sz,tk,hs,its,ob⟩:Rs).its,it∈its
    cases lk C.top a with
    | none=>exact id1
    | some o=>exact mo ..
   | succ i =>
    show (∃ l,(match at? led i with | some q=>ih lvl m H c B p (k q.2) led sz tk hs its ((.a a,.a q.1)::ob) | none=>⟨.fail 5,c,p,led,sz,tk,hs,its,ob⟩:Rs).ob=l++ob)∧∀ it∈(match at? led i with | some q=>ih lvl m H c B p (k q.2) led sz tk hs its ((.a a,.a q.1)::ob) | none=>⟨.fail 5,c,p,led,sz,tk,hs,its,ob⟩:Rs).its,it∈its
    cases at? led i with
    | none=>exact id1
    | some q=>exact one (mo ..)
 | loadIfAlive a k =>
  cases hs with
  | nil=>exact id1
  | cons h hs =>
   cases h with
   | zero =>
    show (∃ l,(match lk C.top a with | some o=>ih lvl m H c B p (k (some o)) led sz tk hs its ob | none=>⟨.fail 4,c,p,led,sz,tk,hs,its,ob⟩:Rs).ob=l++ob)∧∀ it∈(match lk C.top a with | some o=>ih lvl m H c B p (k (some o)) led sz tk hs its ob | none=>⟨.fail 4,c,p,led,sz,tk,hs,its,ob⟩:Rs).its,it∈its
    cases lk C.top a with
    | none=>exact id1
    | some o=>exact mo ..
   | succ i =>
    show (∃ l,(match at? led i with | some q=>ih lvl m H c B p (k (some q.2)) led sz tk hs its ((.a a,.a q.1)::ob) | none=>⟨.fail 5,c,p,led,sz,tk,hs,its,ob⟩:Rs).ob=l++ob)∧∀ it∈(match at? led i with | some q=>ih lvl m H c B p (k (some q.2)) led sz tk hs its ((.a a,.a q.1)::ob) | none=>⟨.fail 5,c,p,led,sz,tk,hs,its,ob⟩:Rs).its,it∈its
    cases at? led i with
    | none=>exact id1
    | some q=>exact one (mo ..)
 | update a q f k =>
  cases hs with
  | nil=>exact id1
  | cons i hs =>
   show (∃ l,(match at? led i with | some q=>(match (f q.2).isFreed with | false=>ih lvl m H c B p (k ()) (WD led i (q.1,f q.2)) sz tk hs its ((.a a,.a q.1)::ob) | true=>⟨.fail 7,c,p,led,sz,tk,hs,its,ob⟩) | none=>⟨.fail 8,c,p,led,sz,tk,hs,its,ob⟩:Rs).ob=l++ob)∧∀ it∈(match at? led i with | some q=>(match (f q.2).isFreed with | false=>ih lvl m H c B p (k ()) (WD led i (q.1,f q.2)) sz tk hs its ((.a a,.a q.1)::ob) | true=>⟨.fail 7,c,p,led,sz,tk,hs,its,ob⟩) | none=>⟨.fail 8,c,p,led,sz,tk,hs,its,ob⟩:Rs).its,it∈its
   cases at? led i with
   | none=>exact id1
   | some q =>
    dsimp only
    cases (f q.2).isFreed with
    | true=>exact id1
    | false=>exact one (mo ..)
 | alloc o k =>
  show (∃ l,(match o.isFreed with | false=>ih lvl m H c B p (k sz) ((sz,o)::led) (sz+1) tk hs its ob | true=>⟨.fail 9,c,p,led,sz,tk,hs,its,ob⟩:Rs).ob=l++ob)∧∀ it∈(match o.isFreed with | false=>ih lvl m H c B p (k sz) ((sz,o)::led) (sz+1) tk hs its ob | true=>⟨.fail 9,c,p,led,sz,tk,hs,its,ob⟩:Rs).its,it∈its
  cases o.isFreed with
  | true=>exact id1
  | false=>exact mo ..
 | handled own k=>cases own <;> first | exact id1 | exact mo ..
 | call c' hd g lv k =>
  cases hs with
  | nil=>exact id1
  | cons h hs =>
   cases h with
   | zero=>exact Kk ..
   | succ h =>
    cases hd with
    | some e =>
     show (∃ l,(Yz C ih lvl m H c B p (.call c' (some e) g lv k) led sz tk ((h+1)::hs) its ob).ob=l++ob)∧_
     have inner:=mo (lvl+1) true (some e) c' ((c,p)::B) p (Yj c') led sz tk hs its ob
     unfold Yz
     dsimp only
     cases isNI e with
     | true=>exact id1
     | false =>
      dsimp only
      generalize ih (lvl+1) true (some e) c' ((c,p)::B) p (Yj c') led sz tk hs its ob=r at inner ⊢
      obtain ⟨kd,c₁,p₁,led₁,sz₁,tk₁,hs₁,its₁,ob₁⟩:=r
      obtain ⟨⟨l₁,e₁⟩,s₁⟩:=inner
      dsimp only at e₁ s₁ ⊢
      subst e₁
      have ch:∀ {r:Rs},((∃ l,r.ob=l++(l₁++ob))∧∀ i∈r.its,i∈its₁)→(∃ l,r.ob=l++ob)∧∀ i∈r.its,i∈its :=
       fun ⟨⟨l,e⟩,h⟩=>⟨⟨l++l₁,by rw[e,List.append_assoc]⟩,fun x hx=>s₁ x (h x hx)⟩
      have idc:(∃ l,l₁++ob=l++ob)∧∀ i∈its₁,i∈its:=⟨⟨l₁,rfl⟩,s₁⟩
      cases kd with
      | done f=>exact ch (mo ..)
      | raise e=>exact ch (mo ..)
      | pause _=>exact idc
      | pauseT _=>exact idc
      | fail n=>exact idc
    | none =>
     cases h with
     | zero =>
      cases its with
      | nil=>exact id1
      | cons it its =>
       show (∃ l,(Yz C ih lvl m H c B p (.call c' none g lv k) led sz tk (1::hs) (it::its) ob).ob=l++ob)∧_
       unfold Yz
       dsimp only
       have sub:∀ {its':List PItem},(∀ x∈its',x∈its)→∀ x∈its',x∈it::its:=fun h x hx=>.tail _ (h x hx)
       have thr:∀ {x y z:Cell × Cell}{r:Rs},((∃ l,r.ob=l++(x::y::z::ob))∧∀ i∈r.its,i∈its)→(∃ l,r.ob=l++ob)∧∀ i∈r.its,i∈it::its :=
        fun {x y z r} ⟨⟨l,e⟩,h⟩=>⟨⟨l++[x,y,z],by rw[e];simp⟩,sub h⟩
       have idt:∀ {its':List PItem},its'=its→(∃ l,ob=l++ob)∧∀ i∈its',i∈it::its:=fun e=>⟨⟨[],rfl⟩,fun x hx=>.tail _ (e▸hx)⟩
       cases UL it.pre led hs with
       | none=>exact idt rfl
       | some qh =>
        obtain ⟨qs,hs⟩:=qh
        dsimp only
        split
        ·cases it.d with
         | false=>exact thr (mo ..)
         | true=>exact idt rfl
        ·cases it.d with
         | true=>exact thr (mo ..)
         | false=>exact idt rfl
        ·exact idt rfl
     | succ h =>
      show (∃ l,(Yz C ih lvl m H c B p (.call c' none g lv k) led sz tk ((h+2)::hs) its ob).ob=l++ob)∧_
      have inner:=mo (lvl+1) true H c' ((c,p)::B) p (Yj c') led sz tk hs its ob
      unfold Yz
      dsimp only
      generalize ih (lvl+1) true H c' ((c,p)::B) p (Yj c') led sz tk hs its ob=r at inner ⊢
      obtain ⟨kd,c₁,p₁,led₁,sz₁,tk₁,hs₁,its₁,ob₁⟩:=r
      obtain ⟨⟨l₁,e₁⟩,s₁⟩:=inner
      dsimp only at e₁ s₁ ⊢
      subst e₁
      have ch:∀ {r:Rs},((∃ l,r.ob=l++(l₁++ob))∧∀ i∈r.its,i∈its₁)→(∃ l,r.ob=l++ob)∧∀ i∈r.its,i∈its :=
       fun ⟨⟨l,e⟩,h⟩=>⟨⟨l++l₁,by rw[e,List.append_assoc]⟩,fun x hx=>s₁ x (h x hx)⟩
      have idc:(∃ l,l₁++ob=l++ob)∧∀ i∈its₁,i∈its:=⟨⟨l₁,rfl⟩,s₁⟩
      cases kd with
      | done f=>exact ch (mo ..)
      | raise e=>exact ch (mo ..)
      | pause _=>exact idc
      | pauseT _=>exact idc
      | fail n=>exact idc
 | raise e =>
  cases m with
  | false=>exact id1
  | true =>
   show (∃ l,(Yz C ih lvl true H c B p (.raise e) led sz tk hs its ob).ob=l++ob)∧_
   unfold Yz
   dsimp only
   have thr:∀ {x y z:Cell × Cell}{r:Rs}{its:List PItem},((∃ l,r.ob=l++(x::y::z::ob))∧∀ i∈r.its,i∈its)→(∃ l,r.ob=l++ob)∧∀ i∈r.its,i∈its :=
    fun {x y z r its} ⟨⟨l,e⟩,h⟩=>⟨⟨l++[x,y,z],by rw[e];simp⟩,h⟩
   repeat' split
   all_goals first
    | exact id1
    | exact one (mo ..)
    | exact thr (mo ..)
 | newGen c' k=>exact Kk ..
 | genState gi k=>exact Kk ..
 | resume gi r l k=>exact Kk ..
 | thread k=>exact mo ..
 | rule _ k=>exact mo ..
 | «at» p' k=>exact mo ..
 | point _ k=>exact mo ..
 | ask k=>exact mo ..
 | fresh k=>exact mo ..
 | stack k=>exact mo ..
 | _=>exact id1
end
section
open Sem (wp finPost)
theorem UG{M:Model}{V:Env0}(n:Nat):Z12 M V (Z2z n):=fun _ _ _ _ _ _ _ _ _ _ _ _ _ _ _ _ _ _ _ _ hp=>False.elim hp
theorem UF{C:Cfg}{w:World}{V:Env0}{ih:GoT}(hP:w.params=C.P)(hids:∀ id∈C.ids,id.startsWith "lifetime."=false)(hK:V.K=C.top)(mo:Mono ih)(S:Z12 (model C.prog w) V ih) :
  Z12 (model C.prog w) V (Yz C ih):=by
 intro lvl m H c B p t led sz tk hs its ob ae hv o q s Rr D hp
 cases t with
 | pure fin =>
  cases fin with
  | done f=>exact hp s D
  | again c' =>
   cases hs with
   | nil=>exact False.elim hp
   | cons h hs =>
    have fin:c'.quiet=true→wpCode (model C.prog w) ⟨c',H,o,B,q⟩ Rr p s→wp (model C.prog w) ⟨c,H,o,B,q⟩ (.pure (.again c')) (finPost (model C.prog w) ⟨c,H,o,B,q⟩ Rr) (EPm (model C.prog w) m ⟨c,H,o,B,q⟩ Rr) p s:=fun a b=>⟨a,b⟩
    cases c' with
    | builtin id args =>
     cases h with
     | zero =>
      cases lvl with
      | succ _=>exact False.elim hp
      | zero =>
       cases hs with
       | nil=>exact False.elim hp
       | cons h hs =>
        have ae':AllEq (match at? C.ids h with | some id'=>⟨.pauseT (.builtin id args),c,p,led,sz,tk,hs,its,(.s id,.s id')::ob⟩ | none=>⟨.fail 31,c,p,led,sz,tk,hs,its,ob⟩:Rs).ob:=ae
        have hp':K1 (model C.prog w) V H o B q Rr (match at? C.ids h with | some id'=>⟨.pauseT (.builtin id args),c,p,led,sz,tk,hs,its,(.s id,.s id')::ob⟩ | none=>⟨.fail 31,c,p,led,sz,tk,hs,its,ob⟩:Rs):=hp
        cases hi:at? C.ids h with
        | none=>rw[hi] at hp';exact False.elim hp'
        | some id' =>
         rw[hi] at ae' hp'
         have e2:id=id':=Cell.s.inj (AllEq.cons ae').1
         subst e2
         exact fin (Code.quiet_builtin args (hids _ (at?_mem hi))) (hp' s D)
     | succ h =>
      have ae':AllEq (match at? C.ids h with | some id'=>ih lvl true H (.builtin id args) B p (Yj (.builtin id args)) led sz tk hs its ((.s id,.s id')::ob) | none=>⟨.fail 31,c,p,led,sz,tk,hs,its,ob⟩:Rs).ob:=ae
      have hp':K1 (model C.prog w) V H o B q Rr (match at? C.ids h with | some id'=>ih lvl true H (.builtin id args) B p (Yj (.builtin id args)) led sz tk hs its ((.s id,.s id')::ob) | none=>⟨.fail 31,c,p,led,sz,tk,hs,its,ob⟩:Rs):=hp
      cases hi:at? C.ids h with
      | none=>rw[hi] at hp';exact False.elim hp'
      | some id' =>
       rw[hi] at ae' hp'
       dsimp only at ae' hp'
       obtain ⟨l,e⟩:=(mo lvl true H (.builtin id args) B p (Yj (.builtin id args)) led sz tk hs its ((.s id,.s id')::ob)).1
       have e1:=(AllEq.cons (AllEq.append (e▸ae'))).1
       have e2:id=id':=Cell.s.inj e1
       subst e2
       exact fin (Code.quiet_builtin args (hids _ (at?_mem hi))) (ZW (S _ _ _ _ _ _ _ _ _ _ _ _ _ ae' hv o q s Rr D hp'))
    | _ =>
     cases h with
     | zero =>
      cases lvl with
      | zero=>exact fin (QW _ (fun _ _ e=>by cases e)) (hp s D)
      | succ _=>exact False.elim hp
     | succ h=>exact fin (QW _ (fun _ _ e=>by cases e)) (ZW (S _ _ _ _ _ _ _ _ _ _ _ _ _ ae hv o q s Rr D hp))
 | raise e =>
  cases m with
  | false=>exact hp s D
  | true =>
   have ae':AllEq (Yz C ih lvl true H c B p (.raise e) led sz tk hs its ob).ob:=ae
   have hp':K1 (model C.prog w) V H o B q Rr (Yz C ih lvl true H c B p (.raise e) led sz tk hs its ob):=hp
   unfold Yz at ae' hp'
   dsimp only at ae' hp'
   show EP _ _ _ _ _ _
   cases hw:YQ c with
   | false =>
    rw[hw] at hp'
    unfold EP
    dsimp only
    rw[hw]
    exact hp' s D
   | true =>
    rw[hw] at ae' hp'
    dsimp only at ae' hp'
    cases hs with
    | nil=>exact False.elim hp'
    | cons h hs =>
     dsimp only at ae' hp'
     cases hc:c.env? with
     | none=>rw[hc] at hp';exact False.elim hp'
     | some env =>
      rw[hc] at ae' hp'
      dsimp only at ae' hp'
      cases hf:env.frame with
      | none=>rw[hf] at hp';exact False.elim hp'
      | some f =>
       rw[hf] at ae' hp'
       dsimp only at ae' hp'
       cases h with
       | zero =>
        dsimp only at ae' hp'
        cases hs with
        | nil=>exact False.elim hp'
        | cons i hs =>
         cases hs with
         | nil=>exact False.elim hp'
         | cons j hs =>
          dsimp only at ae' hp'
          cases hi:at? led i with
          | none=>rw[hi] at hp';exact False.elim hp'
          | some x =>
           rw[hi] at ae' hp'
           dsimp only at ae' hp'
           cases hj:at? led j with
           | none=>rw[hj] at hp';exact False.elim hp'
           | some y =>
            rw[hj] at ae' hp'
            dsimp only at ae' hp'
            obtain ⟨l,el⟩:=(mo lvl false H c B p (UA c e) led sz tk hs its ((.v [e],.v [.ref x.1])::(.v [Vk x.2 1],.v [.ref y.1])::(.v [Vk y.2 3],.v [rawInt f])::ob)).1
            obtain ⟨x1,r1⟩:=AllEq.cons (AllEq.append (el▸ae'))
            obtain ⟨x2,r2⟩:=AllEq.cons r1
            obtain ⟨x3,r3⟩:=AllEq.cons r2
            exact W5 (Γ:=⟨c,H,o,B,q⟩) hw hc hf (D.here x (at?_mem hi)) (D.here y (at?_mem hj)) (List.head_eq_of_cons_eq (Cell.v.inj x1)) (List.head_eq_of_cons_eq (Cell.v.inj x2)) (List.head_eq_of_cons_eq (Cell.v.inj x3))
             (S _ _ _ _ _ _ _ _ _ _ _ _ _ ae' hv o q s Rr D hp')
       | succ k =>
        dsimp only at ae' hp'
        cases h1:ZO ((c,p)::B) with
        | none=>rw[h1] at hp';exact False.elim hp'
        | some f1 =>
         rw[h1] at ae' hp'
         dsimp only at ae' hp'
         obtain ⟨l,el⟩:=(mo lvl false H c B p (hndX k c e f) led sz tk hs its ((.a f1,.a f)::ob)).1
         obtain ⟨x1,r1⟩:=AllEq.cons (AllEq.append (el▸ae'))
         have ef:f1=f:=Cell.a.inj x1
         exact Z31 (Γ:=⟨c,H,o,B,q⟩) hw hc hf (by rw[←ef];exact h1) (S _ _ _ _ _ _ _ _ _ _ _ _ _ ae' hv o q s Rr D hp')
 | thread k=>rw[Sem.wp_thread];exact S _ _ _ _ _ _ _ _ _ _ _ _ _ ae hv o q s Rr D hp
 | newGen c' k=>exact QX hp D
 | genState gi k=>exact QX hp D
 | resume gi r l k=>exact QX hp D
 | rule _ k=>rw[Sem.wp_rule];exact S _ _ _ _ _ _ _ _ _ _ _ _ _ ae hv o q s Rr D hp
 | «at» p' k=>rw[Sem.wp_at];exact S _ _ _ _ _ _ _ _ _ _ _ _ _ ae hv o q s Rr D hp
 | point _ k=>rw[Sem.wp_point];exact S _ _ _ _ _ _ _ _ _ _ _ _ _ ae hv o q s Rr D hp
 | ask k =>
  rw[Sem.wp_ask]
  show wp _ _ (k ⟨C.prog,w.params⟩) _ _ p s
  rw[hP]
  exact S _ _ _ _ _ _ _ _ _ _ _ _ _ ae hv o q s Rr D hp
 | fresh k =>
  rw[Sem.wp_fresh,D.toks]
  have D':=D.fresh 1
  rw[D.toks] at D'
  exact S _ _ _ _ _ _ _ _ _ _ _ _ _ ae hv o q _ Rr D' hp
 | stack k=>rw[Sem.wp_stack];exact S _ _ _ _ _ _ _ _ _ _ _ _ _ ae hv o q s Rr D hp
 | handled own k =>
  cases own with
  | true=>exact False.elim hp
  | false=>rw[Sem.wp_handled];exact S _ _ _ _ _ _ _ _ _ _ _ _ _ ae hv o q s Rr D hp
 | alloc ob' k =>
  rw[Sem.wp_alloc]
  have ae':AllEq (match ob'.isFreed with | false=>ih lvl m H c B p (k sz) ((sz,ob')::led) (sz+1) tk hs its ob | true=>⟨.fail 9,c,p,led,sz,tk,hs,its,ob⟩:Rs).ob:=ae
  have hp':K1 (model C.prog w) V H o B q Rr (match ob'.isFreed with | false=>ih lvl m H c B p (k sz) ((sz,ob')::led) (sz+1) tk hs its ob | true=>⟨.fail 9,c,p,led,sz,tk,hs,its,ob⟩:Rs):=hp
  cases hf:ob'.isFreed with
  | true=>rw[hf] at hp';exact False.elim hp'
  | false =>
   rw[hf] at ae' hp'
   rw[D.size]
   exact S _ _ _ _ _ _ _ _ _ _ _ _ _ ae' hv o q _ Rr (D.alloc hf) hp'
 | load a pt k =>
  rw[Sem.wp_load]
  cases hs with
  | nil=>exact False.elim hp
  | cons h hs =>
   cases h with
   | zero =>
    have ae':AllEq (match lk C.top a with | some o=>ih lvl m H c B p (k o) led sz tk hs its ob | none=>⟨.fail 4,c,p,led,sz,tk,hs,its,ob⟩:Rs).ob:=ae
    have hp':K1 (model C.prog w) V H o B q Rr (match lk C.top a with | some o=>ih lvl m H c B p (k o) led sz tk hs its ob | none=>⟨.fail 4,c,p,led,sz,tk,hs,its,ob⟩:Rs):=hp
    cases hl:lk C.top a with
    | none=>rw[hl] at hp';exact False.elim hp'
    | some x =>
     rw[hl] at ae' hp'
     exact ⟨x,D.top a x (by rw[hK];exact hl),S _ _ _ _ _ _ _ _ _ _ _ _ _ ae' hv o q s Rr D hp'⟩
   | succ i =>
    have ae':AllEq (match at? led i with | some q=>ih lvl m H c B p (k q.2) led sz tk hs its ((.a a,.a q.1)::ob) | none=>⟨.fail 5,c,p,led,sz,tk,hs,its,ob⟩:Rs).ob:=ae
    have hp':K1 (model C.prog w) V H o B q Rr (match at? led i with | some q=>ih lvl m H c B p (k q.2) led sz tk hs its ((.a a,.a q.1)::ob) | none=>⟨.fail 5,c,p,led,sz,tk,hs,its,ob⟩:Rs):=hp
    cases hl:at? led i with
    | none=>rw[hl] at hp';exact False.elim hp'
    | some x =>
     rw[hl] at ae' hp'
     dsimp only at ae' hp'
     obtain ⟨l,e⟩:=(mo lvl m H c B p (k x.2) led sz tk hs its ((.a a,.a x.1)::ob)).1
     have e2:a=x.1:=Cell.a.inj (AllEq.cons (AllEq.append (e▸ae'))).1
     exact ⟨x.2,by rw[e2];exact D.here x (at?_mem hl),S _ _ _ _ _ _ _ _ _ _ _ _ _ ae' hv o q s Rr D hp'⟩
 | loadIfAlive a k =>
  rw[Sem.wp_loadIfAlive]
  cases hs with
  | nil=>exact False.elim hp
  | cons h hs =>
   cases h with
   | zero =>
    have ae':AllEq (match lk C.top a with | some o=>ih lvl m H c B p (k (some o)) led sz tk hs its ob | none=>⟨.fail 4,c,p,led,sz,tk,hs,its,ob⟩:Rs).ob:=ae
    have hp':K1 (model C.prog w) V H o B q Rr (match lk C.top a with | some o=>ih lvl m H c B p (k (some o)) led sz tk hs its ob | none=>⟨.fail 4,c,p,led,sz,tk,hs,its,ob⟩:Rs):=hp
    cases hl:lk C.top a with
    | none=>rw[hl] at hp';exact False.elim hp'
    | some x =>
     rw[hl] at ae' hp'
     rw[D.top a x (by rw[hK];exact hl)]
     exact S _ _ _ _ _ _ _ _ _ _ _ _ _ ae' hv o q s Rr D hp'
   | succ i =>
    have ae':AllEq (match at? led i with | some q=>ih lvl m H c B p (k (some q.2)) led sz tk hs its ((.a a,.a q.1)::ob) | none=>⟨.fail 5,c,p,led,sz,tk,hs,its,ob⟩:Rs).ob:=ae
    have hp':K1 (model C.prog w) V H o B q Rr (match at? led i with | some q=>ih lvl m H c B p (k (some q.2)) led sz tk hs its ((.a a,.a q.1)::ob) | none=>⟨.fail 5,c,p,led,sz,tk,hs,its,ob⟩:Rs):=hp
    cases hl:at? led i with
    | none=>rw[hl] at hp';exact False.elim hp'
    | some x =>
     rw[hl] at ae' hp'
     dsimp only at ae' hp'
     obtain ⟨l,e⟩:=(mo lvl m H c B p (k (some x.2)) led sz tk hs its ((.a a,.a x.1)::ob)).1
     have e2:a=x.1:=Cell.a.inj (AllEq.cons (AllEq.append (e▸ae'))).1
     rw[show s.heap.get? a=some x.2 by rw[e2];exact D.here x (at?_mem hl)]
     exact S _ _ _ _ _ _ _ _ _ _ _ _ _ ae' hv o q s Rr D hp'
 | update a pt f k =>
  rw[Sem.wp_update]
  cases hs with
  | nil=>exact False.elim hp
  | cons i hs =>
   have ae':AllEq (match at? led i with | some q=>(match (f q.2).isFreed with | false=>ih lvl m H c B p (k ()) (WD led i (q.1,f q.2)) sz tk hs its ((.a a,.a q.1)::ob) | true=>⟨.fail 7,c,p,led,sz,tk,hs,its,ob⟩) | none=>⟨.fail 8,c,p,led,sz,tk,hs,its,ob⟩:Rs).ob:=ae
   have hp':K1 (model C.prog w) V H o B q Rr (match at? led i with | some q=>(match (f q.2).isFreed with | false=>ih lvl m H c B p (k ()) (WD led i (q.1,f q.2)) sz tk hs its ((.a a,.a q.1)::ob) | true=>⟨.fail 7,c,p,led,sz,tk,hs,its,ob⟩) | none=>⟨.fail 8,c,p,led,sz,tk,hs,its,ob⟩:Rs):=hp
   cases hl:at? led i with
   | none=>rw[hl] at hp';exact False.elim hp'
   | some x =>
    rw[hl] at ae' hp'
    dsimp only at ae' hp'
    cases hf:(f x.2).isFreed with
    | true=>rw[hf] at hp';exact False.elim hp'
    | false =>
     rw[hf] at ae' hp'
     dsimp only at ae' hp'
     obtain ⟨l,e⟩:=(mo lvl m H c B p (k ()) (WD led i (x.1,f x.2)) sz tk hs its ((.a a,.a x.1)::ob)).1
     have e2:a=x.1:=Cell.a.inj (AllEq.cons (AllEq.append (e▸ae'))).1
     rw[e2]
     exact ⟨by rw[D.here x (at?_mem hl)];rfl,S _ _ _ _ _ _ _ _ _ _ _ _ _ ae' hv o q _ Rr (D.update hl hf) hp'⟩
 | call c' hd g lv k =>
  cases hs with
  | nil=>exact False.elim hp
  | cons h hs =>
   cases h with
   | zero=>exact QX hp D
   | succ h =>
    cases hd with
    | some e =>
     rw[Sem.wp_call]
     have ae':AllEq (Yz C ih lvl m H c B p (.call c' (some e) g lv k) led sz tk ((h+1)::hs) its ob).ob:=ae
     have hp':K1 (model C.prog w) V H o B q Rr (Yz C ih lvl m H c B p (.call c' (some e) g lv k) led sz tk ((h+1)::hs) its ob):=hp
     have inner:=mo (lvl+1) true (some e) c' ((c,p)::B) p (Yj c') led sz tk hs its ob
     have SI:=S (lvl+1) true (some e) c' ((c,p)::B) p (Yj c') led sz tk hs its ob
     unfold Yz at ae' hp'
     dsimp only at ae' hp'
     cases hni:isNI e with
     | true=>rw[hni] at hp';exact False.elim hp'
     | false =>
      rw[hni] at ae' hp'
      dsimp only at ae' hp'
      generalize ih (lvl+1) true (some e) c' ((c,p)::B) p (Yj c') led sz tk hs its ob=r at inner SI ae' hp'
      obtain ⟨kd,c₁,p₁,led₁,sz₁,tk₁,hs₁,its₁,ob₁⟩:=r
      obtain ⟨⟨l₁,e₁⟩,s₁⟩:=inner
      dsimp only at e₁ s₁ SI ae' hp'
      have hv':∀ x∈its₁,x.Valid (model C.prog w):=fun x hx=>hv x (s₁ x hx)
      have ec:(⟨c,H,o,B,q⟩:Ctx).enter c' (some e) p=⟨c',some e,some e,(c,p)::B,q⟩:=by
       unfold Ctx.enter markOver
       dsimp only
       rw[Nc hni]
       rfl
      rw[ec]
      refine ZW ?_
      cases kd with
      | done f =>
       obtain ⟨l,e⟩:=(mo lvl m H c B p (k (.ok f)) led₁ sz₁ tk₁ hs₁ its₁ ob₁).1
       refine SI (AllEq.append (e▸ae')) hv _ q s _ D fun s' D'=>?_
       exact S _ _ _ _ _ _ _ _ _ _ _ _ _ ae' hv' o q s' Rr D' hp'
      | raise e' =>
       obtain ⟨l,e⟩:=(mo lvl m H c B p (k (.error e')) led₁ sz₁ tk₁ hs₁ its₁ ob₁).1
       refine SI (AllEq.append (e▸ae')) hv _ q s _ D fun s' D'=>?_
       exact S _ _ _ _ _ _ _ _ _ _ _ _ _ ae' hv' o q s' Rr D' hp'
      | pause _=>exact False.elim hp'
      | pauseT _=>exact False.elim hp'
      | fail n=>exact False.elim hp'
    | none =>
     rw[Sem.wp_call]
     cases h with
     | zero =>
      cases its with
      | nil=>exact False.elim hp
      | cons it its =>
       have ae':AllEq (Yz C ih lvl m H c B p (.call c' none g lv k) led sz tk (1::hs) (it::its) ob).ob:=ae
       have hp':K1 (model C.prog w) V H o B q Rr (Yz C ih lvl m H c B p (.call c' none g lv k) led sz tk (1::hs) (it::its) ob):=hp
       unfold Yz at ae' hp'
       dsimp only at ae' hp'
       cases hk:UL it.pre led hs with
       | none=>rw[hk] at hp';exact False.elim hp'
       | some qh =>
        obtain ⟨qs,hs'⟩:=qh
        rw[hk] at ae' hp'
        dsimp only at ae' hp'
        have sub:=V7 hk
        have hv':∀ x∈its,x.Valid (model C.prog w):=fun x hx=>hv x (.tail _ hx)
        have D':=D.fresh it.k
        split at hp'
        ·rename_i id args
         dsimp only at ae'
         cases hd:it.d with
         | true=>rw[hd] at hp';exact False.elim hp'
         | false =>
          rw[hd] at ae' hp'
          dsimp only at ae' hp'
          obtain ⟨l,e⟩:=(mo lvl m H c B p (k (.ok (.ret (it.v tk args)))) led sz (tk+it.k) hs' its ((.l qs,.l it.pre)::(.s id,.s it.id)::(.v (args.map er),.v it.args)::ob)).1
          obtain ⟨x1,r1⟩:=AllEq.cons (AllEq.append (e▸ae'))
          obtain ⟨x2,r2⟩:=AllEq.cons r1
          obtain ⟨x3,r3⟩:=AllEq.cons r2
          have e1:qs=it.pre:=Cell.l.inj x1
          have e2:id=it.id:=Cell.s.inj x2
          have e3:args.map er=it.args:=Cell.v.inj x3
          have ec:Code.call (.builtin id) ⟨args,[]⟩=it.code args:=by unfold PItem.code;rw[hd,e2]
          rw[ec]
          refine hv it (.head _) _ p s _ args e3 (fun y hy=>D.here y (sub y (by rw[e1];exact hy))) ?_
          rw[D.toks]
          exact S _ _ _ _ _ _ _ _ _ _ _ _ _ ae' hv' o q _ Rr (D.toks▸D') hp'
        ·rename_i id args
         dsimp only at ae'
         cases hd:it.d with
         | false=>rw[hd] at hp';exact False.elim hp'
         | true =>
          rw[hd] at ae' hp'
          dsimp only at ae' hp'
          obtain ⟨l,e⟩:=(mo lvl m H c B p (k (.ok (.ret (it.v tk args)))) led sz (tk+it.k) hs' its ((.l qs,.l it.pre)::(.s id,.s it.id)::(.v (args.map er),.v it.args)::ob)).1
          obtain ⟨x1,r1⟩:=AllEq.cons (AllEq.append (e▸ae'))
          obtain ⟨x2,r2⟩:=AllEq.cons r1
          obtain ⟨x3,r3⟩:=AllEq.cons r2
          have e1:qs=it.pre:=Cell.l.inj x1
          have e2:id=it.id:=Cell.s.inj x2
          have e3:args.map er=it.args:=Cell.v.inj x3
          have ec:Code.builtin id ⟨args,[]⟩=it.code args:=by unfold PItem.code;rw[hd,e2]
          rw[ec]
          refine hv it (.head _) _ p s _ args e3 (fun y hy=>D.here y (sub y (by rw[e1];exact hy))) ?_
          rw[D.toks]
          exact S _ _ _ _ _ _ _ _ _ _ _ _ _ ae' hv' o q _ Rr (D.toks▸D') hp'
        ·exact False.elim hp'
     | succ h =>
      have ae':AllEq (Yz C ih lvl m H c B p (.call c' none g lv k) led sz tk ((h+2)::hs) its ob).ob:=ae
      have hp':K1 (model C.prog w) V H o B q Rr (Yz C ih lvl m H c B p (.call c' none g lv k) led sz tk ((h+2)::hs) its ob):=hp
      have inner:=mo (lvl+1) true H c' ((c,p)::B) p (Yj c') led sz tk hs its ob
      have SI:=S (lvl+1) true H c' ((c,p)::B) p (Yj c') led sz tk hs its ob
      unfold Yz at ae' hp'
      dsimp only at ae' hp'
      generalize ih (lvl+1) true H c' ((c,p)::B) p (Yj c') led sz tk hs its ob=r at inner SI ae' hp'
      obtain ⟨kd,c₁,p₁,led₁,sz₁,tk₁,hs₁,its₁,ob₁⟩:=r
      obtain ⟨⟨l₁,e₁⟩,s₁⟩:=inner
      dsimp only at e₁ s₁ SI ae' hp'
      have hv':∀ x∈its₁,x.Valid (model C.prog w):=fun x hx=>hv x (s₁ x hx)
      refine ZW ?_
      cases kd with
      | done f =>
       obtain ⟨l,e⟩:=(mo lvl m H c B p (k (.ok f)) led₁ sz₁ tk₁ hs₁ its₁ ob₁).1
       refine SI (AllEq.append (e▸ae')) hv o q s _ D fun s' D'=>?_
       exact S _ _ _ _ _ _ _ _ _ _ _ _ _ ae' hv' o q s' Rr D' hp'
      | raise e' =>
       obtain ⟨l,e⟩:=(mo lvl m H c B p (k (.error e')) led₁ sz₁ tk₁ hs₁ its₁ ob₁).1
       refine SI (AllEq.append (e▸ae')) hv _ q s _ D fun s' D'=>?_
       exact S _ _ _ _ _ _ _ _ _ _ _ _ _ ae' hv' o q s' Rr D' hp'
      | pause _=>exact False.elim hp'
      | pauseT _=>exact False.elim hp'
      | fail n=>exact False.elim hp'
 | _=>exact False.elim hp
theorem YA(C:Cfg):∀ n,Mono (goN C n)
 | 0=>WW _
 | n+1=>WV (YA C n)
theorem U9{C:Cfg}{w:World}{V:Env0}(hP:w.params=C.P)(hids:∀ id∈C.ids,id.startsWith "lifetime."=false)(hK:V.K=C.top):∀ n,Z12 (model C.prog w) V (goN C n)
 | 0=>UG _
 | n+1=>UF hP hids hK (YA C n) (U9 hP hids hK n)
end
section
open Sem (wp finPost)
noncomputable def erC:Code→Code
 | .call f ⟨a,kw⟩=>.call f ⟨a.map er,kw.map fun x=>(x.1,er x.2)⟩
 | .builtin id ⟨a,kw⟩=>.builtin id ⟨a.map er,kw.map fun x=>(x.1,er x.2)⟩
 | c=>c
structure FOut where
 r:Result
 led:Led
 sz:Nat
 tk:Nat
 g:Array GenState→Array GenState:=id
 ledS:Led:=[]
structure FItem where
 c:Code
 B:Stk→Stk
 pre:Led
 out:Nat→Nat→(Nat→Nat)→FOut
 gin:Array GenState→Array GenState:=id
 preS:Led:=[]
 er:Code→Code:=erC
structure GOut where
 r:GenResult
 led:Led
 sz:Nat
 tk:Nat
 g:Array GenState→Array GenState:=id
 ledS:Led:=[]
structure GItem where
 gi:Nat
 B:Stk→Stk
 pre:Led
 out:Nat→Nat→(Nat→Nat)→GOut
 gin:Array GenState→Array GenState:=id
 preS:Led:=[]
structure Left0 (pre led:Led)(sz:Nat)(h₀ h':Heap):Prop where
 frame:∀ a x,h₀.get? a=some x→a∉pre.map (·.1)→h'.get? a=some x
 here:∀ q∈led,h'.get? q.1=some q.2
 nodup:(led.map (·.1)).Nodup
 from_:∀ q∈led,q.1∈pre.map (·.1)∨h₀.objs.size≤q.1
 size:h'.objs.size=sz
 grows:h₀.objs.size≤sz
noncomputable abbrev FItem.all (it:FItem):Led:=it.pre++it.preS
noncomputable abbrev FOut.all (o:FOut):Led:=o.led++o.ledS
noncomputable abbrev GItem.all (it:GItem):Led:=it.pre++it.preS
noncomputable abbrev GOut.all (o:GOut):Led:=o.led++o.ledS
noncomputable def FItem.Valid (M:Model)(K:List (Nat × Obj))(it:FItem):Prop:=∀(Γ:Ctx)(p:Pos)(s:Shared)(Rr:Result→Shared→Prop),it.er Γ.code=it.c→Γ.handled=none→it.B Γ.below=Γ.below→it.gin s.gens=s.gens →
 (∀ a o,lk K a=some o→s.heap.get? a=some o)→(it.all.map (·.1)).Nodup→(∀ q∈it.all,lk K q.1=none)→(∀ q∈it.all,s.heap.get? q.1=some q.2) →
 (∀ l h',Left0 it.all (it.out s.heap.objs.size s.toks l).all (it.out s.heap.objs.size s.toks l).sz s.heap h' →
  Rr (it.out s.heap.objs.size s.toks l).r ⟨h',(it.out s.heap.objs.size s.toks l).g s.gens,s.drawn,(it.out s.heap.objs.size s.toks l).tk,s.os⟩)→wpCode M Γ Rr p s
noncomputable def GItem.Valid (M:Model)(K:List (Nat × Obj))(it:GItem):Prop:=∀(Γ:Ctx)(p:Pos)(s:Shared)(Rr:GenResult→Shared→Prop),Γ.handled=none→it.B ((Γ.code,p)::Γ.below)=(Γ.code,p)::Γ.below→it.gin s.gens=s.gens →
 (∀ a o,lk K a=some o→s.heap.get? a=some o)→(it.all.map (·.1)).Nodup→(∀ q∈it.all,lk K q.1=none)→(∀ q∈it.all,s.heap.get? q.1=some q.2) →
 (∀ l h',Left0 it.all (it.out s.heap.objs.size s.toks l).all (it.out s.heap.objs.size s.toks l).sz s.heap h' →
  Rr (it.out s.heap.objs.size s.toks l).r ⟨h',(it.out s.heap.objs.size s.toks l).g s.gens,s.drawn,(it.out s.heap.objs.size s.toks l).tk,s.os⟩)→∃ res s',Wakes M Γ p it.gi (.send .none) s res s'∧Rr res s'
noncomputable def JN (l:Led)(n:Nat):Option ((Addr × Obj) × Led) :=
 List.rec (motive:=fun _=>Nat→Option ((Addr × Obj) × Led)) (fun _=>none)
  (fun x r ih n=>Nat.rec (motive:=fun _=>Option ((Addr × Obj) × Led)) (some (x,r)) (fun m _=>match ih m with | some (q,r')=>some (q,x::r') | none=>none) n) l n
noncomputable def Yb (pre:Led)(led:Led)(hs:List Nat):Option (Led × Led × List Nat) :=
 List.rec (motive:=fun _=>Led→List Nat→Option (Led × Led × List Nat)) (fun led hs=>some ([],led,hs))
  (fun _ _ ih led hs=>match hs with
   | []=>none
   | h::hs=>match JN led h with
    | none=>none
    | some (q,led)=>match ih led hs with
     | none=>none
     | some (qs,led,hs)=>some (q::qs,led,hs)) pre led hs
theorem Jc:∀ {l:Led}{n:Nat}{r:(Addr × Obj) × Led},JN l n=some r→l.Perm (r.1::r.2)
 | [],n,r,h=>by cases h
 | x::l,0,r,h=>by cases h;exact .refl _
 | x::l,n+1,r,h=>by
  have h':(match JN l n with | some (q,r')=>some (q,x::r') | none=>none)=some r:=h
  cases ht:JN l n with
  | none=>rw[ht] at h';cases h'
  | some qr =>
   rw[ht] at h'
   cases h'
   exact ((Jc ht).cons x).trans (.swap ..)
theorem Yt:∀ {pre led:Led}{hs:List Nat}{r:Led × Led × List Nat},Yb pre led hs=some r→led.Perm (r.1++r.2.1)
 | [],led,hs,r,h=>by cases h;exact .refl _
 | x::pre,led,hs,r,h=>by
  cases hs with
  | nil=>cases h
  | cons i hs =>
   have h':(match JN led i with | none=>none | some (q,led)=>match Yb pre led hs with | none=>none | some (qs,led,hs)=>some (q::qs,led,hs))=some r:=h
   cases ha:JN led i with
   | none=>rw[ha] at h';cases h'
   | some ql =>
    obtain ⟨q,l2⟩:=ql
    rw[ha] at h'
    dsimp only at h'
    cases hp:Yb pre l2 hs with
    | none=>rw[hp] at h';cases h'
    | some lh =>
     rw[hp] at h'
     cases h'
     exact (Jc ha).trans ((Yt hp).cons q)
structure GS where
 st:GenState
 gg:Array GenState
 gi:Nat
inductive Plan where
 | fin (pits:List PItem)
 | item (pits:List PItem)(it:FItem)(rest:(Nat→Nat)→Plan)
 | newG (pits:List PItem)(rest:Plan)
 | genS (pits:List PItem)(x:GS)(rest:Plan)
 | wake (pits:List PItem)(it:GItem)(rest:(Nat→Nat)→Plan)
noncomputable def Plan.OK (M:Model)(K:List (Nat × Obj)):Plan→Prop
 | .fin pits=>∀ x∈pits,x.Valid M
 | .item pits it rest=>(∀ x∈pits,x.Valid M)∧it.Valid M K∧∀ l,(rest l).OK M K
 | .newG pits rest=>(∀ x∈pits,x.Valid M)∧rest.OK M K
 | .genS pits x rest=>(∀ x∈pits,x.Valid M)∧x.gg[x.gi]?=some x.st∧rest.OK M K
 | .wake pits it rest=>(∀ x∈pits,x.Valid M)∧it.Valid M K∧∀ l,(rest l).OK M K
noncomputable abbrev Go0T:=(Nat→Nat→Nat)→Code→Stk→Pos→Sem Fin→Led→Led→Nat→Nat→List Nat→List (Cell × Cell)→Array GenState→Rs × Led × Array GenState
noncomputable def UT (it:FItem)(B:Stk)(ls:Nat→Nat)(ih:Code→Pos→Sem Fin→Led→Led→Nat→Nat→List Nat→List (Cell × Cell)→Array GenState→Rs × Led × Array GenState)(r:Rs)(S:Led)(g:Array GenState):Rs × Led × Array GenState:=match r with
 | ⟨kd,c,p,led,sz,tk,hs,its,ob⟩=>match kd with
  | .pause t=>(match t with
   | .call c' hd _ _ k=>(match hd with
    | none=>(match Yb it.pre led hs with
     | some (qs,rest,hs)=>ih c p (k (it.out sz tk ls).r) ((it.out sz tk ls).led++rest) (it.out sz tk ls).ledS (it.out sz tk ls).sz (it.out sz tk ls).tk hs
       ((.l qs,.l it.pre)::(.l S,.l it.preS)::(.c (it.er c'),.c it.c)::(.b (it.B ((c,p)::B)),.b ((c,p)::B))::(.g (it.gin g),.g g)::ob) ((it.out sz tk ls).g g)
     | none=>(⟨.fail 40,c,p,led,sz,tk,hs,its,ob⟩,S,g))
    | some _=>(⟨.fail 41,c,p,led,sz,tk,hs,its,ob⟩,S,g))
   | _=>(⟨.fail 42,c,p,led,sz,tk,hs,its,ob⟩,S,g))
  | _=>(⟨.fail 42,c,p,led,sz,tk,hs,its,ob⟩,S,g)
noncomputable def kNew (ih:Code→Pos→Sem Fin→Led→Led→Nat→Nat→List Nat→List (Cell × Cell)→Array GenState→Rs × Led × Array GenState)(r:Rs)(S:Led)(g:Array GenState):Rs × Led × Array GenState:=match r with
 | ⟨kd,c,p,led,sz,tk,hs,its,ob⟩=>match kd with
  | .pause t=>(match t with
   | .newGen c' k=>ih c p (k g.size) led S sz tk hs ob (g.push (.fresh c'))
   | _=>(⟨.fail 43,c,p,led,sz,tk,hs,its,ob⟩,S,g))
  | _=>(⟨.fail 43,c,p,led,sz,tk,hs,its,ob⟩,S,g)
noncomputable def kGs (x:GS)(ih:Code→Pos→Sem Fin→Led→Led→Nat→Nat→List Nat→List (Cell × Cell)→Array GenState→Rs × Led × Array GenState)(r:Rs)(S:Led)(g:Array GenState):Rs × Led × Array GenState:=match r with
 | ⟨kd,c,p,led,sz,tk,hs,its,ob⟩=>match kd with
  | .pause t=>(match t with
   | .genState gi k=>ih c p (k x.st.seen) led S sz tk hs ((.a gi,.a x.gi)::(.g g,.g x.gg)::ob) g
   | _=>(⟨.fail 44,c,p,led,sz,tk,hs,its,ob⟩,S,g))
  | _=>(⟨.fail 44,c,p,led,sz,tk,hs,its,ob⟩,S,g)
noncomputable def US (it:GItem)(B:Stk)(ls:Nat→Nat)(ih:Code→Pos→Sem Fin→Led→Led→Nat→Nat→List Nat→List (Cell × Cell)→Array GenState→Rs × Led × Array GenState)(r:Rs)(S:Led)(g:Array GenState):Rs × Led × Array GenState:=match r with
 | ⟨kd,c,p,led,sz,tk,hs,its,ob⟩=>match kd with
  | .pause t=>(match t with
   | .resume gi rr _ k=>(match rr with
    | .send v=>(match v with
     | .none=>(match Yb it.pre led hs with
      | some (qs,rest,hs)=>ih c p (k (it.out sz tk ls).r) ((it.out sz tk ls).led++rest) (it.out sz tk ls).ledS (it.out sz tk ls).sz (it.out sz tk ls).tk hs
        ((.l qs,.l it.pre)::(.l S,.l it.preS)::(.a gi,.a it.gi)::(.b (it.B ((c,p)::B)),.b ((c,p)::B))::(.g (it.gin g),.g g)::ob) ((it.out sz tk ls).g g)
      | none=>(⟨.fail 40,c,p,led,sz,tk,hs,its,ob⟩,S,g))
     | _=>(⟨.fail 45,c,p,led,sz,tk,hs,its,ob⟩,S,g))
    | _=>(⟨.fail 45,c,p,led,sz,tk,hs,its,ob⟩,S,g))
   | _=>(⟨.fail 45,c,p,led,sz,tk,hs,its,ob⟩,S,g))
  | _=>(⟨.fail 45,c,p,led,sz,tk,hs,its,ob⟩,S,g)
noncomputable def go0 (C:Cfg)(n:Nat)(pl:Plan):Go0T :=
 Plan.rec (motive:=fun _=>Go0T)
  (fun pits _ c B p t led S sz tk hs ob g=>(goN C n 0 true none c B p t led sz tk hs pits ob,S,g))
  (fun pits it _ ih ls c B p t led S sz tk hs ob g=>UT it B (ls 0) (fun c p t led S sz tk hs ob g=>ih (ls 0) (fun j=>ls (j+1)) c B p t led S sz tk hs ob g) (goN C n 0 true none c B p t led sz tk hs pits ob) S g)
  (fun pits _ ih ls c B p t led S sz tk hs ob g=>kNew (fun c p t led S sz tk hs ob g=>ih ls c B p t led S sz tk hs ob g) (goN C n 0 true none c B p t led sz tk hs pits ob) S g)
  (fun pits st _ ih ls c B p t led S sz tk hs ob g=>kGs st (fun c p t led S sz tk hs ob g=>ih ls c B p t led S sz tk hs ob g) (goN C n 0 true none c B p t led sz tk hs pits ob) S g)
  (fun pits it _ ih ls c B p t led S sz tk hs ob g=>US it B (ls 0) (fun c p t led S sz tk hs ob g=>ih (ls 0) (fun j=>ls (j+1)) c B p t led S sz tk hs ob g) (goN C n 0 true none c B p t led sz tk hs pits ob) S g) pl
theorem Desc.perm{V:Env0}{led led':Led}{sz tk:Nat}{s:Shared}(D:Desc V led sz tk s)(h:led.Perm led'):Desc V led' sz tk s :=
 ⟨D.size,D.toks,D.gens,D.drawn,D.os,D.top,fun q hq=>D.here q (h.mem_iff.mpr hq),(h.map _).nodup_iff.mp D.nodup,fun q hq=>D.own q (h.mem_iff.mpr hq),fun q hq=>D.base q (h.mem_iff.mpr hq),D.frame,D.old⟩
theorem Desc.item{V:Env0}{pre led rest:Led}{sz tk sz' tk':Nat}{g':Array GenState}{s:Shared}(D:Desc V (pre++rest) sz tk s){h':Heap}(L:Left0 pre led sz' s.heap h') :
  Desc { V with g:=g' } (led++rest) sz' tk' ⟨h',g',s.drawn,tk',s.os⟩:=by
 obtain ⟨f1,f2,f3,f4,f5,f6⟩:=L
 have es:=D.size
 have nd:=D.nodup
 rw[List.map_append,List.nodup_append] at nd
 obtain ⟨n1,n2,n3⟩:=nd
 have hlt:∀ q∈pre++rest,q.1<s.heap.objs.size:=fun q hq=>Heap.lt_size (D.here q hq)
 have notpre:∀ q∈rest,q.1∉pre.map (·.1):=fun q hq hm=>n3 _ hm _ (List.mem_map_of_mem hq) rfl
 have top':∀ a o,lk V.K a=some o→h'.get? a=some o:=fun a o h=>f1 a o (D.top a o h) fun hm=>by
  obtain ⟨q,hq,e⟩:=List.mem_map.mp hm
  have:=D.own q (List.mem_append_left _ hq)
  rw[e,h] at this
  cases this
 rw[es] at f4 f6
 refine ⟨f5,rfl,rfl,D.drawn,D.os,top',fun q hq=>?_,?_,fun q hq=>?_,fun q hq=>?_,fun a x h1 h2=>?_,Nat.le_trans D.old f6⟩
 ·rcases List.mem_append.mp hq with hq | hq
  ·exact f2 q hq
  ·exact f1 _ _ (D.here q (List.mem_append_right _ hq)) (notpre q hq)
 ·rw[List.map_append,List.nodup_append]
  refine ⟨f3,n2,fun a ha b hb e=>?_⟩
  subst e
  obtain ⟨q,hq,e1⟩:=List.mem_map.mp ha
  obtain ⟨r,hr,e2⟩:=List.mem_map.mp hb
  rcases f4 q hq with h | h
  ·exact notpre r hr (by rw[e2,←e1];exact h)
  ·have:=hlt r (List.mem_append_right _ hr)
   rw[e2,←e1,es] at this
   exact absurd this (Nat.not_lt.mpr h)
 ·rcases List.mem_append.mp hq with hq | hq
  ·rcases f4 q hq with h | h
   ·obtain ⟨r,hr,e⟩:=List.mem_map.mp h
    rw[←e]
    exact D.own r (List.mem_append_left _ hr)
   ·cases hl:lk V.K q.1 with
    | none=>rfl
    | some o =>
     have:=Heap.lt_size (D.top _ _ hl)
     rw[es] at this
     exact absurd this (Nat.not_lt.mpr h)
  ·exact D.own q (List.mem_append_right _ hq)
 ·rcases List.mem_append.mp hq with hq | hq
  ·rcases f4 q hq with h | h
   ·obtain ⟨r,hr,e⟩:=List.mem_map.mp h
    rw[←e]
    exact D.base r (List.mem_append_left _ hr)
   ·exact .inr (Nat.le_trans D.old h)
  ·exact D.base q (List.mem_append_right _ hq)
 ·refine f1 a x (D.frame a x h1 h2) fun hm=>?_
  obtain ⟨q,hq,e⟩:=List.mem_map.mp hm
  rcases D.base q (List.mem_append_left _ hq) with h | h
  ·exact h2 (e▸h)
  ·exact absurd (Heap.lt_size h1) (Nat.not_lt.mpr (e▸h))
theorem Desc.join{V:Env0}{led S led₁:Led}{sz tk sz₁ tk₁:Nat}{s s₁:Shared}(D:Desc V (led++S) sz tk s)(D1:Desc ⟨V.K,s.heap,led.map (·.1),V.g,V.d,V.os⟩ led₁ sz₁ tk₁ s₁):Desc V (led₁++S) sz₁ tk₁ s₁:=by
 have nd:=D.nodup
 rw[List.map_append,List.nodup_append] at nd
 obtain ⟨n1,n2,n3⟩:=nd
 have notl:∀ q∈S,q.1∉led.map (·.1):=fun q hq hm=>n3 _ hm _ (List.mem_map_of_mem hq) rfl
 refine ⟨D1.size,D1.toks,D1.gens,D1.drawn,D1.os,D1.top,fun q hq=>?_,?_,fun q hq=>?_,fun q hq=>?_,fun a x h1 h2=>?_,?_⟩
 ·rcases List.mem_append.mp hq with hq | hq
  ·exact D1.here q hq
  ·exact D1.frame _ _ (D.here q (List.mem_append_right _ hq)) (notl q hq)
 ·rw[List.map_append,List.nodup_append]
  refine ⟨D1.nodup,n2,fun a ha b hb e=>?_⟩
  subst e
  obtain ⟨q,hq,e1⟩:=List.mem_map.mp ha
  obtain ⟨r,hr,e2⟩:=List.mem_map.mp hb
  rcases D1.base q hq with h | h
  ·exact notl r hr (by rw[e2,←e1];exact h)
  ·have:=Heap.lt_size (D.here r (List.mem_append_right _ hr))
   rw[e2,←e1] at this
   exact absurd this (Nat.not_lt.mpr h)
 ·rcases List.mem_append.mp hq with hq | hq
  ·exact D1.own q hq
  ·exact D.own q (List.mem_append_right _ hq)
 ·rcases List.mem_append.mp hq with hq | hq
  ·rcases D1.base q hq with h | h
   ·obtain ⟨r,hr,e⟩:=List.mem_map.mp h
    rw[←e]
    exact D.base r (List.mem_append_left _ hr)
   ·exact .inr (Nat.le_trans (D.size▸D.old) h)
  ·exact D.base q (List.mem_append_right _ hq)
 ·refine D1.frame a x (D.frame a x h1 h2) fun hm=>?_
  obtain ⟨q,hq,e⟩:=List.mem_map.mp hm
  rcases D.base q (List.mem_append_left _ hq) with h | h
  ·exact h2 (e▸h)
  ·exact absurd (Heap.lt_size h1) (Nat.not_lt.mpr (e▸h))
 ·exact Nat.le_trans (D.size▸D.old) D1.old
theorem Desc.split{V:Env0}{led S:Led}{sz tk:Nat}{s:Shared}(D:Desc V (led++S) sz tk s):Desc ⟨V.K,s.heap,led.map (·.1),V.g,V.d,V.os⟩ led sz tk s:=by
 have nd:=D.nodup
 rw[List.map_append,List.nodup_append] at nd
 exact ⟨D.size,D.toks,D.gens,D.drawn,D.os,D.top,fun q hq=>D.here q (List.mem_append_left _ hq),nd.1,fun q hq=>D.own q (List.mem_append_left _ hq),fun q hq=>.inl (List.mem_map_of_mem hq),fun a o h _=>h,Nat.le_of_eq D.size⟩
noncomputable def addS (r:Rs)(S:Led):Rs:={ r with led:=r.led++S }
theorem seg {C:Cfg}{w:World}{V:Env0}{n:Nat}{S:Led}(hP:w.params=C.P)(hids:∀ id∈C.ids,id.startsWith "lifetime."=false)(hK:V.K=C.top) {c B p t led sz tk hs pits ob}
  (ae:AllEq (goN C n 0 true none c B p t led sz tk hs pits ob).ob)(hv:∀ it∈pits,it.Valid (model C.prog w)) {o q s Rr}(D:Desc V (led++S) sz tk s)
  (hp:K1 (model C.prog w) V none o B q Rr (addS (goN C n 0 true none c B p t led sz tk hs pits ob) S)):wp (model C.prog w) ⟨c,none,o,B,q⟩ t (finPost (model C.prog w) ⟨c,none,o,B,q⟩ Rr) (EP (model C.prog w) ⟨c,none,o,B,q⟩ Rr) p s:=by
 refine U9 (V:=⟨V.K,s.heap,led.map (·.1),V.g,V.d,V.os⟩) hP hids hK n 0 true none c B p t led sz tk hs pits ob ae hv o q s Rr D.split ?_
 generalize goN C n 0 true none c B p t led sz tk hs pits ob=r at hp
 obtain ⟨kd,c₁,p₁,led₁,sz₁,tk₁,hs₁,its₁,ob₁⟩:=r
 cases kd with
 | done f=>exact fun s' D'=>hp s' (D.join D')
 | raise e=>exact fun s' D'=>hp s' (D.join D')
 | pause t=>exact fun s' D'=>hp s' (D.join D')
 | pauseT c=>exact fun s' D'=>hp s' (D.join D')
 | fail n=>exact hp
theorem five{α:Type}{X l₂ l₁ ob:List α}{a b c d e:α}(h:X=l₂++a::b::c::d::e::(l₁++ob)):∃ l,X=l++ob:=⟨l₂++a::b::c::d::e::l₁,by rw[h];simp⟩
theorem twoL{α:Type}{X l₂ l₁ ob:List α}{a b:α}(h:X=l₂++a::b::(l₁++ob)):∃ l,X=l++ob:=⟨l₂++a::b::l₁,by rw[h];simp⟩
theorem J5(C:Cfg)(n:Nat):∀(pl:Plan) ls c B p t led S sz tk hs ob g,∃ l,(go0 C n pl ls c B p t led S sz tk hs ob g).1.ob=l++ob:=by
 intro pl
 induction pl with
 | fin pits=>exact fun ls c B p t led S sz tk hs ob g=>(YA C n 0 true none c B p t led sz tk hs pits ob).1
 | item pits it rest ih =>
  intro ls c B p t led S sz tk hs ob g
  obtain ⟨l₁,e₁⟩:=(YA C n 0 true none c B p t led sz tk hs pits ob).1
  show ∃ l,(UT it B (ls 0) (fun c p t led S sz tk hs ob g=>go0 C n (rest (ls 0)) (fun j=>ls (j+1)) c B p t led S sz tk hs ob g) (goN C n 0 true none c B p t led sz tk hs pits ob) S g).1.ob=l++ob
  generalize goN C n 0 true none c B p t led sz tk hs pits ob=r at e₁
  obtain ⟨kd,c₁,p₁,led₁,sz₁,tk₁,hs₁,its₁,ob₁⟩:=r
  dsimp only at e₁
  subst e₁
  unfold UT
  dsimp only
  have nil:∀ l₁,∃ l,l₁++ob=l++ob:=fun l₁=>⟨l₁,rfl⟩
  repeat' split
  all_goals first
   | exact nil _
   | (obtain ⟨l₂,e₂⟩:=ih (ls 0) (fun j=>ls (j+1)) _ B _ _ _ _ _ _ _ _ _;exact five e₂)
 | newG pits rest ih =>
  intro ls c B p t led S sz tk hs ob g
  obtain ⟨l₁,e₁⟩:=(YA C n 0 true none c B p t led sz tk hs pits ob).1
  show ∃ l,(kNew (fun c p t led S sz tk hs ob g=>go0 C n rest ls c B p t led S sz tk hs ob g) (goN C n 0 true none c B p t led sz tk hs pits ob) S g).1.ob=l++ob
  generalize goN C n 0 true none c B p t led sz tk hs pits ob=r at e₁
  obtain ⟨kd,c₁,p₁,led₁,sz₁,tk₁,hs₁,its₁,ob₁⟩:=r
  dsimp only at e₁
  subst e₁
  unfold kNew
  dsimp only
  have nil:∀ l₁,∃ l,l₁++ob=l++ob:=fun l₁=>⟨l₁,rfl⟩
  repeat' split
  all_goals first
   | exact nil _
   | (obtain ⟨l₂,e₂⟩:=ih ls _ B _ _ _ _ _ _ _ _ _;exact ⟨l₂++l₁,by rw[e₂];simp⟩)
 | genS pits st rest ih =>
  intro ls c B p t led S sz tk hs ob g
  obtain ⟨l₁,e₁⟩:=(YA C n 0 true none c B p t led sz tk hs pits ob).1
  show ∃ l,(kGs st (fun c p t led S sz tk hs ob g=>go0 C n rest ls c B p t led S sz tk hs ob g) (goN C n 0 true none c B p t led sz tk hs pits ob) S g).1.ob=l++ob
  generalize goN C n 0 true none c B p t led sz tk hs pits ob=r at e₁
  obtain ⟨kd,c₁,p₁,led₁,sz₁,tk₁,hs₁,its₁,ob₁⟩:=r
  dsimp only at e₁
  subst e₁
  unfold kGs
  dsimp only
  have nil:∀ l₁,∃ l,l₁++ob=l++ob:=fun l₁=>⟨l₁,rfl⟩
  repeat' split
  all_goals first
   | exact nil _
   | (obtain ⟨l₂,e₂⟩:=ih ls _ B _ _ _ _ _ _ _ _ _;exact twoL e₂)
 | wake pits it rest ih =>
  intro ls c B p t led S sz tk hs ob g
  obtain ⟨l₁,e₁⟩:=(YA C n 0 true none c B p t led sz tk hs pits ob).1
  show ∃ l,(US it B (ls 0) (fun c p t led S sz tk hs ob g=>go0 C n (rest (ls 0)) (fun j=>ls (j+1)) c B p t led S sz tk hs ob g) (goN C n 0 true none c B p t led sz tk hs pits ob) S g).1.ob=l++ob
  generalize goN C n 0 true none c B p t led sz tk hs pits ob=r at e₁
  obtain ⟨kd,c₁,p₁,led₁,sz₁,tk₁,hs₁,its₁,ob₁⟩:=r
  dsimp only at e₁
  subst e₁
  unfold US
  dsimp only
  have nil:∀ l₁,∃ l,l₁++ob=l++ob:=fun l₁=>⟨l₁,rfl⟩
  repeat' split
  all_goals first
   | exact nil _
   | (obtain ⟨l₂,e₂⟩:=ih (ls 0) (fun j=>ls (j+1)) _ B _ _ _ _ _ _ _ _ _;exact five e₂)
end
section
open Sem (wp finPost)
theorem VF{led₁ qs rest S:Led}(h:led₁.Perm (qs++rest)):(led₁++S).Perm ((qs++S)++rest) :=
 (h.append_right S).trans (by rw[List.append_assoc,List.append_assoc];exact (List.perm_append_comm (l₁:=rest) (l₂:=S)).append_left qs)
theorem Uh{a rest S:Led}:((a++S)++rest).Perm ((a++rest)++S):=by
 rw[List.append_assoc,List.append_assoc];exact (List.perm_append_comm (l₁:=S) (l₂:=rest)).append_left a
theorem Yn{C:Cfg}{w:World}(hP:w.params=C.P)(hids:∀ id∈C.ids,id.startsWith "lifetime."=false)(n:Nat):∀(pl:Plan)(V:Env0) c B p t led S sz tk hs ob,
  V.K=C.top→pl.OK (model C.prog w) C.top →
  (∀ ls,AllEq (go0 C n pl ls c B p t led S sz tk hs ob V.g).1.ob)→∀ o q s Rr,Desc V (led++S) sz tk s →
  (∀ ls,K1 (model C.prog w) { V with g:=(go0 C n pl ls c B p t led S sz tk hs ob V.g).2.2 } none o B q Rr (addS (go0 C n pl ls c B p t led S sz tk hs ob V.g).1 (go0 C n pl ls c B p t led S sz tk hs ob V.g).2.1)) →
  wp (model C.prog w) ⟨c,none,o,B,q⟩ t (finPost (model C.prog w) ⟨c,none,o,B,q⟩ Rr) (EP (model C.prog w) ⟨c,none,o,B,q⟩ Rr) p s:=by
 intro pl
 induction pl with
 | fin pits =>
  intro V c B p t led S sz tk hs ob hK ok ae o q s Rr D hp
  exact seg hP hids hK (ae fun _ _=>0) ok D (hp fun _ _=>0)
 | item pits it rest ih =>
  intro V c B p t led S sz tk hs ob hK ok ae o q s Rr D hp
  obtain ⟨hv,hit,hrest⟩:=ok
  have m:=YA C n 0 true none c B p t led sz tk hs pits ob
  have SG:=fun a b=>@seg C w V n S hP hids hK c B p t led sz tk hs pits ob a hv o q s Rr D b
  let F:Rs→(Nat→Nat→Nat)→Rs × Led × Array GenState:=fun r ls=>UT it B (ls 0) (fun c p t led S sz tk hs ob g=>go0 C n (rest (ls 0)) (fun j=>ls (j+1)) c B p t led S sz tk hs ob g) r S V.g
  have ae':∀ ls,AllEq (F (goN C n 0 true none c B p t led sz tk hs pits ob) ls).1.ob:=ae
  have hp':∀ ls,K1 (model C.prog w) { V with g:=(F (goN C n 0 true none c B p t led sz tk hs pits ob) ls).2.2 } none o B q Rr (addS (F (goN C n 0 true none c B p t led sz tk hs pits ob) ls).1 (F (goN C n 0 true none c B p t led sz tk hs pits ob) ls).2.1):=hp
  clear ae hp
  generalize goN C n 0 true none c B p t led sz tk hs pits ob=r at m SG ae' hp'
  obtain ⟨kd,c₁,p₁,led₁,sz₁,tk₁,hs₁,pits₁,ob₁⟩:=r
  obtain ⟨⟨l₁,e₁⟩,s₁⟩:=m
  dsimp only at e₁ s₁
  cases kd with
  | done f=>exact False.elim (hp' fun _ _=>0)
  | raise e=>exact False.elim (hp' fun _ _=>0)
  | pauseT c=>exact False.elim (hp' fun _ _=>0)
  | fail n=>exact False.elim (hp' fun _ _=>0)
  | pause t' =>
   cases t' with
   | call c' hd gd lv k =>
    cases hd with
    | some _=>exact False.elim (hp' fun _ _=>0)
    | none =>
     cases ht:Yb it.pre led₁ hs₁ with
     | none =>
      have:=hp' fun _ _=>0
      simp only[F,UT,ht] at this
      exact False.elim this
     | some x =>
      obtain ⟨qs,rest',hs₂⟩:=x
      simp only[F,UT,ht] at ae' hp'
      have a0:=ae' fun _ _=>0
      obtain ⟨l₂,e₂⟩:=J5 C n (rest ((fun _ _=>0:Nat→Nat→Nat) 0)) (fun j=>(fun _ _=>0:Nat→Nat→Nat) (j+1)) c₁ B p₁ (k (it.out sz₁ tk₁ ((fun _ _=>0:Nat→Nat→Nat) 0)).r) ((it.out sz₁ tk₁ ((fun _ _=>0:Nat→Nat→Nat) 0)).led++rest') (it.out sz₁ tk₁ ((fun _ _=>0:Nat→Nat→Nat) 0)).ledS (it.out sz₁ tk₁ ((fun _ _=>0:Nat→Nat→Nat) 0)).sz (it.out sz₁ tk₁ ((fun _ _=>0:Nat→Nat→Nat) 0)).tk hs₂
        ((.l qs,.l it.pre)::(.l S,.l it.preS)::(.c (it.er c'),.c it.c)::(.b (it.B ((c₁,p₁)::B)),.b ((c₁,p₁)::B))::(.g (it.gin V.g),.g V.g)::ob₁) ((it.out sz₁ tk₁ ((fun _ _=>0:Nat→Nat→Nat) 0)).g V.g)
      rw[e₂] at a0
      obtain ⟨x1,r1⟩:=AllEq.cons (AllEq.append a0)
      obtain ⟨x2,r2⟩:=AllEq.cons r1
      obtain ⟨x3,r3⟩:=AllEq.cons r2
      obtain ⟨x4,r4⟩:=AllEq.cons r3
      obtain ⟨x5,r5⟩:=AllEq.cons r4
      have E1:qs=it.pre:=Cell.l.inj x1
      have E2:S=it.preS:=Cell.l.inj x2
      have E3:it.er c'=it.c:=Cell.c.inj x3
      have E4:it.B ((c₁,p₁)::B)=(c₁,p₁)::B:=Cell.b.inj x4
      have E5:it.gin V.g=V.g:=Cell.g.inj x5
      refine SG r5 fun s' D'=>?_
      show wp _ _ (.call c' none gd lv k) _ _ p₁ s'
      rw[Sem.wp_call]
      have pm:(led₁++S).Perm (it.all++rest'):=by rw[FItem.all,←E1,←E2];exact VF (Yt ht)
      have D2:Desc V (it.all++rest') sz₁ tk₁ s':=Desc.perm D' pm
      have nd:=D2.nodup
      rw[List.map_append,List.nodup_append] at nd
      have es:=D2.size
      have et:=D2.toks
      have eg:=D2.gens
      refine hit _ p₁ s' _ E3 rfl E4 (by rw[eg];exact E5) (fun a x h=>D2.top a x (by rw[hK];exact h)) nd.1 (fun y hy=>by rw[←hK];exact D2.own y (List.mem_append_left _ hy)) (fun y hy=>D2.here y (List.mem_append_left _ hy)) fun l h' L=>?_
      rw[es,et] at L ⊢
      rw[eg]
      have D3:=(D2.item (tk':=(it.out sz₁ tk₁ l).tk) (g':=(it.out sz₁ tk₁ l).g V.g) L).perm Uh
      exact ih l { V with g:=(it.out sz₁ tk₁ l).g V.g } c₁ B p₁ (k (it.out sz₁ tk₁ l).r) ((it.out sz₁ tk₁ l).led++rest') (it.out sz₁ tk₁ l).ledS (it.out sz₁ tk₁ l).sz (it.out sz₁ tk₁ l).tk hs₂
       ((.l qs,.l it.pre)::(.l S,.l it.preS)::(.c (it.er c'),.c it.c)::(.b (it.B ((c₁,p₁)::B)),.b ((c₁,p₁)::B))::(.g (it.gin V.g),.g V.g)::ob₁) hK (hrest l)
       (fun ls=>ae' fun j=>match j with | 0=>l | j+1=>ls j) o q _ Rr D3 (fun ls=>hp' fun j=>match j with | 0=>l | j+1=>ls j)
   | _=>exact False.elim (hp' fun _ _=>0)
 | newG pits rest ih =>
  intro V c B p t led S sz tk hs ob hK ok ae o q s Rr D hp
  obtain ⟨hv,hrest⟩:=ok
  have m:=YA C n 0 true none c B p t led sz tk hs pits ob
  have SG:=fun a b=>@seg C w V n S hP hids hK c B p t led sz tk hs pits ob a hv o q s Rr D b
  let F:Rs→(Nat→Nat→Nat)→Rs × Led × Array GenState:=fun r ls=>kNew (fun c p t led S sz tk hs ob g=>go0 C n rest ls c B p t led S sz tk hs ob g) r S V.g
  have ae':∀ ls,AllEq (F (goN C n 0 true none c B p t led sz tk hs pits ob) ls).1.ob:=ae
  have hp':∀ ls,K1 (model C.prog w) { V with g:=(F (goN C n 0 true none c B p t led sz tk hs pits ob) ls).2.2 } none o B q Rr (addS (F (goN C n 0 true none c B p t led sz tk hs pits ob) ls).1 (F (goN C n 0 true none c B p t led sz tk hs pits ob) ls).2.1):=hp
  clear ae hp
  generalize goN C n 0 true none c B p t led sz tk hs pits ob=r at m SG ae' hp'
  obtain ⟨kd,c₁,p₁,led₁,sz₁,tk₁,hs₁,pits₁,ob₁⟩:=r
  obtain ⟨⟨l₁,e₁⟩,s₁⟩:=m
  dsimp only at e₁ s₁
  cases kd with
  | done f=>exact False.elim (hp' fun _ _=>0)
  | raise e=>exact False.elim (hp' fun _ _=>0)
  | pauseT c=>exact False.elim (hp' fun _ _=>0)
  | fail n=>exact False.elim (hp' fun _ _=>0)
  | pause t' =>
   cases t' with
   | newGen c' k =>
    simp only[F,kNew] at ae' hp'
    have a0:=ae' fun _ _=>0
    obtain ⟨l₂,e₂⟩:=J5 C n rest (fun _ _=>0) c₁ B p₁ (k V.g.size) led₁ S sz₁ tk₁ hs₁ ob₁ (V.g.push (.fresh c'))
    rw[e₂] at a0
    refine SG (AllEq.append a0) fun s' D'=>?_
    show wp _ _ (.newGen c' k) _ _ p₁ s'
    rw[Sem.wp_newGen]
    have D2:Desc V (led₁++S) sz₁ tk₁ s':=D'
    have eg:=D2.gens
    rw[eg]
    have D3:Desc { V with g:=V.g.push (.fresh c') } (led₁++S) sz₁ tk₁ { s' with gens:=V.g.push (.fresh c') } :=
     ⟨D2.size,D2.toks,rfl,D2.drawn,D2.os,D2.top,D2.here,D2.nodup,D2.own,D2.base,D2.frame,D2.old⟩
    exact ih { V with g:=V.g.push (.fresh c') } c₁ B p₁ (k V.g.size) led₁ S sz₁ tk₁ hs₁ ob₁ hK hrest ae' o q _ Rr D3 hp'
   | _=>exact False.elim (hp' fun _ _=>0)
 | genS pits st rest ih =>
  intro V c B p t led S sz tk hs ob hK ok ae o q s Rr D hp
  obtain ⟨hv,hgs,hrest⟩:=ok
  have m:=YA C n 0 true none c B p t led sz tk hs pits ob
  have SG:=fun a b=>@seg C w V n S hP hids hK c B p t led sz tk hs pits ob a hv o q s Rr D b
  let F:Rs→(Nat→Nat→Nat)→Rs × Led × Array GenState:=fun r ls=>kGs st (fun c p t led S sz tk hs ob g=>go0 C n rest ls c B p t led S sz tk hs ob g) r S V.g
  have ae':∀ ls,AllEq (F (goN C n 0 true none c B p t led sz tk hs pits ob) ls).1.ob:=ae
  have hp':∀ ls,K1 (model C.prog w) { V with g:=(F (goN C n 0 true none c B p t led sz tk hs pits ob) ls).2.2 } none o B q Rr (addS (F (goN C n 0 true none c B p t led sz tk hs pits ob) ls).1 (F (goN C n 0 true none c B p t led sz tk hs pits ob) ls).2.1):=hp
  clear ae hp
  generalize goN C n 0 true none c B p t led sz tk hs pits ob=r at m SG ae' hp'
  obtain ⟨kd,c₁,p₁,led₁,sz₁,tk₁,hs₁,pits₁,ob₁⟩:=r
  obtain ⟨⟨l₁,e₁⟩,s₁⟩:=m
  dsimp only at e₁ s₁
  cases kd with
  | done f=>exact False.elim (hp' fun _ _=>0)
  | raise e=>exact False.elim (hp' fun _ _=>0)
  | pauseT c=>exact False.elim (hp' fun _ _=>0)
  | fail n=>exact False.elim (hp' fun _ _=>0)
  | pause t' =>
   cases t' with
   | genState gi k =>
    simp only[F,kGs] at ae' hp'
    have a0:=ae' fun _ _=>0
    obtain ⟨l₂,e₂⟩:=J5 C n rest (fun _ _=>0) c₁ B p₁ (k st.st.seen) led₁ S sz₁ tk₁ hs₁ ((.a gi,.a st.gi)::(.g V.g,.g st.gg)::ob₁) V.g
    rw[e₂] at a0
    obtain ⟨x1,r0⟩:=AllEq.cons (AllEq.append a0)
    obtain ⟨x2,r1⟩:=AllEq.cons r0
    have E1:V.g[gi]?=some st.st:=by rw[Cell.a.inj x1,Cell.g.inj x2];exact hgs
    refine SG r1 fun s' D'=>?_
    show wp _ _ (.genState gi k) _ _ p₁ s'
    rw[Sem.wp_genState]
    have D2:Desc V (led₁++S) sz₁ tk₁ s':=D'
    exact ⟨st.st,by rw[D2.gens];exact E1,ih V c₁ B p₁ (k st.st.seen) led₁ S sz₁ tk₁ hs₁ _ hK hrest ae' o q _ Rr D2 hp'⟩
   | _=>exact False.elim (hp' fun _ _=>0)
 | wake pits it rest ih =>
  intro V c B p t led S sz tk hs ob hK ok ae o q s Rr D hp
  obtain ⟨hv,hit,hrest⟩:=ok
  have m:=YA C n 0 true none c B p t led sz tk hs pits ob
  have SG:=fun a b=>@seg C w V n S hP hids hK c B p t led sz tk hs pits ob a hv o q s Rr D b
  let F:Rs→(Nat→Nat→Nat)→Rs × Led × Array GenState:=fun r ls=>US it B (ls 0) (fun c p t led S sz tk hs ob g=>go0 C n (rest (ls 0)) (fun j=>ls (j+1)) c B p t led S sz tk hs ob g) r S V.g
  have ae':∀ ls,AllEq (F (goN C n 0 true none c B p t led sz tk hs pits ob) ls).1.ob:=ae
  have hp':∀ ls,K1 (model C.prog w) { V with g:=(F (goN C n 0 true none c B p t led sz tk hs pits ob) ls).2.2 } none o B q Rr (addS (F (goN C n 0 true none c B p t led sz tk hs pits ob) ls).1 (F (goN C n 0 true none c B p t led sz tk hs pits ob) ls).2.1):=hp
  clear ae hp
  generalize goN C n 0 true none c B p t led sz tk hs pits ob=r at m SG ae' hp'
  obtain ⟨kd,c₁,p₁,led₁,sz₁,tk₁,hs₁,pits₁,ob₁⟩:=r
  obtain ⟨⟨l₁,e₁⟩,s₁⟩:=m
  dsimp only at e₁ s₁
  cases kd with
  | done f=>exact False.elim (hp' fun _ _=>0)
  | raise e=>exact False.elim (hp' fun _ _=>0)
  | pauseT c=>exact False.elim (hp' fun _ _=>0)
  | fail n=>exact False.elim (hp' fun _ _=>0)
  | pause t' =>
   cases t' with
   | resume gi rr lv k =>
    cases rr with
    | throw _=>exact False.elim (hp' fun _ _=>0)
    | send v =>
     cases v with
     | none =>
      cases ht:Yb it.pre led₁ hs₁ with
      | none =>
       have:=hp' fun _ _=>0
       simp only[F,US,ht] at this
       exact False.elim this
      | some x =>
       obtain ⟨qs,rest',hs₂⟩:=x
       simp only[F,US,ht] at ae' hp'
       have a0:=ae' fun _ _=>0
       obtain ⟨l₂,e₂⟩:=J5 C n (rest ((fun _ _=>0:Nat→Nat→Nat) 0)) (fun j=>(fun _ _=>0:Nat→Nat→Nat) (j+1)) c₁ B p₁ (k (it.out sz₁ tk₁ ((fun _ _=>0:Nat→Nat→Nat) 0)).r) ((it.out sz₁ tk₁ ((fun _ _=>0:Nat→Nat→Nat) 0)).led++rest') (it.out sz₁ tk₁ ((fun _ _=>0:Nat→Nat→Nat) 0)).ledS (it.out sz₁ tk₁ ((fun _ _=>0:Nat→Nat→Nat) 0)).sz (it.out sz₁ tk₁ ((fun _ _=>0:Nat→Nat→Nat) 0)).tk hs₂
         ((.l qs,.l it.pre)::(.l S,.l it.preS)::(.a gi,.a it.gi)::(.b (it.B ((c₁,p₁)::B)),.b ((c₁,p₁)::B))::(.g (it.gin V.g),.g V.g)::ob₁) ((it.out sz₁ tk₁ ((fun _ _=>0:Nat→Nat→Nat) 0)).g V.g)
       rw[e₂] at a0
       obtain ⟨x1,r1⟩:=AllEq.cons (AllEq.append a0)
       obtain ⟨x2,r2⟩:=AllEq.cons r1
       obtain ⟨x3,r3⟩:=AllEq.cons r2
       obtain ⟨x4,r4⟩:=AllEq.cons r3
       obtain ⟨x5,r5⟩:=AllEq.cons r4
       have E1:qs=it.pre:=Cell.l.inj x1
       have E2:S=it.preS:=Cell.l.inj x2
       have E3:gi=it.gi:=Cell.a.inj x3
       have E4:it.B ((c₁,p₁)::B)=(c₁,p₁)::B:=Cell.b.inj x4
       have E5:it.gin V.g=V.g:=Cell.g.inj x5
       refine SG r5 fun s' D'=>?_
       show wp _ _ (.resume gi (.send .none) lv k) _ _ p₁ s'
       rw[Sem.wp_resume]
       have pm:(led₁++S).Perm (it.all++rest'):=by rw[GItem.all,←E1,←E2];exact VF (Yt ht)
       have D2:Desc V (it.all++rest') sz₁ tk₁ s':=Desc.perm D' pm
       have nd:=D2.nodup
       rw[List.map_append,List.nodup_append] at nd
       have es:=D2.size
       have et:=D2.toks
       have eg:=D2.gens
       rw[E3]
       refine hit ⟨c₁,none,o,B,q⟩ p₁ s' (fun res s''=>wp (model C.prog w) ⟨c₁,none,o,B,q⟩ (k res) (finPost (model C.prog w) ⟨c₁,none,o,B,q⟩ Rr) (EP (model C.prog w) ⟨c₁,none,o,B,q⟩ Rr) p₁ s'') rfl E4 (by rw[eg];exact E5) (fun a x h=>D2.top a x (by rw[hK];exact h)) nd.1 (fun y hy=>by rw[←hK];exact D2.own y (List.mem_append_left _ hy)) (fun y hy=>D2.here y (List.mem_append_left _ hy)) fun l h' L=>?_
       rw[es,et] at L ⊢
       rw[eg]
       have D3:=(D2.item (tk':=(it.out sz₁ tk₁ l).tk) (g':=(it.out sz₁ tk₁ l).g V.g) L).perm Uh
       exact ih l { V with g:=(it.out sz₁ tk₁ l).g V.g } c₁ B p₁ (k (it.out sz₁ tk₁ l).r) ((it.out sz₁ tk₁ l).led++rest') (it.out sz₁ tk₁ l).ledS (it.out sz₁ tk₁ l).sz (it.out sz₁ tk₁ l).tk hs₂
        ((.l qs,.l it.pre)::(.l S,.l it.preS)::(.a gi,.a it.gi)::(.b (it.B ((c₁,p₁)::B)),.b ((c₁,p₁)::B))::(.g (it.gin V.g),.g V.g)::ob₁) hK (hrest l)
        (fun ls=>ae' fun j=>match j with | 0=>l | j+1=>ls j) o q _ Rr D3 (fun ls=>hp' fun j=>match j with | 0=>l | j+1=>ls j)
     | _=>exact False.elim (hp' fun _ _=>0)
   | _=>exact False.elim (hp' fun _ _=>0)
structure World0 (C:Cfg)(w:World):Prop where
 hP:w.params=C.P
 hids:∀ id∈C.ids,id.startsWith "lifetime."=false
noncomputable def Rs.res (r:Rs):Option Result:=match r.kd with
 | .done f=>some (.ok f)
 | .raise e=>some (.error e)
 | _=>none
noncomputable def Rs.tail (r:Rs):Option Code:=match r.kd with
 | .pauseT c=>some (erC c)
 | _=>none
noncomputable def fst? (x:Option (Led × Led × List Nat)):Option Led:=match x with | some x=>some x.1 | none=>none
noncomputable def summ (r:Rs × Led × Array GenState)(m:Led)(js:List Nat):Option Result × Option Led × Nat × Nat × Led × Array GenState × List Cell :=
 (r.1.res,fst? (Yb m r.1.led js),r.1.sz,r.1.tk,r.2.1,r.2.2,r.1.ob.map (·.1))
noncomputable def want (o:FOut)(ex S:Led)(g:Array GenState)(ob:List (Cell × Cell)):Option Result × Option Led × Nat × Nat × Led × Array GenState × List Cell :=
 (some o.r,some (o.led++ex),o.sz,o.tk,S,o.g g,ob.map (·.2))
noncomputable def summT (r:Rs × Led × Array GenState)(m:Led)(js:List Nat):Option Code × Option Led × Led × Array GenState × List Cell :=
 (r.1.tail,fst? (Yb m r.1.led js),r.2.1,r.2.2,r.1.ob.map (·.1))
noncomputable def wantT (it':FItem)(ex S:Led)(g:Array GenState)(ob:List (Cell × Cell)):Option Code × Option Led × Led × Array GenState × List Cell :=
 (some it'.c,some (it'.pre++ex),S,it'.gin g,ob.map (·.2))
theorem fst?_perm{m led:Led}{js:List Nat}{o:Led}(h:fst? (Yb m led js)=some o):∃ rest,led.Perm (o++rest):=by
 cases hx:Yb m led js with
 | none=>rw[hx] at h;cases h
 | some x =>
  rw[hx] at h
  cases h
  exact ⟨x.2.1,Yt hx⟩
theorem Desc.start{K:List (Nat × Obj)}{pre:Led}{s:Shared}(top:∀ a o,lk K a=some o→s.heap.get? a=some o)(nd:(pre.map (·.1)).Nodup)(own:∀ q∈pre,lk K q.1=none)
  (here:∀ q∈pre,s.heap.get? q.1=some q.2):Desc ⟨K,s.heap,pre.map (·.1),s.gens,s.drawn,s.os⟩ pre s.heap.objs.size s.toks s :=
 ⟨rfl,rfl,rfl,rfl,rfl,top,here,nd,own,fun q hq=>.inl (List.mem_map_of_mem hq),fun a o h _=>h,Nat.le_refl _⟩
theorem Desc.left{K:List (Nat × Obj)}{pre out rest:Led}{s s':Shared}{led:Led}{sz tk:Nat}{g':Array GenState}{d:Drawn}{os:OsState}
  (D:Desc ⟨K,s.heap,pre.map (·.1),g',d,os⟩ led sz tk s')(hp:led.Perm (out++rest)):Left0 pre out sz s.heap s'.heap:=by
 have D':=D.perm hp
 have nd:=D'.nodup
 rw[List.map_append,List.nodup_append] at nd
 exact ⟨D.frame,fun q hq=>D'.here q (List.mem_append_left _ hq),nd.1,fun q hq=>D'.base q (List.mem_append_left _ hq),D.size,D.old⟩
theorem Q2{led₁ a ex rest S:Led}(h:led₁.Perm ((a++ex)++rest)):(led₁++S).Perm ((a++(ex++S))++rest) :=
 (VF h).trans (by simp only[List.append_assoc];exact .refl _)
noncomputable abbrev Chk (C:Cfg)(it:FItem)(t:Sem Fin)(c:Code)(B:Stk)(p:Pos)(sz tk:Nat)(g:Array GenState)(n:Nat)(pl:Plan)(hs js:List Nat)(kx:Nat)(l:(Nat→Nat→Nat)→Nat→Nat)(ls:Nat→Nat→Nat):Prop :=
 summ (go0 C n pl ls c (it.B B) p t it.pre it.preS sz tk hs [] (it.gin g)) ((it.out sz tk (l ls)).led++(it.out sz tk (l ls)).ledS.take kx) js=want (it.out sz tk (l ls)) ((it.out sz tk (l ls)).ledS.take kx) ((it.out sz tk (l ls)).ledS.drop kx) (it.gin g) (go0 C n pl ls c (it.B B) p t it.pre it.preS sz tk hs [] (it.gin g)).1.ob
inductive GoC (C:Cfg)(w:World)(it:FItem)(t:Sem Fin)(c:Code)(B:Stk)(p:Pos)(sz tk:Nat)(g:Array GenState):Prop
 | mk (n:Nat)(pl:Plan)(hs js:List Nat)(kx:Nat)(l:(Nat→Nat→Nat)→Nat→Nat)(ok:pl.OK (model C.prog w) C.top)(chk:∀ ls,Chk C it t c B p sz tk g n pl hs js kx l ls):GoC C w it t c B p sz tk g
noncomputable abbrev ChkT (C:Cfg)(it it':FItem)(t:Sem Fin)(c:Code)(B:Stk)(p:Pos)(sz tk:Nat)(g g':Array GenState)(n:Nat)(pl:Plan)(hs js:List Nat)(kx:Nat)(ls:Nat→Nat→Nat):Prop :=
 summT (go0 C n pl ls c (it.B B) p t it.pre it.preS sz tk hs [] (it.gin g)) (it'.pre++it'.preS.take kx) js=wantT it' (it'.preS.take kx) (it'.preS.drop kx) g' (go0 C n pl ls c (it.B B) p t it.pre it.preS sz tk hs [] (it.gin g)).1.ob
inductive ThC (C:Cfg)(w:World)(it:FItem)(it':(Nat→Nat→Nat)→FItem)(t:Sem Fin)(c:Code)(B:Stk)(p:Pos)(sz tk:Nat)(g g':Array GenState):Prop
 | mk (n:Nat)(pl:Plan)(hs js:List Nat)(kx:Nat)(ok:pl.OK (model C.prog w) C.top)(chk:∀ ls,ChkT C it (it' ls) t c B p sz tk g g' n pl hs js kx ls):ThC C w it it' t c B p sz tk g g'
theorem Z1{C:Cfg}{w:World}(W:World0 C w)(it:FItem)
  (h:∀(c:Code)(B:Stk)(p:Pos)(sz tk:Nat)(g:Array GenState),it.er c=it.c→GoC C w it (Yj c) c B p sz tk g) :
  it.Valid (model C.prog w) C.top:=by
 rintro ⟨c,hd,ow,B,pa⟩ p s Rr hc hh hB hg top nd own here k
 dsimp only at hc hh hB
 obtain ⟨n,pl,hs,js,kx,l,ok,chk⟩:=h c B p s.heap.objs.size s.toks s.gens hc
 delta Chk at chk
 rw[hB,hg] at chk
 subst hh
 refine ZW ?_
 refine Yn W.hP W.hids n pl ⟨C.top,s.heap,it.all.map (·.1),s.gens,s.drawn,s.os⟩ c B p (Yj c) it.pre it.preS s.heap.objs.size s.toks hs [] rfl ok (fun ls=>?_) ow pa s Rr (Desc.start top nd own here) (fun ls=>?_)
 ·exact (Prod.mk.inj (Prod.mk.inj (Prod.mk.inj (Prod.mk.inj (Prod.mk.inj (Prod.mk.inj (chk ls)).2).2).2).2).2).2
 ·obtain ⟨e1,r1⟩:=Prod.mk.inj (chk ls)
  obtain ⟨e2,r2⟩:=Prod.mk.inj r1
  obtain ⟨e3,r3⟩:=Prod.mk.inj r2
  obtain ⟨e4,r4⟩:=Prod.mk.inj r3
  obtain ⟨e5,r5⟩:=Prod.mk.inj r4
  obtain ⟨e6,e7⟩:=Prod.mk.inj r5
  have hS':=(List.take_append_drop kx (it.out s.heap.objs.size s.toks (l ls)).ledS).symm
  generalize (it.out s.heap.objs.size s.toks (l ls)).ledS.drop kx=S' at hS' e5
  generalize (it.out s.heap.objs.size s.toks (l ls)).ledS.take kx=ex' at hS' e2
  generalize go0 C n pl ls c B p (Yj c) it.pre it.preS s.heap.objs.size s.toks hs [] s.gens=R at e1 e2 e3 e4 e5 e6 e7 ⊢
  obtain ⟨⟨kd,c₁,p₁,led₁,sz₁,tk₁,hs₁,pits₁,ob₁⟩,S₁,g₁⟩:=R
  dsimp only at e1 e2 e3 e4 e5 e6 e7 ⊢
  obtain ⟨rest,pm⟩:=fst?_perm e2
  have fin:∀ s',Desc ⟨C.top,s.heap,it.all.map (·.1),g₁,s.drawn,s.os⟩ (led₁++S₁) sz₁ tk₁ s'→Rr (it.out s.heap.objs.size s.toks (l ls)).r s':=fun s' D=>by
   have pm2:(led₁++S₁).Perm ((it.out s.heap.objs.size s.toks (l ls)).all++rest):=by
    rw[FOut.all,hS',←e5]
    exact Q2 pm
   have L:=D.left pm2
   rw[e3] at L
   have:=k (l ls) s'.heap L
   rw[←e4,←e6] at this
   have es:s'=⟨s'.heap,g₁,s.drawn,tk₁,s.os⟩:=by
    obtain ⟨a1,a2,a3,a4,a5⟩:=s'
    have b1:a2=g₁:=D.gens
    have b2:a3=s.drawn:=D.drawn
    have b3:a4=tk₁:=D.toks
    have b4:a5=s.os:=D.os
    subst b1 b2 b3 b4
    rfl
   rw[es]
   exact this
  cases kd with
  | done f =>
   have e:(.ok f:Result)=(it.out s.heap.objs.size s.toks (l ls)).r:=Option.some.inj e1
   intro s' D
   rw[e]
   exact fin s' D
  | raise e' =>
   have e:(.error e':Result)=(it.out s.heap.objs.size s.toks (l ls)).r:=Option.some.inj e1
   intro s' D
   show Rr (.error e') s'
   rw[e]
   exact fin s' D
  | pause _=>cases e1
  | pauseT _=>cases e1
  | fail _=>cases e1
theorem Z2{C:Cfg}{w:World}(W:World0 C w)(it:FItem)(it':Nat→Nat→(Nat→Nat→Nat)→FItem)
  (hout:∀ sz tk sz' tk' a b ls l,it.out sz tk l=(it' a b ls).out sz' tk' l)(hB:∀ a b ls,it.B=(it' a b ls).B)(hgi:∀ a b ls,it.gin=(it' a b ls).gin)
  (h:∀(c:Code)(B:Stk)(p:Pos)(sz tk:Nat)(g:Array GenState),it.er c=it.c→ThC C w it (it' sz tk) (Yj c) c B p sz tk g g)
  (h':∀ a b ls,(it' a b ls).Valid (model C.prog w) C.top)(her:∀ a b ls,(it' a b ls).er=erC:=by exact fun _ _ _=>rfl):it.Valid (model C.prog w) C.top:=by
 rintro ⟨c,hd,ow,B,pa⟩ p s Rr hc hh hBB hg top nd own here k
 dsimp only at hc hh hBB
 obtain ⟨n,pl,hs,js,kx,ok,chk⟩:=h c B p s.heap.objs.size s.toks s.gens hc
 delta ChkT at chk
 rw[hBB,hg] at chk
 subst hh
 refine ZW ?_
 refine Yn W.hP W.hids n pl ⟨C.top,s.heap,it.all.map (·.1),s.gens,s.drawn,s.os⟩ c B p (Yj c) it.pre it.preS s.heap.objs.size s.toks hs [] rfl ok (fun ls=>?_) ow pa s Rr (Desc.start top nd own here) (fun ls=>?_)
 ·exact (Prod.mk.inj (Prod.mk.inj (Prod.mk.inj (Prod.mk.inj (chk ls)).2).2).2).2
 ·obtain ⟨e1,r1⟩:=Prod.mk.inj (chk ls)
  obtain ⟨e2,r2⟩:=Prod.mk.inj r1
  obtain ⟨e3,r3⟩:=Prod.mk.inj r2
  obtain ⟨e4,e5⟩:=Prod.mk.inj r3
  have hb:=hB s.heap.objs.size s.toks ls
  have hgg:=hgi s.heap.objs.size s.toks ls
  have h0:=h' s.heap.objs.size s.toks ls
  have her':=her s.heap.objs.size s.toks ls
  have ho0:=fun sz tk sz' tk' l=>hout sz tk sz' tk' s.heap.objs.size s.toks ls l
  generalize it' s.heap.objs.size s.toks ls=it'' at e1 e2 e3 e4 hb h0 ho0 hgg her'
  have hS':=(List.take_append_drop kx it''.preS).symm
  generalize it''.preS.drop kx=S' at hS' e3
  generalize it''.preS.take kx=ex' at hS' e2
  rw[←hgg,hg] at e4
  generalize go0 C n pl ls c B p (Yj c) it.pre it.preS s.heap.objs.size s.toks hs [] s.gens=R at e1 e2 e3 e4 e5 ⊢
  obtain ⟨⟨kd,c₁,p₁,led₁,sz₁,tk₁,hs₁,pits₁,ob₁⟩,S₁,g₁⟩:=R
  dsimp only at e1 e2 e3 e4 e5 ⊢
  subst e4
  obtain ⟨rest,pm⟩:=fst?_perm e2
  have pm2:(led₁++S₁).Perm (it''.all++rest):=by
   rw[FItem.all,hS',←e3]
   exact Q2 pm
  cases kd with
  | done f=>cases e1
  | raise e'=>cases e1
  | pause _=>cases e1
  | fail _=>cases e1
  | pauseT c' =>
   have e:erC c'=it''.c:=Option.some.inj e1
   intro s' D
   have D2:Desc ⟨C.top,s.heap,it.all.map (·.1),s.gens,s.drawn,s.os⟩ (it''.all++rest) sz₁ tk₁ s':=Desc.perm D pm2
   have nd2:=D2.nodup
   rw[List.map_append,List.nodup_append] at nd2
   have eg:s'.gens=s.gens:=D2.gens
   have ed:s'.drawn=s.drawn:=D2.drawn
   have eo:s'.os=s.os:=D2.os
   refine h0 ⟨c',none,ow,B,pa⟩ p₁ s' Rr (by rw[her'];exact e) rfl (by rw[←hb];exact hBB) (by rw[←hgg,eg];exact hg) D2.top nd2.1 (fun q hq=>D2.own q (List.mem_append_left _ hq)) (fun q hq=>D2.here q (List.mem_append_left _ hq)) fun l h2 L=>?_
   have ho:=ho0 s.heap.objs.size s.toks s'.heap.objs.size s'.toks l
   have key:=k l h2 (by
    obtain ⟨f1,f2,f3,f4,f5,f6⟩:=L
    rw[←ho] at f2 f3 f4 f5 f6
    have le:s.heap.objs.size≤s'.heap.objs.size:=by rw[D2.size];exact D2.old
    refine ⟨fun a x hx hn=>f1 a x (D2.frame a x hx hn) fun hm=>?_,f2,f3,fun q hq=>?_,f5,Nat.le_trans le f6⟩
    ·obtain ⟨q,hq,e⟩:=List.mem_map.mp hm
     rcases D2.base q (List.mem_append_left _ hq) with hb | hb
     ·exact hn (e▸hb)
     ·exact absurd (Heap.lt_size hx) (Nat.not_lt.mpr (e▸hb))
    ·rcases f4 q hq with hb | hb
     ·obtain ⟨r,hr,e⟩:=List.mem_map.mp hb
      rw[←e]
      exact D2.base r (List.mem_append_left _ hr)
     ·exact .inr (Nat.le_trans le hb))
   rw[ho] at key
   rw[eg,ed,eo]
   exact key
end
section
open Sem (wp finPost)
theorem Qf{C:Cfg}{w:World}(W:World0 C w)(it:FItem)(t:Code→Sem Fin)(ht:(it.all.map (·.1)).Nodup→∀ c,it.er c=it.c→∀(Γ:Ctx) Q E p s,wp (model C.prog w) Γ (t c) Q E p s→wp (model C.prog w) Γ (Yj c) Q E p s)(it':Nat→Nat→(Nat→Nat→Nat)→FItem)
  (hout:∀ sz tk sz' tk' a b ls l,it.out sz tk l=(it' a b ls).out sz' tk' l)(hB:∀ a b ls,it.B=(it' a b ls).B)(hgi:∀ a b ls,it.gin=(it' a b ls).gin)
  (h:∀(c:Code)(B:Stk)(p:Pos)(sz tk:Nat)(g:Array GenState),it.er c=it.c→ThC C w it (it' sz tk) (t c) c B p sz tk g g)
  (h':∀ a b ls,(it' a b ls).Valid (model C.prog w) C.top)(her:∀ a b ls,(it' a b ls).er=erC:=by exact fun _ _ _=>rfl):it.Valid (model C.prog w) C.top:=by
 rintro ⟨c,hd,ow,B,pa⟩ p s Rr hc hh hBB hg top nd own here k
 dsimp only at hc hh hBB
 obtain ⟨n,pl,hs,js,kx,ok,chk⟩:=h c B p s.heap.objs.size s.toks s.gens hc
 delta ChkT at chk
 rw[hBB,hg] at chk
 subst hh
 refine ZW (ht nd c hc _ _ _ _ _ ?_)
 refine Yn W.hP W.hids n pl ⟨C.top,s.heap,it.all.map (·.1),s.gens,s.drawn,s.os⟩ c B p (t c) it.pre it.preS s.heap.objs.size s.toks hs [] rfl ok (fun ls=>?_) ow pa s Rr (Desc.start top nd own here) (fun ls=>?_)
 ·exact (Prod.mk.inj (Prod.mk.inj (Prod.mk.inj (Prod.mk.inj (chk ls)).2).2).2).2
 ·obtain ⟨e1,r1⟩:=Prod.mk.inj (chk ls)
  obtain ⟨e2,r2⟩:=Prod.mk.inj r1
  obtain ⟨e3,r3⟩:=Prod.mk.inj r2
  obtain ⟨e4,e5⟩:=Prod.mk.inj r3
  have hb:=hB s.heap.objs.size s.toks ls
  have hgg:=hgi s.heap.objs.size s.toks ls
  have h0:=h' s.heap.objs.size s.toks ls
  have her':=her s.heap.objs.size s.toks ls
  have ho0:=fun sz tk sz' tk' l=>hout sz tk sz' tk' s.heap.objs.size s.toks ls l
  generalize it' s.heap.objs.size s.toks ls=it'' at e1 e2 e3 e4 hb h0 ho0 hgg her'
  have hS':=(List.take_append_drop kx it''.preS).symm
  generalize it''.preS.drop kx=S' at hS' e3
  generalize it''.preS.take kx=ex' at hS' e2
  rw[←hgg,hg] at e4
  generalize go0 C n pl ls c B p (t c) it.pre it.preS s.heap.objs.size s.toks hs [] s.gens=R at e1 e2 e3 e4 e5 ⊢
  obtain ⟨⟨kd,c₁,p₁,led₁,sz₁,tk₁,hs₁,pits₁,ob₁⟩,S₁,g₁⟩:=R
  dsimp only at e1 e2 e3 e4 e5 ⊢
  subst e4
  obtain ⟨rest,pm⟩:=fst?_perm e2
  have pm2:(led₁++S₁).Perm (it''.all++rest):=by
   rw[FItem.all,hS',←e3]
   exact Q2 pm
  cases kd with
  | done f=>cases e1
  | raise e'=>cases e1
  | pause _=>cases e1
  | fail _=>cases e1
  | pauseT c' =>
   have e:erC c'=it''.c:=Option.some.inj e1
   intro s' D
   have D2:Desc ⟨C.top,s.heap,it.all.map (·.1),s.gens,s.drawn,s.os⟩ (it''.all++rest) sz₁ tk₁ s':=Desc.perm D pm2
   have nd2:=D2.nodup
   rw[List.map_append,List.nodup_append] at nd2
   have eg:s'.gens=s.gens:=D2.gens
   have ed:s'.drawn=s.drawn:=D2.drawn
   have eo:s'.os=s.os:=D2.os
   refine h0 ⟨c',none,ow,B,pa⟩ p₁ s' Rr (by rw[her'];exact e) rfl (by rw[←hb];exact hBB) (by rw[←hgg,eg];exact hg) D2.top nd2.1 (fun q hq=>D2.own q (List.mem_append_left _ hq)) (fun q hq=>D2.here q (List.mem_append_left _ hq)) fun l h2 L=>?_
   have ho:=ho0 s.heap.objs.size s.toks s'.heap.objs.size s'.toks l
   have key:=k l h2 (by
    obtain ⟨f1,f2,f3,f4,f5,f6⟩:=L
    rw[←ho] at f2 f3 f4 f5 f6
    have le:s.heap.objs.size≤s'.heap.objs.size:=by rw[D2.size];exact D2.old
    refine ⟨fun a x hx hn=>f1 a x (D2.frame a x hx hn) fun hm=>?_,f2,f3,fun q hq=>?_,f5,Nat.le_trans le f6⟩
    ·obtain ⟨q,hq,e⟩:=List.mem_map.mp hm
     rcases D2.base q (List.mem_append_left _ hq) with hb | hb
     ·exact hn (e▸hb)
     ·exact absurd (Heap.lt_size hx) (Nat.not_lt.mpr (e▸hb))
    ·rcases f4 q hq with hb | hb
     ·obtain ⟨r,hr,e⟩:=List.mem_map.mp hb
      rw[←e]
      exact D2.base r (List.mem_append_left _ hr)
     ·exact .inr (Nat.le_trans le hb))
   rw[ho] at key
   rw[eg,ed,eo]
   exact key
noncomputable def FItem.ValidT (M:Model)(K:List (Nat × Obj))(it:FItem)(t:Sem Fin):Prop:=∀(Γ:Ctx)(p:Pos)(s:Shared)(Rr:Result→Shared→Prop),it.er Γ.code=it.c→Γ.handled=none→it.B Γ.below=Γ.below→it.gin s.gens=s.gens →
 (∀ a o,lk K a=some o→s.heap.get? a=some o)→(it.all.map (·.1)).Nodup→(∀ q∈it.all,lk K q.1=none)→(∀ q∈it.all,s.heap.get? q.1=some q.2) →
 (∀ l h',Left0 it.all (it.out s.heap.objs.size s.toks l).all (it.out s.heap.objs.size s.toks l).sz s.heap h' →
  Rr (it.out s.heap.objs.size s.toks l).r ⟨h',(it.out s.heap.objs.size s.toks l).g s.gens,s.drawn,(it.out s.heap.objs.size s.toks l).tk,s.os⟩)→wp M Γ t (finPost M Γ Rr) (fun e _ s=>Rr (.error e) s) p s
theorem ZL{C:Cfg}{w:World}(W:World0 C w)(it:FItem)(t:Sem Fin)(hwr:∀ c,it.er c=it.c→YQ c=false)
  (h:∀(c:Code)(B:Stk)(p:Pos)(sz tk:Nat)(g:Array GenState),it.er c=it.c→GoC C w it t c B p sz tk g) :
  it.ValidT (model C.prog w) C.top t:=by
 rintro ⟨c,hd,ow,B,pa⟩ p s Rr hc hh hB hg top nd own here k
 dsimp only at hc hh hB
 obtain ⟨n,pl,hs,js,kx,l,ok,chk⟩:=h c B p s.heap.objs.size s.toks s.gens hc
 delta Chk at chk
 rw[hB,hg] at chk
 subst hh
 have ew:EP (model C.prog w) ⟨c,none,ow,B,pa⟩ Rr=fun e _ s=>Rr (.error e) s:=by
  funext e p s
  unfold EP
  dsimp only
  rw[hwr c hc]
 rw[←ew]
 refine Yn W.hP W.hids n pl ⟨C.top,s.heap,it.all.map (·.1),s.gens,s.drawn,s.os⟩ c B p t it.pre it.preS s.heap.objs.size s.toks hs [] rfl ok (fun ls=>?_) ow pa s Rr (Desc.start top nd own here) (fun ls=>?_)
 ·exact (Prod.mk.inj (Prod.mk.inj (Prod.mk.inj (Prod.mk.inj (Prod.mk.inj (Prod.mk.inj (chk ls)).2).2).2).2).2).2
 ·obtain ⟨e1,r1⟩:=Prod.mk.inj (chk ls)
  obtain ⟨e2,r2⟩:=Prod.mk.inj r1
  obtain ⟨e3,r3⟩:=Prod.mk.inj r2
  obtain ⟨e4,r4⟩:=Prod.mk.inj r3
  obtain ⟨e5,r5⟩:=Prod.mk.inj r4
  obtain ⟨e6,e7⟩:=Prod.mk.inj r5
  have hS':=(List.take_append_drop kx (it.out s.heap.objs.size s.toks (l ls)).ledS).symm
  generalize (it.out s.heap.objs.size s.toks (l ls)).ledS.drop kx=S' at hS' e5
  generalize (it.out s.heap.objs.size s.toks (l ls)).ledS.take kx=ex' at hS' e2
  generalize go0 C n pl ls c B p t it.pre it.preS s.heap.objs.size s.toks hs [] s.gens=R at e1 e2 e3 e4 e5 e6 e7 ⊢
  obtain ⟨⟨kd,c₁,p₁,led₁,sz₁,tk₁,hs₁,pits₁,ob₁⟩,S₁,g₁⟩:=R
  dsimp only at e1 e2 e3 e4 e5 e6 e7 ⊢
  obtain ⟨rest,pm⟩:=fst?_perm e2
  have fin:∀ s',Desc ⟨C.top,s.heap,it.all.map (·.1),g₁,s.drawn,s.os⟩ (led₁++S₁) sz₁ tk₁ s'→Rr (it.out s.heap.objs.size s.toks (l ls)).r s':=fun s' D=>by
   have pm2:(led₁++S₁).Perm ((it.out s.heap.objs.size s.toks (l ls)).all++rest):=by
    rw[FOut.all,hS',←e5]
    exact Q2 pm
   have L:=D.left pm2
   rw[e3] at L
   have:=k (l ls) s'.heap L
   rw[←e4,←e6] at this
   have es:s'=⟨s'.heap,g₁,s.drawn,tk₁,s.os⟩:=by
    obtain ⟨a1,a2,a3,a4,a5⟩:=s'
    have b1:a2=g₁:=D.gens
    have b2:a3=s.drawn:=D.drawn
    have b3:a4=tk₁:=D.toks
    have b4:a5=s.os:=D.os
    subst b1 b2 b3 b4
    rfl
   rw[es]
   exact this
  cases kd with
  | done f =>
   have e:(.ok f:Result)=(it.out s.heap.objs.size s.toks (l ls)).r:=Option.some.inj e1
   intro s' D
   rw[e]
   exact fin s' D
  | raise e' =>
   have e:(.error e':Result)=(it.out s.heap.objs.size s.toks (l ls)).r:=Option.some.inj e1
   intro s' D
   show Rr (.error e') s'
   rw[e]
   exact fin s' D
  | pause _=>cases e1
  | pauseT _=>cases e1
  | fail _=>cases e1
theorem Desc.onto{K:List (Nat × Obj)}{M:Model}{pre rest:Led}{it'':FItem}{s s':Shared}{sz tk:Nat}{out:Nat→Nat→(Nat→Nat)→FOut}{Γ:Ctx}{p:Pos}{Rr:Result→Shared→Prop}
  (D2:Desc ⟨K,s.heap,pre.map (·.1),s.gens,s.drawn,s.os⟩ (it''.all++rest) sz tk s')(h0:it''.Valid M K)(ho:∀ l,out s.heap.objs.size s.toks l=it''.out s'.heap.objs.size s'.toks l)
  (hc:it''.er Γ.code=it''.c)(hh:Γ.handled=none)(hB:it''.B Γ.below=Γ.below)(hg:it''.gin s.gens=s.gens)
  (k:∀ l h',Left0 pre (out s.heap.objs.size s.toks l).all (out s.heap.objs.size s.toks l).sz s.heap h'→Rr (out s.heap.objs.size s.toks l).r ⟨h',(out s.heap.objs.size s.toks l).g s.gens,s.drawn,(out s.heap.objs.size s.toks l).tk,s.os⟩) :
  wpCode M Γ Rr p s':=by
 have nd2:=D2.nodup
 rw[List.map_append,List.nodup_append] at nd2
 have eg:s'.gens=s.gens:=D2.gens
 have ed:s'.drawn=s.drawn:=D2.drawn
 have eo:s'.os=s.os:=D2.os
 refine h0 Γ p s' Rr hc hh hB (by rw[eg];exact hg) D2.top nd2.1 (fun q hq=>D2.own q (List.mem_append_left _ hq)) (fun q hq=>D2.here q (List.mem_append_left _ hq)) fun l h2 L=>?_
 have key:=k l h2 (by
  obtain ⟨f1,f2,f3,f4,f5,f6⟩:=L
  rw[←ho l] at f2 f3 f4 f5 f6
  have le:s.heap.objs.size≤s'.heap.objs.size:=by rw[D2.size];exact D2.old
  refine ⟨fun a x hx hn=>f1 a x (D2.frame a x hx hn) fun hm=>?_,f2,f3,fun q hq=>?_,f5,Nat.le_trans le f6⟩
  ·obtain ⟨q,hq,e⟩:=List.mem_map.mp hm
   rcases D2.base q (List.mem_append_left _ hq) with hb | hb
   ·exact hn (e▸hb)
   ·exact absurd (Heap.lt_size hx) (Nat.not_lt.mpr (e▸hb))
  ·rcases f4 q hq with hb | hb
   ·obtain ⟨r,hr,e⟩:=List.mem_map.mp hb
    rw[←e]
    exact D2.base r (List.mem_append_left _ hr)
   ·exact .inr (Nat.le_trans le hb))
 rw[ho l] at key
 rw[eg,ed,eo]
 exact key
theorem FItem.Valid.conseq{M:Model}{K:List (Nat × Obj)}{it it':FItem}(h:it.Valid M K)(R:Led)(hc:it'.c=it.c)(hB:∀ B,it'.B B=B→it.B B=B)(hg:∀ g,it'.gin g=g→it.gin g=g)(hp:it'.all.Perm (it.all++R))
  (ho:∀ sz tk l,∃ l' rest,(it'.out sz tk l').r=(it.out sz tk l).r∧(it'.out sz tk l').sz=(it.out sz tk l).sz∧(it'.out sz tk l').tk=(it.out sz tk l).tk∧(it'.out sz tk l').g=(it.out sz tk l).g ∧
   ((it.out sz tk l).all++R).Perm ((it'.out sz tk l').all++rest))(her:it'.er=it.er:=by rfl):it'.Valid M K:=by
 intro Γ p s Rr e1 e2 e3 e4 top nd own here k
 have sub:∀ q∈it.all++R,q∈it'.all:=fun q hq=>hp.mem_iff.mpr hq
 have nd':((it.all++R).map (·.1)).Nodup:=(hp.map _).nodup_iff.mp nd
 rw[List.map_append,List.nodup_append] at nd'
 obtain ⟨n1,n2,n3⟩:=nd'
 have notR:∀ q∈R,q.1∉it.all.map (·.1):=fun q hq hm=>n3 _ hm _ (List.mem_map_of_mem hq) rfl
 refine h Γ p s Rr (by rw[←her,e1,hc]) e2 (hB _ e3) (hg _ e4) top n1 (fun q hq=>own q (sub q (List.mem_append_left _ hq))) (fun q hq=>here q (sub q (List.mem_append_left _ hq))) fun l h' L=>?_
 obtain ⟨l',rest,o1,o2,o3,o4,o5⟩:=ho s.heap.objs.size s.toks l
 obtain ⟨f1,f2,f3,f4,f5,f6⟩:=L
 have key:=k l' h' (by
  have hmem:∀ q∈(it'.out s.heap.objs.size s.toks l').all,q∈(it.out s.heap.objs.size s.toks l).all++R:=fun q hq=>o5.mem_iff.mpr (List.mem_append_left _ hq)
  refine ⟨fun a x hx hn=>f1 a x hx fun hm=>?_,fun q hq=>?_,?_,fun q hq=>?_,by rw[o2];exact f5,by rw[o2];exact f6⟩
  ·obtain ⟨q,hq,e⟩:=List.mem_map.mp hm
   exact hn (e▸List.mem_map_of_mem (sub q (List.mem_append_left _ hq)))
  ·rcases List.mem_append.mp (hmem q hq) with hq | hq
   ·exact f2 q hq
   ·exact f1 _ _ (here q (sub q (List.mem_append_right _ hq))) (notR q hq)
  ·have:(((it.out s.heap.objs.size s.toks l).all++R).map (·.1)).Nodup:=by
    rw[List.map_append,List.nodup_append]
    refine ⟨f3,n2,fun a ha b hb e=>?_⟩
    subst e
    obtain ⟨q,hq,q1⟩:=List.mem_map.mp ha
    obtain ⟨r,hr,r1⟩:=List.mem_map.mp hb
    rcases f4 q hq with hh | hh
    ·exact notR r hr (by rw[r1,←q1];exact hh)
    ·have:=Heap.lt_size (here r (sub r (List.mem_append_right _ hr)))
     rw[r1,←q1] at this
     exact absurd this (Nat.not_lt.mpr hh)
   have:=(o5.map (·.1)).nodup_iff.mp this
   rw[List.map_append,List.nodup_append] at this
   exact this.1
  ·rcases List.mem_append.mp (hmem q hq) with hq | hq
   ·rcases f4 q hq with hh | hh
    ·obtain ⟨r,hr,e⟩:=List.mem_map.mp hh
     rw[←e]
     exact .inl (List.mem_map_of_mem (sub r (List.mem_append_left _ hr)))
    ·exact .inr hh
   ·exact .inl (List.mem_map_of_mem (sub q (List.mem_append_right _ hq))))
 rw[o1,o3,o4] at key
 exact key
noncomputable def FItem.fr (it:FItem)(R:Led):FItem:={ it with preS:=it.preS++R,out:=fun sz tk l=>{ it.out sz tk l with ledS:=(it.out sz tk l).ledS++R } }
theorem FItem.Valid.fr{M:Model}{K:List (Nat × Obj)}{it:FItem}(R:Led)(h:it.Valid M K):(it.fr R).Valid M K :=
 h.conseq R rfl (fun _ e=>e) (fun _ e=>e) (by show (it.pre++(it.preS++R)).Perm _;rw[←List.append_assoc]) fun sz tk l=>⟨l,[],rfl,rfl,rfl,rfl,by
  show ((_++_)++R).Perm ((_++(_++R))++[])
  rw[List.append_nil,List.append_assoc];exact .refl _⟩
end
section
open Sem (wp finPost)
noncomputable def arOf (Γ:Ctx):Around:=⟨Γ.handled,frameCount Γ.below+Γ.code.weight,none,none,Γ.units⟩
theorem Kz(Γ:Ctx):Γ.In (arOf Γ):=⟨rfl,Nat.le_refl _,fun _ h=>(nomatch h),fun _ h=>(nomatch h),Nat.le_refl _⟩
theorem Qx{prog:Program}{w:World}{Γ:Ctx}{p:Pos}{s:Shared}{Rr:Result→Shared→Prop}{c:Code}
  (h:wpAny (model prog w) (arOf Γ) (runValue c) (fun v s'=>Rr (.ok (.ret v)) s') (fun e s'=>Rr (.error e) s') s):wpCode (model prog w) (Γ.enter c none p) Rr p s:=by
 have:=h Γ p (Kz Γ)
 rw[Sem.wp_runValue] at this
 refine wpCode_mono (fun r s' hr=>?_) this
 cases r with
 | error e=>exact hr
 | ok f=>cases f <;> first | exact hr | exact False.elim hr
theorem ZF{prog:Program}{w:World}{Γ:Ctx}{p:Pos}{s:Shared}{Rr:Result→Shared→Prop}{f:Value}{args:List Value}
  (h:wpAny (model prog w) (arOf Γ) (call f args) (fun v s'=>Rr (.ok (.ret v)) s') (fun e s'=>Rr (.error e) s') s):wpCode (model prog w) (Γ.enter (.call f ⟨args,[]⟩) none p) Rr p s:=Qx h
theorem Zt{v:Value}{i:Int}(h:er v=.int i 0):∃ t,v=.int i t:=by cases v <;> simp[er] at h;exact ⟨_,by rw[h]⟩
theorem Zk{v:Value}{x:Str}(h:er v=.str x 0):∃ t,v=.str x t:=by cases v <;> simp[er] at h;exact ⟨_,by rw[h]⟩
theorem Z5{v:Value}{a:Addr}(h:er v=.ref a):v=.ref a:=by cases v <;> simp[er] at h;rw[h]
theorem Ju{v:Value}(h:er v=.none):v=.none:=by cases v <;> simp[er] at h;rfl
theorem Z4{args:List Value}{a:Value}(h:args.map er=[a]):∃ x,args=[x]∧er x=a:=by
 match args,h with
 | [x],h=>exact ⟨x,rfl,List.head_eq_of_cons_eq h⟩
theorem Zj{args:List Value}{a b:Value}(h:args.map er=[a,b]):∃ x y,args=[x,y]∧er x=a∧er y=b:=by
 obtain ⟨x,r,rfl,e1,h⟩:=List.map_eq_cons_iff.mp h
 obtain ⟨y,r,rfl,e2,h⟩:=List.map_eq_cons_iff.mp h
 obtain rfl:=List.map_eq_nil_iff.mp h
 exact ⟨x,y,rfl,e1,e2⟩
theorem Y1{args:List Value}{a b c:Value}(h:args.map er=[a,b,c]):∃ x y z,args=[x,y,z]∧er x=a∧er y=b∧er z=c:=by
 obtain ⟨x,r,rfl,e1,h⟩:=List.map_eq_cons_iff.mp h
 obtain ⟨y,z,rfl,e2,e3⟩:=Zj h
 exact ⟨x,y,z,rfl,e1,e2,e3⟩
section
variable {prog:Program}{w:World}
theorem Z0h{id:String}{name:Str}{Bt:Builtin}{a b:Int}{r:Bool}(slot:Slot "int" name id)(entry:entryFor table id=some Bt)(ar:∀ x y,argsOk id ⟨[x,y],[]⟩)
  (g:∀ t u,Gives (Bt ⟨[.int a t,.int b u],[]⟩) (.val (.bool r))):PItem.Valid (model prog w) ⟨false,id,[.int a 0,.int b 0],[],fun _ _=>.bool r,0⟩:=by
 intro Γ p s Rr args he _ h
 obtain ⟨x,y,rfl,e1,e2⟩:=Zj he
 obtain ⟨t,rfl⟩:=Zt e1
 obtain ⟨u,rfl⟩:=Zt e2
 exact ZF (call_gives slot (typeIs_int s a t) entry (ar _ _) (g t u) h)
theorem pv_lt(a b:Int)(r:Bool)(h:decide (a<b)=r):PItem.Valid (model prog w) ⟨false,"int.__lt__",[.int a 0,.int b 0],[],fun _ _=>.bool r,0⟩ :=
 Z0h F.slot_int_lt F.entry_int_lt F.args_int_lt_2 fun t u=>h▸gives_int_lt a b t u
theorem pv_gt(a b:Int)(r:Bool)(h:decide (a>b)=r):PItem.Valid (model prog w) ⟨false,"int.__gt__",[.int a 0,.int b 0],[],fun _ _=>.bool r,0⟩ :=
 Z0h F.slot_int_gt F.entry_int_gt F.args_int_gt_2 fun t u=>h▸gives_int_gt a b t u
theorem pv_ge(a b:Int)(r:Bool)(h:decide (a≥b)=r):PItem.Valid (model prog w) ⟨false,"int.__ge__",[.int a 0,.int b 0],[],fun _ _=>.bool r,0⟩ :=
 Z0h F.slot_int_ge F.entry_int_ge F.args_int_ge_2 fun t u=>h▸gives_int_ge a b t u
theorem pv_eq(a b:Int)(r:Bool)(h:(a==b)=r):PItem.Valid (model prog w) ⟨false,"int.__eq__",[.int a 0,.int b 0],[],fun _ _=>.bool r,0⟩ :=
 Z0h F.slot_int_eq F.entry_int_eq F.args_int_eq_2 fun t u=>h▸gives_int_eq a b t u
theorem Z0i{id:String}{name:Str}{Bt:Builtin}{a b:Int}{m:Tok→Tok→Made}{v:Nat→List Value→Value}{k:Nat}(slot:Slot "int" name id)(entry:entryFor table id=some Bt)(ar:∀ x y,argsOk id ⟨[x,y],[]⟩)
  (g:∀ t u,Gives (Bt ⟨[.int a t,.int b u],[]⟩) (m t u))
  (h:∀ t u (s:Shared)(Rr:Result→Shared→Prop),Rr (.ok (.ret (v s.toks [.int a t,.int b u]))) { s with toks:=s.toks+k }→(m t u).post (fun v s'=>Rr (.ok (.ret v)) s') s) :
  PItem.Valid (model prog w) ⟨false,id,[.int a 0,.int b 0],[],v,k⟩:=by
 intro Γ p s Rr args he _ hR
 obtain ⟨x,y,rfl,e1,e2⟩:=Zj he
 obtain ⟨t,rfl⟩:=Zt e1
 obtain ⟨u,rfl⟩:=Zt e2
 exact ZF (call_gives slot (typeIs_int s a t) entry (ar _ _) (g t u) (h t u s Rr hR))
theorem VC{id:String}{name:Str}{Bt:Builtin}{a b:Str}{m:Tok→Tok→Made}{v:Nat→List Value→Value}{k:Nat}(slot:Slot "str" name id)(entry:entryFor table id=some Bt)(ar:∀ x y,argsOk id ⟨[x,y],[]⟩)
  (g:∀ t u,Gives (Bt ⟨[.str a t,.str b u],[]⟩) (m t u))
  (h:∀ t u (s:Shared)(Rr:Result→Shared→Prop),Rr (.ok (.ret (v s.toks [.str a t,.str b u]))) { s with toks:=s.toks+k }→(m t u).post (fun v s'=>Rr (.ok (.ret v)) s') s) :
  PItem.Valid (model prog w) ⟨false,id,[.str a 0,.str b 0],[],v,k⟩:=by
 intro Γ p s Rr args he _ hR
 obtain ⟨x,y,rfl,e1,e2⟩:=Zj he
 obtain ⟨t,rfl⟩:=Zk e1
 obtain ⟨u,rfl⟩:=Zk e2
 exact ZF (call_gives slot (typeIs_str s a t) entry (ar _ _) (g t u) (h t u s Rr hR))
theorem pv_s1{id:String}{name:Str}{Bt:Builtin}{a:Str}{m:Tok→Made}{v:Nat→List Value→Value}{k:Nat}(slot:Slot "str" name id)(entry:entryFor table id=some Bt)(ar:∀ x,argsOk id ⟨[x],[]⟩)
  (g:∀ t,Gives (Bt ⟨[.str a t],[]⟩) (m t))
  (h:∀ t (s:Shared)(Rr:Result→Shared→Prop),Rr (.ok (.ret (v s.toks [.str a t]))) { s with toks:=s.toks+k }→(m t).post (fun v s'=>Rr (.ok (.ret v)) s') s) :
  PItem.Valid (model prog w) ⟨false,id,[.str a 0],[],v,k⟩:=by
 intro Γ p s Rr args he _ hR
 obtain ⟨x,rfl,e1⟩:=Z4 he
 obtain ⟨t,rfl⟩:=Zk e1
 exact ZF (call_gives slot (typeIs_str s a t) entry (ar _) (g t) (h t s Rr hR))
theorem pv_add(a b c:Int)(h:a+b=c):PItem.Valid (model prog w) ⟨false,"int.__add__",[.int a 0,.int b 0],[],fun t _=>.int c t,1⟩ :=
 Z0i F.slot_int_add F.entry_int_add F.args_int_add_2 (gives_int_add a b) fun t u s Rr hR=>by subst h;exact hR
theorem pv_sub(a b c:Int)(h:a-b=c):PItem.Valid (model prog w) ⟨false,"int.__sub__",[.int a 0,.int b 0],[],fun t _=>.int c t,1⟩ :=
 Z0i F.slot_int_sub F.entry_int_sub F.args_int_sub_2 (gives_int_sub a b) fun t u s Rr hR=>by subst h;exact hR
theorem pv_len(x:Str)(n:Nat)(hn:x.length=n)(h:n<2 ^ 62):PItem.Valid (model prog w) ⟨false,"len",[.str x 0],[],fun t _=>.int (Int.ofNat n) (t+1),2⟩:=by
 intro Γ p s Rr args he _ hR
 obtain ⟨y,rfl,e1⟩:=Z4 he
 obtain ⟨t,rfl⟩:=Zk e1
 subst hn
 have hb:¬((x.length:Nat):Int)≥2 ^ 63:=by omega
 exact ZF (f:=.builtin "len") (P.len_str hb hR)
theorem Z0f(x y:Str)(r:Bool)(h:(x.cps.toList==y.cps.toList)=r):PItem.Valid (model prog w) ⟨false,"str.__eq__",[.str x 0,.str y 0],[],fun _ _=>.bool r,0⟩ :=
 VC F.slot_str_eq F.entry_str_eq F.args_str_eq_2 (gives_str_eq x y) fun t u s Rr hR=>by subst h;exact hR
theorem Z0e(x y:Str)(r:Bool)(h:(x.cps.toList != y.cps.toList)=r):PItem.Valid (model prog w) ⟨false,"str.__ne__",[.str x 0,.str y 0],[],fun _ _=>.bool r,0⟩ :=
 VC F.slot_str_ne F.entry_str_ne F.args_str_ne_2 (gives_str_ne x y) fun t u s Rr hR=>by subst h;exact hR
theorem VD(x y:Str)(r:Bool)(h:(!(Builtin.Str.occurrences x y 0 x.length 1).isEmpty)=r):PItem.Valid (model prog w) ⟨false,"str.__contains__",[.str x 0,.str y 0],[],fun _ _=>.bool r,0⟩ :=
 VC F.slot_str_contains F.entry_str_contains F.args_str_contains_2 (gives_str_contains x y) fun t u s Rr hR=>by subst h;exact hR
theorem WL(x y z:Str)(h:x++y=z)(hx:x.length≠0)(hy:y.length≠0)(hz:z.length≤sizeLine):PItem.Valid (model prog w) ⟨false,"str.__add__",[.str x 0,.str y 0],[],fun t _=>.str z t,1⟩ :=
 VC F.slot_str_add F.entry_str_add F.args_str_add_2 (gives_str_add x y) fun t u s Rr hR=>by
  subst h
  rw[if_neg (by simpa using hx),if_neg (by simpa using hy)]
  exact ⟨hz,hR⟩
theorem UK(x y:Str)(hx:x.length=0):PItem.Valid (model prog w) ⟨false,"str.__add__",[.str x 0,.str y 0],[],fun _ as=>as.getD 1 .none,0⟩ :=
 VC F.slot_str_add F.entry_str_add F.args_str_add_2 (gives_str_add x y) fun t u s Rr hR=>by
  rw[if_pos (by simpa using hx)]
  exact hR
end
end
inductive Knd where
 | F
 | W
 | L
 | C
 | b (id:String)
 | tt (t:String)
 | tr (a:Nat)
 | f (env:Env)
 | x (c:Code)
noncomputable def Uw:Code→Env
 | .func _ e=>e
 | .whileLoop _ _ _ e=>e
 | .forLoop _ _ _ _ e=>e
 | .compLoop _ _ _ _ e=>e
 | _=>default
noncomputable def KF:Code→List Stmt
 | .func b _=>b
 | .whileLoop _ b _ _=>b
 | .forLoop _ _ b _ _=>b
 | _=>[]
noncomputable def Nm:Code→List Stmt
 | .whileLoop _ _ b _=>b
 | .forLoop _ _ _ b _=>b
 | _=>[]
noncomputable def VR:Code→Expr
 | .whileLoop t _ _ _=>t
 | .forLoop t _ _ _ _=>t
 | .compLoop e _ _ _ _=>e
 | _=>default
noncomputable def Z16:Code→Value
 | .forLoop _ i _ _ _=>i
 | .compLoop _ _ i _ _=>i
 | _=>.none
noncomputable def accOfC:Code→Value
 | .compLoop _ _ _ a _=>a
 | _=>.none
noncomputable def Z0Z:Code→Nat
 | .compLoop _ d _ _ _=>d
 | _=>0
noncomputable def Jx:Code→Args
 | .builtin _ a=>a
 | _=>{}
noncomputable def likeK (k:Knd)(c:Code):Code:=match k with
 | .F=>.func (KF c) (Uw c)
 | .W=>.whileLoop (VR c) (KF c) (Nm c) (Uw c)
 | .L=>.forLoop (VR c) (Z16 c) (KF c) (Nm c) (Uw c)
 | .C=>.compLoop (VR c) (Z0Z c) (Z16 c) (accOfC c) (Uw c)
 | .b id=>.builtin id (Jx c)
 | .tt t=>.builtin "type.__call__" ⟨.type t::(Jx c).pos.tail,(Jx c).kw⟩
 | .f env=>.func (KF c) env
 | .x c'=>c'
 | .tr a=>.builtin "type.__call__" ⟨.ref a::(Jx c).pos.tail,(Jx c).kw⟩
noncomputable def nrm (ks:List Knd)(B:Stk):Stk :=
 List.rec (motive:=fun _=>Stk→Stk) (fun _=>[]) (fun k _ ih B=>(likeK k (B.headD default).1,(B.headD default).2)::ih B.tail) ks B
section
set_option backward.match.sparseCases false
noncomputable abbrev PG:Program:=Challenge.pw_mj0259_01
noncomputable abbrev k (x:String):Str:=.ofString x
noncomputable abbrev vs (x:String)(t:Nat):Value:=.str (.ofString x) t
noncomputable abbrev vi (i:Int)(t:Nat):Value:=.int i t
noncomputable abbrev vr (a:Nat):Value:=.ref a
noncomputable abbrev vt (n:String):Value:=.type n
noncomputable abbrev vb (n:String):Value:=.builtin n
noncomputable abbrev n0:Value:=.none
noncomputable abbrev b0 (b:Bool):Value:=.bool b
noncomputable abbrev ke (P:Params)(x:String)(t:Nat)(v:Value):DictEntry:=⟨PyData.keyHash P (.ofString x),.str (.ofString x) t,v⟩
noncomputable def kA (b:List Stmt)(i:Nat):Stmt:=match at? b i with
 | some s=>s
 | none=>.Pass default
noncomputable def cB (s:Stmt):List Stmt:=match s with
 | .ClassDef _ _ _ b _ _ _ _ _ _ _=>b
 | _=>[]
noncomputable def kf (st:Stmt)(q:String)(dv m c:Value):FuncData:=match st with
 | .FunctionDef n a b _ _ _ sc _ _ _=>{ name:=n,qualname:=.ofString q,params:=a,body:=.stmts b,scope:=sc,globals:=3,closure:=[],defaults:=dv,kwdefaults:=.none,pyModule:=m,code:=c }
 | _=>default
noncomputable abbrev K0 (P:Params):List (Nat × Obj):=[(0,⟨vt "dict",none,.dict #[ke P "__name__" 1 (vs "builtins" 160),ke P "__doc__" 2 (vb "builtins.__doc__:str#opaque"),ke P "__package__" 3 (vb "builtins.__package__:str#opaque"),ke P "__loader__" 4 (vb "builtins.__loader__:shared#opaque"),ke P "__spec__" 5 (vb "builtins.__spec__#opaque"),ke P "__build_class__" 6 (vb "__build_class__"),ke P "__import__" 7 (vb "__import__"),ke P "abs" 8 (vb "abs"),ke P "all" 9 (vb "all"),ke P "any" 10 (vb "any"),ke P "ascii" 11 (vb "ascii"),ke P "bin" 12 (vb "bin"),ke P "breakpoint" 13 (vb "breakpoint"),ke P "callable" 14 (vb "callable"),ke P "chr" 15 (vb "chr"),ke P "compile" 16 (vb "compile"),ke P "delattr" 17 (vb "delattr"),ke P "dir" 18 (vb "dir"),ke P "divmod" 19 (vb "divmod"),ke P "eval" 20 (vb "eval"),ke P "exec" 21 (vb "exec"),ke P "format" 22 (vb "format"),ke P "getattr" 23 (vb "getattr"),ke P "globals" 24 (vb "globals"),ke P "hasattr" 25 (vb "hasattr"),ke P "hash" 26 (vb "hash"),ke P "hex" 27 (vb "hex"),ke P "id" 28 (vb "id"),ke P "input" 29 (vb "input"),ke P "isinstance" 30 (vb "isinstance"),ke P "issubclass" 31 (vb "issubclass"),ke P "iter" 32 (vb "iter"),ke P "aiter" 33 (vb "aiter"),ke P "len" 34 (vb "len"),ke P "locals" 35 (vb "locals"),ke P "max" 36 (vb "max"),ke P "min" 37 (vb "min"),ke P "next" 38 (vb "next"),ke P "anext" 39 (vb "anext"),ke P "oct" 40 (vb "oct"),ke P "ord" 41 (vb "ord"),ke P "pow" 42 (vb "pow"),ke P "print" 43 (vb "print"),ke P "repr" 44 (vb "repr"),ke P "round" 45 (vb "round"),ke P "setattr" 46 (vb "setattr"),ke P "sorted" 47 (vb "sorted"),ke P "sum" 48 (vb "sum"),ke P "vars" 49 (vb "vars"),ke P "None" 50 (n0),ke P "Ellipsis" 51 (Value.ellipsis),ke P "NotImplemented" 52 (Value.notImplemented),ke P "False" 53 (b0 false),ke P "True" 54 (b0 true),ke P "bool" 55 (vt "bool"),ke P "memoryview" 56 (vt "memoryview"),ke P "bytearray" 57 (vt "bytearray"),ke P "bytes" 58 (vt "bytes"),ke P "classmethod" 59 (vt "classmethod"),ke P "complex" 60 (vt "complex"),ke P "dict" 61 (vt "dict"),ke P "enumerate" 62 (vt "enumerate"),ke P "filter" 63 (vt "filter"),ke P "float" 64 (vt "float"),ke P "frozenset" 65 (vt "frozenset"),ke P "property" 66 (vt "property"),ke P "int" 67 (vt "int"),ke P "list" 68 (vt "list"),ke P "map" 69 (vt "map"),ke P "object" 70 (vt "object"),ke P "range" 71 (vt "range"),ke P "reversed" 72 (vt "reversed"),ke P "set" 73 (vt "set"),ke P "slice" 74 (vt "slice"),ke P "staticmethod" 75 (vt "staticmethod"),ke P "str" 76 (vt "str"),ke P "super" 77 (vt "super"),ke P "tuple" 78 (vt "tuple"),ke P "type" 79 (vt "type"),ke P "zip" 80 (vt "zip"),ke P "__debug__" 81 (b0 true),ke P "BaseException" 82 (vt "BaseException"),ke P "BaseExceptionGroup" 83 (vt "BaseExceptionGroup"),ke P "Exception" 84 (vt "Exception"),ke P "GeneratorExit" 85 (vt "GeneratorExit"),ke P "KeyboardInterrupt" 86 (vt "KeyboardInterrupt"),ke P "SystemExit" 87 (vt "SystemExit"),ke P "ArithmeticError" 88 (vt "ArithmeticError"),ke P "AssertionError" 89 (vt "AssertionError"),ke P "AttributeError" 90 (vt "AttributeError"),ke P "BufferError" 91 (vt "BufferError"),ke P "EOFError" 92 (vt "EOFError"),ke P "ImportError" 93 (vt "ImportError"),ke P "LookupError" 94 (vt "LookupError"),ke P "MemoryError" 95 (vt "MemoryError"),ke P "NameError" 96 (vt "NameError"),ke P "OSError" 97 (vt "OSError"),ke P "ReferenceError" 98 (vt "ReferenceError"),ke P "RuntimeError" 99 (vt "RuntimeError"),ke P "StopAsyncIteration" 100 (vt "StopAsyncIteration"),ke P "StopIteration" 101 (vt "StopIteration"),ke P "SyntaxError" 102 (vt "SyntaxError"),ke P "SystemError" 103 (vt "SystemError"),ke P "TypeError" 104 (vt "TypeError"),ke P "ValueError" 105 (vt "ValueError"),ke P "Warning" 106 (vt "Warning"),ke P "FloatingPointError" 107 (vt "FloatingPointError"),ke P "OverflowError" 108 (vt "OverflowError"),ke P "ZeroDivisionError" 109 (vt "ZeroDivisionError"),ke P "BytesWarning" 110 (vt "BytesWarning"),ke P "DeprecationWarning" 111 (vt "DeprecationWarning"),ke P "EncodingWarning" 112 (vt "EncodingWarning"),ke P "FutureWarning" 113 (vt "FutureWarning"),ke P "ImportWarning" 114 (vt "ImportWarning"),ke P "PendingDeprecationWarning" 115 (vt "PendingDeprecationWarning"),ke P "ResourceWarning" 116 (vt "ResourceWarning"),ke P "RuntimeWarning" 117 (vt "RuntimeWarning"),ke P "SyntaxWarning" 118 (vt "SyntaxWarning"),ke P "UnicodeWarning" 119 (vt "UnicodeWarning"),ke P "UserWarning" 120 (vt "UserWarning"),ke P "BlockingIOError" 121 (vt "BlockingIOError"),ke P "ChildProcessError" 122 (vt "ChildProcessError"),ke P "ConnectionError" 123 (vt "ConnectionError"),ke P "FileExistsError" 124 (vt "FileExistsError"),ke P "FileNotFoundError" 125 (vt "FileNotFoundError"),ke P "InterruptedError" 126 (vt "InterruptedError"),ke P "IsADirectoryError" 127 (vt "IsADirectoryError"),ke P "NotADirectoryError" 128 (vt "NotADirectoryError"),ke P "PermissionError" 129 (vt "PermissionError"),ke P "ProcessLookupError" 130 (vt "ProcessLookupError"),ke P "TimeoutError" 131 (vt "TimeoutError"),ke P "IndentationError" 132 (vt "IndentationError"),ke P "_IncompleteInputError" 133 (vt "_IncompleteInputError"),ke P "IndexError" 134 (vt "IndexError"),ke P "KeyError" 135 (vt "KeyError"),ke P "ModuleNotFoundError" 136 (vt "ModuleNotFoundError"),ke P "NotImplementedError" 137 (vt "NotImplementedError"),ke P "PythonFinalizationError" 138 (vt "PythonFinalizationError"),ke P "RecursionError" 139 (vt "RecursionError"),ke P "UnboundLocalError" 140 (vt "UnboundLocalError"),ke P "UnicodeError" 141 (vt "UnicodeError"),ke P "BrokenPipeError" 142 (vt "BrokenPipeError"),ke P "ConnectionAbortedError" 143 (vt "ConnectionAbortedError"),ke P "ConnectionRefusedError" 144 (vt "ConnectionRefusedError"),ke P "ConnectionResetError" 145 (vt "ConnectionResetError"),ke P "TabError" 146 (vt "TabError"),ke P "UnicodeDecodeError" 147 (vt "UnicodeDecodeError"),ke P "UnicodeEncodeError" 148 (vt "UnicodeEncodeError"),ke P "UnicodeTranslateError" 149 (vt "UnicodeTranslateError"),ke P "ExceptionGroup" 150 (vt "ExceptionGroup"),ke P "EnvironmentError" 151 (vt "OSError"),ke P "IOError" 152 (vt "OSError"),ke P "open" 153 (vb "open"),ke P "quit" 154 (vb "builtins.quit#opaque"),ke P "exit" 155 (vb "builtins.exit#opaque"),ke P "copyright" 156 (vb "builtins.copyright#opaque"),ke P "credits" 157 (vb "builtins.credits#opaque"),ke P "license" 158 (vb "builtins.license#opaque"),ke P "help" 159 (vb "builtins.help#opaque")] 159,#[]⟩),
 (2,⟨n0,none,.dict #[ke P "\x69mport.loaded._sre" 183 (b0 true),ke P "class._frozen_importlib.BuiltinImporter" 185 (vr 14),ke P "watched.\x69mport" 206 (vr 18),ke P "class._frozen_importlib.ModuleSpec" 216 (vr 22),ke P "sys.modules.booked-epoch" 245 (vi 4 0),ke P "\x69mport.later-laid._sre" 270 (b0 true),ke P "watched.library" 272 (vr 27),ke P "watched.library-objects" 0 (vs "\x0c\x1e" 0),ke P "watched.library-deep._sre" 273 (vs "\x04\x00\x00\x0b\x04\x00\x00\x0b\x04\x00\x00\x03\x04\x00\x00\x0b\x08\x04dict\x02" 0),ke P "\x69mport.loaded._collections" 280 (b0 true),ke P "sys.modules.landed._collections" 294 (b0 true),ke P "\x69mport.later-laid._collections" 309 (b0 true),ke P "watched.library-deep._collections" 311 (vs "\x04\x00\x00\x1d\x04\x00\x00\x1d\x04\x00\x00\x03\x04\x00\x00\x1d\x08\x04dict\x02" 0),ke P "type.__subclasses__.OSError.0" 417 (vi 80 0),ke P "type.__subclasses__.OSError.n" 418 (vi 1 0)] 15,#[]⟩),
 (3,⟨vt "dict",none,.dict #[ke P "__name__" 165 (vs "law_mj0259_01" 1265),ke P "__doc__" 166 (n0),ke P "__package__" 167 (n0),ke P "__loader__" 168 (vb "__main__.__loader__#opaque"),ke P "__spec__" 169 (n0),ke P "__annotations__" 170 (vr 6),ke P "__builtins__" 171 (vr 4),ke P "__file__" 173 (vs "/claim/cut.py" 172),ke P "__cached__" 174 (n0),ke P "_sre" 275 (vr 12),ke P "deque" 317 (vt "collections.deque"),ke P "_wall" 330 (vr 44),ke P "splitdoc" 340 (vr 51),ke P "_twin_re_1" 380 (vr 56),ke P "_whence" 390 (vr 63),ke P "_index" 398 (vr 70),ke P "UnsupportedOperation" 420 (vr 80),ke P "IOBase" 452 (vr 100),ke P "BufferedIOBase" 470 (vr 115),ke P "TextIOBase" 488 (vr 127),ke P "BytesIO" 750 (vr 357),ke P "StringIO" 1037 (vr 604),ke P "_kind" 1048 (vr 613),ke P "_fspath" 1057 (vr 620),ke P "_check_arg_types" 1067 (vr 627),ke P "isabs" 1074 (vr 634),ke P "join" 1085 (vr 758),ke P "join_path" 1086 (vr 641),ke P "dirname" 1096 (vr 648),ke P "shlex" 1237 (vr 739),ke P "split" 1247 (vr 751),ke P "join_shlex" 1255 (vr 758),ke P "_find_unsafe" 1257 (vr 759),ke P "quote" 1264 (vr 766),ke P "_law_sign" 1275 (vr 773),ke P "_law_gap" 1285 (vr 780),ke P "_law_rows" 1295 (vr 787),ke P "_law_pages" 1305 (vr 794),ke P "_law_is_white" 1311 (vr 799),ke P "_law_told" 1319 (vr 806),ke P "_law_peeled" 1332 (vr 813),ke P "_law_due" 1338 (vr 818),ke P "law" 1344 (vr 823)] 43,#[]⟩),
 (4,⟨vt "module",some 0,.plain,#[]⟩),
 (50,⟨vt "code",none,.fields #[vs "splitdoc" 333,vs "splitdoc" 334,vs "/claim/cut.py" 335,vi 7 0,vi 1 0,vi 0 0,vi 0 0,vi 3 0,vr 45,b0 true,vi 318 0,vr 46,n0,vr 47,vr 48,vr 49,vi 338 0,vi 7 0,vs "/claim/cut.py" 339],#[]⟩),
 (51,⟨vt "function",none,.func (kf (kA PG.main.body 4) "splitdoc" (n0) (vs "cpy313.pydoc" 331) (vr 50)),#[]⟩),
 (55,⟨vt "tuple",none,.seq #[vi 14 0,vi 17 0,vi 4 0,vi 1 0,vi 1 0,vi 21 0,vi 9 0,vi 0 0,vi 604043296 0,vi 1 0,vi 0 0,vi 0 0,vi 0 0,vi 0 0,vi 0 0,vi 8 0,vi 4 0,vi 0 0,vi 13 0,vi 14 0,vi 21 0,vi 9 0,vi 0 0,vi 604043296 0,vi 1 0,vi 0 0,vi 0 0,vi 0 0,vi 0 0,vi 0 0,vi 8 0,vi 4 0,vi 0 0,vi 1 0] 0,#[]⟩),
 (56,⟨vt "re.Pattern",none,.fields #[vs "[^\\w@%+=:,./-]" 342,vi 256 379,vi 0 0,n0,n0,vr 55,vi 0 0],#[]⟩),
 (69,⟨vt "code",none,.fields #[vs "_index" 391,vs "_index" 392,vs "/claim/cut.py" 393,vi 21 0,vi 2 0,vi 0 0,vi 0 0,vi 3 0,vr 64,b0 true,vi 318 0,vr 65,n0,vr 66,vr 67,vr 68,vi 396 0,vi 21 0,vs "/claim/cut.py" 397],#[]⟩),
 (70,⟨vt "function",none,.func (kf (kA PG.main.body 8) "_index" (n0) (vs "io" 381) (vr 69)),#[]⟩),
 (96,⟨vt "code",none,.fields #[vs "__new__" 435,vs "IOBase.__new__" 436,vs "/claim/cut.py" 437,vi 33 0,vi 1 0,vi 1 0,vi 0 0,vi 15 0,vr 91,b0 true,vi 318 0,vr 92,n0,vr 93,vr 94,vr 95,vi 441 0,vi 33 0,vs "/claim/cut.py" 442],#[]⟩),
 (97,⟨vt "function",none,.func (kf (kA (cB (kA PG.main.body 10)) 1) "IOBase.__new__" (n0) (vs "io" 381) (vr 96)),#[]⟩),
 (99,⟨vt "dict",none,.dict #[ke P "__module__" 428 (vs "io" 433),ke P "__firstlineno__" 432 (vi 30 431),ke P "__new__" 443 (vr 101),ke P "__static_attributes__" 444 (vr 98),ke P "__dict__" 447 (vr 102),ke P "__weakref__" 449 (vr 103),ke P "__doc__" 450 (n0)] 4,#[]⟩),
 (100,⟨vt "type",none,.cls ⟨k "IOBase",[vt "object"],[vr 100,vt "object"],99,k "IOBase",true,[],[vr 115,vr 127],false,none,false⟩,#[none,none,some (vs "IOBase" 421),some (vs "IOBase" 429),some (n0),some (b0 true)]⟩),
 (101,⟨vt "staticmethod",none,.fields #[vr 97],#[]⟩),
 (126,⟨vt "dict",none,.dict #[ke P "__module__" 478 (vs "io" 483),ke P "__firstlineno__" 482 (vi 39 481),ke P "__static_attributes__" 485 (vr 125),ke P "__doc__" 486 (n0)] 2,#[]⟩),
 (127,⟨vt "type",none,.cls ⟨k "TextIOBase",[vr 100],[vr 127,vr 100,vt "object"],126,k "TextIOBase",true,[],[vr 604],false,none,false⟩,#[some (vr 118),none,some (vs "TextIOBase" 471),some (vs "TextIOBase" 479),some (n0),some (b0 true)]⟩),
 (357,⟨vt "type",none,.cls ⟨k "BytesIO",[vr 115],[vr 357,vr 115,vr 100,vt "object"],356,k "BytesIO",true,[],[],false,none,false⟩,#[some (vr 130),none,some (vs "BytesIO" 489),some (vs "BytesIO" 497),some (n0),some (b0 true)]⟩),
 (367,⟨vt "tuple",none,.seq #[vs "" 765,vs "\n" 766] 0,#[]⟩),
 (373,⟨vt "code",none,.fields #[vs "__init__" 767,vs "StringIO.__init__" 768,vs "/claim/cut.py" 769,vi 214 0,vi 3 0,vi 0 0,vi 0 0,vi 3 0,vr 368,b0 true,vi 318 0,vr 369,n0,vr 370,vr 371,vr 372,vi 773 0,vi 214 0,vs "/claim/cut.py" 774],#[]⟩),
 (374,⟨vt "function",none,.func (kf (kA (cB (kA PG.main.body 14)) 1) "StringIO.__init__" (vr 367) (vs "io" 381) (vr 373)),#[]⟩),
 (380,⟨vt "code",none,.fields #[vs "__translated" 776,vs "StringIO.__translated" 777,vs "/claim/cut.py" 778,vi 227 0,vi 2 0,vi 0 0,vi 0 0,vi 3 0,vr 375,b0 true,vi 318 0,vr 376,n0,vr 377,vr 378,vr 379,vi 782 0,vi 227 0,vs "/claim/cut.py" 783],#[]⟩),
 (381,⟨vt "function",none,.func (kf (kA (cB (kA PG.main.body 14)) 2) "StringIO.__translated" (n0) (vs "io" 381) (vr 380)),#[]⟩),
 (387,⟨vt "code",none,.fields #[vs "__check" 785,vs "StringIO.__check" 786,vs "/claim/cut.py" 787,vi 235 0,vi 1 0,vi 0 0,vi 0 0,vi 3 0,vr 382,b0 true,vi 318 0,vr 383,n0,vr 384,vr 385,vr 386,vi 789 0,vi 235 0,vs "/claim/cut.py" 790],#[]⟩),
 (388,⟨vt "function",none,.func (kf (kA (cB (kA PG.main.body 14)) 3) "StringIO.__check" (n0) (vs "io" 381) (vr 387)),#[]⟩),
 (543,⟨vt "tuple",none,.seq #[vi (-1) 958] 0,#[]⟩),
 (549,⟨vt "code",none,.fields #[vs "read" 959,vs "StringIO.read" 960,vs "/claim/cut.py" 961,vi 357 0,vi 2 0,vi 2 0,vi 0 0,vi 3 0,vr 544,b0 true,vi 318 0,vr 545,n0,vr 546,vr 547,vr 548,vi 966 0,vi 357 0,vs "/claim/cut.py" 967],#[]⟩),
 (550,⟨vt "function",none,.func (kf (kA (cB (kA PG.main.body 14)) 25) "StringIO.read" (vr 543) (vs "io" 381) (vr 549)),#[]⟩),
 (603,⟨vt "dict",none,.dict #[ke P "__module__" 758 (vs "_io" 763),ke P "__firstlineno__" 762 (vi 211 761),ke P "__init__" 775 (vr 374),ke P "_StringIO__translated" 784 (vr 381),ke P "_StringIO__check" 791 (vr 388),ke P "_StringIO__check_dot" 798 (vr 395),ke P "_StringIO__line" 813 (vr 402),ke P "closed" 821 (vr 410),ke P "line_buffering" 829 (vr 418),ke P "newlines" 837 (vr 426),ke P "encoding" 845 (vr 434),ke P "errors" 853 (vr 442),ke P "close" 860 (vr 449),ke P "__enter__" 867 (vr 456),ke P "__exit__" 875 (vr 463),ke P "readable" 882 (vr 470),ke P "writable" 889 (vr 477),ke P "seekable" 896 (vr 484),ke P "isatty" 903 (vr 491),ke P "flush" 910 (vr 498),ke P "fileno" 917 (vr 505),ke P "detach" 924 (vr 512),ke P "getvalue" 931 (vr 519),ke P "tell" 938 (vr 526),ke P "seek" 948 (vr 534),ke P "truncate" 956 (vr 542),ke P "read" 968 (vr 550),ke P "readline" 978 (vr 558),ke P "readlines" 988 (vr 566),ke P "__iter__" 995 (vr 573),ke P "__next__" 1003 (vr 580),ke P "write" 1015 (vr 587),ke P "writelines" 1023 (vr 594),ke P "__repr__" 1030 (vr 601),ke P "__static_attributes__" 1034 (vr 602),ke P "__doc__" 1035 (n0)] 2,#[]⟩),
 (604,⟨vt "type",none,.cls ⟨k "StringIO",[vr 127],[vr 604,vr 127,vr 100,vt "object"],603,k "StringIO",true,[],[],false,none,false⟩,#[some (vr 360),none,some (vs "StringIO" 751),some (vs "StringIO" 759),some (n0),some (b0 true)]⟩),
 (656,⟨vt "tuple",none,.seq #[n0,n0,b0 false,b0 false] 0,#[]⟩),
 (662,⟨vt "code",none,.fields #[vs "__init__" 1111,vs "shlex.__init__" 1112,vs "/claim/cut.py" 1113,vi 483 0,vi 5 0,vi 0 0,vi 0 0,vi 3 0,vr 657,b0 true,vi 318 0,vr 658,n0,vr 659,vr 660,vr 661,vi 1120 0,vi 483 0,vs "/claim/cut.py" 1121],#[]⟩),
 (663,⟨vt "function",none,.func (kf (kA (cB (kA PG.main.body 24)) 0) "shlex.__init__" (vr 656) (vs "cpy313.shlex" 1097) (vr 662)),#[]⟩),
 (669,⟨vt "code",none,.fields #[vs "punctuation_chars" 1123,vs "shlex.punctuation_chars" 1124,vs "/claim/cut.py" 1125,vi 524 0,vi 1 0,vi 0 0,vi 0 0,vi 3 0,vr 664,b0 true,vi 318 0,vr 665,n0,vr 666,vr 667,vr 668,vi 1127 0,vi 524 0,vs "/claim/cut.py" 1128],#[]⟩),
 (670,⟨vt "function",none,.func (kf (kA (cB (kA PG.main.body 24)) 1) "shlex.punctuation_chars" (n0) (vs "cpy313.shlex" 1097) (vr 669)),#[]⟩),
 (671,⟨vt "property",none,.fields #[vr 670,n0,n0,n0,vs "punctuation_chars" 1130,b0 false],#[]⟩),
 (699,⟨vt "code",none,.fields #[vs "get_token" 1155,vs "shlex.get_token" 1156,vs "/claim/cut.py" 1157,vi 551 0,vi 1 0,vi 0 0,vi 0 0,vi 3 0,vr 694,b0 true,vi 318 0,vr 695,n0,vr 696,vr 697,vr 698,vi 1164 0,vi 551 0,vs "/claim/cut.py" 1165],#[]⟩),
 (700,⟨vt "function",none,.func (kf (kA (cB (kA PG.main.body 24)) 5) "shlex.get_token" (n0) (vs "cpy313.shlex" 1097) (vr 699)),#[]⟩),
 (706,⟨vt "code",none,.fields #[vs "read_token" 1167,vs "shlex.read_token" 1168,vs "/claim/cut.py" 1169,vi 578 0,vi 1 0,vi 0 0,vi 0 0,vi 3 0,vr 701,b0 true,vi 318 0,vr 702,n0,vr 703,vr 704,vr 705,vi 1175 0,vi 578 0,vs "/claim/cut.py" 1176],#[]⟩),
 (707,⟨vt "function",none,.func (kf (kA (cB (kA PG.main.body 24)) 6) "shlex.read_token" (n0) (vs "cpy313.shlex" 1097) (vr 706)),#[]⟩),
 (728,⟨vt "code",none,.fields #[vs "__iter__" 1195,vs "shlex.__iter__" 1196,vs "/claim/cut.py" 1197,vi 725 0,vi 1 0,vi 0 0,vi 0 0,vi 3 0,vr 723,b0 true,vi 318 0,vr 724,n0,vr 725,vr 726,vr 727,vi 1199 0,vi 725 0,vs "/claim/cut.py" 1200],#[]⟩),
 (729,⟨vt "function",none,.func (kf (kA (cB (kA PG.main.body 24)) 9) "shlex.__iter__" (n0) (vs "cpy313.shlex" 1097) (vr 728)),#[]⟩),
 (735,⟨vt "code",none,.fields #[vs "__next__" 1202,vs "shlex.__next__" 1203,vs "/claim/cut.py" 1204,vi 728 0,vi 1 0,vi 0 0,vi 0 0,vi 3 0,vr 730,b0 true,vi 318 0,vr 731,n0,vr 732,vr 733,vr 734,vi 1207 0,vi 728 0,vs "/claim/cut.py" 1208],#[]⟩),
 (736,⟨vt "function",none,.func (kf (kA (cB (kA PG.main.body 24)) 10) "shlex.__next__" (n0) (vs "cpy313.shlex" 1097) (vr 735)),#[]⟩),
 (738,⟨vt "dict",none,.dict #[ke P "__module__" 1106 (vs "cpy313.shlex" 1097),ke P "__firstlineno__" 1110 (vi 481 1109),ke P "__init__" 1122 (vr 663),ke P "punctuation_chars" 1130 (vr 671),ke P "push_token" 1138 (vr 678),ke P "push_source" 1147 (vr 686),ke P "pop_source" 1154 (vr 693),ke P "get_token" 1166 (vr 700),ke P "read_token" 1177 (vr 707),ke P "sourcehook" 1185 (vr 714),ke P "error_leader" 1194 (vr 722),ke P "__iter__" 1201 (vr 729),ke P "__next__" 1209 (vr 736),ke P "__static_attributes__" 1230 (vr 737),ke P "__dict__" 1232 (vr 740),ke P "__weakref__" 1234 (vr 741),ke P "__doc__" 1235 (n0)] 4,#[]⟩),
 (739,⟨vt "type",none,.cls ⟨k "shlex",[vt "object"],[vr 739,vt "object"],738,k "shlex",true,[],[],false,none,false⟩,#[none,none,some (vs "shlex" 1099),some (vs "shlex" 1107),some (vb "object.__new__"),some (b0 true)]⟩),
 (744,⟨vt "tuple",none,.seq #[b0 false,b0 true] 0,#[]⟩),
 (750,⟨vt "code",none,.fields #[vs "split" 1238,vs "split" 1239,vs "/claim/cut.py" 1240,vi 733 0,vi 3 0,vi 0 0,vi 0 0,vi 3 0,vr 745,b0 true,vi 318 0,vr 746,n0,vr 747,vr 748,vr 749,vi 1245 0,vi 733 0,vs "/claim/cut.py" 1246],#[]⟩),
 (751,⟨vt "function",none,.func (kf (kA PG.main.body 25) "split" (vr 744) (vs "cpy313.shlex" 1097) (vr 750)),#[]⟩),
 (757,⟨vt "code",none,.fields #[vs "join" 1248,vs "join" 1249,vs "/claim/cut.py" 1250,vi 741 0,vi 1 0,vi 0 0,vi 0 0,vi 3 0,vr 752,b0 true,vi 318 0,vr 753,n0,vr 754,vr 755,vr 756,vi 1252 0,vi 741 0,vs "/claim/cut.py" 1253],#[]⟩),
 (758,⟨vt "function",none,.func (kf (kA PG.main.body 26) "join" (n0) (vs "cpy313.shlex" 1097) (vr 757)),#[]⟩),
 (759,⟨vt "builtin_function_or_method",none,.fields #[vb "re.Pattern.search",vr 56],#[]⟩),
 (765,⟨vt "code",none,.fields #[vs "quote" 1258,vs "quote" 1259,vs "/claim/cut.py" 1260,vi 745 0,vi 1 0,vi 0 0,vi 0 0,vi 3 0,vr 760,b0 true,vi 318 0,vr 761,n0,vr 762,vr 763,vr 764,vi 1262 0,vi 745 0,vs "/claim/cut.py" 1263],#[]⟩),
 (766,⟨vt "function",none,.func (kf (kA PG.main.body 29) "quote" (n0) (vs "cpy313.shlex" 1097) (vr 765)),#[]⟩),
 (772,⟨vt "code",none,.fields #[vs "_law_sign" 1267,vs "_law_sign" 1268,vs "/claim/cut.py" 1269,vi 752 0,vi 1 0,vi 0 0,vi 0 0,vi 3 0,vr 767,b0 true,vi 318 0,vr 768,n0,vr 769,vr 770,vr 771,vi 1273 0,vi 752 0,vs "/claim/cut.py" 1274],#[]⟩),
 (773,⟨vt "function",none,.func (kf (kA PG.main.body 31) "_law_sign" (n0) (vs "law_mj0259_01" 1265) (vr 772)),#[]⟩),
 (779,⟨vt "code",none,.fields #[vs "_law_gap" 1276,vs "_law_gap" 1277,vs "/claim/cut.py" 1278,vi 760 0,vi 1 0,vi 0 0,vi 0 0,vi 3 0,vr 774,b0 true,vi 318 0,vr 775,n0,vr 776,vr 777,vr 778,vi 1283 0,vi 760 0,vs "/claim/cut.py" 1284],#[]⟩),
 (780,⟨vt "function",none,.func (kf (kA PG.main.body 32) "_law_gap" (n0) (vs "law_mj0259_01" 1265) (vr 779)),#[]⟩),
 (786,⟨vt "code",none,.fields #[vs "_law_rows" 1286,vs "_law_rows" 1287,vs "/claim/cut.py" 1288,vi 768 0,vi 1 0,vi 0 0,vi 0 0,vi 3 0,vr 781,b0 true,vi 318 0,vr 782,n0,vr 783,vr 784,vr 785,vi 1293 0,vi 768 0,vs "/claim/cut.py" 1294],#[]⟩),
 (787,⟨vt "function",none,.func (kf (kA PG.main.body 33) "_law_rows" (n0) (vs "law_mj0259_01" 1265) (vr 786)),#[]⟩),
 (793,⟨vt "code",none,.fields #[vs "_law_pages" 1296,vs "_law_pages" 1297,vs "/claim/cut.py" 1298,vi 780 0,vi 2 0,vi 0 0,vi 0 0,vi 3 0,vr 788,b0 true,vi 318 0,vr 789,n0,vr 790,vr 791,vr 792,vi 1303 0,vi 780 0,vs "/claim/cut.py" 1304],#[]⟩),
 (794,⟨vt "function",none,.func (kf (kA PG.main.body 34) "_law_pages" (n0) (vs "law_mj0259_01" 1265) (vr 793)),#[]⟩),
 (798,⟨vt "code",none,.fields #[vs "_law_is_white" 1306,vs "_law_is_white" 1307,vs "/claim/cut.py" 1308,vi 785 0,vi 1 0,vi 0 0,vi 0 0,vi 3 0,vr 795,b0 true,vi 318 0,vr 796,n0,n0,n0,vr 797,vi 1309 0,vi 785 0,vs "/claim/cut.py" 1310],#[]⟩),
 (799,⟨vt "function",none,.func (kf (kA PG.main.body 35) "_law_is_white" (n0) (vs "law_mj0259_01" 1265) (vr 798)),#[]⟩),
 (805,⟨vt "code",none,.fields #[vs "_law_told" 1312,vs "_law_told" 1313,vs "/claim/cut.py" 1314,vi 788 0,vi 1 0,vi 0 0,vi 0 0,vi 3 0,vr 800,b0 true,vi 318 0,vr 801,n0,vr 802,vr 803,vr 804,vi 1317 0,vi 788 0,vs "/claim/cut.py" 1318],#[]⟩),
 (806,⟨vt "function",none,.func (kf (kA PG.main.body 36) "_law_told" (n0) (vs "law_mj0259_01" 1265) (vr 805)),#[]⟩),
 (812,⟨vt "code",none,.fields #[vs "_law_peeled" 1320,vs "_law_peeled" 1321,vs "/claim/cut.py" 1322,vi 793 0,vi 2 0,vi 0 0,vi 0 0,vi 3 0,vr 807,b0 true,vi 318 0,vr 808,n0,vr 809,vr 810,vr 811,vi 1330 0,vi 793 0,vs "/claim/cut.py" 1331],#[]⟩),
 (813,⟨vt "function",none,.func (kf (kA PG.main.body 37) "_law_peeled" (n0) (vs "law_mj0259_01" 1265) (vr 812)),#[]⟩),
 (817,⟨vt "code",none,.fields #[vs "_law_due" 1333,vs "_law_due" 1334,vs "/claim/cut.py" 1335,vi 803 0,vi 3 0,vi 0 0,vi 0 0,vi 3 0,vr 814,b0 true,vi 318 0,vr 815,n0,n0,n0,vr 816,vi 1336 0,vi 803 0,vs "/claim/cut.py" 1337],#[]⟩),
 (818,⟨vt "function",none,.func (kf (kA PG.main.body 38) "_law_due" (n0) (vs "law_mj0259_01" 1265) (vr 817)),#[]⟩),
 (822,⟨vt "code",none,.fields #[vs "law" 1339,vs "law" 1340,vs "/claim/cut.py" 1341,vi 821 0,vi 1 0,vi 0 0,vi 0 0,vi 3 0,vr 819,b0 true,vi 318 0,vr 820,n0,n0,n0,vr 821,vi 1342 0,vi 821 0,vs "/claim/cut.py" 1343],#[]⟩),
 (823,⟨vt "function",none,.func (kf (kA PG.main.body 39) "law" (n0) (vs "law_mj0259_01" 1265) (vr 822)),#[]⟩)]
end
end
section
open PyProof.Rows PySem PySem.Calls PySem.W
noncomputable abbrev Z1d:=Fast.tw14364793385576792824
noncomputable abbrev Wo:=Fast.tw1435165496053646825
noncomputable abbrev Wp:=Fast.tw14789777615569096658
noncomputable abbrev JO:=Fast.tw10156331382660048174
noncomputable abbrev K8:=Fast.tw6613529449190102663
noncomputable abbrev UB:=Fast.tw11892475500146522536
noncomputable abbrev Wr:=Fast.tw7112062391866330836
noncomputable abbrev Wt:=Fast.tw5503375647107647088
noncomputable abbrev Z1v:=Fast.tw2307422834073738558
noncomputable abbrev tMods:=Fast.tw5923862056798008813
noncomputable abbrev tSeen:=Fast.tw4187177175401517315
noncomputable def opn:Program:=opening PG
noncomputable def sT0:SharedT:=⟨BT.nil,0,{},#[],{},1,(Wo opn).1.os⟩
noncomputable def YZ (w:World)(n₀:Nat)(ann:Option Value)(n:Nat):SharedT→Thread→Option SharedT :=
 Nat.rec (motive:=fun _=>SharedT→Thread→Option SharedT) (fun _ _=>none) (fun _ ih s t =>
  Bool.rec (motive:=fun _=>Option SharedT)
   (Bool.rec (motive:=fun _=>Option SharedT) none
    (Option.rec (motive:=fun _=>Option SharedT) none (fun st=>Prod.rec (motive:=fun _=>Option SharedT) (fun s' t'=>ih s' t') st) (JO (UB Z1d) PG w s t))
    (K8 n₀ ann t))
   (some s) (through t)) n
noncomputable def KD (m:Str)(s:SharedT):Option SharedT:=match Wt s.abs.heap sysModules m,Z1v m with
 | some (.ref a),some row=>(match s.abs.heap.get? a with
  | some o=>(match o.dict with
   | some D=>(match s.abs.heap.get? D,s.tree.get D with
    | some od,some _=>(match Wr m row od with
     | some od'=>some { s with tree:=s.tree.set D fun _=>od' }
     | none=>none)
    | _,_=>none)
   | none=>none)
  | none=>none)
 | _,_=>none
noncomputable def Vm:List Str→SharedT→Option SharedT
 | [],s=>some s
 | m::r,s=>match KD m s with
  | some s=>Vm r s
  | none=>none
noncomputable def qL:Program:={ PG with main:={ PG.main with body:=[kA PG.main.body 39] } }
noncomputable def Um:List Str:=(["_sre","deque","_wall","__name__","splitdoc","_twin_re_1","_whence","_index","UnsupportedOperation","IOBase","BufferedIOBase","TextIOBase","BytesIO","StringIO","_kind","_fspath","_check_arg_types","isabs","join","join_path","dirname","shlex","split","join_shlex","_find_unsafe","quote","_law_sign","_law_gap","_law_rows","_law_pages","_law_is_white","_law_told","_law_peeled","_law_due"]:List String).map Str.ofString
noncomputable def Z2s (w:World):Option (SharedT × SharedT):=match Wp Z1d opn w 1085 sT0 (Wo opn).2 with
 | none=>none
 | some (s,t)=>match t.atExitBegin with
  | some []=>(match Vm (importedModules PG.main.body) s with
   | none=>none
   | some s0=>(match YZ w s0.n (s0.abs.heap.nsMap mainGlobals "__annotations__") 6000 s0 (topStub PG) with
    | none=>none
    | some s1=>some (s0,s1)))
  | _=>none
noncomputable def aK:List Nat:=[0,2,3,4,50,51,55,56,69,70,96,97,99,100,101,126,127,357,367,373,374,380,381,387,388,543,549,550,603,604,656,662,663,669,670,671,699,700,706,707,728,729,735,736,738,739,744,750,751,757,758,759,765,766,772,773,779,780,786,787,793,794,798,799,805,806,812,813,817,818,822,823,753]
noncomputable def Yf (s:Shared):List (Option Obj):=aK.map s.heap.get?
noncomputable def Ya (w:World):List (Option Obj):=(K0 w.params).map (fun x=>some x.2)++[some ⟨.none,none,.fields #[],#[]⟩]
theorem hdA(w:World):(match Z2s w with | some (s0,s1)=>some (((s0.abs.heap.isNs mainGlobals&&s0.abs.gens.size==0)&&(staticsOk (tMods PG.main.body) s0.abs.heap s1.abs.heap&&namesBound PG s1.abs.heap&&gensDone s1.abs&&laidKept s0.abs.heap s1.abs.heap)),Yf s1.abs,tSeen qL Um (tMods PG.main.body) (recOk []) true s1.abs) | none=>none)=some (true,Ya w,openGood qL Um):=by kernel_rfl
theorem KM(w:World)(n₀:Nat)(ann:Option Value)(n:Nat)(s:SharedT)(t:Thread):YZ w n₀ ann (n+1) s t=(match through t with
  | true=>some s
  | false=>match stepOk n₀ ann t with
   | false=>none
   | true=>match stepT (denote treeTable) PG w s t with
    | some (s',t')=>YZ w n₀ ann n s' t'
    | none=>none):=by
 rw[Fast.te10156331382660048174,Fast.te11892475500146522536,Fast.te14364793385576792824,Fast.te6613529449190102663]
 show Bool.rec (motive:=fun _=>Option SharedT) _ _ (through t)=_
 cases through t with
 | true=>rfl
 | false =>
  show Bool.rec (motive:=fun _=>Option SharedT) none (Option.rec (motive:=fun _=>Option SharedT) none (fun st=>Prod.rec (motive:=fun _=>Option SharedT) (fun s' t'=>YZ w n₀ ann n s' t') st) (JO (UB Z1d) PG w s t)) (K8 n₀ ann t)=(match K8 n₀ ann t with
   | false=>none
   | true=>match JO (UB Z1d) PG w s t with
    | some (s',t')=>YZ w n₀ ann n s' t'
    | none=>none)
  cases K8 n₀ ann t with
  | false=>rfl
  | true =>
   show Option.rec (motive:=fun _=>Option SharedT) none _ (JO (UB Z1d) PG w s t)=(match JO (UB Z1d) PG w s t with
    | some (s',t')=>YZ w n₀ ann n s' t'
    | none=>none)
   cases JO (UB Z1d) PG w s t with
   | none=>rfl
   | some st=>rfl
theorem JL{w:World}{n₀:Nat}{ann:Option Value}:∀ {n:Nat}{s s':SharedT}{t:Thread},YZ w n₀ ann n s t=some s'→topRun treeTable PG w n₀ ann n s.abs t=some s'.abs
 | 0,_,_,_,h=>by cases h
 | n+1,s,s',t,h=>by
  rw[KM] at h
  unfold topRun
  cases ht:through t with
  | true=>rw[ht] at h;cases h;rfl
  | false =>
   rw[ht] at h
   cases hk:stepOk n₀ ann t with
   | false=>rw[hk] at h;cases h
   | true =>
    rw[hk] at h
    cases hs:stepT (denote treeTable) PG w s t with
    | none=>rw[hs] at h;cases h
    | some r=>obtain ⟨s₂,t₂⟩:=r;rw[hs] at h;dsimp only;rw[stepT_spec hs];exact JL h
theorem W1{m:Str}{s s':SharedT}(h:KD m s=some s'):fenceModule? m s.abs=some s'.abs:=by
 unfold KD at h
 unfold fenceModule?
 rw[Fast.te5503375647107647088,Fast.te2307422834073738558,Fast.te7112062391866330836]
 cases h1:Fast.tw5503375647107647088 s.abs.heap sysModules m with
 | none=>rw[show Wt s.abs.heap sysModules m=none from h1] at h;cases h
 | some v =>
  rw[show Wt s.abs.heap sysModules m=some v from h1] at h
  cases v with
  | ref a =>
   cases h2:Fast.tw2307422834073738558 m with
   | none=>rw[show Z1v m=none from h2] at h;cases h
   | some row =>
    rw[show Z1v m=some row from h2] at h
    dsimp only at h ⊢
    cases h3:s.abs.heap.get? a with
    | none=>rw[h3] at h;cases h
    | some o =>
     rw[h3] at h
     dsimp only at h ⊢
     cases h4:o.dict with
     | none=>rw[h4] at h;cases h
     | some D =>
      rw[h4] at h
      dsimp only at h ⊢
      cases h5:s.abs.heap.get? D with
      | none=>rw[h5] at h;cases h
      | some od =>
       rw[h5] at h
       cases h6:s.tree.get D with
       | none=>rw[h6] at h;cases h
       | some x =>
        rw[h6] at h
        dsimp only at h ⊢
        cases h7:Fast.tw7112062391866330836 m row od with
        | none=>rw[show Wr m row od=none from h7] at h;cases h
        | some od' =>
         rw[show Wr m row od=some od' from h7] at h
         cases h
         show some _=some _
         unfold SharedT.abs
         rw[absHeap_set h6]
  | _=>cases h
theorem Vl:∀ {l:List Str}{s s':SharedT},Vm l s=some s'→fenceAll? l s.abs=some s'.abs
 | [],s,s',h=>by cases h;rfl
 | m::l,s,s',h=>by
  unfold Vm at h
  cases h1:KD m s with
  | none=>rw[h1] at h;cases h
  | some s2 =>
   rw[h1] at h
   unfold fenceAll?
   rw[W1 h1]
   exact Vl h
theorem Z1Q:sT0.abs=(start opn).1:=by
 rw[Fast.te1435165496053646825]
 kernel_rfl
theorem Z0A:PG.main.body.any namesNumpy=false:=by kernel_rfl
theorem left0:LeftO PG qL Um (recOk []) Yf Ya 6000:=fun w=>by
 have k:=hdA w
 cases hh:Z2s w with
 | none=>rw[hh] at k;cases k
 | some ss =>
  obtain ⟨s0,s1⟩:=ss
  rw[hh] at k
  obtain ⟨k1,k⟩:=Prod.mk.inj (Option.some.inj k)
  obtain ⟨k2,k3⟩:=Prod.mk.inj k
  obtain ⟨k0,k1⟩:=Bool.and_eq_true_iff.mp k1
  unfold Z2s at hh
  cases h1:Wp Z1d opn w 1085 sT0 (Wo opn).2 with
  | none=>rw[h1] at hh;cases hh
  | some st =>
   obtain ⟨s,t⟩:=st
   rw[h1] at hh
   dsimp only at hh
   cases h2:t.atExitBegin with
   | none=>rw[h2] at hh;cases hh
   | some l =>
    rw[h2] at hh
    cases l with
    | cons a l=>cases hh
    | nil =>
     dsimp only at hh
     cases h3:Vm (importedModules PG.main.body) s with
     | none=>rw[h3] at hh;cases hh
     | some s0' =>
      rw[h3] at hh
      dsimp only at hh
      cases h4:YZ w s0'.n (s0'.abs.heap.nsMap mainGlobals "__annotations__") 6000 s0' (topStub PG) with
      | none=>rw[h4] at hh;cases hh
      | some s1' =>
       rw[h4] at hh
       cases hh
       have i1:impGoT treeTable opn w 1085 sT0 (start opn).2=some (s,t):=by
        rw[Fast.te14789777615569096658,Fast.te14364793385576792824,Fast.te1435165496053646825]
        exact h1
       have i2:=impGo_of i1
       have i3:importEnds treeTable opn w 4915 s.abs t=some s.abs:=by
        show importEnds treeTable opn w (4914+1) s.abs t=_
        unfold importEnds
        rw[h2]
       have i4:importEnds treeTable opn w (1085+4915) sT0.abs (start opn).2=some s.abs:=imp_go i2 i3
       rw[Z1Q] at i4
       have f1:fencedOpening treeTable PG w 6000=some s0.abs:=by
        unfold fencedOpening
        show (importEnds treeTable opn w (1085+4915) (start opn).1 (start opn).2).bind (fenceModules? PG)=_
        rw[i4]
        show fenceModules? PG s.abs=_
        unfold fenceModules?
        rw[Vl h3,Z0A]
        rfl
       have t1:=JL h4
       have t2:topFrom treeTable PG w 6000 s0.abs=some s1.abs:=by
        unfold topFrom
        rw[k0]
        show (topRun treeTable PG w s0.abs.heap.objs.size _ 6000 s0.abs (topStub PG)).bind _=_
        rw[show s0.abs.heap.objs.size=s0.n from absHeap_size _ _ _,t1]
        show (match staticsOk (importedModules PG.main.body) s0.abs.heap s1.abs.heap&&namesBound PG s1.abs.heap&&gensDone s1.abs&&laidKept s0.abs.heap s1.abs.heap with | true=>some s1.abs | false=>none)=some s1.abs
        rw[Fast.te5923862056798008813]
        rw[show (staticsOk (Fast.tw5923862056798008813 PG.main.body) s0.abs.heap s1.abs.heap&&namesBound PG s1.abs.heap&&gensDone s1.abs&&laidKept s0.abs.heap s1.abs.heap)=true from k1]
       unfold openEnds
       rw[f1]
       show (topFrom treeTable PG w 6000 s0.abs).map _=_
       rw[t2]
       show some (openSeen qL Um (importedModules PG.main.body) (recOk []) true s1.abs,Yf s1.abs)=_
       rw[k2,Fast.te5923862056798008813,Fast.te4187177175401517315]
       exact congrArg some (Prod.ext k3 rfl)
end
section
open PySem PySem.W
noncomputable def ids:List String:=["type.__call__","property.__get__","proto.getattr_hooked","object.__getattribute__","object.__setattr__","list.__getitem__","len","str.__len__","int.__gt__","int.__lt__","int.__ge__","int.__le__","int.__eq__","int.__ne__","str.__eq__","str.__ne__","str.__contains__","int.__new__","object.__init__","object.__new__","int.__add__","int.__sub__","int.__mod__","int.__floordiv__","int.__neg__","str.__add__","str.__getitem__","isinstance","isinstance.nested","tuple.__contains__","collections.deque.__new__","collections.deque.__init__","collections.deque.__len__","NoneType.__eq__","str.strip","str.split","str.rstrip","str.join","str.replace","re.Pattern.search","list.__len__","list.append","list.__iter__","list_iterator.__next__","list_iterator.__iter__","list.__setitem__","list.__add__","tuple.__iter__","tuple_iterator.__next__","tuple.__getitem__","range.__new__","range.__iter__","range_iterator.__next__","list.__ne__","list.__eq__","tuple.__eq__","proto.let_go","type.__getattribute__","staticmethod.__get__","issubclass","issubclass.nested","chr","str.__le__","str_ascii_iterator.__next__","str_iterator.__next__","str.__iter__","str_ascii_iterator.__iter__","object.__class__","getset_descriptor.__get__","BaseException.__str__","str.__new__","ValueError.__init__","ValueError.__new__","BaseException.__init__","StopIteration.__init__","Exception.__new__","list.__init__","list.__new__","generator.__next__","list.extend.loop","list.__iadd__","proto.collect","generator.__iter__","list.__eq__.loop","StopIteration.__new__","BaseException.__new__","str.find"]
noncomputable def Z1t (b b2:Bool)(P:Params):Params:={ P with followText:=fun r=>if r="special-get-raises" then b else if r="comprehension-iter-twice" then b2 else P.followText r }
noncomputable abbrev KT0 (P:Params):List (Nat × Obj):=K0 P
noncomputable def cfg (b b2:Bool)(P:Params):Cfg:=⟨PG,Z1t b b2 P,KT0 P,ids⟩
structure Wd (b b2:Bool)(w:World):Prop where
 h1:w.params.followText "special-get-raises"=b
 h2:w.params.followText "comprehension-iter-twice"=b2
theorem NR{b b2:Bool}{P:Params}(h1:P.followText "special-get-raises"=b)(h2:P.followText "comprehension-iter-twice"=b2):Z1t b b2 P=P:=by
 have:(fun r=>if r="special-get-raises" then b else if r="comprehension-iter-twice" then b2 else P.followText r)=P.followText:=by
  funext r
  by_cases e1:r="special-get-raises"
  ·rw[if_pos e1,e1,h1]
  ·rw[if_neg e1]
   by_cases e2:r="comprehension-iter-twice"
   ·rw[if_pos e2,e2,h2]
   ·rw[if_neg e2]
 unfold Z1t
 rw[this]
theorem ids_ok:∀ id∈ids,id.startsWith "lifetime."=false:=by decide +kernel
theorem Wd.w0{b b2:Bool}{w:World}(h:Wd b b2 w):World0 (cfg b b2 w.params) w:=⟨(NR h.h1 h.h2).symm,ids_ok⟩
noncomputable abbrev MD (w:World):Model:=model PG w
noncomputable abbrev OK (w:World)(it:FItem):Prop:=it.Valid (MD w) (KT0 w.params)
noncomputable abbrev POK (w:World)(it:PItem):Prop:=it.Valid (MD w)
noncomputable def ZA (C d:Nat):Obj:=⟨.ref C,some d,.plain,#[]⟩
noncomputable def Vp (es:List DictEntry)(n:Nat):Obj:=⟨.type "dict",none,.dict es.toArray n,#[]⟩
noncomputable def frO (es:List DictEntry)(n:Nat):Obj:=⟨.type "frame",none,.dict es.toArray n,#[]⟩
noncomputable def Y5 (xs:List Value)(n:Nat):Obj:=⟨.type "tuple",none,.seq xs.toArray n,#[]⟩
noncomputable def slO (a b:Value):Obj:=⟨.type "slice",none,.fields #[a,b,.none],#[]⟩
noncomputable def fl (l:List Nat):Nat→Nat:=fun i=>l.getD i 0
theorem Z3{c:Code}{f:Value}{as:List Value}(h:erC c=.call f ⟨as,[]⟩):∃ bs,c=.call f ⟨bs,[]⟩∧bs.map er=as:=by
 cases c with
 | call f' a =>
  obtain ⟨pos,kw⟩:=a
  simp only[erC,Code.call.injEq,Args.mk.injEq,List.map_eq_nil_iff] at h
  obtain ⟨rfl,h2,rfl⟩:=h
  exact ⟨pos,rfl,h2⟩
 | builtin id a=>obtain ⟨pos,kw⟩:=a;simp[erC] at h
 | _=>simp[erC] at h
theorem Z0g{w:World}(x:Str)(a:Addr)(lo hi tl th tx:Nat)(z:Str)(wh:Bool)(h1:lo≤hi)(h2:hi≤x.length)(hz:z=⟨((x.cps.toList.drop lo).take (hi-lo)).toArray⟩)(hw:(hi-lo==x.length)=wh)(hs:x.length≤sizeLine) :
  PItem.Valid (MD w) ⟨false,"str.__getitem__",[.str x 0,.ref a],[(a,slO (.int (Int.ofNat lo) tl) (.int (Int.ofNat hi) th))],fun t as=>bif wh then as.getD 0 .none else .str z t,bif wh then 0 else 1⟩:=by
 intro Γ p s Rr args he hpre hR
 obtain ⟨u,v,rfl,e1,e2⟩:=Zj he
 obtain ⟨t,rfl⟩:=Zk e1
 obtain rfl:=Z5 e2
 have ho:=hpre _ (.head _)
 have hsl:s.heap.IsSlice a (some (Int.ofNat lo,tl)) (some (Int.ofNat hi,th)) none:=⟨_,ho,rfl,rfl⟩
 have pk:slicePicked x (some (Int.ofNat lo,tl)) (some (Int.ofNat hi,th)) none=List.range' lo (hi-lo):=by
  unfold slicePicked
  refine (StrLaws.strSliceIndices_plain h1 h2).trans ?_
  rw[List.range_eq_range',List.map_add_range']
  simp
 show wpCode (MD w) (Γ.enter (.call (.builtin "str.__getitem__") ⟨[.str x t,.ref a],[]⟩) none p) Rr p s
 refine ZF (call_meets F.slot_str_getitem (typeIs_str s x t) F.entry_str_getitem (F.args_str_getitem_2 _ _) (meets_str_getitem_slice x t a (some (Int.ofNat lo,tl)) (some (Int.ofNat hi,th)) none rfl) ⟨hsl,?_⟩)
 unfold sliceMade
 rw[pk,List.length_range']
 have:((Option.map (fun x=>x.fst) (none:Option (Int × Tok))).getD 1==1&&hi-lo==x.length)=wh:=by rw[←hw];rfl
 rw[this]
 cases wh with
 | true=>exact hR
 | false =>
  have ez:(⟨((List.range' lo (hi-lo)).filterMap (x.cps[·]?)).toArray⟩:Str)=z:=by
   rw[hz]
   congr 2
   have:∀(l:List Nat)(n lo:Nat),lo+n≤l.length→(List.range' lo n).filterMap (l[·]?)=(l.drop lo).take n:=by
    intro l n
    induction n with
    | zero=>intro lo _;simp
    | succ n ih =>
     intro lo h
     have hlt:lo<l.length:=by omega
     rw[List.range'_succ,List.filterMap_cons,List.getElem?_eq_getElem hlt,List.drop_eq_getElem_cons hlt,List.take_succ_cons]
     dsimp only
     rw[ih (lo+1) (by omega)]
   have e:=this x.cps.toList (hi-lo) lo (by rw[show x.cps.toList.length=x.length by simp[Str.length]];omega)
   rw[←e]
   congr 1
   funext i
   simp
  have hz2:z.length≤sizeLine:=by
   rw[hz]
   simp only[Str.length,List.size_toArray,List.length_take,List.length_drop,Array.length_toList]
   have:x.cps.size=x.length:=rfl
   omega
  show (Made.str _).post _ s
  rw[ez]
  exact ⟨hz2,hR⟩
noncomputable def eqS (x y:Str):Bool:=x.cps.toList==y.cps.toList
noncomputable def Zh (x y:Str):Bool:=!(Builtin.Str.occurrences x y 0 x.length 1).isEmpty
noncomputable def NX (x:Str)(lo hi:Nat):Str:=⟨((x.cps.toList.drop lo).take (hi-lo)).toArray⟩
noncomputable def AllV {α:Type}(P:α→Prop):List α→Prop
 | []=>True
 | x::l=>P x∧AllV P l
theorem AllV.all{α:Type}{P:α→Prop}:∀ {l:List α},AllV P l→∀ x∈l,P x
 | _::_,h,_,.head _=>h.1
 | _::_,h,_,.tail _ m=>h.2.all _ m
noncomputable def K7:Value→Tok
 | .str _ t=>t
 | .int _ t=>t
 | _=>0
noncomputable def Vr (a b:Int)(r:Bool):PItem:=⟨false,"int.__lt__",[.int a 0,.int b 0],[],fun _ _=>.bool r,0⟩
noncomputable def NA (a b:Int)(r:Bool):PItem:=⟨false,"int.__gt__",[.int a 0,.int b 0],[],fun _ _=>.bool r,0⟩
noncomputable def Z2Y (a b:Int)(r:Bool):PItem:=⟨false,"int.__ge__",[.int a 0,.int b 0],[],fun _ _=>.bool r,0⟩
noncomputable def Z13 (a b:Int)(r:Bool):PItem:=⟨false,"int.__eq__",[.int a 0,.int b 0],[],fun _ _=>.bool r,0⟩
noncomputable def YX (a b c:Int):PItem:=⟨false,"int.__add__",[.int a 0,.int b 0],[],fun t _=>.int c t,1⟩
noncomputable def Z2X (a b c:Int):PItem:=⟨false,"int.__sub__",[.int a 0,.int b 0],[],fun t _=>.int c t,1⟩
noncomputable def Ny (x:Str)(n:Nat):PItem:=⟨false,"len",[.str x 0],[],fun t _=>.int (Int.ofNat n) (t+1),2⟩
noncomputable def Zq (x y:Str)(r:Bool):PItem:=⟨false,"str.__eq__",[.str x 0,.str y 0],[],fun _ _=>.bool r,0⟩
noncomputable def Jy (x y:Str)(r:Bool):PItem:=⟨false,"str.__ne__",[.str x 0,.str y 0],[],fun _ _=>.bool r,0⟩
noncomputable def Zc (x y:Str)(r:Bool):PItem:=⟨false,"str.__contains__",[.str x 0,.str y 0],[],fun _ _=>.bool r,0⟩
noncomputable def Jz (x y z:Str):PItem:=⟨false,"str.__add__",[.str x 0,.str y 0],[],fun t _=>.str z t,1⟩
noncomputable def KI (x y:Str):PItem:=⟨false,"str.__add__",[.str x 0,.str y 0],[],fun _ as=>.str y (K7 (as.getD 1 .none)),0⟩
noncomputable def KH (x:Str)(a:Addr)(lo hi tl th:Nat)(z:Str)(wh:Bool):PItem :=
 ⟨false,"str.__getitem__",[.str x 0,.ref a],[(a,slO (.int (Int.ofNat lo) tl) (.int (Int.ofNat hi) th))],fun t as=>.str z (bif wh then K7 (as.getD 0 .none) else t),bif wh then 0 else 1⟩
section
variable {w:World}
theorem Qi{a b:Int}{r:Bool}(h:decide (a<b)=r):POK w (Vr a b r):=pv_lt a b r h
theorem JF{a b:Int}{r:Bool}(h:decide (a>b)=r):POK w (NA a b r):=pv_gt a b r h
theorem UN{a b:Int}{r:Bool}(h:decide (a≥b)=r):POK w (Z2Y a b r):=pv_ge a b r h
theorem Vd{a b:Int}{r:Bool}(h:(a==b)=r):POK w (Z13 a b r):=pv_eq a b r h
theorem Ym{a b c:Int}(h:a+b=c):POK w (YX a b c):=pv_add a b c h
theorem Z1i{a b c:Int}(h:a-b=c):POK w (Z2X a b c):=pv_sub a b c h
theorem Uj{x:Str}{n:Nat}(hn:x.length=n)(h:n<2 ^ 62):POK w (Ny x n):=pv_len x n hn h
theorem Zi{x y:Str}{r:Bool}(h:eqS x y=r):POK w (Zq x y r):=Z0f x y r h
theorem QY{x y:Str}{r:Bool}(h:(!eqS x y)=r):POK w (Jy x y r):=Z0e x y r (by rw[←h];rfl)
theorem Z8{x y:Str}{r:Bool}(h:Zh x y=r):POK w (Zc x y r):=VD x y r h
theorem Qz{x y z:Str}(h:x++y=z)(hx:x.length≠0)(hy:y.length≠0)(hz:z.length≤sizeLine):POK w (Jz x y z):=WL x y z h hx hy hz
theorem Kp{x y:Str}(hx:x.length=0):POK w (KI x y):=by
 intro Γ p s Rr args he hpre hR
 have key:=UK (prog:=PG) (w:=w) x y hx Γ p s Rr args he hpre
 obtain ⟨u,v,rfl,e1,e2⟩:=Zj he
 obtain ⟨t,rfl⟩:=Zk e1
 obtain ⟨t',rfl⟩:=Zk e2
 exact key hR
theorem Ko{x:Str}{a:Addr}{lo hi tl th:Nat}{z:Str}{wh:Bool}(h1:lo≤hi)(h2:hi≤x.length)(hz:z=⟨((x.cps.toList.drop lo).take (hi-lo)).toArray⟩)(hw:(hi-lo==x.length)=wh)(hs:x.length≤sizeLine) :
  POK w (KH x a lo hi tl th z wh):=by
 intro Γ p s Rr args he hpre hR
 have key:=Z0g (w:=w) x a lo hi tl th 0 z wh h1 h2 hz hw hs Γ p s Rr args he hpre
 obtain ⟨u,v,rfl,e1,e2⟩:=Zj he
 obtain ⟨t,rfl⟩:=Zk e1
 refine key ?_
 cases wh with
 | false=>exact hR
 | true =>
  have e:z=x:=by
   have hl:lo=0∧hi=x.length:=by have:=eq_of_beq hw;omega
   rw[hz,hl.1,hl.2]
   simp only[List.drop_zero,Nat.sub_zero]
   rw[List.take_of_length_le (by simp[Str.length])]
  subst e
  exact hR
end
section
set_option backward.match.sparseCases false
section
open Sem (wp finPost)
noncomputable def strH (P:Params)(s:Str):Int:=if s.cps.isEmpty then 0 else reduceHash (P.strHash s.cps)
noncomputable def en (P:Params)(k:String)(t:Nat)(v:Value):DictEntry:=⟨strH P (Str.ofString k),.str (Str.ofString k) t,v⟩
noncomputable def Z2y (P:Params)(a:Nat):FuncData:=match lk (KT0 P) a with
 | some ⟨_,_,.func fd,_⟩=>fd
 | _=>default
noncomputable def Y0 (P:Params)(a:Nat):List Stmt:=match (Z2y P a).body with
 | .stmts b=>b
 | _=>[]
noncomputable def qualOf (P:Params)(a:Nat):Str:=match (Z2y P a).code with
 | .ref c=>(match lk (KT0 P) c with
  | some ⟨_,_,.fields vs,_⟩=>(match vs.toList with
   | _::.str q _::_=>q
   | _=>Str.empty)
  | _=>Str.empty)
 | _=>Str.empty
noncomputable def ZG (P:Params)(a L:Nat):Env :=
 { scope:=(Z2y P a).scope,locals:=L,globals:=(Z2y P a).globals,cells:=(Z2y P a).closure,qual:=qualOf P a++Str.ofString ".<locals>.",func:=some a,code:=(Z2y P a).code,frame:=some L,builtins:=(Z2y P a).builtins }
noncomputable def sAt (b:List Stmt)(i:Nat):Stmt:=match at? b i with
 | some s=>s
 | none=>.Pass default
noncomputable def VZ (s:Stmt)(env:Env):Code:=match s with
 | .While t b o _=>.whileLoop t b o env
 | _=>.whileLoop default [] [] env
noncomputable def Qk (s:Stmt)(it:Value)(env:Env):Code:=match s with
 | .For t _ b o _=>.forLoop t it b o env
 | _=>.forLoop default it [] [] env
theorem inv_wh{c:Code}{t:PySem.Expr}{b o:List Stmt}{env:Env}(h:erC c=.whileLoop t b o env):c=.whileLoop t b o env:=by
 cases c <;> simp[erC] at h
 simp[h]
theorem Zo{c:Code}{s:Stmt}{env:Env}(h:erC c=VZ s env):c=VZ s env:=by
 cases s <;> exact inv_wh h
theorem Z2o{c:Code}{t:PySem.Expr}{i:Value}{b o:List Stmt}{env:Env}(h:erC c=.forLoop t i b o env):c=.forLoop t i b o env:=by
 cases c <;> simp[erC] at h
 simp[h]
theorem Zd{c:Code}{s:Stmt}{i:Value}{env:Env}(h:erC c=Qk s i env):c=Qk s i env:=by
 cases s <;> exact Z2o h
noncomputable def flT (L:List Nat)(t:Nat→Nat):Nat→Nat:=List.rec (motive:=fun _=>Nat→Nat) t (fun x _ ih n=>Nat.rec (motive:=fun _=>Nat) x (fun m _=>ih m) n) L
theorem Zb{c:Code}{f:String}{as:List Value}(h:erC c=.builtin f ⟨as,[]⟩):∃ bs,c=.builtin f ⟨bs,[]⟩∧bs.map er=as:=by
 cases c with
 | call f' a=>obtain ⟨pos,kw⟩:=a;simp[erC] at h
 | builtin id a =>
  obtain ⟨pos,kw⟩:=a
  simp only[erC,Code.builtin.injEq,Args.mk.injEq,List.map_eq_nil_iff] at h
  obtain ⟨rfl,h2,rfl⟩:=h
  exact ⟨pos,rfl,h2⟩
 | _=>simp[erC] at h
theorem Ur{c:Code}{b:List Stmt}{env:Env}(h:erC c=.func b env):c=.func b env:=by
 cases c <;> simp[erC] at h
 simp[h]
theorem Zg{c:Code}{e:PySem.Expr}{d:Nat}{i a:Value}{env:Env}(h:erC c=.compLoop e d i a env):c=.compLoop e d i a env:=by
 cases c <;> simp[erC] at h
 simp[h]
noncomputable def sv (ys:List (Str × Nat)):List Value:=ys.map fun y=>.str y.1 y.2
noncomputable def YL (a:Addr)(ys:List (Str × Nat))(n:Nat)(x:Str)(r:Bool):PItem:=⟨false,"tuple.__contains__",[.ref a,.str x 0],[(a,Y5 (sv ys) n)],fun _ _=>.bool r,0⟩
theorem JQ:∀ ys:List (Str × Nat),PyProof.Rows.StrsAre (sv ys) (ys.map (·.1))
 | []=>.nil
 | y::ys=>.cons _ _ (JQ ys)
theorem Yw{w:World}{a:Addr}{ys:List (Str × Nat)}{n:Nat}{x:Str}{r:Bool}(h:ys.any (fun y=>y.1==x)=r):POK w (YL a ys n x r):=by
 intro Γ p s Rr args he hpre hR
 obtain ⟨u,v,rfl,e1,e2⟩:=Zj he
 obtain rfl:=Z5 e1
 obtain ⟨t,rfl⟩:=Zk e2
 have ho:=hpre _ (.head _)
 have ht:PyProof.Rows.IsTup s.heap a (sv ys).toArray:=⟨_,ho,rfl,n,rfl⟩
 show wpCode (MD w) (Γ.enter (.call (.builtin "tuple.__contains__") ⟨[.ref a,.str x t],[]⟩) none p) Rr p s
 refine ZF (wpAny_call_entry PyProof.Rows.slot_tuple_contains ht.typeIs PyProof.Rows.entry_tuple_contains (PyProof.Rows.tuple_contains_strs ht (ys:=ys.map (·.1)) (by simpa using JQ ys) ⟨_,rfl,?_⟩) (PyProof.Rows.args_tuple_contains _ _))
 rw[List.any_map]
 have:ys.any ((fun x_1=>x_1==x) ∘ fun x=>x.fst)=r:=h
 rw[this]
 exact hR
noncomputable def ZH (x:Str)(n:Nat):PItem:=⟨true,"len",[.str x 0],[],fun t _=>.int (Int.ofNat n) (t+1),2⟩
theorem Zy{w:World}{x:Str}{n:Nat}(hn:x.length=n)(h:n<2 ^ 62):POK w (ZH x n):=by
 intro Γ p s Rr args he hpre hR
 obtain ⟨u,rfl,e1⟩:=Z4 he
 obtain ⟨t,rfl⟩:=Zk e1
 subst hn
 show wpCode (MD w) (Γ.enter (.builtin "len" ⟨[.str x t],[]⟩) none p) Rr p s
 refine Qx (wpAny_runValue (codeAny_builtin entry_len ?_))
 rw[Around.under_plainId plain_len _]
 refine wpAny_mono (wpAny_len_body (Q:=fun r s'=>Rr (.ok (.ret r)) s') (typeIs_str s x t) F.slot_str_len F.entry_str_len (F.args_str_len_1 _) (gives_str_len x t) (by omega) (by omega) hR) (fun fin s' h'=>by obtain ⟨r,rfl,hq⟩:=h';exact hq) fun _ _ e=>e
end
end
end
section
theorem nb1{a k:Nat}(h:k<a):a-k=a-(k+1)+1:=(Nat.succ_pred_eq_of_pos (Nat.sub_pos_of_lt h)).symm
theorem nb2{a k:Nat}(h:k<a):(Int.ofNat (a-k)-1:Int)=Int.ofNat (a-(k+1)):=by
 rw[nb1 h]
 exact Int.add_sub_cancel (Int.ofNat (a-(k+1))) 1
theorem nb3{a k:Nat}(h:k<a):(0:Int)<Int.ofNat (a-k):=Int.ofNat_lt.mpr (Nat.sub_pos_of_lt h)
theorem nb4{a k:Nat}(h:k≤a):a+1-k=a-k+1:=Nat.succ_sub h
theorem nb5{a k:Nat}:a+1-(k+1)=a-k:=Nat.succ_sub_succ a k
theorem nb6{a b d:Nat}(h:a≤b)(e:d+1=b-a):b-d=a+1:=by omega
theorem nb7{a b:Nat}(h:a<b):(-((a:Int)+1)+(b:Int)).toNat=b-1-a:=by omega
theorem nb8(i:Nat):(2*i+20-20) / 2=i:=by rw[Nat.add_sub_cancel,Nat.mul_div_cancel_left _ (by decide)]
theorem nb9(i:Nat):(2*i+21-20) / 2=i:=by
 show (2*i+1+20-20) / 2=i
 rw[Nat.add_sub_cancel,Nat.mul_add_div (by decide)]
 rfl
theorem nbA{a s t n i:Nat}(h1:a≤s+5*(n-i))(h2:s≤t)(h3:t+5*n≤200):a≤200:=Nat.le_trans h1 (Nat.le_trans (Nat.add_le_add h2 (Nat.mul_le_mul_left 5 (Nat.sub_le n i))) h3)
theorem nbB{a i:Nat}:a+1-i≤a-i+1:=by omega
theorem nbC{a s t m:Nat}(h:a≤s)(h3:s+t≤m):a≤m:=Nat.le_trans h (Nat.le_trans (Nat.le_add_right _ _) h3)
end
section
open PySem PySem.Builtin PySem.Builtin.List PySem.W
section
open Sem (wp finPost)
noncomputable abbrev Wn:=Fast.tw14684505520029207082
noncomputable abbrev K9:=Fast.tw8711993805878244202
noncomputable abbrev tHint:=Fast.tw15112759502256325868
noncomputable abbrev Z1c:=Fast.tw922294955767894045
noncomputable abbrev JP:=Fast.tw10557518346328741659
noncomputable abbrev Je:=Fast.tw2060155186595164805
noncomputable def Nx (t:Value):Bool:=["set","frozenset","dict","dict_keys","dict_values","dict_items"].any (t==.type ·)
noncomputable def extX (a:Addr)(b res:Value):Sem Fin :=
 R.bindR (Wn b) fun t=>match (t==.type "list"||t==.type "tuple") with
  | true=>.unsupported "x"
  | false=>R.bindR (K9 b) fun iter=>R.bindR (tHint b) fun room=>match room||Nx t with
   | true=>R.bindR (Z1c (.ref a)) fun _=>.pure (.again (.builtin "list.extend.loop" ⟨[.ref a,iter,res],[]⟩))
   | false=>.pure (.again (.builtin "list.extend.loop" ⟨[.ref a,iter,res],[]⟩))
noncomputable def Z0L (a:Addr)(b:Value):Sem Fin :=
 R.bindR (JP (.ref a)) fun _=>R.bindR (Je (.ref a) (fun _=>#[])) fun _=>extX a b .none
theorem JJ{α:Type}(M:Model)(Γ:Ctx)(vs:List Value)(m:Sem α)(Q:α→Pos→Shared→Prop)(E:Value→Pos→Shared→Prop)(p:Pos)(s:Shared):wp M Γ (holding vs m) Q E p s=wp M Γ m Q E p s:=by
 unfold holding
 split
 ·rfl
 ·rw[Sem.wp_keep]
theorem VX(M:Model)(Γ:Ctx)(keep:List Value)(Q:Unit→Pos→Shared→Prop)(E:Value→Pos→Shared→Prop)(p:Pos)(s:Shared):∀ l,wp M Γ (letGo l keep) Q E p s=Q () p s
 | []=>by unfold letGo;rw[Sem.wp_pure']
 | x::l=>by
  unfold letGo
  rw[Sem.wp_bind',JJ]
  show wp M Γ (Sem.point [] Sem.pure) _ E p s=_
  rw[Sem.wp_point,Sem.wp_pure]
  exact VX M Γ keep Q E p s l
theorem Z1p{M:Model}{Γ:Ctx}{a b:Addr}{res:Value}(hab:a≠b){Q:Fin→Pos→Shared→Prop}{E:Value→Pos→Shared→Prop}{p:Pos}{s:Shared}(h:wp M Γ (extX a (.ref b) res) Q E p s) :
  wp M Γ (listExtendWith (.ref a) (.ref b) res) Q E p s:=by
 have e1:Wn=typeOf:=Fast.te14684505520029207082.symm
 have e2:K9=pyIter:=Fast.te8711993805878244202.symm
 have e3:tHint=listLengthHint:=Fast.te15112759502256325868.symm
 have e4:Z1c=listTouch:=Fast.te922294955767894045.symm
 unfold extX at h
 rw[e1,e2,e3,e4] at h
 simp only[←R.bindR_eq] at h
 rw[Sem.wp_bind] at h
 unfold listExtendWith
 rw[Sem.wp_bind']
 refine Sem.wp_mono _ _ _ (fun t p' s' hx=>?_) (fun _ _ _ e=>e) p s h
 have hs:listSameRef (.ref a) (.ref b)=false:=by
  show (a==b)=false
  exact beq_eq_false_iff_ne.mpr hab
 rw[hs,Bool.false_or]
 cases ht:(t==.type "list"||t==.type "tuple") with
 | true=>rw[ht] at hx;exact False.elim hx
 | false =>
  rw[ht] at hx
  simp only[Bool.false_eq_true,if_false]
  dsimp only at hx
  rw[Sem.wp_bind] at hx
  rw[Sem.wp_bind']
  refine Sem.wp_mono _ _ _ (fun iter p' s' hy=>?_) (fun _ _ _ e=>e) _ _ hx
  rw[Sem.wp_bind] at hy
  rw[Sem.wp_bind',JJ]
  refine Sem.wp_mono _ _ _ (fun room p' s' hz=>?_) (fun _ _ _ e=>e) _ _ hy
  have ha:(room||Nx t)=(room||List.any ["set","frozenset","dict","dict_keys","dict_values","dict_items"] fun x=>t==Value.type x):=rfl
  cases hr:(room||Nx t) with
  | true =>
   rw[hr] at hz
   rw[ha] at hr
   dsimp only at hz
   rw[Sem.wp_bind] at hz
   split
   ·show wp M Γ (Sem.rule _ Sem.pure >>= _) Q E p' s'
    rw[Sem.wp_bind',Sem.wp_rule,Sem.wp_pure,Sem.wp_bind']
    exact hz
   ·rename_i hn
    exact absurd hr hn
  | false =>
   rw[hr] at hz
   rw[ha] at hr
   split
   ·rename_i hn
    exact absurd (hr.symm.trans hn) (by simp)
   ·exact hz
theorem Z2p{M:Model}{Γ:Ctx}{a b:Addr}(hab:a≠b){Q:Fin→Pos→Shared→Prop}{E:Value→Pos→Shared→Prop}{p:Pos}{s:Shared}(h:wp M Γ (Z0L a (.ref b)) Q E p s) :
  wp M Γ (Yj (.builtin "list.__init__" ⟨[.ref a,.ref b],[]⟩)) Q E p s:=by
 have e0:Yj (.builtin "list.__init__" ⟨[.ref a,.ref b],[]⟩)=«list.__init__» ⟨[.ref a,.ref b],[]⟩:=by
  have:Yj (.builtin "list.__init__" ⟨[.ref a,.ref b],[]⟩)=Z1x (.builtin "list.__init__" ⟨[.ref a,.ref b],[]⟩):=rfl
  rw[this,Jg]
  unfold denote
  dsimp only
  rw[F.entry_list_init]
 rw[e0]
 have e1:JP=listItems:=Fast.te10557518346328741659.symm
 have e2:Je=listUpdate:=Fast.te2060155186595164805.symm
 unfold Z0L at h
 rw[e1,e2,←R.bindR_eq,Sem.wp_bind] at h
 unfold Builtin.«list.__init__»
 simp only[List.isEmpty_nil,Bool.not_true,Bool.false_eq_true,if_false,List.length_cons,List.length_nil]
 rw[if_neg (by omega)]
 rw[Sem.wp_bind']
 refine Sem.wp_mono _ _ _ (fun old p' s' hx=>?_) (fun _ _ _ e=>e) p s h
 rw[Sem.wp_bind] at hx
 rw[Sem.wp_bind']
 refine Sem.wp_mono _ _ _ (fun u p' s' hy=>?_) (fun _ _ _ e=>e) _ _ hx
 rw[Sem.wp_bind',VX]
 exact Z1p hab hy
end
end
section
open PySem PySem.Builtin.List PySem.W
section
open Sem (wp finPost)
noncomputable abbrev Q0:=Fast.tw9404975358583537561
noncomputable def nxT (v:Value):Sem Fin:=R.bindR (Q0 v) fun o=>match o with | none=>.pure (.done .next) | some x=>.pure (.done (.ret x))
noncomputable def Z0 (xs:Array Value)(n:Nat):Obj:=⟨.type "list",none,.seq xs n,#[]⟩
theorem J9{M:Model}{Γ:Ctx}{α:Type}{m:Sem α}{Q:α→Shared→Prop}{E:Value→Shared→Prop}{p:Pos}{s:Shared}(h:wpAny M (arOf Γ) m Q E s):wp M Γ m (fun a _ s'=>Q a s') (fun e _ s'=>E e s') p s:=h Γ p (Kz Γ)
theorem Yg(xs:Array Value)(n:Nat)(v:Value):Obj.mapSeq (·.push v) (Z0 xs n)=Z0 (xs.push v) (n+1):=by
 unfold Obj.mapSeq Z0
 simp
theorem Ve{w:World}(a:Addr)(it res:Value):Yj (.builtin "list.extend.loop" ⟨[.ref a,it,res],[]⟩)=(pyNext it >>= fun o=>match o with | none=>ret res | some x=>listUpdate (.ref a) (·.push x) >>= fun _=>again (.builtin "list.extend.loop" ⟨[.ref a,it,res],[]⟩)):=by
 have:Yj (.builtin "list.extend.loop" ⟨[.ref a,it,res],[]⟩)=Z1x (.builtin "list.extend.loop" ⟨[.ref a,it,res],[]⟩):=rfl
 rw[this,Jg]
 unfold denote
 dsimp only
 rw[F.entry_extend_loop]
 rfl
theorem Nk{c:Code}{a:Addr}{it:Value}{x:Addr}(hi:it=.ref x)(h:erC c=.builtin "list.extend.loop" ⟨[.ref a,it,.none],[]⟩):c=.builtin "list.extend.loop" ⟨[.ref a,it,.none],[]⟩:=by
 subst hi
 obtain ⟨bs,rfl,hb⟩:=Zb h
 obtain ⟨v1,v2,v3,rfl,e1,e2,e3⟩:=Y1 hb
 obtain rfl:=Z5 e1
 obtain rfl:=Z5 e2
 obtain rfl:=Ju e3
 rfl
section
variable{w:World}{K:List (Nat × Obj)}{T:FItem}{a x:Nat}{xs:Array Value}{n:Nat}
include w K T a x xs n
theorem WX{O:(Nat→Nat)→FOut}(hT:T.ValidT (MD w) K (nxT (.ref x)))(hc:T.c=.builtin "list.extend.loop" ⟨[.ref a,.ref x,.none],[]⟩)
  (hr:∀ sz tk l,∃ v,(T.out sz tk l).r=.ok (.ret v)∧(T.out sz tk l).g=id)(hs:xs.size<sizeLine)
  (next:∀ sz tk l v,(T.out sz tk l).r=.ok (.ret v)→FItem.Valid (MD w) K ⟨T.c,T.B,(a,Z0 (xs.push v) (n+1))::(T.out sz tk l).led,fun _ _ l=>O l,T.gin,(T.out sz tk l).ledS,T.er⟩)(hTe:T.er=erC:=by rfl) :
  FItem.Valid (MD w) K ⟨T.c,T.B,(a,Z0 xs n)::T.pre,fun _ _ l=>O l,T.gin,T.preS,T.er⟩:=by
 rintro ⟨c,hd,ow,B,pa⟩ p s Rr hcc hh hB hg top nd own here k
 dsimp only at hcc hh hB hg
 subst hh
 obtain rfl:=Nk rfl ((congrFun hTe c).symm.trans (hcc.trans hc))
 refine ZW ?_
 rw[Ve (w:=w),Sem.wp_bind']
 have D0:=Desc.start top nd own here
 have D1:Desc _ (T.all++[(a,Z0 xs n)]) _ _ s:=D0.perm (by
  show ((a,Z0 xs n)::(T.pre++T.preS)).Perm _
  exact List.perm_append_comm (l₁:=[_]))
 have nd1:=D1.nodup
 rw[List.map_append,List.nodup_append] at nd1
 have hw:=hT ⟨.builtin "list.extend.loop" ⟨[.ref a,.ref x,.none],[]⟩,none,ow,B,pa⟩ p s (fun r s'=>match r with
   | .ok (.ret v)=>∀ p',wp (MD w) ⟨.builtin "list.extend.loop" ⟨[.ref a,.ref x,.none],[]⟩,none,ow,B,pa⟩ (listUpdate (.ref a) (·.push v) >>= fun _=>again (.builtin "list.extend.loop" ⟨[.ref a,.ref x,.none],[]⟩))
    (finPost (MD w) ⟨.builtin "list.extend.loop" ⟨[.ref a,.ref x,.none],[]⟩,none,ow,B,pa⟩ Rr) (EP (MD w) ⟨.builtin "list.extend.loop" ⟨[.ref a,.ref x,.none],[]⟩,none,ow,B,pa⟩ Rr) p' s'
   | _=>False) hcc rfl hB hg top nd1.1
  (fun q hq=>D1.own q (List.mem_append_left _ hq)) (fun q hq=>D1.here q (List.mem_append_left _ hq)) (fun l h' L=>?_)
 ·unfold nxT at hw
  have e1:Q0=pyNext:=Fast.te9404975358583537561.symm
  rw[e1,←R.bindR_eq,Sem.wp_bind] at hw
  refine Sem.wp_mono _ _ _ (fun o p' s' hx=>?_) (fun e p' s' he=>False.elim he) p s hw
  cases o with
  | none=>exact False.elim hx
  | some v=>exact hx p'
 ·obtain ⟨v,hv,hid⟩:=hr s.heap.objs.size s.toks l
  rw[hv,hid]
  intro p'
  have D2:=(D1.item (tk':=(T.out s.heap.objs.size s.toks l).tk) (g':=s.gens) L).perm (List.perm_append_comm (l₂:=[(a,Z0 xs n)]))
  have ha:=D2.here _ (List.mem_cons_self ..)
  rw[Sem.wp_bind']
  refine Sem.wp_mono _ _ _ (fun _ p'' s'' hx=>hx p'') (fun _ _ _ e=>False.elim e) _ _ (J9 (E:=fun _ _=>False) (PyProof.Rows.listUpdate_at (f:=fun ys=>ys.push v) (Q:=fun _ s''=>∀ p',wp (MD w) ⟨.builtin "list.extend.loop" ⟨[.ref a,.ref x,.none],[]⟩,none,ow,B,pa⟩ (again (.builtin "list.extend.loop" ⟨[.ref a,.ref x,.none],[]⟩)) (finPost (MD w) ⟨.builtin "list.extend.loop" ⟨[.ref a,.ref x,.none],[]⟩,none,ow,B,pa⟩ Rr) (EP (MD w) ⟨.builtin "list.extend.loop" ⟨[.ref a,.ref x,.none],[]⟩,none,ow,B,pa⟩ Rr) p' s'') ha rfl (fun p'=>?_) (Nat.le_of_lt hs) (by show (xs.push v).size≤_;rw[Array.size_push];omega)))
  have D3:=D2.update (i:=0) (q:=(a,Z0 xs n)) rfl (f:=Obj.mapSeq (·.push v)) (by rw[Yg];rfl)
  rw[Yg] at D3
  have D4:=D3.perm (led':=((a,Z0 (xs.push v) (n+1))::(T.out s.heap.objs.size s.toks l).led++(T.out s.heap.objs.size s.toks l).ledS)++[]) (by rw[List.append_nil];exact .refl _)
  show Code.quiet _=true∧wpCode (MD w) ⟨.builtin "list.extend.loop" ⟨[.ref a,.ref x,.none],[]⟩,none,ow,B,pa⟩ Rr p' _
  refine ⟨Code.quiet_builtin _ (by decide +kernel),?_⟩
  exact Desc.onto (it'':=⟨T.c,T.B,(a,Z0 (xs.push v) (n+1))::(T.out s.heap.objs.size s.toks l).led,fun _ _ l=>O l,T.gin,(T.out s.heap.objs.size s.toks l).ledS,T.er⟩) (out:=fun _ _ l=>O l) D4 (next _ _ l v hv) (fun _=>rfl) hcc rfl hB hg k
theorem lx_end(hT:T.ValidT (MD w) K (nxT (.ref x)))(hc:T.c=.builtin "list.extend.loop" ⟨[.ref a,.ref x,.none],[]⟩)
  (hr:∀ sz tk l,(T.out sz tk l).r=.ok .next)(hTe:T.er=erC:=by rfl) :
  FItem.Valid (MD w) K ⟨T.c,T.B,(a,Z0 xs n)::T.pre,fun sz tk l=>{ T.out sz tk l with r:=.ok (.ret .none),led:=(a,Z0 xs n)::(T.out sz tk l).led },T.gin,T.preS,T.er⟩:=by
 rintro ⟨c,hd,ow,B,pa⟩ p s Rr hcc hh hB hg top nd own here k
 dsimp only at hcc hh hB hg
 subst hh
 obtain rfl:=Nk rfl ((congrFun hTe c).symm.trans (hcc.trans hc))
 refine ZW ?_
 rw[Ve (w:=w),Sem.wp_bind']
 have D0:=Desc.start top nd own here
 have D1:Desc _ (T.all++[(a,Z0 xs n)]) _ _ s:=D0.perm (by
  show ((a,Z0 xs n)::(T.pre++T.preS)).Perm _
  exact List.perm_append_comm (l₁:=[_]))
 have nd1:=D1.nodup
 rw[List.map_append,List.nodup_append] at nd1
 have hw:=hT ⟨.builtin "list.extend.loop" ⟨[.ref a,.ref x,.none],[]⟩,none,ow,B,pa⟩ p s (fun r s'=>match r with
   | .ok .next=>Rr (.ok (.ret .none)) s'
   | _=>False) hcc rfl hB hg top nd1.1
  (fun q hq=>D1.own q (List.mem_append_left _ hq)) (fun q hq=>D1.here q (List.mem_append_left _ hq)) (fun l h' L=>?_)
 ·unfold nxT at hw
  have e1:Q0=pyNext:=Fast.te9404975358583537561.symm
  rw[e1,←R.bindR_eq,Sem.wp_bind] at hw
  refine Sem.wp_mono _ _ _ (fun o p' s' hx=>?_) (fun e p' s' he=>False.elim he) p s hw
  cases o with
  | none=>exact hx
  | some v=>exact False.elim hx
 ·rw[hr]
  have D2:=(D1.item (tk':=(T.out s.heap.objs.size s.toks l).tk) (g':=(T.out s.heap.objs.size s.toks l).g s.gens) L).perm (List.perm_append_comm (l₂:=[(a,Z0 xs n)]))
  refine k l h' (Desc.left (rest:=[]) D2 ?_)
  rw[List.append_nil]
  exact .refl _
theorem lx_err(hT:T.ValidT (MD w) K (nxT (.ref x)))(hc:T.c=.builtin "list.extend.loop" ⟨[.ref a,.ref x,.none],[]⟩)
  (hr:∀ sz tk l,∃ e,(T.out sz tk l).r=.error e)(hTe:T.er=erC:=by rfl) :
  FItem.Valid (MD w) K ⟨T.c,T.B,(a,Z0 xs n)::T.pre,fun sz tk l=>{ T.out sz tk l with led:=(a,Z0 xs n)::(T.out sz tk l).led },T.gin,T.preS,T.er⟩:=by
 rintro ⟨c,hd,ow,B,pa⟩ p s Rr hcc hh hB hg top nd own here k
 dsimp only at hcc hh hB hg
 subst hh
 obtain rfl:=Nk rfl ((congrFun hTe c).symm.trans (hcc.trans hc))
 refine ZW ?_
 rw[Ve (w:=w),Sem.wp_bind']
 have D0:=Desc.start top nd own here
 have D1:Desc _ (T.all++[(a,Z0 xs n)]) _ _ s:=D0.perm (by
  show ((a,Z0 xs n)::(T.pre++T.preS)).Perm _
  exact List.perm_append_comm (l₁:=[_]))
 have nd1:=D1.nodup
 rw[List.map_append,List.nodup_append] at nd1
 have hw:=hT ⟨.builtin "list.extend.loop" ⟨[.ref a,.ref x,.none],[]⟩,none,ow,B,pa⟩ p s (fun r s'=>match r with
   | .error e=>Rr (.error e) s'
   | _=>False) hcc rfl hB hg top nd1.1
  (fun q hq=>D1.own q (List.mem_append_left _ hq)) (fun q hq=>D1.here q (List.mem_append_left _ hq)) (fun l h' L=>?_)
 ·unfold nxT at hw
  have e1:Q0=pyNext:=Fast.te9404975358583537561.symm
  rw[e1,←R.bindR_eq,Sem.wp_bind] at hw
  refine Sem.wp_mono _ _ _ (fun o p' s' hx=>?_) (fun e p' s' he=>he) p s hw
  cases o with
  | none=>exact False.elim hx
  | some v=>exact False.elim hx
 ·obtain ⟨e,he⟩:=hr s.heap.objs.size s.toks l
  rw[he]
  have D2:=(D1.item (tk':=(T.out s.heap.objs.size s.toks l).tk) (g':=(T.out s.heap.objs.size s.toks l).g s.gens) L).perm (List.perm_append_comm (l₂:=[(a,Z0 xs n)]))
  have kk:=k l h' (Desc.left (rest:=[]) D2 (by rw[List.append_nil];exact .refl _))
  dsimp only at kk
  rw[he] at kk
  exact kk
end
end
end
section
open PySem PySem.Builtin PySem.Builtin.Str PySem.W
section
open Sem (wp finPost)
noncomputable def bI (id:String)(as:List Value)(pre:Led)(out:Nat→Nat→(Nat→Nat)→FOut):FItem:=⟨.call (.builtin id) ⟨as,[]⟩,fun B=>B,pre,out,fun g=>g,[],erC⟩
noncomputable def Goal (pre:Led)(out:Nat→Nat→(Nat→Nat)→FOut)(R:Result→Shared→Prop)(s:Shared):Prop :=
 ∀ l h',Left0 pre (out s.heap.objs.size s.toks l).led (out s.heap.objs.size s.toks l).sz s.heap h'→R (out s.heap.objs.size s.toks l).r ⟨h',s.gens,s.drawn,(out s.heap.objs.size s.toks l).tk,s.os⟩
noncomputable def Here (pre:Led)(s:Shared):Prop:=(pre.map (·.1)).Nodup∧∀ q∈pre,s.heap.get? q.1=some q.2
theorem Yd{w:World}{id:String}{as:List Value}{pre:Led}{out:Nat→Nat→(Nat→Nat)→FOut}(hg:∀ sz tk l,(out sz tk l).g=(fun g=>g)∧(out sz tk l).ledS=[])
  (h:∀(A:Around)(s:Shared)(R:Result→Shared→Prop)(args:List Value),A.handled=none→args.map er=as→Here pre s→Goal pre out R s→codeAny (MD w) A (.call (.builtin id) ⟨args,[]⟩) R s):OK w (bI id as pre out):=by
 rintro ⟨c,hd,ow,B,pa⟩ p s Rr hc hh hB hgi top nd own here k
 dsimp only at hc hh
 obtain ⟨bs,rfl,hb⟩:=Z3 hc
 have ea:(bI id as pre out).all=pre:=List.append_nil _
 rw[ea] at nd here k
 refine h ⟨hd,frameCount B,none,none,unitsOf B⟩ s Rr bs hh hb ⟨nd,here⟩ (fun l h' L=>?_) ⟨_,hd,ow,B,pa⟩ p rfl ⟨rfl,Nat.le_refl _,(fun _ h=>nomatch h),(fun _ h=>nomatch h),Nat.le_refl _⟩
 have:=k l h' (by
  show Left0 pre (_++_) _ _ _
  obtain ⟨e1,e2⟩:=hg s.heap.objs.size s.toks l
  show Left0 pre ((out s.heap.objs.size s.toks l).led++(out s.heap.objs.size s.toks l).ledS) _ _ _
  rw[e2,List.append_nil]
  exact L)
 have e:=(hg s.heap.objs.size s.toks l).1
 show Rr (out s.heap.objs.size s.toks l).r _
 rw[show (bI id as pre out).out=out from rfl,e] at this
 exact this
theorem Qr{w:World}{id T:String}{name:Str}{Bt:Builtin}{as:List Value}{pre:Led}{out:Nat→Nat→(Nat→Nat)→FOut}(slot:Slot T name id)(entry:entryFor table id=some Bt)
  (hg:∀ sz tk l,(out sz tk l).g=(fun g=>g)∧(out sz tk l).ledS=[])
  (h:∀(args:List Value),args.map er=as→∃ self rest,args=self::rest∧(∀ s:Shared,Here pre s→s.TypeIs self T)∧argsOk id ⟨self::rest,[]⟩∧∃ S:Spec,Meets (Bt ⟨self::rest,[]⟩) S∧∀ A s R,A.handled=none→Here pre s→Goal pre out R s→S A R s):OK w (bI id as pre out) :=
 Yd hg fun A s R args hA he hh hG=>by
  obtain ⟨self,rest,rfl,hT,ha,S,g,hS⟩:=h args he
  exact codeAny_call_builtin slot.plain entry (slot.check _ _ _ _ _ _ _ _ (hT s hh) ha (g _ w A R s (hS A s R hA hh hG)))
theorem Here.left{pre led:Led}{sz:Nat}{s:Shared}{h':Heap}(L:Left0 pre led sz s.heap h')(g:Array GenState)(d:Drawn)(tk:Nat)(os:OsState):Here led ⟨h',g,d,tk,os⟩:=⟨L.nodup,L.here⟩
theorem Q8{p q r:Led}{sz sz':Nat}{h h1 h2:Heap}(L:Left0 p q sz h h1)(M:Left0 q r sz' h1 h2):Left0 p r sz' h h2:=by
 obtain ⟨a1,a2,a3,a4,a5,a6⟩:=L
 obtain ⟨b1,b2,b3,b4,b5,b6⟩:=M
 refine ⟨fun a x hx hn=>b1 a x (a1 a x hx hn) fun hm=>?_,b2,b3,fun y hy=>?_,b5,by omega⟩
 ·obtain ⟨y,hy,e⟩:=List.mem_map.mp hm
  rcases a4 y hy with h | h
  ·exact hn (e▸h)
  ·exact absurd (Heap.lt_size hx) (Nat.not_lt.mpr (e▸h))
 ·rcases b4 y hy with h | h
  ·obtain ⟨z,hz,e⟩:=List.mem_map.mp h
   rw[←e]
   exact a4 z hz
  ·exact .inr (by omega)
theorem ZZ{pre:Led}{s:Shared}(h:Here pre s){o:Obj}(ho:o.isFreed=false):Left0 pre ((s.heap.objs.size,o)::pre) (s.heap.objs.size+1) s.heap (s.heap.push o):=by
 refine ⟨fun a x hx _=>Heap.get?_push_of_some o hx,fun q hq=>?_,?_,fun q hq=>?_,Heap.size_push _ _,Nat.le_succ _⟩
 ·rcases List.mem_cons.mp hq with rfl | hq
  ·exact Heap.get?_push_size _ ho
  ·exact Heap.get?_push_of_some o (h.2 q hq)
 ·rw[List.map_cons,List.nodup_cons]
  refine ⟨fun hm=>?_,h.1⟩
  obtain ⟨q,hq,e⟩:=List.mem_map.mp hm
  exact absurd (e▸Heap.lt_size (h.2 q hq)) (Nat.lt_irrefl _)
 ·rcases List.mem_cons.mp hq with rfl | hq
  ·exact .inr (Nat.le_refl _)
  ·exact .inl (List.mem_map_of_mem hq)
theorem ZK{a:Addr}{o:Obj}{pre:Led}{s:Shared}(h:Here ((a,o)::pre) s){f:Obj→Obj}(hf:(f o).isFreed=false):Left0 ((a,o)::pre) ((a,f o)::pre) s.heap.objs.size s.heap (s.heap.update a f):=by
 have nd:=h.1
 rw[List.map_cons,List.nodup_cons] at nd
 have oth:∀ b,b≠a→(s.heap.update a f).get? b=s.heap.get? b:=fun b hb=>Heap.get?_update_other _ f (Ne.symm hb)
 refine ⟨fun b x hx hn=>?_,fun q hq=>?_,?_,fun q hq=>.inl ?_,(Heap.SameBut.update s.heap a f).1,Nat.le_refl _⟩
 ·exact (oth b fun e=>hn (by rw[e];exact List.mem_cons_self)).trans hx
 ·rcases List.mem_cons.mp hq with rfl | hq
  ·exact Heap.get?_update_self f (h.2 _ List.mem_cons_self) hf
  ·refine (oth _ fun e=>nd.1 ?_).trans (h.2 _ (List.mem_cons_of_mem _ hq))
   have:=List.mem_map_of_mem (f:=(·.1)) hq
   rw[e] at this
   exact this
 ·rw[List.map_cons,List.nodup_cons];exact nd
 ·rcases List.mem_cons.mp hq with rfl | hq
  ·exact List.mem_cons_self
  ·exact List.mem_cons_of_mem _ (List.mem_map_of_mem hq)
theorem Left0.perm{p q q':Led}{sz:Nat}{h h':Heap}(L:Left0 p q sz h h')(e:q.Perm q'):Left0 p q' sz h h' :=
 ⟨L.frame,fun x hx=>L.here x (e.mem_iff.mpr hx),(e.map _).nodup_iff.mp L.nodup,fun x hx=>L.from_ x (e.mem_iff.mpr hx),L.size,L.grows⟩
noncomputable def svL (ts:List Str):(Nat→Nat)→List Value:=match ts with
 | []=>fun _=>[]
 | s::ts=>fun t=>.str s (t 0)::svL ts (fun i=>t (i+1))
noncomputable def svA (ts:List Str)(t:Nat→Nat):Array Value:=(svL ts t).toArray
theorem Vu:∀(ts:List Str)(t:Nat→Nat),(svL ts t).length=ts.length
 | [],_=>rfl
 | _::ts,t=>by show _+1=_+1;rw[Vu ts]
theorem Z6(ts:List Str)(t:Nat→Nat):(svA ts t).size=ts.length:=by unfold svA;rw[List.size_toArray,Vu]
theorem QI:∀(ts:List Str)(n:Nat)(t:Nat→Nat),(∀ i,t i=n+i)→strsFrom n ts=svL ts t
 | [],_,_,_=>rfl
 | s::ts,n,t,h=>by
  show Value.str s n::_=Value.str s (t 0)::_
  rw[h 0,QI ts (n+1) (fun i=>t (i+1)) fun i=>by rw[h];omega]
  rfl
noncomputable def K5 (a:Nat)(f:Nat→Nat):Nat→Nat:=fun i=>if i<20 then a else f (i-20)
theorem VY(a:Nat)(f:Nat→Nat):(fun i=>K5 a f (i+20))=f:=by
 funext i
 unfold K5
 rw[if_neg (by omega)]
 congr 1
theorem Yh{a:Addr}{xs:Array Value}{n:Nat}{s:Shared}(h:s.heap.get? a=some (Z0 xs n)):s.TypeIs (.ref a) "list":=⟨_,h,rfl⟩
theorem ZP{w:World}{T:String}{name:Str}{id:String}{Bt:Builtin}{A:Around}{s:Shared}{R:Result→Shared→Prop}{self:Value}{rest:List Value}(slot:Slot T name id)(hT:s.TypeIs self T)(entry:entryFor table id=some Bt)(ha:argsOk id ⟨self::rest,[]⟩)
  (h:wpAny (MD w) A.in1 (Bt ⟨self::rest,[]⟩) (fun fin s'=>∃ v,fin=.done (.ret v)∧R (.ok (.ret v)) s') (fun e s'=>R (.error e) s') s):codeAny (MD w) A (.call (.builtin id) ⟨self::rest,[]⟩) R s :=
 codeAny_call_builtin slot.plain entry (slot.check _ _ _ _ _ _ _ _ hT ha (wpAny_mono h (fun fin s' h'=>by obtain ⟨v,rfl,hv⟩:=h';exact hv) fun _ _ e=>e))
noncomputable def Y6 (xs:Array Value)(i:Int)(v:Value):Prop:=(∃ j:Nat,i=Int.ofNat j∧j<2 ^ 63∧xs[j]?=some v)∨(∃ j:Nat,i=Int.negSucc j∧j<2 ^ 62∧j<xs.size∧xs[xs.size-1-j]?=some v)
noncomputable def Ze (a:Addr)(xs:Array Value)(n:Nat)(i:Int)(v:Value):PItem:=⟨false,"list.__getitem__",[.ref a,.int i 0],[(a,Z0 xs n)],fun _ _=>v,0⟩
theorem Z2v{M:Model}{A:Around}{s:Shared}{R:Result→Shared→Prop}{a:Addr}{xs:Array Value}{n:Nat}{i:Int}{t:Tok}{v:Value}(ho:s.heap.get? a=some (Z0 xs n))(h:Y6 xs i v)(hR:R (.ok (.ret v)) s) :
  wpAny M A (Builtin.«list.__getitem__» ⟨[.ref a,.int i t],[]⟩) (fun fin s'=>∃ v,fin=.done (.ret v)∧R (.ok (.ret v)) s') (fun e s'=>R (.error e) s') s:=by
 have hf:Builtin.List.listFitsIndex i=true:=by
  rcases h with ⟨j,rfl,hj,hx⟩ | ⟨j,rfl,hj,hlt,hx⟩
  ·exact fitsIndex_of (Int.natCast_nonneg j) (Int.ofNat_lt.mpr hj)
  ·exact fitsIndex_neg (Int.negSucc_lt_zero j) (by rw[Int.negSucc_eq];omega)
 have h':(∃ j:Nat,i=Int.ofNat j∧xs[j]?=some v)∨(∃ j:Nat,i=Int.negSucc j∧j<xs.size∧xs[xs.size-1-j]?=some v):=by
  rcases h with ⟨j,h1,_,h2⟩ | ⟨j,h1,_,h2,h3⟩
  ·exact .inl ⟨j,h1,h2⟩
  ·exact .inr ⟨j,h1,h2,h3⟩
 clear h
 show wpAny _ _ (Builtin.List.listSubscript? (.int i t) >>= _) _ _ s
 refine wpAny_bind (wpAny_listSubscript_int hf ?_)
 clear hf
 rcases h' with ⟨j,rfl,hx⟩ | ⟨j,rfl,hlt,hx⟩
 ·show wpAny _ _ ((seqItemAt a j >>= fun r=>pure (r.map (j,·))) >>= _) _ _ s
  refine wpAny_bind (wpAny_bind (wpAny_seqItemAt ho rfl (wpAny_pure ?_)))
  rw[hx]
  exact wpAny_bind (wpAny_pure (wpAny_pure ⟨v,rfl,hR⟩))
 ·have h0:Int.negSucc j<0:=Int.negSucc_lt_zero j
  have h1:-(xs.size:Int)≤Int.negSucc j:=by rw[Int.negSucc_eq];omega
  show wpAny _ _ ((Builtin.List.listItems (.ref a) >>= fun ys=>pure ((seqIndex? (Int.negSucc j) ys.size).bind fun i=>ys[i]?.map (i,·))) >>= _) _ _ s
  refine wpAny_bind (wpAny_bind ?_)
  show wpAny _ _ (seqItems? (.ref a) >>= _) _ _ s
  refine wpAny_bind (wpAny_seqItems ho rfl (wpAny_pure (wpAny_pure ?_)))
  rw[seqIndex_neg h0 h1]
  have e:(Int.negSucc j+xs.size).toNat=xs.size-1-j:=by rw[Int.negSucc_eq];exact nb7 hlt
  simp only[Option.bind_some,e,hx,Option.map_some]
  exact wpAny_bind (wpAny_pure (wpAny_pure ⟨v,rfl,hR⟩))
theorem Z7{w:World}{a:Addr}{xs:Array Value}{n:Nat}{i:Int}{v:Value}(h:Y6 xs i v):POK w (Ze a xs n i v):=by
 intro Γ p s Rr args he hpre hR
 obtain ⟨u,u2,rfl,e1,e2⟩:=Zj he
 obtain rfl:=Z5 e1
 obtain ⟨t,rfl⟩:=Zt e2
 have ho:=hpre _ (.head _)
 exact ZF (f:=.builtin "list.__getitem__") (wpAny_call_entry F.slot_list_getitem (Yh ho) F.entry_list_getitem (wpAny_mono (Z2v (R:=fun r s'=>match r with | .ok (.ret v)=>Rr (.ok (.ret v)) s' | .error e=>Rr (.error e) s' | _=>False) ho h hR) (fun _ _ x=>x) fun _ _ x=>x) (F.args_list_getitem_2 _ _))
noncomputable def Z30 (a:Addr)(xs:Array Value)(n:Nat)(i:Int)(x:Value)(f:(Nat→Nat)→Value)(j:Nat):FItem:=bI "list.__setitem__" [.ref a,.int i 0,x] [(a,Z0 xs n)] fun sz tk l=>⟨.ok (.ret .none),[(a,Z0 (xs.setIfInBounds j (f l)) n)],sz,tk,fun g=>g,[]⟩
theorem Vf(xs:Array Value)(n j:Nat)(v:Value):Obj.mapSeq (·.setIfInBounds j v) (Z0 xs n)=Z0 (xs.setIfInBounds j v) n:=by
 unfold Obj.mapSeq Z0
 simp
theorem Z1M{M:Model}{A:Around}{s:Shared}{R:Result→Shared→Prop}{a:Addr}{xs:Array Value}{n:Nat}{i:Int}{t:Tok}{v:Value}(ho:s.heap.get? a=some (Z0 xs n))(hi:i=Int.negSucc 0)(hlt:0<xs.size)
  (key:R (.ok (.ret .none)) { s with heap:=s.heap.update a (Obj.mapSeq (·.setIfInBounds (xs.size-1) v)) }) :
  wpAny M A (Builtin.«list.__setitem__» ⟨[.ref a,.int i t,v],[]⟩) (fun fin s'=>∃ v,fin=.done (.ret v)∧R (.ok (.ret v)) s') (fun e s'=>R (.error e) s') s:=by
 have hf:Builtin.List.listFitsIndex i=true:=by rw[hi];exact fitsIndex_neg (Int.negSucc_lt_zero 0) (by decide)
 show wpAny _ _ (Builtin.List.listSubscript? (.int i t) >>= _) _ _ s
 refine wpAny_bind (wpAny_listSubscript_int hf ?_)
 clear hf
 subst hi
 have h0:Int.negSucc 0<0:=Int.negSucc_lt_zero 0
 have h1:-(xs.size:Int)≤Int.negSucc 0:=by rw[Int.negSucc_eq];omega
 show wpAny _ _ ((Builtin.List.listItems (.ref a) >>= fun ys=>pure ((seqIndex? (Int.negSucc 0) ys.size).bind fun i=>ys[i]?.map (i,·))) >>= _) _ _ s
 refine wpAny_bind (wpAny_bind ?_)
 show wpAny _ _ (seqItems? (.ref a) >>= _) _ _ s
 refine wpAny_bind (wpAny_seqItems ho rfl (wpAny_pure (wpAny_pure ?_)))
 rw[seqIndex_neg h0 h1]
 have e:(Int.negSucc 0+xs.size).toNat=xs.size-1:=by rw[Int.negSucc_eq];exact nb7 hlt
 have hx:xs[xs.size-1]?=some xs[xs.size-1]:=Array.getElem?_eq_getElem (by omega)
 simp only[Option.bind_some,e,hx,Option.map_some]
 show wpAny _ _ (setSeqItemAt a (xs.size-1) v >>= _) _ _ s
 refine wpAny_bind (wpAny_setSeqItemAt ho rfl ?_)
 exact wpAny_bind (wpAny_pure (wpAny_pure ⟨.none,rfl,key⟩))
theorem V8{w:World}{a:Addr}{xs:Array Value}{n:Nat}{x:Str}(h:0<xs.size):OK w (Z30 a xs n (Int.negSucc 0) (.str x 0) (fun l=>.str x (l 0)) (xs.size-1)):=by
 refine Yd (fun _ _ _=>⟨rfl,rfl⟩) fun A s R args hA he hh hG=>?_
 obtain ⟨u,u2,u3,rfl,e1,e2,e3⟩:=Y1 he
 obtain rfl:=Z5 e1
 obtain ⟨t,rfl⟩:=Zt e2
 obtain ⟨t3,rfl⟩:=Zk e3
 have ho:=hh.2 _ (.head _)
 refine ZP F.slot_list_setitem (Yh ho) F.entry_list_setitem (F.args_list_setitem_3 _ _ _) (Z1M ho rfl h ?_)
 have L:=ZK hh (f:=Obj.mapSeq (·.setIfInBounds (xs.size-1) (.str x t3))) (by rw[Vf];rfl)
 rw[Vf] at L
 exact hG (fun _=>t3) _ L
noncomputable def NC (a:Addr)(xs:Array Value)(n:Nat)(x:Value)(f:(Nat→Nat)→Value):FItem:=bI "list.append" [.ref a,x] [(a,Z0 xs n)] fun sz tk l=>⟨.ok (.ret .none),[(a,Z0 (xs.push (f l)) (n+1))],sz,tk,fun g=>g,[]⟩
theorem KG{w:World}{A:Around}{s:Shared}{R:Result→Shared→Prop}{a:Addr}{xs:Array Value}{n:Nat}{v:Value}{out:Nat→Nat→(Nat→Nat)→FOut}(hs:xs.size<sizeLine)(hh:Here [(a,Z0 xs n)] s)(l:Nat→Nat)
  (ho:out s.heap.objs.size s.toks l=⟨.ok (.ret .none),[(a,Z0 (xs.push v) (n+1))],s.heap.objs.size,s.toks,fun g=>g,[]⟩)(hG:Goal [(a,Z0 xs n)] out R s):codeAny (MD w) A (.call (.builtin "list.append") ⟨[.ref a,v],[]⟩) R s:=by
 have h1:=hh.2 _ (.head _)
 have L:=ZK hh (f:=Obj.mapSeq (·.push v)) (by rw[Yg];rfl)
 rw[Yg] at L
 have key:=hG l (s.heap.update a (Obj.mapSeq (·.push v))) (by rw[ho];exact L)
 rw[ho] at key
 exact codeAny_call_builtin F.slot_list_append.plain F.entry_list_append (F.slot_list_append.check _ _ _ _ _ _ _ _ (Yh h1) (F.args_list_append_2 _ _) (PySem.list_append a xs n v (Nat.le_of_lt hs) _ w A R s ⟨h1,key⟩))
theorem UO{w:World}{a:Addr}{xs:Array Value}{n:Nat}{x:Str}(hs:xs.size<sizeLine):OK w (NC a xs n (.str x 0) fun l=>.str x (l 0)):=by
 refine Yd (fun _ _ _=>⟨rfl,rfl⟩) fun A s R args hA he hh hG=>?_
 obtain ⟨u,u2,rfl,e1,e2⟩:=Zj he
 obtain rfl:=Z5 e1
 obtain ⟨t,rfl⟩:=Zk e2
 exact KG hs hh (fun _=>t) rfl hG
theorem UP{w:World}{a b:Addr}{xs:Array Value}{n:Nat}(hs:xs.size<sizeLine):OK w (NC a xs n (.ref b) fun _=>.ref b):=by
 refine Yd (fun _ _ _=>⟨rfl,rfl⟩) fun A s R args hA he hh hG=>?_
 obtain ⟨u,u2,rfl,e1,e2⟩:=Zj he
 obtain rfl:=Z5 e1
 obtain rfl:=Z5 e2
 exact KG hs hh (fun _=>0) rfl hG
noncomputable def VV (a b:Addr)(xs ys:Array Value)(n m:Nat):FItem:=bI "list.__add__" [.ref a,.ref b] [(a,Z0 xs n),(b,Z0 ys m)] fun sz tk l=>⟨.ok (.ret (.ref sz)),[(sz,Z0 (xs++ys) 0),(a,Z0 xs n),(b,Z0 ys m)],sz+1,tk,fun g=>g,[]⟩
theorem QA{w:World}{a b:Addr}{xs ys:Array Value}{n m:Nat}(hs:xs.size+ys.size≤sizeLine):OK w (VV a b xs ys n m):=by
 refine Qr F.slot_list_add F.entry_list_add (fun _ _ _=>⟨rfl,rfl⟩) fun args he=>?_
 obtain ⟨u,u2,rfl,e1,e2⟩:=Zj he
 obtain rfl:=Z5 e1
 obtain rfl:=Z5 e2
 refine ⟨_,_,rfl,fun s hh=>Yh (hh.2 _ (.head _)),F.args_list_add_2 _ _,_,AutoSeq1.list___add___list_list_0 _ xs n _ ys m hs,fun A s R hA hh hG=>⟨hh.2 _ (.head _),hh.2 _ (.tail _ (.head _)),?_⟩⟩
 exact hG (fun _=>0) _ (ZZ hh (o:=Z0 (xs++ys) 0) rfl)
end
section
open Sem (wp finPost)
noncomputable def itO (cls:String)(x:Value)(i:Nat):Obj:=⟨.type cls,none,.fields #[x,.int (Int.ofNat i) 0],#[]⟩
noncomputable def stO (t:Nat):Obj:=⟨.type "StopIteration",none,.fields #[.ref t,.none,.none,.none,.bool false,.none],#[]⟩
theorem Kc{α:Type}{M:Model}{A:Around}{s:Shared}{Q:α→Shared→Prop}{E:Value→Shared→Prop}(hA:A.handled=none)
  (h:E (.ref (s.heap.objs.size+1)) { s with heap:=(s.heap.push (Y5 [] 0)).push (stO s.heap.objs.size) }):wpAny M A (do raiseNew (←newExc (.type "StopIteration") [])) Q E s:=by
 refine wpAny_bind ?_
 simp only[newExc,newTuple]
 refine wpAny_bind (wpAny_newObj_type ?_ (by size_fits))
 refine wpAny_bind (m:=firstArgMember _ _) (wpAny_of_eq (a:=Value.none) (by first | rfl | (simp only[firstArgMember];rfl)) ?_)
 refine wpAny_newObj_type ?_ (by size_fits)
 simp only[raiseNew]
 refine wpAny_bind (wpAny_handled ?_)
 rw[hA]
 refine wpAny_bind (wpAny_pure (wpAny_throw ?_))
 rw[Heap.size_push]
 exact h
theorem Jo{pre:Led}{s:Shared}(h:Here pre s):Left0 pre ((s.heap.objs.size+1,stO s.heap.objs.size)::(s.heap.objs.size,Y5 [] 0)::pre) (s.heap.objs.size+2) s.heap ((s.heap.push (Y5 [] 0)).push (stO s.heap.objs.size)):=by
 have L:=ZZ h (o:=Y5 [] 0) rfl
 have h2:=Here.left L s.gens s.drawn s.toks s.os
 have L2:=ZZ h2 (o:=stO s.heap.objs.size) rfl
 have e:(⟨s.heap.push (Y5 [] 0),s.gens,s.drawn,s.toks,s.os⟩:Shared).heap.objs.size=s.heap.objs.size+1:=Heap.size_push _ _
 rw[e] at L2
 exact Q8 L L2
noncomputable def ZX (it a:Addr)(xs:Array Value)(n i:Nat)(v:Value):FItem:=bI "list_iterator.__next__" [.ref it] [(it,itO "list_iterator" (.ref a) i),(a,Z0 xs n)] fun sz tk l=>⟨.ok (.ret v),[(it,itO "list_iterator" (.ref a) (i+1)),(a,Z0 xs n)],sz,tk,fun g=>g,[]⟩
theorem VN(cls:String)(x:Value)(i:Nat):Obj.mapFields (·.setIfInBounds 1 (rawInt ((i:Int)+1))) (itO cls x i)=itO cls x (i+1):=rfl
theorem N6(cls:String)(x:Value)(i:Nat):Obj.mapFields (·.setIfInBounds 0 .none) (itO cls x i)=itO cls .none i:=rfl
theorem ZE{w:World}{it a:Addr}{xs:Array Value}{n i:Nat}{v:Value}(hx:xs[i]?=some v):OK w (ZX it a xs n i v):=by
 refine Yd (fun _ _ _=>⟨rfl,rfl⟩) fun A s R args hA he hh hG=>?_
 obtain ⟨u,rfl,e1⟩:=Z4 he
 obtain rfl:=Z5 e1
 have ho:=hh.2 _ (.head _)
 have hl:=hh.2 _ (.tail _ (.head _))
 refine ZP slot_listiter_next ⟨_,ho,rfl⟩ entry_listiter_next (args_listiter_next _) ?_
 show wpAny _ _ (field (.ref it) 0 >>= _) _ _ s
 refine wpAny_bind (wpAny_field ho rfl (x:=.ref a) rfl ?_)
 show wpAny _ _ (if (Value.ref a==Value.none)=true then _ else _) _ _ s
 rw[if_neg (show ¬((Value.ref a==Value.none)=true) from Bool.false_ne_true)]
 show wpAny _ _ (field (.ref it) 1 >>= _) _ _ s
 refine wpAny_bind (wpAny_field ho rfl (x:=.int i 0) rfl ?_)
 show wpAny _ _ (seqItems? (.ref a) >>= _) _ _ s
 refine wpAny_bind (wpAny_seqItems hl rfl ?_)
 simp only[Int.toNat_natCast,hx]
 have L:=ZK hh (f:=Obj.mapFields (·.setIfInBounds 1 (rawInt ((i:Int)+1)))) rfl
 rw[VN] at L
 exact wpAny_bind (wpAny_setField ho rfl (by simp) (wpAny_pure ⟨v,rfl,hG (fun _=>0) _ L⟩))
noncomputable def K4 (it a:Addr)(xs:Array Value)(n i:Nat):FItem:=bI "list_iterator.__next__" [.ref it] [(it,itO "list_iterator" (.ref a) i),(a,Z0 xs n)] fun sz tk l=>⟨.error (.ref (sz+1)),[(sz+1,stO sz),(sz,Y5 [] 0),(it,itO "list_iterator" .none i),(a,Z0 xs n)],sz+2,tk,fun g=>g,[]⟩
theorem Jm{w:World}{it a:Addr}{xs:Array Value}{n i:Nat}(hx:xs.size≤i):OK w (K4 it a xs n i):=by
 refine Yd (fun _ _ _=>⟨rfl,rfl⟩) fun A s R args hA he hh hG=>?_
 obtain ⟨u,rfl,e1⟩:=Z4 he
 obtain rfl:=Z5 e1
 have ho:=hh.2 _ (.head _)
 have hl:=hh.2 _ (.tail _ (.head _))
 have hx':xs[i]?=none:=Array.getElem?_eq_none hx
 refine ZP slot_listiter_next ⟨_,ho,rfl⟩ entry_listiter_next (args_listiter_next _) ?_
 show wpAny _ _ (field (.ref it) 0 >>= _) _ _ s
 refine wpAny_bind (wpAny_field ho rfl (x:=.ref a) rfl ?_)
 show wpAny _ _ (if (Value.ref a==Value.none)=true then _ else _) _ _ s
 rw[if_neg (show ¬((Value.ref a==Value.none)=true) from Bool.false_ne_true)]
 show wpAny _ _ (field (.ref it) 1 >>= _) _ _ s
 refine wpAny_bind (wpAny_field ho rfl (x:=.int i 0) rfl ?_)
 show wpAny _ _ (seqItems? (.ref a) >>= _) _ _ s
 refine wpAny_bind (wpAny_seqItems hl rfl ?_)
 simp only[Int.toNat_natCast,hx']
 have L:=ZK hh (f:=Obj.mapFields (·.setIfInBounds 0 .none)) rfl
 rw[N6] at L
 refine wpAny_bind (wpAny_rule (wpAny_bind (wpAny_setField ho rfl (by simp) ?_)))
 have L2:=Q8 L (Jo (Here.left L s.gens s.drawn s.toks s.os))
 have e:(s.heap.update it (Obj.mapFields (·.setIfInBounds 0 .none))).objs.size=s.heap.objs.size:=L.size
 refine Kc (s:={ s with heap:=s.heap.update it (Obj.mapFields (·.setIfInBounds 0 .none)) }) hA ?_
 have key:=hG (fun _=>0) _ (by
  have:=L2
  rw[show (⟨s.heap.update it (Obj.mapFields (·.setIfInBounds 0 .none)),s.gens,s.drawn,s.toks,s.os⟩:Shared).heap.objs.size=s.heap.objs.size from e] at this
  exact this)
 show R (.error (.ref ((s.heap.update it _).objs.size+1))) _
 rw[e]
 exact key
noncomputable def rgO (a b c:Int)(t u v:Nat):Obj:=⟨.type "range",none,.fields #[.int a t,.int b u,.int c v],#[]⟩
noncomputable def riO (x left step:Int):Obj:=⟨.type "range_iterator",none,.fields #[rawInt x,rawInt left,rawInt step],#[]⟩
noncomputable def Y3 (r:Addr)(a b c:Int)(t u v:Nat)(n:Int):FItem:=bI "range.__iter__" [.ref r] [(r,rgO a b c t u v)] fun sz tk l=>⟨.ok (.ret (.ref sz)),[(sz,riO a n c),(r,rgO a b c t u v)],sz+1,tk,fun g=>g,[]⟩
theorem ZJ{w:World}{r:Addr}{a b c:Int}{t u v:Nat}{n:Int}(hs:Builtin.Range.small a b c=true)(hn:Builtin.Range.rangeSize a b c=n):OK w (Y3 r a b c t u v n):=by
 subst hn
 refine Qr F.slot_range_iter F.entry_range_iter (fun _ _ _=>⟨rfl,rfl⟩) fun args he=>?_
 obtain ⟨x,rfl,e1⟩:=Z4 he
 obtain rfl:=Z5 e1
 refine ⟨_,_,rfl,fun s hh=>⟨_,hh.2 _ (.head _),rfl⟩,F.args_range_iter_1 _,_,AutoRange.range___iter___range_1 r a b c t u v (by unfold Builtin.Range.small at hs;simp[hs]),fun A s R hA hh hG=>⟨hh.2 _ (.head _),?_⟩⟩
 unfold Builtin.Range.small at hs
 simp only[hs,if_true]
 exact hG (fun _=>0) _ (ZZ hh (o:=riO a (Builtin.Range.rangeSize a b c) c) rfl)
noncomputable def Zw (it:Addr)(x left step:Int)(y left':Int):FItem:=bI "range_iterator.__next__" [.ref it] [(it,riO x left step)] fun sz tk l=>⟨.ok (.ret (.int x tk)),[(it,riO y left' step)],sz,tk+1,fun g=>g,[]⟩
theorem Zp{w:World}{it:Addr}{x left step y left':Int}(hl:0<left)(hy:x+step=y)(hl':left-1=left'):OK w (Zw it x left step y left'):=by
 subst hy hl'
 refine Qr F.slot_range_iterator_next F.entry_range_iterator_next (fun _ _ _=>⟨rfl,rfl⟩) fun args he=>?_
 obtain ⟨u,rfl,e1⟩:=Z4 he
 obtain rfl:=Z5 e1
 refine ⟨_,_,rfl,fun s hh=>⟨_,hh.2 _ (.head _),rfl⟩,F.args_range_iterator_next_1 _,_,AutoRange.range_iterator___next___range_iterator_1 it x left step (by omega),fun A s R hA hh hG=>⟨hh.2 _ (.head _),?_⟩⟩
 have L:=ZK hh (f:=Obj.mapFields fun x_1=>x_1.setIfInBounds 0 (rawInt (x+step))) rfl
 have L2:=ZK (Here.left L s.gens s.drawn s.toks s.os) (f:=Obj.mapFields fun x=>x.setIfInBounds 1 (rawInt (left-1))) rfl
 have L3:=Q8 L L2
 rw[show (⟨s.heap.update it (Obj.mapFields fun x_1=>x_1.setIfInBounds 0 (rawInt (x+step))),s.gens,s.drawn,s.toks,s.os⟩:Shared).heap.objs.size=s.heap.objs.size from L.size] at L3
 exact hG (fun _=>0) _ L3
noncomputable def K3 (it:Addr)(x left step:Int):FItem:=bI "range_iterator.__next__" [.ref it] [(it,riO x left step)] fun sz tk l=>⟨.error (.ref (sz+1)),[(sz+1,stO sz),(sz,Y5 [] 0),(it,riO x left step)],sz+2,tk,fun g=>g,[]⟩
theorem Jl{w:World}{it:Addr}{x left step:Int}(hl:left≤0):OK w (K3 it x left step):=by
 refine Yd (fun _ _ _=>⟨rfl,rfl⟩) fun A s R args hA he hh hG=>?_
 obtain ⟨u,rfl,e1⟩:=Z4 he
 obtain rfl:=Z5 e1
 have ho:=hh.2 _ (.head _)
 refine ZP F.slot_range_iterator_next ⟨_,ho,rfl⟩ F.entry_range_iterator_next (F.args_range_iterator_next_1 _) ?_
 show wpAny _ _ (field (.ref it) 0 >>= _) _ _ s
 refine wpAny_bind (wpAny_field ho rfl (x:=rawInt x) rfl ?_)
 show wpAny _ _ (field (.ref it) 1 >>= _) _ _ s
 refine wpAny_bind (wpAny_field ho rfl (x:=rawInt left) rfl ?_)
 show wpAny _ _ (field (.ref it) 2 >>= _) _ _ s
 refine wpAny_bind (wpAny_field ho rfl (x:=rawInt step) rfl ?_)
 show wpAny _ _ (if left≤0 then _ else _) _ _ s
 rw[if_pos hl]
 refine wpAny_bind (wpAny_rule (wpAny_bind ?_))
 exact Kc (s:=s) (E:=fun e s'=>R (.error e) s') hA (hG (fun _=>0) _ (Jo hh))
noncomputable def ZR (c:String)(it:Addr)(x:Str)(t i k:Nat):FItem:=bI (c++".__next__") [.ref it] [(it,itO c (.str x t) i)] fun sz tk l=>⟨.ok (.ret (.str ⟨#[k]⟩ tk)),[(it,itO c (.str x t) (i+1))],sz,tk+1,fun g=>g,[]⟩
theorem Y9{w:World}{it:Addr}{x:Str}{t i k:Nat}(hx:x.cps[i]?=some k):OK w (ZR "str_ascii_iterator" it x t i k):=by
 refine Yd (fun _ _ _=>⟨rfl,rfl⟩) fun A s R args hA he hh hG=>?_
 obtain ⟨u,rfl,e1⟩:=Z4 he
 obtain rfl:=Z5 e1
 have ho:=hh.2 _ (.head _)
 refine ZP F.slot_str_ascii_iterator_next ⟨_,ho,rfl⟩ F.entry_str_ascii_iterator_next (F.args_str_ascii_iterator_next_1 _) ?_
 show wpAny _ _ (field (.ref it) 0 >>= _) _ _ s
 refine wpAny_bind (wpAny_field ho rfl (x:=.str x t) rfl ?_)
 show wpAny _ _ (field (.ref it) 1 >>= _) _ _ s
 refine wpAny_bind (wpAny_field ho rfl (x:=.int i 0) rfl ?_)
 simp only[Int.toNat_natCast,hx]
 have L:=ZK hh (f:=Obj.mapFields (·.setIfInBounds 1 (rawInt ((i:Int)+1)))) rfl
 rw[VN] at L
 exact wpAny_bind (wpAny_setField ho rfl (by simp) (wpAny_bind (wpAny_mkStr (wpAny_pure ⟨_,rfl,hG (fun _=>0) _ L⟩) (by show 1≤sizeLine;decide))))
theorem Y8{w:World}{it:Addr}{x:Str}{t i k:Nat}(hx:x.cps[i]?=some k):OK w (ZR "str_iterator" it x t i k):=by
 refine Yd (fun _ _ _=>⟨rfl,rfl⟩) fun A s R args hA he hh hG=>?_
 obtain ⟨u,rfl,e1⟩:=Z4 he
 obtain rfl:=Z5 e1
 have ho:=hh.2 _ (.head _)
 refine ZP F.slot_str_iterator_next ⟨_,ho,rfl⟩ F.entry_str_iterator_next (F.args_str_iterator_next_1 _) ?_
 show wpAny _ _ (field (.ref it) 0 >>= _) _ _ s
 refine wpAny_bind (wpAny_field ho rfl (x:=.str x t) rfl ?_)
 show wpAny _ _ (field (.ref it) 1 >>= _) _ _ s
 refine wpAny_bind (wpAny_field ho rfl (x:=.int i 0) rfl ?_)
 simp only[Int.toNat_natCast,hx]
 have L:=ZK hh (f:=Obj.mapFields (·.setIfInBounds 1 (rawInt ((i:Int)+1)))) rfl
 rw[VN] at L
 exact wpAny_bind (wpAny_setField ho rfl (by simp) (wpAny_bind (wpAny_mkStr (wpAny_pure ⟨_,rfl,hG (fun _=>0) _ L⟩) (by show 1≤sizeLine;decide))))
noncomputable def K2 (c:String)(it:Addr)(x:Str)(t i:Nat):FItem:=bI (c++".__next__") [.ref it] [(it,itO c (.str x t) i)] fun sz tk l=>⟨.error (.ref (sz+1)),[(sz+1,stO sz),(sz,Y5 [] 0),(it,itO c .none i)],sz+2,tk,fun g=>g,[]⟩
theorem Ua{M:Model}{A:Around}{s:Shared}{R:Result→Shared→Prop}{Q:PySem.Fin→Shared→Prop}{c:String}{it:Addr}{x:Str}{t i:Nat}(hA:A.handled=none)(hh:Here [(it,itO c (.str x t) i)] s)
  (hG:Goal [(it,itO c (.str x t) i)] (fun sz tk l=>⟨.error (.ref (sz+1)),[(sz+1,stO sz),(sz,Y5 [] 0),(it,itO c .none i)],sz+2,tk,fun g=>g,[]⟩) R s) :
  wpAny M A (do setField (.ref it) 0 .none;letGo [.str x t];raiseNew (←newExc (.type "StopIteration") [])) Q (fun e s'=>R (.error e) s') s:=by
 have ho:=hh.2 _ (.head _)
 have L:=ZK hh (f:=Obj.mapFields (·.setIfInBounds 0 .none)) rfl
 rw[N6] at L
 refine wpAny_bind (wpAny_setField ho rfl (by simp) (wpAny_bind (wpAny_letGo ?_)))
 have L2:=Q8 L (Jo (Here.left L s.gens s.drawn s.toks s.os))
 have e:(s.heap.update it (Obj.mapFields (·.setIfInBounds 0 .none))).objs.size=s.heap.objs.size:=L.size
 refine Kc (s:={ s with heap:=s.heap.update it (Obj.mapFields (·.setIfInBounds 0 .none)) }) hA ?_
 have key:=hG (fun _=>0) _ (by
  have:=L2
  rw[show (⟨s.heap.update it (Obj.mapFields (·.setIfInBounds 0 .none)),s.gens,s.drawn,s.toks,s.os⟩:Shared).heap.objs.size=s.heap.objs.size from e] at this
  exact this)
 show R (.error (.ref ((s.heap.update it _).objs.size+1))) _
 rw[e]
 exact key
theorem Va{w:World}{it:Addr}{x:Str}{t i:Nat}(hx:x.length≤i):OK w (K2 "str_ascii_iterator" it x t i):=by
 refine Yd (fun _ _ _=>⟨rfl,rfl⟩) fun A s R args hA he hh hG=>?_
 obtain ⟨u,rfl,e1⟩:=Z4 he
 obtain rfl:=Z5 e1
 have ho:=hh.2 _ (.head _)
 have hx':x.cps[i]?=none:=Array.getElem?_eq_none hx
 refine ZP F.slot_str_ascii_iterator_next ⟨_,ho,rfl⟩ F.entry_str_ascii_iterator_next (F.args_str_ascii_iterator_next_1 _) ?_
 show wpAny _ _ (field (.ref it) 0 >>= _) _ _ s
 refine wpAny_bind (wpAny_field ho rfl (x:=.str x t) rfl ?_)
 show wpAny _ _ (field (.ref it) 1 >>= _) _ _ s
 refine wpAny_bind (wpAny_field ho rfl (x:=.int i 0) rfl ?_)
 simp only[Int.toNat_natCast,hx']
 exact wpAny_bind (wpAny_rule (Ua hA hh hG))
theorem V9{w:World}{it:Addr}{x:Str}{t i:Nat}(hx:x.length≤i):OK w (K2 "str_iterator" it x t i):=by
 refine Yd (fun _ _ _=>⟨rfl,rfl⟩) fun A s R args hA he hh hG=>?_
 obtain ⟨u,rfl,e1⟩:=Z4 he
 obtain rfl:=Z5 e1
 have ho:=hh.2 _ (.head _)
 have hx':x.cps[i]?=none:=Array.getElem?_eq_none hx
 refine ZP F.slot_str_iterator_next ⟨_,ho,rfl⟩ F.entry_str_iterator_next (F.args_str_iterator_next_1 _) ?_
 show wpAny _ _ (field (.ref it) 0 >>= _) _ _ s
 refine wpAny_bind (wpAny_field ho rfl (x:=.str x t) rfl ?_)
 show wpAny _ _ (field (.ref it) 1 >>= _) _ _ s
 refine wpAny_bind (wpAny_field ho rfl (x:=.int i 0) rfl ?_)
 simp only[Int.toNat_natCast,hx']
 exact wpAny_bind (wpAny_rule (Ua hA hh hG))
noncomputable def YU (x:Str)(c:String):FItem:=bI "str.__iter__" [.str x 0] [] fun sz tk l=>⟨.ok (.ret (.ref sz)),[(sz,itO c (.str x (l 0)) 0)],sz+1,tk,fun g=>g,[]⟩
theorem YF{w:World}{x:Str}{c:String}(hc:(if x.cps.all (·<128)=true then "str_ascii_iterator" else "str_iterator")=c):OK w (YU x c):=by
 refine Yd (fun _ _ _=>⟨rfl,rfl⟩) fun A s R args hA he hh hG=>?_
 obtain ⟨u,rfl,e1⟩:=Z4 he
 obtain ⟨t,rfl⟩:=Zk e1
 refine ZP F.slot_str_iter (typeIs_str s x t) F.entry_str_iter (F.args_str_iter_1 _) ?_
 show wpAny _ _ (do ret (←newFields (if (true&&x.cps.all (·<128))=true then "str_ascii_iterator" else "str_iterator") [.str x t,rawInt 0])) _ _ s
 rw[Bool.true_and,hc]
 exact wpAny_bind (wpAny_newObj_type (wpAny_pure ⟨_,rfl,hG (fun _=>t) _ (ZZ hh (o:=itO c (.str x t) 0) rfl)⟩))
end
section
open Sem (wp finPost)
noncomputable def sel (b:Bool)(x y:Nat):Nat:=bif b then x else y
noncomputable def mkS (l:List Nat):Str:=⟨l.toArray⟩
noncomputable def YI (as:List Value)(i:Nat):Tok:=K7 (as.getD i .none)
noncomputable def Qm (m:String)(x z:Str)(b:Bool):PItem:=⟨false,"str."++m,[.str x 0],[],fun t as=>.str z (sel b (YI as 0) t),sel b 0 1⟩
theorem UC(x:Str):strSub x 0 x.length=x:=by
 unfold strSub
 have:x.cps.extract 0 x.length=x.cps:=by
  show x.cps.extract 0 x.cps.size=_
  simp
 rw[this]
theorem JR {l r:Bool}{x:Str}{t:Tok}{Q:Value→Shared→Prop}{s:Shared}{b:Bool}(hb:stripSame Unicode.isSpace l r x=b)(hl:(PySem.stripped Unicode.isSpace l r x).length≤sizeLine)(h:Q (.str (PySem.stripped Unicode.isSpace l r x) (sel b t s.toks)) { s with toks:=s.toks+sel b 0 1 }) :
  (if stripSame Unicode.isSpace l r x then Made.val (.str x t) else .str (PySem.stripped Unicode.isSpace l r x)).post Q s:=by
 subst hb
 cases hb:stripSame Unicode.isSpace l r x with
 | true =>
  rw[hb] at h
  have e:PySem.stripped Unicode.isSpace l r x=x:=by
   unfold stripSame at hb
   simp only[Bool.and_eq_true,beq_iff_eq] at hb
   unfold PySem.stripped
   rw[hb.2,hb.1]
   exact UC x
  rw[e] at h
  exact h
 | false =>
  rw[hb] at h
  exact ⟨hl,h⟩
theorem Kn {w:World}{x z:Str}{b:Bool}(hb:stripSame Unicode.isSpace true true x=b)(hz:PySem.stripped Unicode.isSpace true true x=z)(hl:z.length≤sizeLine):POK w (Qm "strip" x z b):=by
 subst hz
 exact pv_s1 F.slot_str_strip F.entry_str_strip F.args_str_strip_1 (gives_str_strip x) fun t s Rr hR=>JR hb hl hR
theorem Vb {w:World}{x z:Str}{b:Bool}(hb:stripSame Unicode.isSpace false true x=b)(hz:PySem.stripped Unicode.isSpace false true x=z)(hl:z.length≤sizeLine):POK w (Qm "rstrip" x z b):=by
 subst hz
 exact pv_s1 F.slot_str_rstrip F.entry_str_rstrip F.args_str_rstrip_1 (gives_str_rstrip x) fun t s Rr hR=>JR hb hl hR
noncomputable def QF (x y z:Str)(b c:Bool):PItem:=⟨false,"str.__add__",[.str x 0,.str y 0],[],fun t as=>.str z (sel b (YI as 1) (sel c (YI as 0) t)),sel b 0 (sel c 0 1)⟩
theorem QM{x y:Str}(h:x.length=0):x++y=y:=by
 obtain ⟨x⟩:=x
 have:x=#[]:=Array.eq_empty_of_size_eq_zero h
 subst this
 show (⟨#[]++y.cps⟩:Str)=y
 simp
theorem QL{x y:Str}(h:y.length=0):x++y=x:=by
 obtain ⟨y⟩:=y
 have:y=#[]:=Array.eq_empty_of_size_eq_zero h
 subst this
 show (⟨x.cps++#[]⟩:Str)=x
 simp
theorem YV {w:World}{x y z:Str}{b c:Bool}(hz:x++y=z)(hb:(x.length==0)=b)(hc:(y.length==0)=c)(hl:z.length≤sizeLine):POK w (QF x y z b c):=by
 subst hz hb hc
 exact VC F.slot_str_add F.entry_str_add F.args_str_add_2 (gives_str_add x y) fun t u s Rr hR=>by
  cases hb:x.length==0 with
  | true =>
   rw[hb] at hR
   rw[QM (by simpa using hb)] at hR
   exact hR
  | false =>
   rw[hb] at hR
   cases hc:y.length==0 with
   | true =>
    rw[hc] at hR
    rw[QL (by simpa using hc)] at hR
    exact hR
   | false =>
    rw[hc] at hR
    exact ⟨hl,hR⟩
noncomputable def ZD (x y:Str)(r:Bool):PItem:=⟨false,"str.__le__",[.str x 0,.str y 0],[],fun _ _=>.bool r,0⟩
theorem Zx{w:World}{x y:Str}{r:Bool}(h:(!decide (y.cps.toList<x.cps.toList))=r):POK w (ZD x y r) :=
 VC F.slot_str_le F.entry_str_le F.args_str_le_2 (gives_str_le x y) fun t u s Rr hR=>by subst h;exact hR
noncomputable def Zl (a b c:Int):PItem:=⟨false,"int.__mod__",[.int a 0,.int b 0],[],fun t _=>.int c t,1⟩
theorem Z9 {w:World}{a b c:Int}(hb:(b==0)=false)(h:a.fmod b=c):POK w (Zl a b c) :=
 Z0i F.slot_int_mod F.entry_int_mod F.args_int_mod_2 (fun t u=>AutoIntG6.int___mod___int_int_1 a t b u (by simp[hb])) fun t u s Rr hR=>by subst h;exact hR
noncomputable def ZN (a b c:Int):PItem:=⟨false,"int.__floordiv__",[.int a 0,.int b 0],[],fun t _=>.int c t,1⟩
theorem Zz {w:World}{a b c:Int}(hb:(b==0)=false)(hp:Builtin.divisionGoesByPylong a b=false)(h:a.fdiv b=c):POK w (ZN a b c) :=
 Z0i F.slot_int_floordiv F.entry_int_floordiv F.args_int_floordiv_2 (fun t u=>AutoIntG4.int___floordiv___int_int_1 a t b u (by simp[hb]) (by simp[hp])) fun t u s Rr hR=>by subst h;exact hR
noncomputable def Z2Z (i:Int)(z:Str):PItem:=⟨false,"chr",[.int i 0],[],fun t _=>.str z t,1⟩
theorem Z1j{w:World}{i:Int}{z:Str}(h0:0≤i)(h1:i≤1114111)(hz:(⟨#[i.toNat]⟩:Str)=z):POK w (Z2Z i z):=by
 intro Γ p s Rr args he hpre hR
 obtain ⟨y,rfl,e1⟩:=Z4 he
 obtain ⟨t,rfl⟩:=Zt e1
 subst hz
 exact ZF (f:=.builtin "chr") (P.chr_of_int (by rw[decide_eq_false (by omega),decide_eq_false (by omega)];rfl) hR)
noncomputable def Yq (a b:Addr)(xs ys:Array Value)(n m:Nat):PItem:=⟨false,"list.__eq__",[.ref a,.ref b],[(a,Z0 xs n),(b,Z0 ys m)],fun _ _=>.bool false,0⟩
theorem ZT{w:World}{a b:Addr}{xs ys:Array Value}{n m:Nat}(h:(xs.size != ys.size)=true):POK w (Yq a b xs ys n m):=by
 intro Γ p s Rr args he hpre hR
 obtain ⟨u,u2,rfl,e1,e2⟩:=Zj he
 obtain rfl:=Z5 e1
 obtain rfl:=Z5 e2
 have h1:=hpre _ (.head _)
 have h2:=hpre _ (.tail _ (.head _))
 exact ZF (f:=.builtin "list.__eq__") (call_meets F.slot_list_eq (Yh h1) F.entry_list_eq (F.args_list_eq_2 _ _) (AutoSeq1.list___eq___list_list_0 a xs n b ys m h) ⟨h1,h2,hR⟩)
noncomputable def QO (a b:Addr)(xs ys:Array Value)(n m:Nat):PItem:=⟨false,"list.__ne__",[.ref a,.ref b],[(a,Z0 xs n),(b,Z0 ys m)],fun _ _=>.bool true,0⟩
theorem WY(l:Addr)(items:Array Value)(n:Nat)(b:Addr)(items2:Array Value)(n2:Nat)(hc0:(items.size != items2.size)=true) :
  Meets (Builtin.«list.__ne__» ⟨[.ref l,.ref b],[]⟩) (fun _ R s=>s.heap.get? l=some (Z0 items n)∧s.heap.get? b=some (Z0 items2 n2)∧R (.ok (.ret (Value.bool true))) s) :=
 .of_wp fun prog w A R s h=>by
  obtain ⟨hp,g,d,tk,os⟩:=s;obtain ⟨hl,hb,h⟩:=h
  unfold Z0 at hl hb
  have f1:=AutoSeq1.idx_int;have f2:=AutoSeq1.sub_tuple_tuple;have f3:=AutoSeq1.sub_list_list;have f4:=AutoSeq1.sub_tuple_list;have f5:=AutoSeq1.sub_list_tuple
  wp_walk using AutoSeq1.wpAny_loadPart' hl,AutoSeq1.wpAny_loadPart' hb
  exact ⟨_,rfl,h⟩
theorem Q3{w:World}{a b:Addr}{xs ys:Array Value}{n m:Nat}(h:(xs.size != ys.size)=true):POK w (QO a b xs ys n m):=by
 intro Γ p s Rr args he hpre hR
 obtain ⟨u,u2,rfl,e1,e2⟩:=Zj he
 obtain rfl:=Z5 e1
 obtain rfl:=Z5 e2
 have h1:=hpre _ (.head _)
 have h2:=hpre _ (.tail _ (.head _))
 exact ZF (f:=.builtin "list.__ne__") (call_meets F.slot_list_ne (Yh h1) F.entry_list_ne (F.args_list_ne_2 _ _) (WY a xs n b ys m h) ⟨h1,h2,hR⟩)
noncomputable def Zu (a:Addr)(xs:Array Value)(n k:Nat):PItem:=⟨false,"len",[.ref a],[(a,Z0 xs n)],fun t _=>.int (Int.ofNat k) (t+1),2⟩
theorem Zn{w:World}{a:Addr}{xs:Array Value}{n k:Nat}(hk:xs.size=k)(h:k<2 ^ 62):POK w (Zu a xs n k):=by
 intro Γ p s Rr args he hpre hR
 obtain ⟨u,rfl,e1⟩:=Z4 he
 obtain rfl:=Z5 e1
 have h1:=hpre _ (.head _)
 subst hk
 exact ZF (f:=.builtin "len") (Calls.call_len_list ⟨_,h1,rfl,n,rfl⟩ (by omega) hR)
noncomputable def slV (a b:Value):Obj:=⟨.type "slice",none,.fields #[a,b,.none],#[]⟩
noncomputable def VU (a sl:Addr)(xs:Array Value)(n:Nat)(vl vu:Value)(ys:Array Value):FItem:=bI "list.__getitem__" [.ref a,.ref sl] [(a,Z0 xs n),(sl,slV vl vu)] fun sz tk l=>⟨.ok (.ret (.ref sz)),[(sz,Z0 ys 0),(a,Z0 xs n),(sl,slV vl vu)],sz+1,tk,fun g=>g,[]⟩
theorem Vc{w:World}{a sl:Addr}{xs ys:Array Value}{n:Nat}{vl vu:Value}{lo hi:Option Int}(pl:IsPart vl lo)(pu:IsPart vu hi)(hy:slicePick xs lo hi none=ys)(hs:xs.size≤sizeLine):OK w (VU a sl xs n vl vu ys):=by
 subst hy
 refine Yd (fun _ _ _=>⟨rfl,rfl⟩) fun A s R args hA he hh hG=>?_
 obtain ⟨u,u2,rfl,e1,e2⟩:=Zj he
 obtain rfl:=Z5 e1
 obtain rfl:=Z5 e2
 have ho:=hh.2 _ (.head _)
 have hl:=hh.2 _ (.tail _ (.head _))
 have hTs:s.TypeIs (.ref sl) "slice":=⟨_,hl,rfl⟩
 refine ZP F.slot_list_getitem (Yh ho) F.entry_list_getitem (F.args_list_getitem_2 _ _) ?_
 show wpAny _ _ (Builtin.List.listSubscript? (.ref sl) >>= _) _ _ s
 refine wpAny_bind ?_
 unfold Builtin.List.listSubscript?
 refine wpAny_bind (wpAny_specialOf hTs slice_no_index ?_)
 simp only[Option.isNone_none,if_true]
 refine wpAny_pure ?_
 show wpAny _ _ (typeOf (.ref sl) >>= _) _ _ s
 refine wpAny_bind (wpAny_typeOf hTs ?_)
 rw[if_neg (by decide)]
 rw[listSliceParts_eq]
 refine wpAny_bind (wpAny_bind (wpAny_field hl rfl (x:=.none) rfl (wpAny_bind (wpAny_listPart .none ?_))))
 rw[if_neg (show ¬((rawPart none==rawInt 0)=true) from Bool.false_ne_true)]
 refine wpAny_bind (wpAny_field hl rfl (x:=vl) rfl (wpAny_bind (wpAny_listPart pl ?_)))
 refine wpAny_bind (wpAny_field hl rfl (x:=vu) rfl (wpAny_bind (wpAny_listPart pu (wpAny_pure ?_))))
 refine wpAny_bind (m:=Builtin.List.listItems (.ref a)) ?_
 unfold Builtin.List.listItems
 refine wpAny_bind (wpAny_seqItems ho rfl (wpAny_pure ?_))
 refine wpAny_bind (wpAny_of_eq (sliceIndices_raw lo hi none xs.size (by simp)) ?_)
 exact wpAny_bind (wpAny_newObj_type (wpAny_pure ⟨_,rfl,hG (fun _=>0) _ (ZZ hh (o:=Z0 (slicePick xs lo hi none) 0) rfl)⟩) (Nat.le_trans (slicePick_size_le xs lo hi none) hs))
theorem U5:∀(k:Nat)(ts:List Str)(f:Nat→Nat),((svA ts f).toList.drop k).toArray=svA (ts.drop k) (fun i=>f (i+k))
 | 0,_,_=>rfl
 | _+1,[],_=>by simp[svA,svL]
 | k+1,_::ts,f=>(U5 k ts fun i=>f (i+1)).trans (by
  show svA (ts.drop k) _=svA (ts.drop k) _
  rfl)
theorem sl2{a c:Str}{rest:List Str}{f:Nat→Nat}:slicePick (svA (a::c::rest) f) (some 2) none none=svA rest (fun i=>f (i+2)) :=
 (slicePick_from _ 2 (by rw[Z6];show 2≤rest.length+1+1;omega)).trans (U5 2 _ _)
noncomputable def Q7 (a:Addr)(xs:Array Value)(n:Nat)(b:Addr):FItem:=NC a xs n (.ref b) fun _=>.ref b
theorem YK{w:World}{a b:Addr}{xs:Array Value}{n:Nat}(hs:xs.size<sizeLine):OK w (Q7 a xs n b):=UP hs
noncomputable def YO (a:Addr)(xs:Array Value)(n:Nat)(x:Str):FItem:=NC a xs n (.str x 0) fun l=>.str x (l 0)
theorem Yo{w:World}{a:Addr}{x:Str}{xs:Array Value}{n:Nat}(hs:xs.size<sizeLine):OK w (YO a xs n x):=UO hs
noncomputable def nlS:Str:=Str.ofString "\n"
noncomputable def Yr (x:Str)(lim:Nat):List Str:=if (decide (x.length<nlS.length)||decide (strKind x<strKind nlS))=true∨(occurrences x nlS 0 x.length lim).isEmpty=true then [x] else partsBetween x (occurrences x nlS 0 x.length lim) nlS.length
noncomputable def Zv (x:Str)(ps:List Str):FItem:=bI "str.split" [.str x 0,.str nlS 0] [] fun sz tk l=>⟨.ok (.ret (.ref sz)),[(sz,Z0 (svA ps (fun i=>l (i+20))) 0)],sz+1,l 0,fun g=>g,[]⟩
theorem QH(ts:List Str)(n:Nat)(a:Nat):(strsFrom n ts).toArray=svA ts (fun i=>K5 a (fun i=>n+i) (i+20)):=by
 rw[VY]
 unfold svA
 rw[QI ts n (fun i=>n+i) fun i=>rfl]
theorem QZ{w:World}{x:Str}{ps:List Str}(hp:Yr x (x.length+1)=ps)(hx:x.length≤sizeLine)(hl:ps.length≤sizeLine):OK w (Zv x ps):=by
 subst hp
 refine Qr F.slot_str_split F.entry_str_split (fun _ _ _=>⟨rfl,rfl⟩) fun args he=>?_
 obtain ⟨u,u2,rfl,e1,e2⟩:=Zj he
 obtain ⟨t,rfl⟩:=Zk e1
 obtain ⟨t2,rfl⟩:=Zk e2
 refine ⟨_,_,rfl,fun s hh=>typeIs_str _ _ _,F.args_str_split_2 _ _,?_⟩
 have fin:∀(s:Shared) R,Here [] s→Goal [] (fun sz tk l=>⟨.ok (.ret (.ref sz)),[(sz,Z0 (svA (Yr x (x.length+1)) (fun i=>l (i+20))) 0)],sz+1,l 0,fun g=>g,[]⟩) R s→Yr x (x.length+1)=[x] →
   R (.ok (.ret (.ref s.heap.objs.size))) { s with heap:=s.heap.push { cls:=.type "list",data:=.seq [Value.str x t].toArray } }:=fun s R hh hG e=>by
  have:=hG (K5 s.toks fun _=>t) _ (ZZ hh (o:=Z0 (svA (Yr x (x.length+1)) (fun i=>K5 s.toks (fun _=>t) (i+20))) 0) rfl)
  rw[VY] at this
  rw[e] at this
  exact this
 by_cases h1:(decide (x.length<nlS.length)||decide (strKind x<strKind nlS))=true
 ·refine ⟨_,meets_str_split_cannot_occur x nlS t t2 h1,fun A s R hA hh hG=>fin s R hh hG ?_⟩
  unfold Yr
  rw[if_pos (.inl h1)]
 ·have h1':(decide (x.length<nlS.length)||decide (strKind x<strKind nlS))=false:=by simpa using h1
  cases h2:(occurrences x nlS 0 x.length (x.length+1)).isEmpty with
  | true =>
   refine ⟨_,meets_str_split_not_found x nlS t t2 h1' (by decide +kernel) h2,fun A s R hA hh hG=>fin s R hh hG ?_⟩
   unfold Yr
   rw[if_pos (.inr h2)]
  | false =>
   have e:Yr x (x.length+1)=partsBetween x (occurrences x nlS 0 x.length (x.length+1)) nlS.length:=by
    unfold Yr
    rw[if_neg]
    rintro (h | h)
    ·exact h1 h
    ·rw[h2] at h;cases h
   rw[e] at hl
   refine ⟨_,meets_str_split_sep x nlS t t2 h1' (by decide +kernel) h2 hx hl,fun A s R hA hh hG=>?_⟩
   have:=hG (K5 (s.toks+(Yr x (x.length+1)).length) fun i=>s.toks+i) _ (ZZ hh (o:=Z0 (svA (Yr x (x.length+1)) (fun i=>K5 (s.toks+(Yr x (x.length+1)).length) (fun i=>s.toks+i) (i+20))) 0) rfl)
   rw[←QH,e] at this
   exact this
noncomputable def Y7 (x:Str)(ps:List Str):FItem:=bI "str.split" [.str x 0,.str nlS 0,.int 2 0] [] fun sz tk l=>⟨.ok (.ret (.ref sz)),[(sz,Z0 (svA ps (fun i=>l (i+20))) 0)],sz+1,l 0,fun g=>g,[]⟩
theorem WQ{w:World}{x:Str}{ps:List Str}(h1:(decide (x.length<nlS.length)||decide (strKind x<strKind nlS))=false)(h2:(occurrences x nlS 0 x.length 2).isEmpty=false)(hp:partsBetween x (occurrences x nlS 0 x.length 2) nlS.length=ps)(hx:x.length≤sizeLine)(hl:ps.length≤sizeLine):OK w (Y7 x ps):=by
 subst hp
 refine Qr F.slot_str_split F.entry_str_split (fun _ _ _=>⟨rfl,rfl⟩) fun args he=>?_
 obtain ⟨u,u2,u3,rfl,e1,e2,e3⟩:=Y1 he
 obtain ⟨t,rfl⟩:=Zk e1
 obtain ⟨t2,rfl⟩:=Zk e2
 obtain ⟨t3,rfl⟩:=Zt e3
 refine ⟨_,_,rfl,fun s hh=>typeIs_str _ _ _,F.args_str_split_3 _ _ _,_,meets_str_split_sep_max x nlS 2 t t2 t3 (by decide) h1 (by decide +kernel) h2 hx hl,fun A s R hA hh hG=>?_⟩
 have:=hG (K5 (s.toks+(partsBetween x (occurrences x nlS 0 x.length 2) nlS.length).length) fun i=>s.toks+i) _ (ZZ hh (o:=Z0 (svA (partsBetween x (occurrences x nlS 0 x.length 2) nlS.length) (fun i=>K5 (s.toks+(partsBetween x (occurrences x nlS 0 x.length 2) nlS.length).length) (fun i=>s.toks+i) (i+20))) 0) rfl)
 rw[←QH] at this
 exact this
theorem YR:∀(ts:List Str)(t:Nat→Nat),∃ l:List (Str × Tok),svL ts t=strValues l∧l.map (·.1)=ts∧l.length=ts.length∧∀ s,ts=[s]→l=[(s,t 0)]
 | [],_=>⟨[],rfl,rfl,rfl,fun _ h=>by cases h⟩
 | x::ts,t=>by
  obtain ⟨l,h1,h2,h3,_⟩:=YR ts fun i=>t (i+1)
  refine ⟨(x,t 0)::l,?_,?_,?_,fun s h=>?_⟩
  ·show Value.str x (t 0)::_=Value.str x (t 0)::_
   rw[h1];rfl
  ·rw[List.map_cons,h2]
  ·rw[List.length_cons,h3,List.length_cons]
  ·cases h
   have:l=[]:=List.eq_nil_of_length_eq_zero h3
   rw[this]
noncomputable def Nz (sep:Str)(a:Addr)(ts:List Str)(t:Nat→Nat)(n:Nat)(z:Str)(b:Bool):PItem:=⟨false,"str.join",[.str sep 0,.ref a],[(a,Z0 (svA ts t) n)],fun k as=>.str z (sel b (t 0) k),sel b 0 1⟩
noncomputable def isOne (ts:List Str):Bool:=match ts with
 | [_]=>true
 | _=>false
noncomputable def JH (sep:Str)(ts:List Str):Str:=match ts with
 | [x]=>x
 | ts=>glued sep ts
theorem WR {w:World}{sep:Str}{a:Addr}{ts:List Str}{t:Nat→Nat}{n:Nat}{z:Str}{b:Bool}(hb:isOne ts=b)(hz:JH sep ts=z)(hl:z.length≤sizeLine)(hm:tooLong (ts.toArray.foldl (·+·.length+sep.length) 0)=false):POK w (Nz sep a ts t n z b):=by
 intro Γ p s Rr args he hpre hR
 obtain ⟨u,u2,rfl,e1,e2⟩:=Zj he
 obtain ⟨t1,rfl⟩:=Zk e1
 obtain rfl:=Z5 e2
 have h1:=hpre _ (.head _)
 obtain ⟨l,l1,l2,l3,l4⟩:=YR ts t
 subst hb hz
 refine ZF (f:=.builtin "str.join") (call_meets F.slot_str_join (typeIs_str _ _ _) F.entry_str_join (F.args_str_join_2 _ _) (meets_str_join_list sep t1 a l (by rw[l2];exact hm)) ⟨⟨_,h1,rfl,n,?_⟩,?_⟩)
 ·show Data.seq (svA ts t) n=_
  unfold svA
  rw[l1]
 ·match ts,l,l2,l3,l4 with
  | [],[],_,_,_=>exact ⟨hl,hR⟩
  | [x],l,l2,l3,l4 =>
   rw[l4 x rfl]
   exact hR
  | x::y::ts,[],_,l3,_=>cases l3
  | x::y::ts,[_],_,l3,_=>cases l3
  | x::y::ts,p::q::l,l2,_,_ =>
   have e:glued sep ((p::q::l).map (·.1))=JH sep (x::y::ts):=by rw[l2];rfl
   refine ⟨?_,?_⟩
   ·rw[e];exact hl
   ·rw[e];exact hR
end
end
section
open PySem PySem.W
noncomputable def shRead:List Knd:=[.W,.F,.F,.F,.b "list.extend.loop",.tt "list",.F,.F,.L,.F,.F,.b "claim.caller"]
noncomputable def QQ (P:Params)(S:Nat→Nat)(t3:Nat)(buf:Str)(pos:Nat):Obj:=Vp [en P "_StringIO__newline" (S 0) (.str "\n" (S 1)),en P "_StringIO__buf" (S 2) (.str buf (S 3)),en P "_StringIO__pos" (S 4) (.int (Int.ofNat pos) t3)] 3
noncomputable def Za (P:Params)(sio d:Nat)(S:Nat→Nat)(t3:Nat)(buf:Str)(pos:Nat)(ch:Str)(pos':Nat):FItem where
 c:=.call (.ref 550) ⟨[.ref sio,.int 1 0],[]⟩
 B:=nrm shRead
 pre:=[(sio,ZA 604 d),(d,QQ P S t3 buf pos)]
 out:=fun _ _ l=>⟨.ok (.ret (.str ch (l 2))),[(sio,ZA 604 d),(d,QQ P S (l 3) buf pos')],l 0,l 1,id,[]⟩
section
variable{b b2:Bool}{w:World}(hw:Wd b b2 w)(sio d:Nat)(S:Nat→Nat)(t3:Nat)(buf:Str)(pos:Nat)
include b b2 w hw sio d S t3 buf pos
theorem itRead_mid
  (h1:pos+1<buf.length)(h2:buf.length≤sizeLine)(h3:buf.length<2 ^ 62)(h4:(pos+1-pos==buf.length)=false):OK w (Za w.params sio d S t3 buf pos (NX buf pos (pos+1)) (pos+1)):=by
 refine Z1 hw.w0 _ fun c B p sz tk g he=>?_
 obtain ⟨bs,rfl,hb⟩:=Z3 he
 obtain ⟨v1,v2,rfl,e1,e2⟩:=Zj hb
 obtain rfl:=Z5 e1
 obtain ⟨u2,rfl⟩:=Zt e2
 refine ⟨432,.fin [Ny buf buf.length,Z2Y (Int.ofNat pos) (Int.ofNat buf.length) false,YX (Int.ofNat pos) (Int.ofNat 1) (Int.ofNat (pos+1)),Vr (Int.ofNat (pos+1)) (Int.ofNat buf.length) true,YX (Int.ofNat pos) (Int.ofNat 1) (Int.ofNat (pos+1)),KH buf (sz+3) pos (pos+1) t3 (tk+20) (NX buf pos (pos+1)) false],(dg 227 0x1335044000000042000000043545040000000404504200000004332313313133b23133231504400000004200000004300235044000000042000000043504400000004200000004110010020430000300000003000000032121a219f219210113f212f21210000121001001010020101100101000),[4,4],0,fun ls=>fl [sz+4,tk+26,bif false then K7 ([Value.str buf (S 3),Value.ref (sz+3)].getD 0 Value.none) else tk+25,tk+20],?_,fun ls=>?_⟩
 ·exact (AllV.all ⟨Uj rfl (by assumption),UN (by exact decide_eq_false (by simp only[Int.ofNat_eq_natCast];omega)),Ym rfl,Qi (by exact decide_eq_true (by simp only[Int.ofNat_eq_natCast];omega)),Ym rfl,Ko (by omega) (by omega) rfl (by assumption) (by assumption),trivial⟩)
 ·cases b <;> kernel_rfl
theorem itRead_last
  (h1:pos+1=buf.length)(h2:buf.length≤sizeLine)(h3:buf.length<2 ^ 62)(h4:(buf.length-pos==buf.length)=false):OK w (Za w.params sio d S t3 buf pos (NX buf pos buf.length) buf.length):=by
 refine Z1 hw.w0 _ fun c B p sz tk g he=>?_
 obtain ⟨bs,rfl,hb⟩:=Z3 he
 obtain ⟨v1,v2,rfl,e1,e2⟩:=Zj hb
 obtain rfl:=Z5 e1
 obtain ⟨u2,rfl⟩:=Zt e2
 refine ⟨418,.fin [Ny buf buf.length,Z2Y (Int.ofNat pos) (Int.ofNat buf.length) false,YX (Int.ofNat pos) (Int.ofNat 1) (Int.ofNat (pos+1)),Vr (Int.ofNat (pos+1)) (Int.ofNat buf.length) false,KH buf (sz+3) pos buf.length t3 (tk+16) (NX buf pos buf.length) false],(dg 222 0x13350440000000420000000435450400000004045042000000043313133b23133231504400000004200000004300235044000000042000000043504400000004200000004110010020430000300000003000000032121a219f219210113f212f21210000121001001010020101100101000),[4,4],0,fun ls=>fl [sz+4,tk+24,bif false then K7 ([Value.str buf (S 3),Value.ref (sz+3)].getD 0 Value.none) else tk+23,tk+16],?_,fun ls=>?_⟩
 ·exact (AllV.all ⟨Uj rfl (by assumption),UN (by exact decide_eq_false (by simp only[Int.ofNat_eq_natCast];omega)),Ym rfl,Qi (by exact decide_eq_false (by simp only[Int.ofNat_eq_natCast];omega)),Ko (by omega) (by omega) rfl (by assumption) (by assumption),trivial⟩)
 ·cases b <;> kernel_rfl
theorem itRead_last'
  (h1:pos+1=buf.length)(h2:buf.length≤sizeLine)(h3:buf.length<2 ^ 62)(h4:(buf.length-pos==buf.length)=true):OK w (Za w.params sio d S t3 buf pos (NX buf pos buf.length) buf.length):=by
 refine Z1 hw.w0 _ fun c B p sz tk g he=>?_
 obtain ⟨bs,rfl,hb⟩:=Z3 he
 obtain ⟨v1,v2,rfl,e1,e2⟩:=Zj hb
 obtain rfl:=Z5 e1
 obtain ⟨u2,rfl⟩:=Zt e2
 refine ⟨418,.fin [Ny buf buf.length,Z2Y (Int.ofNat pos) (Int.ofNat buf.length) false,YX (Int.ofNat pos) (Int.ofNat 1) (Int.ofNat (pos+1)),Vr (Int.ofNat (pos+1)) (Int.ofNat buf.length) false,KH buf (sz+3) pos buf.length t3 (tk+16) (NX buf pos buf.length) true],(dg 222 0x13350440000000420000000435450400000004045042000000043313133b23133231504400000004200000004300235044000000042000000043504400000004200000004110010020430000300000003000000032121a219f219210113f212f21210000121001001010020101100101000),[4,4],0,fun ls=>fl [sz+4,tk+23,bif true then K7 ([Value.str buf (S 3),Value.ref (sz+3)].getD 0 Value.none) else tk+23,tk+16],?_,fun ls=>?_⟩
 ·exact (AllV.all ⟨Uj rfl (by assumption),UN (by exact decide_eq_false (by simp only[Int.ofNat_eq_natCast];omega)),Ym rfl,Qi (by exact decide_eq_false (by simp only[Int.ofNat_eq_natCast];omega)),Ko (by omega) (by omega) rfl (by assumption) (by assumption),trivial⟩)
 ·cases b <;> kernel_rfl
theorem itRead_eof
  (h1:buf.length≤pos)(h2:buf.length≤sizeLine)(h3:buf.length<2 ^ 62):OK w (Za w.params sio d S t3 buf pos (Str.ofString "") pos):=by
 refine Z1 hw.w0 _ fun c B p sz tk g he=>?_
 obtain ⟨bs,rfl,hb⟩:=Z3 he
 obtain ⟨v1,v2,rfl,e1,e2⟩:=Zj hb
 obtain rfl:=Z5 e1
 obtain ⟨u2,rfl⟩:=Zt e2
 refine ⟨328,.fin [Ny buf buf.length,Z2Y (Int.ofNat pos) (Int.ofNat buf.length) true],(dg 159 0x133231504400000004200000004300235044000000042000000043504400000004200000004110010020430000300000003000000032121a219f219210113f212f21210000121001001010020101100101000),[3,3],0,fun ls=>fl [sz+3,tk+19,tk+18,t3],?_,fun ls=>?_⟩
 ·exact (AllV.all ⟨Uj rfl (by assumption),UN (by exact decide_eq_true (by simp only[Int.ofNat_eq_natCast];omega)),trivial⟩)
 ·cases b <;> kernel_rfl
theorem itRead_one
  (h1:pos<buf.length)(h2:buf.length≤sizeLine):OK w (Za w.params sio d S t3 buf pos (NX buf pos (pos+1)) (pos+1)):=by
 have h3:buf.length<2 ^ 62:=Nat.lt_of_le_of_lt h2 (by decide)
 by_cases h:pos+1<buf.length
 ·exact itRead_mid hw sio d S t3 buf pos h h2 h3 (beq_eq_false_iff_ne.mpr (by omega))
 ·have e:pos+1=buf.length:=by omega
  rw[e]
  cases hb:(buf.length-pos==buf.length) with
  | false=>exact itRead_last hw sio d S t3 buf pos e h2 h3 hb
  | true=>exact itRead_last' hw sio d S t3 buf pos e h2 h3 hb
theorem itRead_end
  (h1:buf.length≤pos)(h2:buf.length≤sizeLine):OK w (Za w.params sio d S t3 buf pos (Str.ofString "") pos) :=
 itRead_eof hw sio d S t3 buf pos h1 h2 (Nat.lt_of_le_of_lt h2 (by decide))
end
noncomputable def wcS:Str:=⟨(List.range' 97 4++[102,101]++List.range' 103 20++List.range' 65 26++List.range' 48 10++[95]++List.range' 223 24++List.range' 248 8++List.range' 192 23++List.range' 216 7).toArray⟩
noncomputable def JC (P:Params)(T:Nat→Nat)(sio pb fs:Nat)(st:Value)(ln lt:Nat)(tok:Str)(tt:Nat):Obj:=Vp [en P "instream" (T 0) (.ref sio),en P "infile" (T 1) .none,en P "posix" (T 2) (.bool true),en P "eof" (T 3) .none,en P "commenters" (T 4) (.str (Str.ofString "") (T 19)),en P "wordchars" (T 5) (.str wcS (T 20)),en P "whitespace" (T 6) (.str (Str.ofString " \t\r\n") (T 21)),en P "whitespace_split" (T 7) (.bool true),en P "quotes" (T 8) (.str (Str.ofString "'\"") (T 22)),en P "escape" (T 9) (.str (Str.ofString "\\") (T 23)),en P "escapedquotes" (T 10) (.str (Str.ofString "\"") (T 24)),en P "state" (T 11) st,en P "pushback" (T 12) (.ref pb),en P "lineno" (T 13) (.int (Int.ofNat ln) lt),en P "debug" (T 14) (.int 0 (T 25)),en P "token" (T 15) (.str tok tt),en P "filestack" (T 16) (.ref fs),en P "source" (T 17) .none,en P "_punctuation_chars" (T 18) (.str (Str.ofString "") (T 26))] 19
noncomputable def frRT (P:Params)(F:Nat→Nat)(lex:Nat)(qd:Bool)(nc:Option (Str × Nat)):Obj:=match nc with
 | none=>frO [en P "self" (F 0) (.ref lex),en P "quoted" (F 1) (.bool qd),en P "escapedstate" (F 2) (.str (Str.ofString " ") (F 3))] 3
 | some x=>frO [en P "self" (F 0) (.ref lex),en P "quoted" (F 1) (.bool qd),en P "escapedstate" (F 2) (.str (Str.ofString " ") (F 3)),en P "nextchar" (F 4) (.str x.1 x.2)] 4
structure Fr where
 g:Nat
 n:Nat
 s:Nat
 t:Nat
 p:Nat
 w:Nat
noncomputable def shT (P:Params)(X:Fr):List Knd:=[.f (ZG P 806 X.t),.L,.f (ZG P 813 X.p),.f (ZG P 823 X.w),.b "claim.caller"]
noncomputable def shN (P:Params)(X:Fr):List Knd:=.b "list.extend.loop"::.tt "list"::.f (ZG P 751 X.s)::shT P X
noncomputable def shW (P:Params)(X:Fr)(L:Nat):List Knd:=.f (ZG P 707 L)::.f (ZG P 700 X.g)::.f (ZG P 736 X.n)::shN P X
noncomputable def Zs (P:Params)(X:Fr)(R:Led)(L lex ld sio sd pb fs:Nat)(T S F:Nat→Nat)(buf:Str)(pos t3:Nat)(qd:Bool)(nc:Option (Str × Nat))(st:Value)(ln lt:Nat)(tok:Str)(tt:Nat)(O:(Nat→Nat)→FOut):FItem where
 c:=VZ (sAt (Y0 P 707) 2) (ZG P 707 L)
 B:=nrm (shW P X L)
 pre:=[(L,frRT P F lex qd nc),(lex,ZA 739 ld),(ld,JC P T sio pb fs st ln lt tok tt),(sio,ZA 604 sd),(sd,QQ P S t3 buf pos)]
 out:=fun _ _ l=>O l
 preS:=R
noncomputable def Ow (P:Params)(R:Led)(L lex ld sio sd pb fs:Nat)(T S:Nat→Nat)(buf:Str)(pos:Nat)(qd:Bool)(nc:Str)(st:Nat→Value)(tok:Str):(Nat→Nat)→FOut:=fun l =>
 ⟨.ok .next,[(L,frRT P (fun i=>l (10+i)) lex qd (some (nc,l 2))),(lex,ZA 739 ld),(ld,JC P T sio pb fs (st (l 6)) (l 7) (l 3) tok (l 4)),(sio,ZA 604 sd),(sd,QQ P S (l 5) buf pos)],l 0,l 1,id,R⟩
structure Dt where
 es:Array DictEntry
 n:Nat
noncomputable def frX (d:Dt)(sl:Array (Option Value)):Obj:=⟨.type "frame",none,.dict d.es d.n,sl⟩
noncomputable def rdy (fn:Nat)(back:Value):Array (Option Value):=#[some (.ref (fn-1)),some (.ref 3),none,some back,none,some (.ref fn),some (.ref 0)]
noncomputable def frs (X:Fr)(D:Nat→Dt)(r:Bool):Led:=[(X.p,frX (D 4) (bif r then rdy 813 (.ref X.w) else #[])),(X.w,frX (D 5) (bif r then rdy 823 .notImplemented else #[]))]
section
variable{b b2:Bool}{w:World}(hw:Wd b b2 w)(X:Fr)(R:Led)(L lex ld sio sd pb fs:Nat)(T S F:Nat→Nat)(buf:Str)(pos t3 sT lt tt ln nT pos':Nat)
include b b2 w hw X R L lex ld sio sd pb fs T S F buf pos t3 sT lt tt ln nT pos'
theorem Z1C(hr:OK w (Za w.params sio sd S t3 buf pos (Str.ofString "") pos'))  :
  OK w (Zs w.params X R L lex ld sio sd pb fs T S F buf pos t3 false none (.str (Str.ofString " ") sT) ln lt (Str.ofString "") tt (Ow w.params R L lex ld sio sd pb fs T S buf pos' false (Str.ofString "") (fun _=>.none) (Str.ofString ""))):=by
 refine Z1 hw.w0 _ fun c B p sz tk g he=>?_
 change _=_ at he
 delta Zs at he
 dsimp only at he
 replace he:=Zo he
 subst he
 refine ⟨298,.item [] ((Za w.params sio sd S t3 buf pos (Str.ofString "") pos').fr R) (fun l0=>.fin []),(dg 159 0x6560500050550520005482240ff26055000520005460550005200054b2605500052000540ff2434440065000050000000500000005403300032000328224033000320003110010010202000000002200021),[3,3,3,0,0],0,fun ls=>(fun l0=>fl [l0 0,l0 1+11,l0 2,lt,tt,l0 3,0,ln,0,0,F 0,F 1,F 2,F 3,l0 1]) (ls 0),?_,fun ls=>?_⟩
 ·exact ⟨(fun x hx=>(nomatch hx)),hr.fr R,fun l0=>(fun x hx=>(nomatch hx))⟩
 ·cases b <;> kernel_rfl
theorem sp_nl1(hr:OK w (Za w.params sio sd S t3 buf pos (Str.ofString "\n") pos'))(O:(Nat→Nat)→FOut)
  (h:∀(F:Nat→Nat)(t3 nT sT lt tt:Nat),OK w (Zs w.params X R L lex ld sio sd pb fs T S F buf pos' t3 false (some ((Str.ofString "\n"),nT)) (.str (Str.ofString " ") sT) (ln+1) lt (Str.ofString "") tt O)) :
  OK w (Zs w.params X R L lex ld sio sd pb fs T S F buf pos t3 false none (.str (Str.ofString " ") sT) ln lt (Str.ofString "") tt O):=by
 refine Z2 hw.w0 _ (fun sz tk ls=>(fun l0=>Zs w.params X R L lex ld sio sd pb fs T S (fl [F 0,F 1,F 2,F 3,l0 1]) buf pos' (l0 3) false (some (Str.ofString "\n",l0 2)) (Value.str (Str.ofString " ") sT) (ln+1) (l0 1+4) (Str.ofString "") tt O) (ls 0)) (fun _ _ _ _ _ _ _ _=>rfl) (fun _ _ _=>rfl) (fun _ _ _=>rfl) (fun c B p sz tk g he=>?_) (fun sz tk ls=>h _ _ _ _ _ _)
 change _=_ at he
 delta Zs at he
 dsimp only at he
 replace he:=Zo he
 subst he
 refine ⟨422,.item [] ((Za w.params sio sd S t3 buf pos (Str.ofString "\n") pos').fr R) (fun l0=>.fin [YX (Int.ofNat ln) (Int.ofNat 1) (Int.ofNat (ln+1))]),(dg 239 0x46055000520005482260550005200054b26055000520005411f260550005200054482240ff26055000520005460550005200054b26055000520005465605000505505200051605500052000540ff2434440065000050000000500000005403300032000328224033000320003110010010202000000002200021),[3,3,3,0,0],0,?_,fun ls=>?_⟩
 ·exact ⟨(fun x hx=>(nomatch hx)),hr.fr R,fun l0=>(AllV.all ⟨Ym rfl,trivial⟩)⟩
 ·cases b <;> kernel_rfl
theorem sp_ws1(ch:Str)(hr:OK w (Za w.params sio sd S t3 buf pos ch pos'))(hl:ch.length=1)(hnl:eqS ch (Str.ofString "\n")=false)(hws:Zh (Str.ofString " \t\r\n") ch=true)(O:(Nat→Nat)→FOut)
  (h:∀(F:Nat→Nat)(t3 nT sT lt tt:Nat),OK w (Zs w.params X R L lex ld sio sd pb fs T S F buf pos' t3 false (some (ch,nT)) (.str (Str.ofString " ") sT) ln lt (Str.ofString "") tt O)) :
  OK w (Zs w.params X R L lex ld sio sd pb fs T S F buf pos t3 false none (.str (Str.ofString " ") sT) ln lt (Str.ofString "") tt O):=by
 refine Z2 hw.w0 _ (fun sz tk ls=>(fun l0=>Zs w.params X R L lex ld sio sd pb fs T S (fl [F 0,F 1,F 2,F 3,l0 1]) buf pos' (l0 3) false (some (ch,l0 2)) (Value.str (Str.ofString " ") sT) ln lt (Str.ofString "") tt O) (ls 0)) (fun _ _ _ _ _ _ _ _=>rfl) (fun _ _ _=>rfl) (fun _ _ _=>rfl) (fun c B p sz tk g he=>?_) (fun sz tk ls=>h _ _ _ _ _ _)
 change _=_ at he
 delta Zs at he
 dsimp only at he
 replace he:=Zo he
 subst he
 refine ⟨364,.item [] ((Za w.params sio sd S t3 buf pos ch pos').fr R) (fun l0=>.fin [Zq ch (Str.ofString "\n") false,ZH ch 1,Zc (Str.ofString " \t\x0d\n") ch true]),(dg 201 0x46055000520005482260550005200054b2605500052000541605500052000544140ff26055000520005460550005200054b2605500052000541434440065000050000000500000005403300032000328224033000320003110010010202000000002200021),[3,3,3,0,0],0,?_,fun ls=>?_⟩
 ·exact ⟨(fun x hx=>(nomatch hx)),hr.fr R,fun l0=>(AllV.all ⟨Zi (by assumption),Zy (by assumption) (by omega),Z8 (by assumption),trivial⟩)⟩
 ·cases b <;> kernel_rfl
theorem sp_q1(hr:OK w (Za w.params sio sd S t3 buf pos (Str.ofString "'") pos'))(hwc:Zh wcS (Str.ofString "'")=false)(O:(Nat→Nat)→FOut)
  (h:∀(F:Nat→Nat)(t3 nT sT lt tt:Nat),OK w (Zs w.params X R L lex ld sio sd pb fs T S F buf pos' t3 false (some ((Str.ofString "'"),nT)) (.str (Str.ofString "'") sT) ln lt (Str.ofString "") tt O)) :
  OK w (Zs w.params X R L lex ld sio sd pb fs T S F buf pos t3 false none (.str (Str.ofString " ") sT) ln lt (Str.ofString "") tt O):=by
 refine Z2 hw.w0 _ (fun sz tk ls=>(fun l0=>Zs w.params X R L lex ld sio sd pb fs T S (fl [F 0,F 1,F 2,F 3,l0 1]) buf pos' (l0 3) false (some (Str.ofString "'",l0 2)) (Value.str (Str.ofString "'") (l0 2)) ln lt (Str.ofString "") tt O) (ls 0)) (fun _ _ _ _ _ _ _ _=>rfl) (fun _ _ _=>rfl) (fun _ _ _=>rfl) (fun c B p sz tk g he=>?_) (fun sz tk ls=>h _ _ _ _ _ _)
 change _=_ at he
 delta Zs at he
 dsimp only at he
 replace he:=Zo he
 subst he
 refine ⟨532,.item [] ((Za w.params sio sd S t3 buf pos (Str.ofString "'") pos').fr R) (fun l0=>.fin [Zc wcS (Str.ofString "'") false]),(dg 316 0x7670600060650620006557066000620006511f270660006200065511f270660006200061100100102020000000052000544160550005200054411f26055000520005446055000520005411f260550005200054411f260550005200054482240ff26055000520005460550005200054b2605500052000540ff2434440065000050000000500000005403300032000328224033000320003110010010202000000002200021),[4,4,4,1,1],0,?_,fun ls=>?_⟩
 ·exact ⟨(fun x hx=>(nomatch hx)),hr.fr R,fun l0=>(AllV.all ⟨Z8 (by assumption),trivial⟩)⟩
 ·cases b <;> kernel_rfl
theorem Z00(ch:Str)(hr:OK w (Za w.params sio sd S t3 buf pos ch pos'))(hl:ch.length=1)(hnl:eqS ch (Str.ofString "\n")=false)(hws:Zh (Str.ofString " \t\r\n") ch=false)(hcm:Zh (Str.ofString "") ch=false)(hes:Zh (Str.ofString "\\") ch=false)(hwc:Zh wcS ch=true)(O:(Nat→Nat)→FOut)
  (h:∀(F:Nat→Nat)(t3 nT sT lt tt:Nat),OK w (Zs w.params X R L lex ld sio sd pb fs T S F buf pos' t3 false (some (ch,nT)) (.str (Str.ofString "a") sT) ln lt ch tt O)) :
  OK w (Zs w.params X R L lex ld sio sd pb fs T S F buf pos t3 false none (.str (Str.ofString " ") sT) ln lt (Str.ofString "") tt O):=by
 refine Z2 hw.w0 _ (fun sz tk ls=>(fun l0=>Zs w.params X R L lex ld sio sd pb fs T S (fl [F 0,F 1,F 2,F 3,l0 1]) buf pos' (l0 3) false (some (ch,l0 2)) (Value.str (Str.ofString "a") (l0 1+16)) ln lt ch (l0 2) O) (ls 0)) (fun _ _ _ _ _ _ _ _=>rfl) (fun _ _ _=>rfl) (fun _ _ _=>rfl) (fun c B p sz tk g he=>?_) (fun sz tk ls=>h _ _ _ _ _ _)
 change _=_ at he
 delta Zs at he
 dsimp only at he
 replace he:=Zo he
 subst he
 refine ⟨434,.item [] ((Za w.params sio sd S t3 buf pos ch pos').fr R) (fun l0=>.fin [Zq ch (Str.ofString "\n") false,ZH ch 1,Zc (Str.ofString " \t\x0d\n") ch false,Zc (Str.ofString "") ch false,Zc (Str.ofString "\\") ch false,Zc wcS ch true]),(dg 256 0x65605000505505200054656050005055052000544160550005200054416055000520005446055000520005416055000520005441605500052000544140ff26055000520005460550005200054b2605500052000541434440065000050000000500000005403300032000328224033000320003110010010202000000002200021),[3,3,3,0,0],0,?_,fun ls=>?_⟩
 ·exact ⟨(fun x hx=>(nomatch hx)),hr.fr R,fun l0=>(AllV.all ⟨Zi (by assumption),Zy (by assumption) (by omega),Z8 (by assumption),Z8 (by assumption),Z8 (by assumption),Z8 (by assumption),trivial⟩)⟩
 ·cases b <;> kernel_rfl
theorem Z1A(ch:Str)(hr:OK w (Za w.params sio sd S t3 buf pos ch pos'))(hl:ch.length=1)(hnl:eqS ch (Str.ofString "\n")=false)(hws:Zh (Str.ofString " \t\r\n") ch=false)(hcm:Zh (Str.ofString "") ch=false)(hes:Zh (Str.ofString "\\") ch=false)(hwc:Zh wcS ch=false)(hqu:Zh (Str.ofString "'\"") ch=false)(O:(Nat→Nat)→FOut)
  (h:∀(F:Nat→Nat)(t3 nT sT lt tt:Nat),OK w (Zs w.params X R L lex ld sio sd pb fs T S F buf pos' t3 false (some (ch,nT)) (.str (Str.ofString "a") sT) ln lt ch tt O)) :
  OK w (Zs w.params X R L lex ld sio sd pb fs T S F buf pos t3 false none (.str (Str.ofString " ") sT) ln lt (Str.ofString "") tt O):=by
 refine Z2 hw.w0 _ (fun sz tk ls=>(fun l0=>Zs w.params X R L lex ld sio sd pb fs T S (fl [F 0,F 1,F 2,F 3,l0 1]) buf pos' (l0 3) false (some (ch,l0 2)) (Value.str (Str.ofString "a") (l0 1+21)) ln lt ch (l0 2) O) (ls 0)) (fun _ _ _ _ _ _ _ _=>rfl) (fun _ _ _=>rfl) (fun _ _ _=>rfl) (fun c B p sz tk g he=>?_) (fun sz tk ls=>h _ _ _ _ _ _)
 change _=_ at he
 delta Zs at he
 dsimp only at he
 replace he:=Zo he
 subst he
 refine ⟨541,.item [] ((Za w.params sio sd S t3 buf pos ch pos').fr R) (fun l0=>.fin [Zq ch (Str.ofString "\n") false,ZH ch 1,Zc (Str.ofString " \t\x0d\n") ch false,Zc (Str.ofString "") ch false,Zc (Str.ofString "\\") ch false,Zc wcS ch false,Zc (Str.ofString "") ch false,Zc (Str.ofString "'\"") ch false]),(dg 328 0x76706000606506200065767060006065062000655706600062000651706600062000655170660006200061100100102020000000052000544160550005200054416055000520005446055000520005416055000520005441605500052000544140ff26055000520005460550005200054b2605500052000541434440065000050000000500000005403300032000328224033000320003110010010202000000002200021),[4,4,4,1,1],0,?_,fun ls=>?_⟩
 ·exact ⟨(fun x hx=>(nomatch hx)),hr.fr R,fun l0=>(AllV.all ⟨Zi (by assumption),Zy (by assumption) (by omega),Z8 (by assumption),Z8 (by assumption),Z8 (by assumption),Z8 (by assumption),Z8 (by assumption),Z8 (by assumption),trivial⟩)⟩
 ·cases b <;> kernel_rfl
theorem Z1B(nc:Str)(hr:OK w (Za w.params sio sd S t3 buf pos (Str.ofString "") pos'))  :
  OK w (Zs w.params X R L lex ld sio sd pb fs T S F buf pos t3 false (some (nc,nT)) (.str (Str.ofString " ") sT) ln lt (Str.ofString "") tt (Ow w.params R L lex ld sio sd pb fs T S buf pos' false (Str.ofString "") (fun _=>.none) (Str.ofString ""))):=by
 refine Z1 hw.w0 _ fun c B p sz tk g he=>?_
 change _=_ at he
 delta Zs at he
 dsimp only at he
 replace he:=Zo he
 subst he
 refine ⟨298,.item [] ((Za w.params sio sd S t3 buf pos (Str.ofString "") pos').fr R) (fun l0=>.fin []),(dg 159 0x6560500050550520005482240ff26055000520005460550005200054b2605500052000540ff2434440065000050000000500000005403300032000328224033000320003110010010202000000002200021),[3,3,3,0,0],0,fun ls=>(fun l0=>fl [l0 0,l0 1+11,l0 2,lt,tt,l0 3,0,ln,0,0,F 0,F 1,F 2,F 3,F 4]) (ls 0),?_,fun ls=>?_⟩
 ·exact ⟨(fun x hx=>(nomatch hx)),hr.fr R,fun l0=>(fun x hx=>(nomatch hx))⟩
 ·cases b <;> kernel_rfl
theorem sp_nl2(nc:Str)(hr:OK w (Za w.params sio sd S t3 buf pos (Str.ofString "\n") pos'))(O:(Nat→Nat)→FOut)
  (h:∀(t3 nT sT lt tt:Nat),OK w (Zs w.params X R L lex ld sio sd pb fs T S F buf pos' t3 false (some ((Str.ofString "\n"),nT)) (.str (Str.ofString " ") sT) (ln+1) lt (Str.ofString "") tt O)) :
  OK w (Zs w.params X R L lex ld sio sd pb fs T S F buf pos t3 false (some (nc,nT)) (.str (Str.ofString " ") sT) ln lt (Str.ofString "") tt O):=by
 refine Z2 hw.w0 _ (fun sz tk ls=>(fun l0=>Zs w.params X R L lex ld sio sd pb fs T S F buf pos' (l0 3) false (some (Str.ofString "\n",l0 2)) (Value.str (Str.ofString " ") sT) (ln+1) (l0 1+4) (Str.ofString "") tt O) (ls 0)) (fun _ _ _ _ _ _ _ _=>rfl) (fun _ _ _=>rfl) (fun _ _ _=>rfl) (fun c B p sz tk g he=>?_) (fun sz tk ls=>h _ _ _ _ _)
 change _=_ at he
 delta Zs at he
 dsimp only at he
 replace he:=Zo he
 subst he
 refine ⟨422,.item [] ((Za w.params sio sd S t3 buf pos (Str.ofString "\n") pos').fr R) (fun l0=>.fin [YX (Int.ofNat ln) (Int.ofNat 1) (Int.ofNat (ln+1))]),(dg 239 0x46055000520005482260550005200054b26055000520005411f260550005200054482240ff26055000520005460550005200054b26055000520005465605000505505200051605500052000540ff2434440065000050000000500000005403300032000328224033000320003110010010202000000002200021),[3,3,3,0,0],0,?_,fun ls=>?_⟩
 ·exact ⟨(fun x hx=>(nomatch hx)),hr.fr R,fun l0=>(AllV.all ⟨Ym rfl,trivial⟩)⟩
 ·cases b <;> kernel_rfl
theorem sp_ws2(nc:Str)(ch:Str)(hr:OK w (Za w.params sio sd S t3 buf pos ch pos'))(hl:ch.length=1)(hnl:eqS ch (Str.ofString "\n")=false)(hws:Zh (Str.ofString " \t\r\n") ch=true)(O:(Nat→Nat)→FOut)
  (h:∀(t3 nT sT lt tt:Nat),OK w (Zs w.params X R L lex ld sio sd pb fs T S F buf pos' t3 false (some (ch,nT)) (.str (Str.ofString " ") sT) ln lt (Str.ofString "") tt O)) :
  OK w (Zs w.params X R L lex ld sio sd pb fs T S F buf pos t3 false (some (nc,nT)) (.str (Str.ofString " ") sT) ln lt (Str.ofString "") tt O):=by
 refine Z2 hw.w0 _ (fun sz tk ls=>(fun l0=>Zs w.params X R L lex ld sio sd pb fs T S F buf pos' (l0 3) false (some (ch,l0 2)) (Value.str (Str.ofString " ") sT) ln lt (Str.ofString "") tt O) (ls 0)) (fun _ _ _ _ _ _ _ _=>rfl) (fun _ _ _=>rfl) (fun _ _ _=>rfl) (fun c B p sz tk g he=>?_) (fun sz tk ls=>h _ _ _ _ _)
 change _=_ at he
 delta Zs at he
 dsimp only at he
 replace he:=Zo he
 subst he
 refine ⟨364,.item [] ((Za w.params sio sd S t3 buf pos ch pos').fr R) (fun l0=>.fin [Zq ch (Str.ofString "\n") false,ZH ch 1,Zc (Str.ofString " \t\x0d\n") ch true]),(dg 201 0x46055000520005482260550005200054b2605500052000541605500052000544140ff26055000520005460550005200054b2605500052000541434440065000050000000500000005403300032000328224033000320003110010010202000000002200021),[3,3,3,0,0],0,?_,fun ls=>?_⟩
 ·exact ⟨(fun x hx=>(nomatch hx)),hr.fr R,fun l0=>(AllV.all ⟨Zi (by assumption),Zy (by assumption) (by omega),Z8 (by assumption),trivial⟩)⟩
 ·cases b <;> kernel_rfl
theorem sp_q2(nc:Str)(hr:OK w (Za w.params sio sd S t3 buf pos (Str.ofString "'") pos'))(hwc:Zh wcS (Str.ofString "'")=false)(O:(Nat→Nat)→FOut)
  (h:∀(t3 nT sT lt tt:Nat),OK w (Zs w.params X R L lex ld sio sd pb fs T S F buf pos' t3 false (some ((Str.ofString "'"),nT)) (.str (Str.ofString "'") sT) ln lt (Str.ofString "") tt O)) :
  OK w (Zs w.params X R L lex ld sio sd pb fs T S F buf pos t3 false (some (nc,nT)) (.str (Str.ofString " ") sT) ln lt (Str.ofString "") tt O):=by
 refine Z2 hw.w0 _ (fun sz tk ls=>(fun l0=>Zs w.params X R L lex ld sio sd pb fs T S F buf pos' (l0 3) false (some (Str.ofString "'",l0 2)) (Value.str (Str.ofString "'") (l0 2)) ln lt (Str.ofString "") tt O) (ls 0)) (fun _ _ _ _ _ _ _ _=>rfl) (fun _ _ _=>rfl) (fun _ _ _=>rfl) (fun c B p sz tk g he=>?_) (fun sz tk ls=>h _ _ _ _ _)
 change _=_ at he
 delta Zs at he
 dsimp only at he
 replace he:=Zo he
 subst he
 refine ⟨532,.item [] ((Za w.params sio sd S t3 buf pos (Str.ofString "'") pos').fr R) (fun l0=>.fin [Zc wcS (Str.ofString "'") false]),(dg 316 0x7670600060650620006557066000620006511f270660006200065511f270660006200061100100102020000000052000544160550005200054411f26055000520005446055000520005411f260550005200054411f260550005200054482240ff26055000520005460550005200054b2605500052000540ff2434440065000050000000500000005403300032000328224033000320003110010010202000000002200021),[4,4,4,1,1],0,?_,fun ls=>?_⟩
 ·exact ⟨(fun x hx=>(nomatch hx)),hr.fr R,fun l0=>(AllV.all ⟨Z8 (by assumption),trivial⟩)⟩
 ·cases b <;> kernel_rfl
theorem NZ(nc:Str)(ch:Str)(hr:OK w (Za w.params sio sd S t3 buf pos ch pos'))(hl:ch.length=1)(hnl:eqS ch (Str.ofString "\n")=false)(hws:Zh (Str.ofString " \t\r\n") ch=false)(hcm:Zh (Str.ofString "") ch=false)(hes:Zh (Str.ofString "\\") ch=false)(hwc:Zh wcS ch=true)(O:(Nat→Nat)→FOut)
  (h:∀(t3 nT sT lt tt:Nat),OK w (Zs w.params X R L lex ld sio sd pb fs T S F buf pos' t3 false (some (ch,nT)) (.str (Str.ofString "a") sT) ln lt ch tt O)) :
  OK w (Zs w.params X R L lex ld sio sd pb fs T S F buf pos t3 false (some (nc,nT)) (.str (Str.ofString " ") sT) ln lt (Str.ofString "") tt O):=by
 refine Z2 hw.w0 _ (fun sz tk ls=>(fun l0=>Zs w.params X R L lex ld sio sd pb fs T S F buf pos' (l0 3) false (some (ch,l0 2)) (Value.str (Str.ofString "a") (l0 1+16)) ln lt ch (l0 2) O) (ls 0)) (fun _ _ _ _ _ _ _ _=>rfl) (fun _ _ _=>rfl) (fun _ _ _=>rfl) (fun c B p sz tk g he=>?_) (fun sz tk ls=>h _ _ _ _ _)
 change _=_ at he
 delta Zs at he
 dsimp only at he
 replace he:=Zo he
 subst he
 refine ⟨434,.item [] ((Za w.params sio sd S t3 buf pos ch pos').fr R) (fun l0=>.fin [Zq ch (Str.ofString "\n") false,ZH ch 1,Zc (Str.ofString " \t\x0d\n") ch false,Zc (Str.ofString "") ch false,Zc (Str.ofString "\\") ch false,Zc wcS ch true]),(dg 256 0x65605000505505200054656050005055052000544160550005200054416055000520005446055000520005416055000520005441605500052000544140ff26055000520005460550005200054b2605500052000541434440065000050000000500000005403300032000328224033000320003110010010202000000002200021),[3,3,3,0,0],0,?_,fun ls=>?_⟩
 ·exact ⟨(fun x hx=>(nomatch hx)),hr.fr R,fun l0=>(AllV.all ⟨Zi (by assumption),Zy (by assumption) (by omega),Z8 (by assumption),Z8 (by assumption),Z8 (by assumption),Z8 (by assumption),trivial⟩)⟩
 ·cases b <;> kernel_rfl
theorem Z1z(nc:Str)(ch:Str)(hr:OK w (Za w.params sio sd S t3 buf pos ch pos'))(hl:ch.length=1)(hnl:eqS ch (Str.ofString "\n")=false)(hws:Zh (Str.ofString " \t\r\n") ch=false)(hcm:Zh (Str.ofString "") ch=false)(hes:Zh (Str.ofString "\\") ch=false)(hwc:Zh wcS ch=false)(hqu:Zh (Str.ofString "'\"") ch=false)(O:(Nat→Nat)→FOut)
  (h:∀(t3 nT sT lt tt:Nat),OK w (Zs w.params X R L lex ld sio sd pb fs T S F buf pos' t3 false (some (ch,nT)) (.str (Str.ofString "a") sT) ln lt ch tt O)) :
  OK w (Zs w.params X R L lex ld sio sd pb fs T S F buf pos t3 false (some (nc,nT)) (.str (Str.ofString " ") sT) ln lt (Str.ofString "") tt O):=by
 refine Z2 hw.w0 _ (fun sz tk ls=>(fun l0=>Zs w.params X R L lex ld sio sd pb fs T S F buf pos' (l0 3) false (some (ch,l0 2)) (Value.str (Str.ofString "a") (l0 1+21)) ln lt ch (l0 2) O) (ls 0)) (fun _ _ _ _ _ _ _ _=>rfl) (fun _ _ _=>rfl) (fun _ _ _=>rfl) (fun c B p sz tk g he=>?_) (fun sz tk ls=>h _ _ _ _ _)
 change _=_ at he
 delta Zs at he
 dsimp only at he
 replace he:=Zo he
 subst he
 refine ⟨541,.item [] ((Za w.params sio sd S t3 buf pos ch pos').fr R) (fun l0=>.fin [Zq ch (Str.ofString "\n") false,ZH ch 1,Zc (Str.ofString " \t\x0d\n") ch false,Zc (Str.ofString "") ch false,Zc (Str.ofString "\\") ch false,Zc wcS ch false,Zc (Str.ofString "") ch false,Zc (Str.ofString "'\"") ch false]),(dg 328 0x76706000606506200065767060006065062000655706600062000651706600062000655170660006200061100100102020000000052000544160550005200054416055000520005446055000520005416055000520005441605500052000544140ff26055000520005460550005200054b2605500052000541434440065000050000000500000005403300032000328224033000320003110010010202000000002200021),[4,4,4,1,1],0,?_,fun ls=>?_⟩
 ·exact ⟨(fun x hx=>(nomatch hx)),hr.fr R,fun l0=>(AllV.all ⟨Zi (by assumption),Zy (by assumption) (by omega),Z8 (by assumption),Z8 (by assumption),Z8 (by assumption),Z8 (by assumption),Z8 (by assumption),Z8 (by assumption),trivial⟩)⟩
 ·cases b <;> kernel_rfl
theorem no_eof(hr:OK w (Za w.params sio sd S t3 buf pos (Str.ofString "") pos'))  :
  OK w (Zs w.params X R L lex ld sio sd pb fs T S F buf pos t3 false none .none ln lt (Str.ofString "") tt (Ow w.params R L lex ld sio sd pb fs T S buf pos' false (Str.ofString "") (fun _=>.none) (Str.ofString ""))):=by
 refine Z1 hw.w0 _ fun c B p sz tk g he=>?_
 change _=_ at he
 delta Zs at he
 dsimp only at he
 replace he:=Zo he
 subst he
 refine ⟨261,.item [] ((Za w.params sio sd S t3 buf pos (Str.ofString "") pos').fr R) (fun l0=>.fin []),(dg 139 0x6560500050550520005460550005200054b2605500052000540ff2434440065000050000000500000005403300032000328224033000320003110010010202000000002200021),[3,3,3,0,0],0,fun ls=>(fun l0=>fl [l0 0,l0 1+8,l0 2,lt,l0 1+5,l0 3,0,ln,0,0,F 0,F 1,F 2,F 3,l0 1]) (ls 0),?_,fun ls=>?_⟩
 ·exact ⟨(fun x hx=>(nomatch hx)),hr.fr R,fun l0=>(fun x hx=>(nomatch hx))⟩
 ·cases b <;> kernel_rfl
theorem a_eof(nc:Str)(qd:Bool)(tok:Str)(hr:OK w (Za w.params sio sd S t3 buf pos (Str.ofString "") pos'))  :
  OK w (Zs w.params X R L lex ld sio sd pb fs T S F buf pos t3 qd (some (nc,nT)) (.str (Str.ofString "a") sT) ln lt tok tt (Ow w.params R L lex ld sio sd pb fs T S buf pos' qd (Str.ofString "") (fun _=>.none) tok)):=by
 refine Z1 hw.w0 _ fun c B p sz tk g he=>?_
 change _=_ at he
 delta Zs at he
 dsimp only at he
 replace he:=Zo he
 subst he
 refine ⟨412,.item [] ((Za w.params sio sd S t3 buf pos (Str.ofString "") pos').fr R) (fun l0=>.fin [YL (l0 0) [(Str.ofString "a",l0 1+12),(Str.ofString "c",l0 1+13)] 0 (Str.ofString "a") true]),(dg 237 0x76706000606506200065822501116055000520005411f2605500052000546055000520005411f260550005200054605500052000540ff26055000520005460550005200054b2605500052000540ff2434440065000050000000500000005403300032000328224033000320003110010010202000000002200021),[4,4,4,1,1],0,fun ls=>(fun l0=>fl [l0 0+1,l0 1+18,l0 2,lt,tt,l0 3,0,ln,0,0,F 0,F 1,F 2,F 3,F 4]) (ls 0),?_,fun ls=>?_⟩
 ·exact ⟨(fun x hx=>(nomatch hx)),hr.fr R,fun l0=>(AllV.all ⟨Yw (by kernel_rfl),trivial⟩)⟩
 ·cases b <;> kernel_rfl
end
theorem a_nl {b b2:Bool}{w:World}(hw:Wd b b2 w)(X:Fr)(R:Led)(L lex ld sio sd pb fs:Nat)(T S F:Nat→Nat)(buf:Str)(pos t3 sT lt tt ln nT pos':Nat)(nc:Str)(qd:Bool)(tok:Str)(tl:Nat)(hr:OK w (Za w.params sio sd S t3 buf pos (Str.ofString "\n") pos'))(ht:tok.length=tl+1)(hb:tl+1<2 ^ 62) :
  OK w (Zs w.params X R L lex ld sio sd pb fs T S F buf pos t3 qd (some (nc,nT)) (.str (Str.ofString "a") sT) ln lt tok tt (Ow w.params R L lex ld sio sd pb fs T S buf pos' qd (Str.ofString "\n") (fun t=>.str (Str.ofString " ") t) tok)):=by
 refine Z1 hw.w0 _ fun c B p sz tk g he=>?_
 change _=_ at he
 delta Zs at he
 dsimp only at he
 replace he:=Zo he
 subst he
 refine ⟨534,.item [] ((Za w.params sio sd S t3 buf pos (Str.ofString "\n") pos').fr R) (fun l0=>.fin [YX (Int.ofNat ln) (Int.ofNat 1) (Int.ofNat (ln+1)),YL (l0 0) [(Str.ofString "a",l0 1+17),(Str.ofString "c",l0 1+18)] 0 (Str.ofString "a") true,ZH tok (tl+1)]),(dg 319 0x17066000620006576706000606506200065b27066000620006511f2706600062000655822501116055000520005411f2605500052000546055000520005411f260550005200054605500052000540ff26055000520005460550005200054b26055000520005465605000505505200051605500052000540ff2434440065000050000000500000005403300032000328224033000320003110010010202000000002200021),[4,4,4,1,1],0,fun ls=>(fun l0=>fl [l0 0+1,l0 1+30,l0 2,l0 1+4,tt,l0 3,l0 1+24,ln+1,0,0,F 0,F 1,F 2,F 3,F 4]) (ls 0),?_,fun ls=>?_⟩
 ·exact ⟨(fun x hx=>(nomatch hx)),hr.fr R,fun l0=>(AllV.all ⟨Ym rfl,Yw (by kernel_rfl),Zy (by assumption) (by assumption),trivial⟩)⟩
 ·cases b <;> kernel_rfl
theorem a_nl0{b b2:Bool}{w:World}(hw:Wd b b2 w)(X:Fr)(R:Led)(L lex ld sio sd pb fs:Nat)(T S F:Nat→Nat)(buf:Str)(pos t3 sT lt tt ln nT pos':Nat)(nc:Str)(hr:OK w (Za w.params sio sd S t3 buf pos (Str.ofString "\n") pos'))  :
  OK w (Zs w.params X R L lex ld sio sd pb fs T S F buf pos t3 true (some (nc,nT)) (.str (Str.ofString "a") sT) ln lt (Str.ofString "") tt (Ow w.params R L lex ld sio sd pb fs T S buf pos' true (Str.ofString "\n") (fun t=>.str (Str.ofString " ") t) (Str.ofString ""))):=by
 refine Z1 hw.w0 _ fun c B p sz tk g he=>?_
 change _=_ at he
 delta Zs at he
 dsimp only at he
 replace he:=Zo he
 subst he
 refine ⟨564,.item [] ((Za w.params sio sd S t3 buf pos (Str.ofString "\n") pos').fr R) (fun l0=>.fin [YX (Int.ofNat ln) (Int.ofNat 1) (Int.ofNat (ln+1)),YL (l0 0) [(Str.ofString "a",l0 1+17),(Str.ofString "c",l0 1+18)] 0 (Str.ofString "a") true]),(dg 336 0x5706600062000658227066000620006576706000606506200065b27066000620006511f2706600062000655822501116055000520005411f2605500052000546055000520005411f260550005200054605500052000540ff26055000520005460550005200054b26055000520005465605000505505200051605500052000540ff2434440065000050000000500000005403300032000328224033000320003110010010202000000002200021),[4,4,4,1,1],0,fun ls=>(fun l0=>fl [l0 0+1,l0 1+31,l0 2,l0 1+4,tt,l0 3,l0 1+24,ln+1,0,0,F 0,F 1,F 2,F 3,F 4]) (ls 0),?_,fun ls=>?_⟩
 ·exact ⟨(fun x hx=>(nomatch hx)),hr.fr R,fun l0=>(AllV.all ⟨Ym rfl,Yw (by kernel_rfl),trivial⟩)⟩
 ·cases b <;> kernel_rfl
theorem a_ws {b b2:Bool}{w:World}(hw:Wd b b2 w)(X:Fr)(R:Led)(L lex ld sio sd pb fs:Nat)(T S F:Nat→Nat)(buf:Str)(pos t3 sT lt tt ln nT pos':Nat)(nc:Str)(qd:Bool)(tok:Str)(tl:Nat)(ch:Str)(hr:OK w (Za w.params sio sd S t3 buf pos ch pos'))(ht:tok.length=tl+1)(hb:tl+1<2 ^ 62)(hl:ch.length=1)(hnl:eqS ch (Str.ofString "\n")=false)(hws:Zh (Str.ofString " \t\r\n") ch=true) :
  OK w (Zs w.params X R L lex ld sio sd pb fs T S F buf pos t3 qd (some (nc,nT)) (.str (Str.ofString "a") sT) ln lt tok tt (Ow w.params R L lex ld sio sd pb fs T S buf pos' qd ch (fun t=>.str (Str.ofString " ") t) tok)):=by
 refine Z1 hw.w0 _ fun c B p sz tk g he=>?_
 change _=_ at he
 delta Zs at he
 dsimp only at he
 replace he:=Zo he
 subst he
 refine ⟨476,.item [] ((Za w.params sio sd S t3 buf pos ch pos').fr R) (fun l0=>.fin [Zq ch (Str.ofString "\n") false,YL (l0 0) [(Str.ofString "a",l0 1+12),(Str.ofString "c",l0 1+13)] 0 (Str.ofString "a") true,ZH ch 1,Zc (Str.ofString " \t\x0d\n") ch true,ZH tok (tl+1)]),(dg 281 0x17066000620006576706000606506200065b27066000620006517066000620006551501116055000520005411f2605500052000546055000520005411f260550005200054605500052000540ff26055000520005460550005200054b2605500052000541434440065000050000000500000005403300032000328224033000320003110010010202000000002200021),[4,4,4,1,1],0,fun ls=>(fun l0=>fl [l0 0+1,l0 1+25,l0 2,lt,tt,l0 3,l0 1+19,ln,0,0,F 0,F 1,F 2,F 3,F 4]) (ls 0),?_,fun ls=>?_⟩
 ·exact ⟨(fun x hx=>(nomatch hx)),hr.fr R,fun l0=>(AllV.all ⟨Zi (by assumption),Yw (by kernel_rfl),Zy (by assumption) (by omega),Z8 (by assumption),Zy (by assumption) (by assumption),trivial⟩)⟩
 ·cases b <;> kernel_rfl
section
variable{b b2:Bool}{w:World}(hw:Wd b b2 w)(X:Fr)(R:Led)(L lex ld sio sd pb fs:Nat)(T S F:Nat→Nat)(buf:Str)(pos t3 sT lt tt ln nT pos':Nat)(nc:Str)
include b b2 w hw X R L lex ld sio sd pb fs T S F buf pos t3 sT lt tt ln nT pos' nc
theorem a_ws0(ch:Str)(hr:OK w (Za w.params sio sd S t3 buf pos ch pos'))(hl:ch.length=1)(hnl:eqS ch (Str.ofString "\n")=false)(hws:Zh (Str.ofString " \t\r\n") ch=true) :
  OK w (Zs w.params X R L lex ld sio sd pb fs T S F buf pos t3 true (some (nc,nT)) (.str (Str.ofString "a") sT) ln lt (Str.ofString "") tt (Ow w.params R L lex ld sio sd pb fs T S buf pos' true ch (fun t=>.str (Str.ofString " ") t) (Str.ofString ""))):=by
 refine Z1 hw.w0 _ fun c B p sz tk g he=>?_
 change _=_ at he
 delta Zs at he
 dsimp only at he
 replace he:=Zo he
 subst he
 refine ⟨506,.item [] ((Za w.params sio sd S t3 buf pos ch pos').fr R) (fun l0=>.fin [Zq ch (Str.ofString "\n") false,YL (l0 0) [(Str.ofString "a",l0 1+12),(Str.ofString "c",l0 1+13)] 0 (Str.ofString "a") true,ZH ch 1,Zc (Str.ofString " \t\x0d\n") ch true]),(dg 298 0x5706600062000658227066000620006576706000606506200065b27066000620006517066000620006551501116055000520005411f2605500052000546055000520005411f260550005200054605500052000540ff26055000520005460550005200054b2605500052000541434440065000050000000500000005403300032000328224033000320003110010010202000000002200021),[4,4,4,1,1],0,fun ls=>(fun l0=>fl [l0 0+1,l0 1+26,l0 2,lt,tt,l0 3,l0 1+19,ln,0,0,F 0,F 1,F 2,F 3,F 4]) (ls 0),?_,fun ls=>?_⟩
 ·exact ⟨(fun x hx=>(nomatch hx)),hr.fr R,fun l0=>(AllV.all ⟨Zi (by assumption),Yw (by kernel_rfl),Zy (by assumption) (by omega),Z8 (by assumption),trivial⟩)⟩
 ·cases b <;> kernel_rfl
theorem a_q(qd:Bool)(tok:Str)(hr:OK w (Za w.params sio sd S t3 buf pos (Str.ofString "'") pos'))(O:(Nat→Nat)→FOut)
  (h:∀(t3 nT sT lt tt:Nat),OK w (Zs w.params X R L lex ld sio sd pb fs T S F buf pos' t3 qd (some ((Str.ofString "'"),nT)) (.str (Str.ofString "'") sT) ln lt tok tt O)) :
  OK w (Zs w.params X R L lex ld sio sd pb fs T S F buf pos t3 qd (some (nc,nT)) (.str (Str.ofString "a") sT) ln lt tok tt O):=by
 refine Z2 hw.w0 _ (fun sz tk ls=>(fun l0=>Zs w.params X R L lex ld sio sd pb fs T S F buf pos' (l0 3) qd (some (Str.ofString "'",l0 2)) (Value.str (Str.ofString "'") (l0 2)) ln lt tok tt O) (ls 0)) (fun _ _ _ _ _ _ _ _=>rfl) (fun _ _ _=>rfl) (fun _ _ _=>rfl) (fun c B p sz tk g he=>?_) (fun sz tk ls=>h _ _ _ _ _)
 change _=_ at he
 delta Zs at he
 dsimp only at he
 replace he:=Zo he
 subst he
 refine ⟨537,.item [] ((Za w.params sio sd S t3 buf pos (Str.ofString "'") pos').fr R) (fun l0=>.fin [YL (l0 0) [(Str.ofString "a",l0 1+12),(Str.ofString "c",l0 1+13)] 0 (Str.ofString "a") true]),(dg 320 0x76706000606506200065511f2706600062000655706600062000650ff27066000620006511f270660006200065511f2706600062000655822501116055000520005411f2605500052000546055000520005411f260550005200054605500052000540ff26055000520005460550005200054b2605500052000540ff2434440065000050000000500000005403300032000328224033000320003110010010202000000002200021),[4,4,4,1,1],0,?_,fun ls=>?_⟩
 ·exact ⟨(fun x hx=>(nomatch hx)),hr.fr R,fun l0=>(AllV.all ⟨Yw (by kernel_rfl),trivial⟩)⟩
 ·cases b <;> kernel_rfl
theorem a_d(qd:Bool)(tok:Str)(hr:OK w (Za w.params sio sd S t3 buf pos (Str.ofString "\"") pos'))(O:(Nat→Nat)→FOut)
  (h:∀(t3 nT sT lt tt:Nat),OK w (Zs w.params X R L lex ld sio sd pb fs T S F buf pos' t3 qd (some ((Str.ofString "\""),nT)) (.str (Str.ofString "\"") sT) ln lt tok tt O)) :
  OK w (Zs w.params X R L lex ld sio sd pb fs T S F buf pos t3 qd (some (nc,nT)) (.str (Str.ofString "a") sT) ln lt tok tt O):=by
 refine Z2 hw.w0 _ (fun sz tk ls=>(fun l0=>Zs w.params X R L lex ld sio sd pb fs T S F buf pos' (l0 3) qd (some (Str.ofString "\"",l0 2)) (Value.str (Str.ofString "\"") (l0 2)) ln lt tok tt O) (ls 0)) (fun _ _ _ _ _ _ _ _=>rfl) (fun _ _ _=>rfl) (fun _ _ _=>rfl) (fun c B p sz tk g he=>?_) (fun sz tk ls=>h _ _ _ _ _)
 change _=_ at he
 delta Zs at he
 dsimp only at he
 replace he:=Zo he
 subst he
 refine ⟨537,.item [] ((Za w.params sio sd S t3 buf pos (Str.ofString "\"") pos').fr R) (fun l0=>.fin [YL (l0 0) [(Str.ofString "a",l0 1+12),(Str.ofString "c",l0 1+13)] 0 (Str.ofString "a") true]),(dg 320 0x76706000606506200065511f2706600062000655706600062000650ff27066000620006511f270660006200065511f2706600062000655822501116055000520005411f2605500052000546055000520005411f260550005200054605500052000540ff26055000520005460550005200054b2605500052000540ff2434440065000050000000500000005403300032000328224033000320003110010010202000000002200021),[4,4,4,1,1],0,?_,fun ls=>?_⟩
 ·exact ⟨(fun x hx=>(nomatch hx)),hr.fr R,fun l0=>(AllV.all ⟨Yw (by kernel_rfl),trivial⟩)⟩
 ·cases b <;> kernel_rfl
end
theorem a_word {b b2:Bool}{w:World}(hw:Wd b b2 w)(X:Fr)(R:Led)(L lex ld sio sd pb fs:Nat)(T S F:Nat→Nat)(buf:Str)(pos t3 sT lt tt ln nT pos':Nat)(nc:Str)(qd:Bool)(tok:Str)(ch:Str)(hr:OK w (Za w.params sio sd S t3 buf pos ch pos'))(ht0:tok.length≠0)(hc0:ch.length≠0)(hb:(tok++ch).length≤sizeLine)(hl:ch.length=1)(hnl:eqS ch (Str.ofString "\n")=false)(hws:Zh (Str.ofString " \t\r\n") ch=false)(hcm:Zh (Str.ofString "") ch=false)(hes:Zh (Str.ofString "\\") ch=false)(hwc:Zh wcS ch=true)(hqu:Zh (Str.ofString "'\"") ch=false)(O:(Nat→Nat)→FOut)
  (h:∀(t3 nT sT lt tt:Nat),OK w (Zs w.params X R L lex ld sio sd pb fs T S F buf pos' t3 qd (some (ch,nT)) (.str (Str.ofString "a") sT) ln lt (tok++ch) tt O)) :
  OK w (Zs w.params X R L lex ld sio sd pb fs T S F buf pos t3 qd (some (nc,nT)) (.str (Str.ofString "a") sT) ln lt tok tt O):=by
 refine Z2 hw.w0 _ (fun sz tk ls=>(fun l0=>Zs w.params X R L lex ld sio sd pb fs T S F buf pos' (l0 3) qd (some (ch,l0 2)) (Value.str (Str.ofString "a") sT) ln lt (tok++ch) (l0 1+26) O) (ls 0)) (fun _ _ _ _ _ _ _ _=>rfl) (fun _ _ _=>rfl) (fun _ _ _=>rfl) (fun c B p sz tk g he=>?_) (fun sz tk ls=>h _ _ _ _ _)
 change _=_ at he
 delta Zs at he
 dsimp only at he
 replace he:=Zo he
 subst he
 refine ⟨610,.item [] ((Za w.params sio sd S t3 buf pos ch pos').fr R) (fun l0=>.fin [Zq ch (Str.ofString "\n") false,YL (l0 0) [(Str.ofString "a",l0 1+12),(Str.ofString "c",l0 1+13)] 0 (Str.ofString "a") true,ZH ch 1,Zc (Str.ofString " \t\x0d\n") ch false,Zc (Str.ofString "") ch false,Zc (Str.ofString "'\"") ch false,Zc (Str.ofString "\\") ch false,Zc wcS ch true,Jz tok ch (tok++ch)]),(dg 374 0x7670600060650620006157066000620006517066000620006551706600062000655706600062000651706600062000655706600062000650ff270660006200065170660006200065517066000620006551501116055000520005411f2605500052000546055000520005411f260550005200054605500052000540ff26055000520005460550005200054b2605500052000541434440065000050000000500000005403300032000328224033000320003110010010202000000002200021),[4,4,4,1,1],0,?_,fun ls=>?_⟩
 ·exact ⟨(fun x hx=>(nomatch hx)),hr.fr R,fun l0=>(AllV.all ⟨Zi (by assumption),Yw (by kernel_rfl),Zy (by assumption) (by omega),Z8 (by assumption),Z8 (by assumption),Z8 (by assumption),Z8 (by assumption),Z8 (by assumption),Qz rfl (by assumption) (by assumption) (by assumption),trivial⟩)⟩
 ·cases b <;> kernel_rfl
theorem a_oth {b b2:Bool}{w:World}(hw:Wd b b2 w)(X:Fr)(R:Led)(L lex ld sio sd pb fs:Nat)(T S F:Nat→Nat)(buf:Str)(pos t3 sT lt tt ln nT pos':Nat)(nc:Str)(qd:Bool)(tok:Str)(ch:Str)(hr:OK w (Za w.params sio sd S t3 buf pos ch pos'))(ht0:tok.length≠0)(hc0:ch.length≠0)(hb:(tok++ch).length≤sizeLine)(hl:ch.length=1)(hnl:eqS ch (Str.ofString "\n")=false)(hws:Zh (Str.ofString " \t\r\n") ch=false)(hcm:Zh (Str.ofString "") ch=false)(hes:Zh (Str.ofString "\\") ch=false)(hwc:Zh wcS ch=false)(hqu:Zh (Str.ofString "'\"") ch=false)(O:(Nat→Nat)→FOut)
  (h:∀(t3 nT sT lt tt:Nat),OK w (Zs w.params X R L lex ld sio sd pb fs T S F buf pos' t3 qd (some (ch,nT)) (.str (Str.ofString "a") sT) ln lt (tok++ch) tt O)) :
  OK w (Zs w.params X R L lex ld sio sd pb fs T S F buf pos t3 qd (some (nc,nT)) (.str (Str.ofString "a") sT) ln lt tok tt O):=by
 refine Z2 hw.w0 _ (fun sz tk ls=>(fun l0=>Zs w.params X R L lex ld sio sd pb fs T S F buf pos' (l0 3) qd (some (ch,l0 2)) (Value.str (Str.ofString "a") sT) ln lt (tok++ch) (l0 1+31) O) (ls 0)) (fun _ _ _ _ _ _ _ _=>rfl) (fun _ _ _=>rfl) (fun _ _ _=>rfl) (fun c B p sz tk g he=>?_) (fun sz tk ls=>h _ _ _ _ _)
 change _=_ at he
 delta Zs at he
 dsimp only at he
 replace he:=Zo he
 subst he
 refine ⟨714,.item [] ((Za w.params sio sd S t3 buf pos ch pos').fr R) (fun l0=>.fin [Zq ch (Str.ofString "\n") false,YL (l0 0) [(Str.ofString "a",l0 1+12),(Str.ofString "c",l0 1+13)] 0 (Str.ofString "a") true,ZH ch 1,Zc (Str.ofString " \t\x0d\n") ch false,Zc (Str.ofString "") ch false,Zc (Str.ofString "'\"") ch false,Zc (Str.ofString "\\") ch false,Zc wcS ch false,Zc (Str.ofString "'\"") ch false,Zc (Str.ofString "") ch false,Jz tok ch (tok++ch)]),(dg 446 0x8780700070750720007168077000720007618077000720007110010010202000000006200065570660006200065170660006200065517066000620006551706600062000655706600062000651706600062000655706600062000650ff270660006200065170660006200065517066000620006551501116055000520005411f2605500052000546055000520005411f260550005200054605500052000540ff26055000520005460550005200054b2605500052000541434440065000050000000500000005403300032000328224033000320003110010010202000000002200021),[5,5,5,2,2],0,?_,fun ls=>?_⟩
 ·exact ⟨(fun x hx=>(nomatch hx)),hr.fr R,fun l0=>(AllV.all ⟨Zi (by assumption),Yw (by kernel_rfl),Zy (by assumption) (by omega),Z8 (by assumption),Z8 (by assumption),Z8 (by assumption),Z8 (by assumption),Z8 (by assumption),Z8 (by assumption),Z8 (by assumption),Qz rfl (by assumption) (by assumption) (by assumption),trivial⟩)⟩
 ·cases b <;> kernel_rfl
section
variable{b b2:Bool}{w:World}(hw:Wd b b2 w)(X:Fr)(R:Led)(L lex ld sio sd pb fs:Nat)(T S F:Nat→Nat)(buf:Str)(pos t3 sT lt tt ln nT pos':Nat)(nc:Str)(qd:Bool)(tok:Str)
include b b2 w hw X R L lex ld sio sd pb fs T S F buf pos t3 sT lt tt ln nT pos' nc qd tok
theorem q_end(hr:OK w (Za w.params sio sd S t3 buf pos (Str.ofString "'") pos'))(O:(Nat→Nat)→FOut)
  (h:∀(t3 nT sT lt tt:Nat),OK w (Zs w.params X R L lex ld sio sd pb fs T S F buf pos' t3 true (some ((Str.ofString "'"),nT)) (.str (Str.ofString "a") sT) ln lt tok tt O)) :
  OK w (Zs w.params X R L lex ld sio sd pb fs T S F buf pos t3 qd (some (nc,nT)) (.str (Str.ofString "'") sT) ln lt tok tt O):=by
 refine Z2 hw.w0 _ (fun sz tk ls=>(fun l0=>Zs w.params X R L lex ld sio sd pb fs T S F buf pos' (l0 3) true (some (Str.ofString "'",l0 2)) (Value.str (Str.ofString "a") (l0 1+14)) ln lt tok tt O) (ls 0)) (fun _ _ _ _ _ _ _ _=>rfl) (fun _ _ _=>rfl) (fun _ _ _=>rfl) (fun c B p sz tk g he=>?_) (fun sz tk ls=>h _ _ _ _ _)
 change _=_ at he
 delta Zs at he
 dsimp only at he
 replace he:=Zo he
 subst he
 refine ⟨397,.item [] ((Za w.params sio sd S t3 buf pos (Str.ofString "'") pos').fr R) (fun l0=>.fin []),(dg 223 0x65605000505505200054605500052000540ff260550005200054482243411f260550005200054605500052000540ff26055000520005460550005200054b2605500052000540ff2434440065000050000000500000005403300032000328224033000320003110010010202000000002200021),[3,3,3,0,0],0,?_,fun ls=>?_⟩
 ·exact ⟨(fun x hx=>(nomatch hx)),hr.fr R,fun l0=>(fun x hx=>(nomatch hx))⟩
 ·cases b <;> kernel_rfl
theorem d_end(hr:OK w (Za w.params sio sd S t3 buf pos (Str.ofString "\"") pos'))(O:(Nat→Nat)→FOut)
  (h:∀(t3 nT sT lt tt:Nat),OK w (Zs w.params X R L lex ld sio sd pb fs T S F buf pos' t3 true (some ((Str.ofString "\""),nT)) (.str (Str.ofString "a") sT) ln lt tok tt O)) :
  OK w (Zs w.params X R L lex ld sio sd pb fs T S F buf pos t3 qd (some (nc,nT)) (.str (Str.ofString "\"") sT) ln lt tok tt O):=by
 refine Z2 hw.w0 _ (fun sz tk ls=>(fun l0=>Zs w.params X R L lex ld sio sd pb fs T S F buf pos' (l0 3) true (some (Str.ofString "\"",l0 2)) (Value.str (Str.ofString "a") (l0 1+14)) ln lt tok tt O) (ls 0)) (fun _ _ _ _ _ _ _ _=>rfl) (fun _ _ _=>rfl) (fun _ _ _=>rfl) (fun c B p sz tk g he=>?_) (fun sz tk ls=>h _ _ _ _ _)
 change _=_ at he
 delta Zs at he
 dsimp only at he
 replace he:=Zo he
 subst he
 refine ⟨397,.item [] ((Za w.params sio sd S t3 buf pos (Str.ofString "\"") pos').fr R) (fun l0=>.fin []),(dg 223 0x65605000505505200054605500052000540ff260550005200054482243411f260550005200054605500052000540ff26055000520005460550005200054b2605500052000540ff2434440065000050000000500000005403300032000328224033000320003110010010202000000002200021),[3,3,3,0,0],0,?_,fun ls=>?_⟩
 ·exact ⟨(fun x hx=>(nomatch hx)),hr.fr R,fun l0=>(fun x hx=>(nomatch hx))⟩
 ·cases b <;> kernel_rfl
end
theorem q_nl {b b2:Bool}{w:World}(hw:Wd b b2 w)(X:Fr)(R:Led)(L lex ld sio sd pb fs:Nat)(T S F:Nat→Nat)(buf:Str)(pos t3 sT lt tt ln nT pos':Nat)(nc:Str)(qd:Bool)(tok:Str)(hr:OK w (Za w.params sio sd S t3 buf pos (Str.ofString "\n") pos'))(ht0:tok.length≠0)(hb:(tok++(Str.ofString "\n")).length≤sizeLine)(hc0:(Str.ofString "\n").length≠0)(O:(Nat→Nat)→FOut)
  (h:∀(t3 nT sT lt tt:Nat),OK w (Zs w.params X R L lex ld sio sd pb fs T S F buf pos' t3 true (some ((Str.ofString "\n"),nT)) (.str (Str.ofString "'") sT) (ln+1) lt (tok++(Str.ofString "\n")) tt O)) :
  OK w (Zs w.params X R L lex ld sio sd pb fs T S F buf pos t3 qd (some (nc,nT)) (.str (Str.ofString "'") sT) ln lt tok tt O):=by
 refine Z2 hw.w0 _ (fun sz tk ls=>(fun l0=>Zs w.params X R L lex ld sio sd pb fs T S F buf pos' (l0 3) true (some (Str.ofString "\n",l0 2)) (Value.str (Str.ofString "'") sT) (ln+1) (l0 1+4) (tok++Str.ofString "\n") (l0 1+21) O) (ls 0)) (fun _ _ _ _ _ _ _ _=>rfl) (fun _ _ _=>rfl) (fun _ _ _=>rfl) (fun c B p sz tk g he=>?_) (fun sz tk ls=>h _ _ _ _ _)
 change _=_ at he
 delta Zs at he
 dsimp only at he
 replace he:=Zo he
 subst he
 refine ⟨490,.item [] ((Za w.params sio sd S t3 buf pos (Str.ofString "\n") pos').fr R) (fun l0=>.fin [YX (Int.ofNat ln) (Int.ofNat 1) (Int.ofNat (ln+1)),Jz tok (Str.ofString "\n") (tok++Str.ofString "\n")]),(dg 289 0x6560500050550520005146055000520005411f2605500052000544605500052000540ff260550005200054482243411f260550005200054605500052000540ff26055000520005460550005200054b26055000520005465605000505505200051605500052000540ff2434440065000050000000500000005403300032000328224033000320003110010010202000000002200021),[3,3,3,0,0],0,?_,fun ls=>?_⟩
 ·exact ⟨(fun x hx=>(nomatch hx)),hr.fr R,fun l0=>(AllV.all ⟨Ym rfl,Qz rfl (by assumption) (by assumption) (by assumption),trivial⟩)⟩
 ·cases b <;> kernel_rfl
theorem q_nl0{b b2:Bool}{w:World}(hw:Wd b b2 w)(X:Fr)(R:Led)(L lex ld sio sd pb fs:Nat)(T S F:Nat→Nat)(buf:Str)(pos t3 sT lt tt ln nT pos':Nat)(nc:Str)(qd:Bool)(hr:OK w (Za w.params sio sd S t3 buf pos (Str.ofString "\n") pos'))(O:(Nat→Nat)→FOut)
  (h:∀(t3 nT sT lt tt:Nat),OK w (Zs w.params X R L lex ld sio sd pb fs T S F buf pos' t3 true (some ((Str.ofString "\n"),nT)) (.str (Str.ofString "'") sT) (ln+1) lt (Str.ofString "\n") tt O)) :
  OK w (Zs w.params X R L lex ld sio sd pb fs T S F buf pos t3 qd (some (nc,nT)) (.str (Str.ofString "'") sT) ln lt (Str.ofString "") tt O):=by
 refine Z2 hw.w0 _ (fun sz tk ls=>(fun l0=>Zs w.params X R L lex ld sio sd pb fs T S F buf pos' (l0 3) true (some (Str.ofString "\n",l0 2)) (Value.str (Str.ofString "'") sT) (ln+1) (l0 1+4) (Str.ofString "\n") (l0 2) O) (ls 0)) (fun _ _ _ _ _ _ _ _=>rfl) (fun _ _ _=>rfl) (fun _ _ _=>rfl) (fun c B p sz tk g he=>?_) (fun sz tk ls=>h _ _ _ _ _)
 change _=_ at he
 delta Zs at he
 dsimp only at he
 replace he:=Zo he
 subst he
 refine ⟨493,.item [] ((Za w.params sio sd S t3 buf pos (Str.ofString "\n") pos').fr R) (fun l0=>.fin [YX (Int.ofNat ln) (Int.ofNat 1) (Int.ofNat (ln+1))]),(dg 290 0x65605000505505200051af246055000520005411f2605500052000544605500052000540ff260550005200054482243411f260550005200054605500052000540ff26055000520005460550005200054b26055000520005465605000505505200051605500052000540ff2434440065000050000000500000005403300032000328224033000320003110010010202000000002200021),[3,3,3,0,0],0,?_,fun ls=>?_⟩
 ·exact ⟨(fun x hx=>(nomatch hx)),hr.fr R,fun l0=>(AllV.all ⟨Ym rfl,trivial⟩)⟩
 ·cases b <;> kernel_rfl
theorem q_oth {b b2:Bool}{w:World}(hw:Wd b b2 w)(X:Fr)(R:Led)(L lex ld sio sd pb fs:Nat)(T S F:Nat→Nat)(buf:Str)(pos t3 sT lt tt ln nT pos':Nat)(nc:Str)(qd:Bool)(tok:Str)(ch:Str)(hr:OK w (Za w.params sio sd S t3 buf pos ch pos'))(ht0:tok.length≠0)(hc0:ch.length≠0)(hb:(tok++ch).length≤sizeLine)(hl:ch.length=1)(hnl:eqS ch (Str.ofString "\n")=false)(hq:eqS ch (Str.ofString "'")=false)(hes:Zh (Str.ofString "\\") ch=false)(O:(Nat→Nat)→FOut)
  (h:∀(t3 nT sT lt tt:Nat),OK w (Zs w.params X R L lex ld sio sd pb fs T S F buf pos' t3 true (some (ch,nT)) (.str (Str.ofString "'") sT) ln lt (tok++ch) tt O)) :
  OK w (Zs w.params X R L lex ld sio sd pb fs T S F buf pos t3 qd (some (nc,nT)) (.str (Str.ofString "'") sT) ln lt tok tt O):=by
 refine Z2 hw.w0 _ (fun sz tk ls=>(fun l0=>Zs w.params X R L lex ld sio sd pb fs T S F buf pos' (l0 3) true (some (ch,l0 2)) (Value.str (Str.ofString "'") sT) ln lt (tok++ch) (l0 1+16) O) (ls 0)) (fun _ _ _ _ _ _ _ _=>rfl) (fun _ _ _=>rfl) (fun _ _ _=>rfl) (fun c B p sz tk g he=>?_) (fun sz tk ls=>h _ _ _ _ _)
 change _=_ at he
 delta Zs at he
 dsimp only at he
 replace he:=Zo he
 subst he
 refine ⟨430,.item [] ((Za w.params sio sd S t3 buf pos ch pos').fr R) (fun l0=>.fin [Zq ch (Str.ofString "\n") false,ZH ch 1,Zq ch (Str.ofString "'") false,Zc (Str.ofString "\\") ch false,Jz tok ch (tok++ch)]),(dg 250 0x656050005055052000514605500052000541605500052000544605500052000541605500052000544143411f260550005200054605500052000540ff26055000520005460550005200054b2605500052000541434440065000050000000500000005403300032000328224033000320003110010010202000000002200021),[3,3,3,0,0],0,?_,fun ls=>?_⟩
 ·exact ⟨(fun x hx=>(nomatch hx)),hr.fr R,fun l0=>(AllV.all ⟨Zi (by assumption),Zy (by assumption) (by omega),Zi (by assumption),Z8 (by assumption),Qz rfl (by assumption) (by assumption) (by assumption),trivial⟩)⟩
 ·cases b <;> kernel_rfl
theorem q_oth0{b b2:Bool}{w:World}(hw:Wd b b2 w)(X:Fr)(R:Led)(L lex ld sio sd pb fs:Nat)(T S F:Nat→Nat)(buf:Str)(pos t3 sT lt tt ln nT pos':Nat)(nc:Str)(qd:Bool)(ch:Str)(hr:OK w (Za w.params sio sd S t3 buf pos ch pos'))(hl:ch.length=1)(hnl:eqS ch (Str.ofString "\n")=false)(hq:eqS ch (Str.ofString "'")=false)(hes:Zh (Str.ofString "\\") ch=false)(O:(Nat→Nat)→FOut)
  (h:∀(t3 nT sT lt tt:Nat),OK w (Zs w.params X R L lex ld sio sd pb fs T S F buf pos' t3 true (some (ch,nT)) (.str (Str.ofString "'") sT) ln lt ch tt O)) :
  OK w (Zs w.params X R L lex ld sio sd pb fs T S F buf pos t3 qd (some (nc,nT)) (.str (Str.ofString "'") sT) ln lt (Str.ofString "") tt O):=by
 refine Z2 hw.w0 _ (fun sz tk ls=>(fun l0=>Zs w.params X R L lex ld sio sd pb fs T S F buf pos' (l0 3) true (some (ch,l0 2)) (Value.str (Str.ofString "'") sT) ln lt ch (K7 ([Value.str (Str.ofString "") tt,Value.str ch (l0 2)].getD 1 Value.none)) O) (ls 0)) (fun _ _ _ _ _ _ _ _=>rfl) (fun _ _ _=>rfl) (fun _ _ _=>rfl) (fun c B p sz tk g he=>?_) (fun sz tk ls=>h _ _ _ _ _)
 change _=_ at he
 delta Zs at he
 dsimp only at he
 replace he:=Zo he
 subst he
 refine ⟨430,.item [] ((Za w.params sio sd S t3 buf pos ch pos').fr R) (fun l0=>.fin [Zq ch (Str.ofString "\n") false,ZH ch 1,Zq ch (Str.ofString "'") false,Zc (Str.ofString "\\") ch false,KI (Str.ofString "") ch]),(dg 250 0x656050005055052000514605500052000541605500052000544605500052000541605500052000544143411f260550005200054605500052000540ff26055000520005460550005200054b2605500052000541434440065000050000000500000005403300032000328224033000320003110010010202000000002200021),[3,3,3,0,0],0,?_,fun ls=>?_⟩
 ·exact ⟨(fun x hx=>(nomatch hx)),hr.fr R,fun l0=>(AllV.all ⟨Zi (by assumption),Zy (by assumption) (by omega),Zi (by assumption),Z8 (by assumption),Kp (by rfl),trivial⟩)⟩
 ·cases b <;> kernel_rfl
theorem q_esc {b b2:Bool}{w:World}(hw:Wd b b2 w)(X:Fr)(R:Led)(L lex ld sio sd pb fs:Nat)(T S F:Nat→Nat)(buf:Str)(pos t3 sT lt tt ln nT pos':Nat)(nc:Str)(qd:Bool)(tok:Str)(ch:Str)(hr:OK w (Za w.params sio sd S t3 buf pos ch pos'))(ht0:tok.length≠0)(hc0:ch.length≠0)(hb:(tok++ch).length≤sizeLine)(hl:ch.length=1)(hnl:eqS ch (Str.ofString "\n")=false)(hq:eqS ch (Str.ofString "'")=false)(hes:Zh (Str.ofString "\\") ch=true)(O:(Nat→Nat)→FOut)
  (h:∀(t3 nT sT lt tt:Nat),OK w (Zs w.params X R L lex ld sio sd pb fs T S F buf pos' t3 true (some (ch,nT)) (.str (Str.ofString "'") sT) ln lt (tok++ch) tt O)) :
  OK w (Zs w.params X R L lex ld sio sd pb fs T S F buf pos t3 qd (some (nc,nT)) (.str (Str.ofString "'") sT) ln lt tok tt O):=by
 refine Z2 hw.w0 _ (fun sz tk ls=>(fun l0=>Zs w.params X R L lex ld sio sd pb fs T S F buf pos' (l0 3) true (some (ch,l0 2)) (Value.str (Str.ofString "'") sT) ln lt (tok++ch) (l0 1+18) O) (ls 0)) (fun _ _ _ _ _ _ _ _=>rfl) (fun _ _ _=>rfl) (fun _ _ _=>rfl) (fun c B p sz tk g he=>?_) (fun sz tk ls=>h _ _ _ _ _)
 change _=_ at he
 delta Zs at he
 dsimp only at he
 replace he:=Zo he
 subst he
 refine ⟨472,.item [] ((Za w.params sio sd S t3 buf pos ch pos').fr R) (fun l0=>.fin [Zq ch (Str.ofString "\n") false,ZH ch 1,Zq ch (Str.ofString "'") false,Zc (Str.ofString "\\") ch true,Jz tok ch (tok++ch)]),(dg 280 0x6560500050550520005146055000520005411f260550005200054605500052000541605500052000544605500052000541605500052000544143411f260550005200054605500052000540ff26055000520005460550005200054b2605500052000541434440065000050000000500000005403300032000328224033000320003110010010202000000002200021),[3,3,3,0,0],0,?_,fun ls=>?_⟩
 ·exact ⟨(fun x hx=>(nomatch hx)),hr.fr R,fun l0=>(AllV.all ⟨Zi (by assumption),Zy (by assumption) (by omega),Zi (by assumption),Z8 (by assumption),Qz rfl (by assumption) (by assumption) (by assumption),trivial⟩)⟩
 ·cases b <;> kernel_rfl
theorem q_esc0{b b2:Bool}{w:World}(hw:Wd b b2 w)(X:Fr)(R:Led)(L lex ld sio sd pb fs:Nat)(T S F:Nat→Nat)(buf:Str)(pos t3 sT lt tt ln nT pos':Nat)(nc:Str)(qd:Bool)(ch:Str)(hr:OK w (Za w.params sio sd S t3 buf pos ch pos'))(hl:ch.length=1)(hnl:eqS ch (Str.ofString "\n")=false)(hq:eqS ch (Str.ofString "'")=false)(hes:Zh (Str.ofString "\\") ch=true)(O:(Nat→Nat)→FOut)
  (h:∀(t3 nT sT lt tt:Nat),OK w (Zs w.params X R L lex ld sio sd pb fs T S F buf pos' t3 true (some (ch,nT)) (.str (Str.ofString "'") sT) ln lt ch tt O)) :
  OK w (Zs w.params X R L lex ld sio sd pb fs T S F buf pos t3 qd (some (nc,nT)) (.str (Str.ofString "'") sT) ln lt (Str.ofString "") tt O):=by
 refine Z2 hw.w0 _ (fun sz tk ls=>(fun l0=>Zs w.params X R L lex ld sio sd pb fs T S F buf pos' (l0 3) true (some (ch,l0 2)) (Value.str (Str.ofString "'") sT) ln lt ch (K7 ([Value.str (Str.ofString "") tt,Value.str ch (l0 2)].getD 1 Value.none)) O) (ls 0)) (fun _ _ _ _ _ _ _ _=>rfl) (fun _ _ _=>rfl) (fun _ _ _=>rfl) (fun c B p sz tk g he=>?_) (fun sz tk ls=>h _ _ _ _ _)
 change _=_ at he
 delta Zs at he
 dsimp only at he
 replace he:=Zo he
 subst he
 refine ⟨472,.item [] ((Za w.params sio sd S t3 buf pos ch pos').fr R) (fun l0=>.fin [Zq ch (Str.ofString "\n") false,ZH ch 1,Zq ch (Str.ofString "'") false,Zc (Str.ofString "\\") ch true,KI (Str.ofString "") ch]),(dg 280 0x6560500050550520005146055000520005411f260550005200054605500052000541605500052000544605500052000541605500052000544143411f260550005200054605500052000540ff26055000520005460550005200054b2605500052000541434440065000050000000500000005403300032000328224033000320003110010010202000000002200021),[3,3,3,0,0],0,?_,fun ls=>?_⟩
 ·exact ⟨(fun x hx=>(nomatch hx)),hr.fr R,fun l0=>(AllV.all ⟨Zi (by assumption),Zy (by assumption) (by omega),Zi (by assumption),Z8 (by assumption),Kp (by rfl),trivial⟩)⟩
 ·cases b <;> kernel_rfl
theorem d_oth {b b2:Bool}{w:World}(hw:Wd b b2 w)(X:Fr)(R:Led)(L lex ld sio sd pb fs:Nat)(T S F:Nat→Nat)(buf:Str)(pos t3 sT lt tt ln nT pos':Nat)(nc:Str)(qd:Bool)(tok:Str)(ch:Str)(hr:OK w (Za w.params sio sd S t3 buf pos ch pos'))(ht0:tok.length≠0)(hc0:ch.length≠0)(hb:(tok++ch).length≤sizeLine)(hl:ch.length=1)(hnl:eqS ch (Str.ofString "\n")=false)(hq:eqS ch (Str.ofString "\"")=false)(hes:Zh (Str.ofString "\\") ch=false)(O:(Nat→Nat)→FOut)
  (h:∀(t3 nT sT lt tt:Nat),OK w (Zs w.params X R L lex ld sio sd pb fs T S F buf pos' t3 true (some (ch,nT)) (.str (Str.ofString "\"") sT) ln lt (tok++ch) tt O)) :
  OK w (Zs w.params X R L lex ld sio sd pb fs T S F buf pos t3 qd (some (nc,nT)) (.str (Str.ofString "\"") sT) ln lt tok tt O):=by
 refine Z2 hw.w0 _ (fun sz tk ls=>(fun l0=>Zs w.params X R L lex ld sio sd pb fs T S F buf pos' (l0 3) true (some (ch,l0 2)) (Value.str (Str.ofString "\"") sT) ln lt (tok++ch) (l0 1+16) O) (ls 0)) (fun _ _ _ _ _ _ _ _=>rfl) (fun _ _ _=>rfl) (fun _ _ _=>rfl) (fun c B p sz tk g he=>?_) (fun sz tk ls=>h _ _ _ _ _)
 change _=_ at he
 delta Zs at he
 dsimp only at he
 replace he:=Zo he
 subst he
 refine ⟨430,.item [] ((Za w.params sio sd S t3 buf pos ch pos').fr R) (fun l0=>.fin [Zq ch (Str.ofString "\n") false,ZH ch 1,Zq ch (Str.ofString "\"") false,Zc (Str.ofString "\\") ch false,Jz tok ch (tok++ch)]),(dg 250 0x656050005055052000514605500052000541605500052000544605500052000541605500052000544143411f260550005200054605500052000540ff26055000520005460550005200054b2605500052000541434440065000050000000500000005403300032000328224033000320003110010010202000000002200021),[3,3,3,0,0],0,?_,fun ls=>?_⟩
 ·exact ⟨(fun x hx=>(nomatch hx)),hr.fr R,fun l0=>(AllV.all ⟨Zi (by assumption),Zy (by assumption) (by omega),Zi (by assumption),Z8 (by assumption),Qz rfl (by assumption) (by assumption) (by assumption),trivial⟩)⟩
 ·cases b <;> kernel_rfl
theorem d_oth0{b b2:Bool}{w:World}(hw:Wd b b2 w)(X:Fr)(R:Led)(L lex ld sio sd pb fs:Nat)(T S F:Nat→Nat)(buf:Str)(pos t3 sT lt tt ln nT pos':Nat)(nc:Str)(qd:Bool)(ch:Str)(hr:OK w (Za w.params sio sd S t3 buf pos ch pos'))(hl:ch.length=1)(hnl:eqS ch (Str.ofString "\n")=false)(hq:eqS ch (Str.ofString "\"")=false)(hes:Zh (Str.ofString "\\") ch=false)(O:(Nat→Nat)→FOut)
  (h:∀(t3 nT sT lt tt:Nat),OK w (Zs w.params X R L lex ld sio sd pb fs T S F buf pos' t3 true (some (ch,nT)) (.str (Str.ofString "\"") sT) ln lt ch tt O)) :
  OK w (Zs w.params X R L lex ld sio sd pb fs T S F buf pos t3 qd (some (nc,nT)) (.str (Str.ofString "\"") sT) ln lt (Str.ofString "") tt O):=by
 refine Z2 hw.w0 _ (fun sz tk ls=>(fun l0=>Zs w.params X R L lex ld sio sd pb fs T S F buf pos' (l0 3) true (some (ch,l0 2)) (Value.str (Str.ofString "\"") sT) ln lt ch (K7 ([Value.str (Str.ofString "") tt,Value.str ch (l0 2)].getD 1 Value.none)) O) (ls 0)) (fun _ _ _ _ _ _ _ _=>rfl) (fun _ _ _=>rfl) (fun _ _ _=>rfl) (fun c B p sz tk g he=>?_) (fun sz tk ls=>h _ _ _ _ _)
 change _=_ at he
 delta Zs at he
 dsimp only at he
 replace he:=Zo he
 subst he
 refine ⟨430,.item [] ((Za w.params sio sd S t3 buf pos ch pos').fr R) (fun l0=>.fin [Zq ch (Str.ofString "\n") false,ZH ch 1,Zq ch (Str.ofString "\"") false,Zc (Str.ofString "\\") ch false,KI (Str.ofString "") ch]),(dg 250 0x656050005055052000514605500052000541605500052000544605500052000541605500052000544143411f260550005200054605500052000540ff26055000520005460550005200054b2605500052000541434440065000050000000500000005403300032000328224033000320003110010010202000000002200021),[3,3,3,0,0],0,?_,fun ls=>?_⟩
 ·exact ⟨(fun x hx=>(nomatch hx)),hr.fr R,fun l0=>(AllV.all ⟨Zi (by assumption),Zy (by assumption) (by omega),Zi (by assumption),Z8 (by assumption),Kp (by rfl),trivial⟩)⟩
 ·cases b <;> kernel_rfl
noncomputable def dqO:Obj:=⟨.type "collections.deque",none,.fields #[.none,.int 0 0],#[]⟩
noncomputable def Z2g (P:Params)(X:Fr)(lex ld sio sd pb fs:Nat)(T S:Nat→Nat)(buf:Str)(pos t3:Nat)(st:Value)(ln lt tt:Nat)(pos':Nat)(st':Nat→Value)(v:Nat→Value):FItem where
 c:=.call (.ref 707) ⟨[.ref lex],[]⟩
 B:=nrm (.f (ZG P 700 X.g)::.f (ZG P 736 X.n)::shN P X)
 pre:=[(lex,ZA 739 ld),(ld,JC P T sio pb fs st ln lt (Str.ofString "") tt),(sio,ZA 604 sd),(sd,QQ P S t3 buf pos)]
 out:=fun _ _ l=>⟨.ok (.ret (v (l 2))),[(lex,ZA 739 ld),(ld,JC P T sio pb fs (st' (l 6)) (l 7) (l 3) (Str.ofString "") (l 4)),(sio,ZA 604 sd),(sd,QQ P S (l 5) buf pos')],l 0,l 1,id,[]⟩
section
variable{b b2:Bool}{w:World}(hw:Wd b b2 w)(X:Fr)(lex ld sio sd pb fs:Nat)(T S:Nat→Nat)(buf:Str)(pos t3 lt tt ln pos' tl:Nat)(st:Value)
include b b2 w hw X lex ld sio sd pb fs T S buf pos t3 lt tt ln pos' tl st
theorem rt_tok(tok nc:Str)(st':Nat→Value)
  (hl:∀ L F,OK w (Zs w.params X [] L lex ld sio sd pb fs T S F buf pos t3 false none st ln lt (Str.ofString "") tt (Ow w.params [] L lex ld sio sd pb fs T S buf pos' false nc st' tok)))
  (ht:eqS tok (Str.ofString "")=false):OK w (Z2g w.params X lex ld sio sd pb fs T S buf pos t3 st ln lt tt pos' st' (fun t=>.str tok t)):=by
 refine Z1 hw.w0 _ fun c B p sz tk g he=>?_
 obtain ⟨bs,rfl,hb⟩:=Z3 he
 obtain ⟨v1,rfl,e1⟩:=Z4 hb
 obtain rfl:=Z5 e1
 refine ⟨195,.item [] (Zs w.params X [] sz lex ld sio sd pb fs T S (fl [tk,tk+1,tk+3,tk+2]) buf pos t3 false none st ln lt (Str.ofString "") tt (Ow w.params [] sz lex ld sio sd pb fs T S buf pos' false nc st' tok)) (fun l0=>.fin [Zq tok (Str.ofString "") false]),(dg 86 0x19230220002200021111302200022000213230200020250220002101302200022000210000000101100100),[1,1,1,1],0,fun ls=>(fun l0=>fl [l0 0,l0 1+9,l0 4,l0 3,l0 1+2,l0 5,l0 6,l0 7]) (ls 0),?_,fun ls=>?_⟩
 ·exact ⟨(fun x hx=>(nomatch hx)),hl _ _,fun l0=>(AllV.all ⟨Zi (by assumption),trivial⟩)⟩
 ·cases b <;> kernel_rfl
theorem Z1T(tok nc:Str)(st':Nat→Value)
  (hl:∀ L F,OK w (Zs w.params X [] L lex ld sio sd pb fs T S F buf pos t3 false none st ln lt (Str.ofString "") tt (Ow w.params [] L lex ld sio sd pb fs T S buf pos' true nc st' tok))) :
  OK w (Z2g w.params X lex ld sio sd pb fs T S buf pos t3 st ln lt tt pos' st' (fun t=>.str tok t)):=by
 refine Z1 hw.w0 _ fun c B p sz tk g he=>?_
 obtain ⟨bs,rfl,hb⟩:=Z3 he
 obtain ⟨v1,rfl,e1⟩:=Z4 hb
 obtain rfl:=Z5 e1
 refine ⟨189,.item [] (Zs w.params X [] sz lex ld sio sd pb fs T S (fl [tk,tk+1,tk+3,tk+2]) buf pos t3 false none st ln lt (Str.ofString "") tt (Ow w.params [] sz lex ld sio sd pb fs T S buf pos' true nc st' tok)) (fun l0=>.fin []),(dg 84 0x192302200022000211302200022000213230200020250220002101302200022000210000000101100100),[1,1,1,1],0,fun ls=>(fun l0=>fl [l0 0,l0 1+8,l0 4,l0 3,l0 1+2,l0 5,l0 6,l0 7]) (ls 0),?_,fun ls=>?_⟩
 ·exact ⟨(fun x hx=>(nomatch hx)),hl _ _,fun l0=>(fun x hx=>(nomatch hx))⟩
 ·cases b <;> kernel_rfl
theorem WF(nc:Str)(st':Nat→Value)
  (hl:∀ L F,OK w (Zs w.params X [] L lex ld sio sd pb fs T S F buf pos t3 false none st ln lt (Str.ofString "") tt (Ow w.params [] L lex ld sio sd pb fs T S buf pos' false nc st' (Str.ofString "")))) :
  OK w (Z2g w.params X lex ld sio sd pb fs T S buf pos t3 st ln lt tt pos' st' (fun _=>.none)):=by
 refine Z1 hw.w0 _ fun c B p sz tk g he=>?_
 obtain ⟨bs,rfl,hb⟩:=Z3 he
 obtain ⟨v1,rfl,e1⟩:=Z4 hb
 obtain rfl:=Z5 e1
 refine ⟨205,.item [] (Zs w.params X [] sz lex ld sio sd pb fs T S (fl [tk,tk+1,tk+3,tk+2]) buf pos t3 false none st ln lt (Str.ofString "") tt (Ow w.params [] sz lex ld sio sd pb fs T S buf pos' false nc st' (Str.ofString ""))) (fun l0=>.fin []),(dg 89 0x19230220002200021010ff211302200022000213230200020250220002101302200022000210000000101100100),[1,1,1,1],0,fun ls=>(fun l0=>fl [l0 0,l0 1+10,0,l0 3,l0 1+2,l0 5,l0 6,l0 7]) (ls 0),?_,fun ls=>?_⟩
 ·exact ⟨(fun x hx=>(nomatch hx)),hl _ _,fun l0=>(fun x hx=>(nomatch hx))⟩
 ·cases b <;> kernel_rfl
end
noncomputable def N9 (P:Params)(X:Fr)(lex ld sio sd pb fs:Nat)(T S:Nat→Nat)(buf:Str)(pos t3:Nat)(st:Value)(ln lt tt:Nat)(pos':Nat)(st':Nat→Value)(v:Nat→Value):FItem where
 c:=.call (.ref 700) ⟨[.ref lex],[]⟩
 B:=nrm (.f (ZG P 736 X.n)::shN P X)
 pre:=[(lex,ZA 739 ld),(ld,JC P T sio pb fs st ln lt (Str.ofString "") tt),(sio,ZA 604 sd),(sd,QQ P S t3 buf pos),(pb,dqO),(fs,dqO)]
 out:=fun _ _ l=>⟨.ok (.ret (v (l 2))),[(lex,ZA 739 ld),(ld,JC P T sio pb fs (st' (l 6)) (l 7) (l 3) (Str.ofString "") (l 4)),(sio,ZA 604 sd),(sd,QQ P S (l 5) buf pos'),(pb,dqO),(fs,dqO)],l 0,l 1,id,[]⟩
theorem gt_tok{b b2:Bool}{w:World}(hw:Wd b b2 w)(X:Fr)(lex ld sio sd pb fs:Nat)(T S:Nat→Nat)(buf:Str)(pos t3 lt tt ln pos' tl:Nat)(st:Value)(tok:Str)(st':Nat→Value)
  (hl:∀ g,OK w (Z2g w.params { X with g:=g } lex ld sio sd pb fs T S buf pos t3 st ln lt tt pos' st' (fun t=>.str tok t))) :
  OK w (N9 w.params X lex ld sio sd pb fs T S buf pos t3 st ln lt tt pos' st' (fun t=>.str tok t)):=by
 refine Z1 hw.w0 _ fun c B p sz tk g he=>?_
 obtain ⟨bs,rfl,hb⟩:=Z3 he
 obtain ⟨v1,rfl,e1⟩:=Z4 hb
 obtain rfl:=Z5 e1
 refine ⟨212,.item [] (Z2g w.params { g:=sz,n:=X.n,s:=X.s,t:=X.t,p:=X.p,w:=X.w } lex ld sio sd pb fs T S buf pos t3 st ln lt tt pos' st' fun t=>Value.str tok t) (fun l0=>.fin []),(dg 103 0x5b22011000120001522f20ff2201100012000155220110001200015451111003200002000200021621f62626630220002200021100100),[0,0,0,0,1,1],0,fun ls=>(fun l0=>fl [l0 0,l0 1+5,l0 2,l0 3,l0 4,l0 5,l0 6,l0 7]) (ls 0),?_,fun ls=>?_⟩
 ·exact ⟨(fun x hx=>(nomatch hx)),hl _,fun l0=>(fun x hx=>(nomatch hx))⟩
 ·cases b <;> kernel_rfl
theorem Ni{b b2:Bool}{w:World}(hw:Wd b b2 w)(X:Fr)(lex ld sio sd pb fs:Nat)(T S:Nat→Nat)(buf:Str)(pos t3 lt tt ln pos' tl:Nat)(st:Value)(st':Nat→Value)
  (hl:∀ g,OK w (Z2g w.params { X with g:=g } lex ld sio sd pb fs T S buf pos t3 st ln lt tt pos' st' (fun _=>.none))) :
  OK w (N9 w.params X lex ld sio sd pb fs T S buf pos t3 st ln lt tt pos' st' (fun _=>.none)):=by
 refine Z1 hw.w0 _ fun c B p sz tk g he=>?_
 obtain ⟨bs,rfl,hb⟩:=Z3 he
 obtain ⟨v1,rfl,e1⟩:=Z4 hb
 obtain rfl:=Z5 e1
 refine ⟨231,.item [] (Z2g w.params { g:=sz,n:=X.n,s:=X.s,t:=X.t,p:=X.p,w:=X.w } lex ld sio sd pb fs T S buf pos t3 st ln lt tt pos' st' fun x=>Value.none) (fun l0=>.fin []),(dg 120 0x20110001200015721f7272772011000120001522f2201100012000155220110001200015451111003200002000200021621f62626630220002200021100100),[0,0,0,0,1,1],0,fun ls=>(fun l0=>fl [l0 0,l0 1+7,0,l0 3,l0 4,l0 5,l0 6,l0 7]) (ls 0),?_,fun ls=>?_⟩
 ·exact ⟨(fun x hx=>(nomatch hx)),hl _,fun l0=>(fun x hx=>(nomatch hx))⟩
 ·cases b <;> kernel_rfl
noncomputable def itNX (P:Params)(X:Fr)(lex ld sio sd pb fs:Nat)(T S:Nat→Nat)(buf:Str)(pos t3:Nat)(st:Value)(ln lt tt:Nat)(pos':Nat)(st':Nat→Value)(tok:Str):FItem where
 c:=.call (.ref 736) ⟨[.ref lex],[]⟩
 B:=nrm (shN P X)
 pre:=[(lex,ZA 739 ld),(ld,JC P T sio pb fs st ln lt (Str.ofString "") tt),(sio,ZA 604 sd),(sd,QQ P S t3 buf pos),(pb,dqO),(fs,dqO)]
 out:=fun _ _ l=>⟨.ok (.ret (.str tok (l 2))),[(lex,ZA 739 ld),(ld,JC P T sio pb fs (st' (l 6)) (l 7) (l 3) (Str.ofString "") (l 4)),(sio,ZA 604 sd),(sd,QQ P S (l 5) buf pos'),(pb,dqO),(fs,dqO)],l 0,l 1,id,[]⟩
theorem nx_tok{b b2:Bool}{w:World}(hw:Wd b b2 w)(X:Fr)(lex ld sio sd pb fs:Nat)(T S:Nat→Nat)(buf:Str)(pos t3 lt tt ln pos' tl:Nat)(st:Value)(tok:Str)(st':Nat→Value)
  (hl:∀ n,OK w (N9 w.params { X with n:=n } lex ld sio sd pb fs T S buf pos t3 st ln lt tt pos' st' (fun t=>.str tok t))) :
  OK w (itNX w.params X lex ld sio sd pb fs T S buf pos t3 st ln lt tt pos' st' tok):=by
 refine Z1 hw.w0 _ fun c B p sz tk g he=>?_
 obtain ⟨bs,rfl,hb⟩:=Z3 he
 obtain ⟨v1,rfl,e1⟩:=Z4 hb
 obtain rfl:=Z5 e1
 refine ⟨129,.item [] (N9 w.params { g:=X.g,n:=sz,s:=X.s,t:=X.t,p:=X.p,w:=X.w } lex ld sio sd pb fs T S buf pos t3 st ln lt tt pos' st' fun t=>Value.str tok t) (fun l0=>.fin []),(dg 52 0x722f20ff220110001200017767111111003200002000200021100100),[0,0,0,0,0,0],0,fun ls=>(fun l0=>fl [l0 0,l0 1+2,l0 2,l0 3,l0 4,l0 5,l0 6,l0 7]) (ls 0),?_,fun ls=>?_⟩
 ·exact ⟨(fun x hx=>(nomatch hx)),hl _,fun l0=>(fun x hx=>(nomatch hx))⟩
 ·cases b <;> kernel_rfl
noncomputable def excO (cls:String)(args tb:Nat):Obj:=⟨.type cls,none,.fields #[.ref args,.ref tb,.none,.none,.bool false,.none],#[]⟩
noncomputable def Z1o (X:Fr)(D:Nat→Dt):Led:=[(X.t,frX (D 3) (rdy 806 (.ref X.p))),(X.p,frX (D 4) (rdy 813 (.ref X.w))),(X.w,frX (D 5) (rdy 823 .notImplemented))]
noncomputable def Z0J (P:Params)(X:Fr)(D:Nat→Dt)(r:Bool)(lex ld sio sd pb fs:Nat)(T S:Nat→Nat)(buf:Str)(pos t3:Nat)(st:Value)(ln lt tt:Nat):FItem where
 c:=.call (.ref 736) ⟨[.ref lex],[]⟩
 B:=nrm (shN P X)
 pre:=[(lex,ZA 739 ld),(ld,JC P T sio pb fs st ln lt (Str.ofString "") tt),(sio,ZA 604 sd),(sd,QQ P S t3 buf pos),(pb,dqO),(fs,dqO),(X.s,frX (D 2) #[]),(X.t,frX (D 3) #[])]++frs X D r
 out:=fun _ _ l=>⟨.error (.ref (l 2)),[(l 2,excO "StopIteration" (l 3) (l 4)),(X.s,frX (D 2) (rdy 751 (.ref X.t)))]++Z1o X D,l 0,l 1,id,[]⟩
section
variable{b b2:Bool}{w:World}(hw:Wd b b2 w)(X:Fr)(D:Nat→Dt)(lex ld sio sd pb fs:Nat)(T S:Nat→Nat)(buf:Str)(pos t3 lt tt ln pos' tl:Nat)(st:Value)(st':Nat→Value)
include b b2 w hw X D lex ld sio sd pb fs T S buf pos t3 lt tt ln pos' tl st st'
theorem ne_false
  (hl:∀ n,OK w (N9 w.params { X with n:=n } lex ld sio sd pb fs T S buf pos t3 st ln lt tt pos' st' (fun _=>.none))) :
  OK w (Z0J w.params X D false lex ld sio sd pb fs T S buf pos t3 st ln lt tt):=by
 refine Z1 hw.w0 _ fun c B p sz tk g he=>?_
 obtain ⟨bs,rfl,hb⟩:=Z3 he
 obtain ⟨v1,rfl,e1⟩:=Z4 hb
 obtain rfl:=Z5 e1
 refine ⟨182,.item [] (N9 w.params { g:=X.g,n:=sz,s:=X.s,t:=X.t,p:=X.p,w:=X.w } lex ld sio sd pb fs T S buf pos t3 st ln lt tt pos' st' fun x=>Value.none) (fun l0=>.fin []),(dg 93 0x1323decdbcab9a2123df3cf2221212212224bf112114cf2120022f220110001200017767111111003200002000200021100100),[2,10,10,10,10],0,fun ls=>(fun l0=>fl [l0 0+4,l0 1+2,l0 0+1,l0 0+2,l0 0+3]) (ls 0),?_,fun ls=>?_⟩
 ·exact ⟨(fun x hx=>(nomatch hx)),hl _,fun l0=>(fun x hx=>(nomatch hx))⟩
 ·cases b <;> kernel_rfl
theorem ne_true
  (hl:∀ n,OK w (N9 w.params { X with n:=n } lex ld sio sd pb fs T S buf pos t3 st ln lt tt pos' st' (fun _=>.none))) :
  OK w (Z0J w.params X D true lex ld sio sd pb fs T S buf pos t3 st ln lt tt):=by
 refine Z1 hw.w0 _ fun c B p sz tk g he=>?_
 obtain ⟨bs,rfl,hb⟩:=Z3 he
 obtain ⟨v1,rfl,e1⟩:=Z4 hb
 obtain rfl:=Z5 e1
 refine ⟨178,.item [] (N9 w.params { g:=X.g,n:=sz,s:=X.s,t:=X.t,p:=X.p,w:=X.w } lex ld sio sd pb fs T S buf pos t3 st ln lt tt pos' st' fun x=>Value.none) (fun l0=>.fin []),(dg 90 0x1323dbcab9a2123df3cf2221212212224bf112114cf2120022f220110001200017767111111003200002000200021100100),[2,10,10,10,10],0,fun ls=>(fun l0=>fl [l0 0+4,l0 1+2,l0 0+1,l0 0+2,l0 0+3]) (ls 0),?_,fun ls=>?_⟩
 ·exact ⟨(fun x hx=>(nomatch hx)),hl _,fun l0=>(fun x hx=>(nomatch hx))⟩
 ·cases b <;> kernel_rfl
end
theorem ZC{f:String}{as:List Value}:∀ c,erC c=.builtin f ⟨as,[]⟩→YQ c=false:=fun c h=>by
 obtain ⟨bs,rfl,_⟩:=Zb h
 rfl
noncomputable abbrev OKT (w:World)(it:FItem)(t:Sem Fin):Prop:=it.ValidT (MD w) (KT0 w.params) t
noncomputable def itTN (P:Params)(X:Fr)(R:Led)(a:Nat)(lex ld sio sd pb fs:Nat)(T S:Nat→Nat)(buf:Str)(pos t3:Nat)(st:Value)(ln lt tt:Nat)(pos':Nat)(st':Nat→Value)(tok:Str):FItem where
 c:=.builtin "list.extend.loop" ⟨[.ref a,.ref lex,.none],[]⟩
 B:=nrm (.tt "list"::.f (ZG P 751 X.s)::shT P X)
 pre:=[(lex,ZA 739 ld),(ld,JC P T sio pb fs st ln lt (Str.ofString "") tt),(sio,ZA 604 sd),(sd,QQ P S t3 buf pos),(pb,dqO),(fs,dqO)]
 out:=fun _ _ l=>⟨.ok (.ret (.str tok (l 2))),[(lex,ZA 739 ld),(ld,JC P T sio pb fs (st' (l 6)) (l 7) (l 3) (Str.ofString "") (l 4)),(sio,ZA 604 sd),(sd,QQ P S (l 5) buf pos'),(pb,dqO),(fs,dqO)],l 0,l 1,id,R⟩
 preS:=R
theorem Z19{b b2:Bool}{w:World}(hw:Wd b b2 w)(X:Fr)(R:Led)(a:Nat)(lex ld sio sd pb fs:Nat)(T S:Nat→Nat)(buf:Str)(pos t3 lt tt ln pos':Nat)(st:Value)(tok:Str)(st':Nat→Value)
  (hl:OK w (itNX w.params X lex ld sio sd pb fs T S buf pos t3 st ln lt tt pos' st' tok)) :
  OKT w (itTN w.params X R a lex ld sio sd pb fs T S buf pos t3 st ln lt tt pos' st' tok) (nxT (.ref lex)):=by
 refine ZL hw.w0 _ (nxT (Value.ref lex)) (ZC) fun c B p sz tk g he=>?_
 obtain ⟨bs,rfl,hb⟩:=Zb he
 obtain ⟨v1,v2,v3,rfl,e1,e2,e3⟩:=Y1 hb
 obtain rfl:=Z5 e1
 obtain rfl:=Z5 e2
 obtain rfl:=Ju e3
 refine ⟨57,.item [] ((itNX w.params X lex ld sio sd pb fs T S buf pos t3 st ln lt tt pos' st' tok).fr R) (fun l0=>.fin []),(dg 12 0x1),[0,0,0,0,0,0],0,fun ls=>(fun l0=>fl [l0 0,l0 1,l0 2,l0 3,l0 4,l0 5,l0 6,l0 7]) (ls 0),?_,fun ls=>?_⟩
 ·exact ⟨(fun x hx=>(nomatch hx)),hl.fr R,fun l0=>(fun x hx=>(nomatch hx))⟩
 ·kernel_rfl
noncomputable def itTE (P:Params)(X:Fr)(D:Nat→Dt)(r:Bool)(a:Nat)(lex ld sio sd pb fs:Nat)(T S:Nat→Nat)(buf:Str)(pos t3:Nat)(st:Value)(ln lt tt:Nat):FItem where
 c:=.builtin "list.extend.loop" ⟨[.ref a,.ref lex,.none],[]⟩
 B:=nrm (.tt "list"::.f (ZG P 751 X.s)::shT P X)
 pre:=[(lex,ZA 739 ld),(ld,JC P T sio pb fs st ln lt (Str.ofString "") tt),(sio,ZA 604 sd),(sd,QQ P S t3 buf pos),(pb,dqO),(fs,dqO),(X.s,frX (D 2) #[]),(X.t,frX (D 3) #[])]++frs X D r
 out:=fun _ _ l=>⟨.ok .next,(X.s,frX (D 2) (rdy 751 (.ref X.t)))::Z1o X D,l 0,l 1,id,[]⟩
section
variable{b b2:Bool}{w:World}(hw:Wd b b2 w)(X:Fr)(D:Nat→Dt)(a:Nat)(lex ld sio sd pb fs:Nat)(T S:Nat→Nat)(buf:Str)(pos t3 lt tt ln:Nat)(st:Value)
include b b2 w hw X D a lex ld sio sd pb fs T S buf pos t3 lt tt ln st
theorem te_false
  (hl:OK w (Z0J w.params X D false lex ld sio sd pb fs T S buf pos t3 st ln lt tt)) :
  OKT w (itTE w.params X D false a lex ld sio sd pb fs T S buf pos t3 st ln lt tt) (nxT (.ref lex)):=by
 refine ZL hw.w0 _ (nxT (Value.ref lex)) (ZC) fun c B p sz tk g he=>?_
 obtain ⟨bs,rfl,hb⟩:=Zb he
 obtain ⟨v1,v2,v3,rfl,e1,e2,e3⟩:=Y1 hb
 obtain rfl:=Z5 e1
 obtain rfl:=Z5 e2
 obtain rfl:=Ju e3
 refine ⟨58,.item [] (Z0J w.params X D false lex ld sio sd pb fs T S buf pos t3 st ln lt tt) (fun l0=>.fin []),(dg 17 0x10000000000000001),[1,1,1,1],0,fun ls=>(fun l0=>fl [l0 0,l0 1]) (ls 0),?_,fun ls=>?_⟩
 ·exact ⟨(fun x hx=>(nomatch hx)),hl,fun l0=>(fun x hx=>(nomatch hx))⟩
 ·kernel_rfl
theorem te_true
  (hl:OK w (Z0J w.params X D true lex ld sio sd pb fs T S buf pos t3 st ln lt tt)) :
  OKT w (itTE w.params X D true a lex ld sio sd pb fs T S buf pos t3 st ln lt tt) (nxT (.ref lex)):=by
 refine ZL hw.w0 _ (nxT (Value.ref lex)) (ZC) fun c B p sz tk g he=>?_
 obtain ⟨bs,rfl,hb⟩:=Zb he
 obtain ⟨v1,v2,v3,rfl,e1,e2,e3⟩:=Y1 hb
 obtain rfl:=Z5 e1
 obtain rfl:=Z5 e2
 obtain rfl:=Ju e3
 refine ⟨58,.item [] (Z0J w.params X D true lex ld sio sd pb fs T S buf pos t3 st ln lt tt) (fun l0=>.fin []),(dg 17 0x10000000000000001),[1,1,1,1],0,fun ls=>(fun l0=>fl [l0 0,l0 1]) (ls 0),?_,fun ls=>?_⟩
 ·exact ⟨(fun x hx=>(nomatch hx)),hl,fun l0=>(fun x hx=>(nomatch hx))⟩
 ·kernel_rfl
end
noncomputable def itLX (P:Params)(X:Fr)(D:Nat→Dt)(r:Bool)(a:Nat)(xs:Array Value)(n:Nat)(lex ld sio sd pb fs:Nat)(T S:Nat→Nat)(buf:Str)(pos t3:Nat)(st:Value)(ln lt tt:Nat)(O:(Nat→Nat)→FOut):FItem where
 c:=.builtin "list.extend.loop" ⟨[.ref a,.ref lex,.none],[]⟩
 B:=nrm (.tt "list"::.f (ZG P 751 X.s)::shT P X)
 pre:=[(a,Z0 xs n),(lex,ZA 739 ld),(ld,JC P T sio pb fs st ln lt (Str.ofString "") tt),(sio,ZA 604 sd),(sd,QQ P S t3 buf pos),(pb,dqO),(fs,dqO),(X.s,frX (D 2) #[]),(X.t,frX (D 3) #[])]++frs X D r
 out:=fun _ _ l=>O l
noncomputable def Z2i (P:Params)(X:Fr)(D:Nat→Dt)(r:Bool)(a:Nat)(n:Nat)(lex ld sio sd pb fs:Nat)(T S:Nat→Nat)(buf:Str)(pos t3:Nat)(st:Value)(ln lt tt:Nat)(O:(Nat→Nat)→FOut):FItem where
 c:=.builtin "list.__init__" ⟨[.ref a,.ref lex],[]⟩
 B:=nrm (.tt "list"::.f (ZG P 751 X.s)::shT P X)
 pre:=[(a,Z0 #[] n),(lex,ZA 739 ld),(ld,JC P T sio pb fs st ln lt (Str.ofString "") tt),(sio,ZA 604 sd),(sd,QQ P S t3 buf pos),(pb,dqO),(fs,dqO),(X.s,frX (D 2) #[]),(X.t,frX (D 3) #[])]++frs X D r
 out:=fun _ _ l=>O l
noncomputable def N8 (P:Params)(X:Fr)(D:Nat→Dt)(r:Bool)(a:Nat)(n:Nat)(lex ld sio sd pb fs:Nat)(T S:Nat→Nat)(buf:Str)(pos t3:Nat)(st:Value)(ln lt tt:Nat)(O:(Nat→Nat)→FOut):FItem where
 c:=.call (.builtin "list.__init__") ⟨[.ref a,.ref lex],[]⟩
 B:=nrm (.tt "list"::.f (ZG P 751 X.s)::shT P X)
 pre:=[(a,Z0 #[] n),(lex,ZA 739 ld),(ld,JC P T sio pb fs st ln lt (Str.ofString "") tt),(sio,ZA 604 sd),(sd,QQ P S t3 buf pos),(pb,dqO),(fs,dqO),(X.s,frX (D 2) #[]),(X.t,frX (D 3) #[])]++frs X D r
 out:=fun _ _ l=>O l
theorem Z2q{w:World}{a b:Addr}{l:List Addr}(nd:(a::b::l).Nodup)(c:Code)(h:erC c=.builtin "list.__init__" ⟨[.ref a,.ref b],[]⟩)(Γ:Ctx)(Q:PySem.Fin→Pos→Shared→Prop)(E:Value→Pos→Shared→Prop)(p:Pos)(s:Shared)(hx:Sem.wp (MD w) Γ (Z0L a (.ref b)) Q E p s):Sem.wp (MD w) Γ (Yj c) Q E p s:=by
 obtain ⟨bs,rfl,hb⟩:=Zb h
 obtain ⟨v1,v2,rfl,e1,e2⟩:=Zj hb
 obtain rfl:=Z5 e1
 obtain rfl:=Z5 e2
 exact Z2p (fun e=>(List.nodup_cons.mp nd).1 (by rw[e];exact List.mem_cons_self)) hx
section
variable{b b2:Bool}{w:World}(hw:Wd b b2 w)(X:Fr)(D:Nat→Dt)(r:Bool)(a:Nat)(n:Nat)(lex ld sio sd pb fs:Nat)(T S:Nat→Nat)(buf:Str)(pos t3 lt tt ln:Nat)(st:Value)(O:(Nat→Nat)→FOut)
include b b2 w hw X D r a n lex ld sio sd pb fs T S buf pos t3 lt tt ln st O
theorem li_b
  (h:∀ n,OK w (itLX w.params X D r a #[] n lex ld sio sd pb fs T S buf pos t3 st ln lt tt O)) :
  OK w (Z2i w.params X D r a n lex ld sio sd pb fs T S buf pos t3 st ln lt tt O):=by
 refine Qf hw.w0 _ (fun _=>Z0L a (Value.ref lex)) (Z2q) (fun sz tk ls=>itLX w.params X D r a #[] (n+2) lex ld sio sd pb fs T S buf pos t3 st ln lt tt O) (fun _ _ _ _ _ _ _ _=>rfl) (fun _ _ _=>rfl) (fun _ _ _=>rfl) (fun c B p sz tk g he=>?_) (fun sz tk ls=>h _)
 obtain ⟨bs,rfl,hb⟩:=Zb he
 obtain ⟨v1,v2,rfl,e1,e2⟩:=Zj hb
 obtain rfl:=Z5 e1
 obtain rfl:=Z5 e2
 refine ⟨100,.fin [],(dg 42 0x4ff02122120003000300031100100200002000221011),[1,1,1,1,1,1,1,1,1,1,1],0,?_,fun ls=>?_⟩
 ·exact (fun x hx=>(nomatch hx))
 ·cases b <;> kernel_rfl
theorem li_c
  (h:∀ n,OK w (Z2i w.params X D r a n lex ld sio sd pb fs T S buf pos t3 st ln lt tt O)) :
  OK w (N8 w.params X D r a n lex ld sio sd pb fs T S buf pos t3 st ln lt tt O):=by
 refine Z2 hw.w0 _ (fun sz tk ls=>Z2i w.params X D r a n lex ld sio sd pb fs T S buf pos t3 st ln lt tt O) (fun _ _ _ _ _ _ _ _=>rfl) (fun _ _ _=>rfl) (fun _ _ _=>rfl) (fun c B p sz tk g he=>?_) (fun sz tk ls=>h _)
 obtain ⟨bs,rfl,hb⟩:=Z3 he
 obtain ⟨v1,v2,rfl,e1,e2⟩:=Zj hb
 obtain rfl:=Z5 e1
 obtain rfl:=Z5 e2
 refine ⟨52,.fin [],[1,0,76],[0,0,0,0,0,0,0,0,0,0,0],0,?_,fun ls=>?_⟩
 ·exact (fun x hx=>(nomatch hx))
 ·kernel_rfl
end
noncomputable def OLX (X:Fr)(D:Nat→Dt)(a:Nat)(ts:List Str):(Nat→Nat)→FOut:=fun l=>⟨.ok (.ret .none),[(a,Z0 (svA ts (fun i=>l (i+20))) (l 3)),(X.s,frX (D 2) (rdy 751 (.ref X.t)))]++Z1o X D,l 0,l 1,id,[]⟩
noncomputable def itLS (P:Params)(X:Fr)(D:Nat→Dt)(r:Bool)(lex ld sio sd pb fs:Nat)(T S:Nat→Nat)(buf:Str)(pos t3:Nat)(st:Value)(ln lt tt:Nat)(ts:List Str):FItem where
 c:=.call (.type "list") ⟨[.ref lex],[]⟩
 B:=nrm (.f (ZG P 751 X.s)::shT P X)
 pre:=[(lex,ZA 739 ld),(ld,JC P T sio pb fs st ln lt (Str.ofString "") tt),(sio,ZA 604 sd),(sd,QQ P S t3 buf pos),(pb,dqO),(fs,dqO),(X.s,frX (D 2) #[]),(X.t,frX (D 3) #[])]++frs X D r
 out:=fun _ _ l=>⟨.ok (.ret (.ref (l 2))),[(l 2,Z0 (svA ts (fun i=>l (i+20))) (l 3)),(X.s,frX (D 2) (rdy 751 (.ref X.t)))]++Z1o X D,l 0,l 1,id,[]⟩
theorem ls_ok{b b2:Bool}{w:World}(hw:Wd b b2 w)(X:Fr)(D:Nat→Dt)(r:Bool)(lex ld sio sd pb fs:Nat)(T S:Nat→Nat)(buf:Str)(pos t3 lt tt ln:Nat)(st:Value)(ts:List Str)
  (h:∀ a n,OK w (N8 w.params X D r a n lex ld sio sd pb fs T S buf pos t3 st ln lt tt (OLX X D a ts))) :
  OK w (itLS w.params X D r lex ld sio sd pb fs T S buf pos t3 st ln lt tt ts):=by
 refine Z1 hw.w0 _ fun c B p sz tk g he=>?_
 obtain ⟨bs,rfl,hb⟩:=Z3 he
 obtain ⟨v1,rfl,e1⟩:=Z4 hb
 obtain rfl:=Z5 e1
 refine ⟨60,.item [] (N8 w.params X D r sz 0 lex ld sio sd pb fs T S buf pos t3 st ln lt tt (OLX X D sz ts)) (fun l0=>.fin []),(dg 17 0x114ef21),[0,0,0,0,0],0,fun ls=>(fun l0=>flT [l0 0,l0 1,sz,l0 3,0,0,0,0,0,0,0,0,0,0,0,0,0,0,0,0] (fun i=>l0 (i+20))) (ls 0),?_,fun ls=>?_⟩
 ·exact ⟨(fun x hx=>(nomatch hx)),h _ _,fun l0=>(fun x hx=>(nomatch hx))⟩
 ·kernel_rfl
noncomputable def tbO (next frame flight:Value)(a b c d:Nat)(ids:List String)(bb:Bool):Obj:=⟨.type "traceback",none,.fields #[next,frame,.none,flight,.none,.int (Int.ofNat a) 0,.int (Int.ofNat b) 0,.int (Int.ofNat c) 0,.int (Int.ofNat d) 0,.str (NU ids.eraseDups) 0,.bool bb],#[]⟩
noncomputable def nclose (t:Nat):List Value:=[.str (Str.ofString "No closing quotation") t]
noncomputable def Z2r:List String:=["list.extend.loop","type.__call__","claim.caller"]
noncomputable def frsN (X:Fr)(D:Nat→Dt):Led:=(X.s,frX (D 2) (rdy 751 (.ref X.t)))::Z1o X D
noncomputable def frsG (X:Fr)(D:Nat→Dt):Led:=(X.n,frX (D 1) (rdy 736 (.ref X.s)))::frsN X D
noncomputable def frsW (X:Fr)(D:Nat→Dt):Led:=(X.g,frX (D 0) (rdy 700 (.ref X.n)))::frsG X D
noncomputable def exL (next frame flight:Value)(l:Nat→Nat)(ids:List String)(bb:Bool):Led :=
 [(l 2,excO "ValueError" (l 3) (l 4)),(l 3,Y5 (nclose (l 5)) 0),(l 4,tbO next frame flight (l 6) (l 7) (l 8) (l 9) ids bb)]
noncomputable def VK (P:Params)(X:Fr)(D:Nat→Dt)(r:Bool)(L lex ld sio sd pb fs:Nat)(T S F:Nat→Nat)(buf:Str)(pos t3:Nat)(qd:Bool)(nc:Option (Str × Nat))(st:Value)(ln lt:Nat)(tok:Str)(tt:Nat):FItem where
 c:=VZ (sAt (Y0 P 707) 2) (ZG P 707 L)
 B:=nrm (shW P X L)
 pre:=[(L,frRT P F lex qd nc),(lex,ZA 739 ld),(ld,JC P T sio pb fs st ln lt tok tt),(sio,ZA 604 sd),(sd,QQ P S t3 buf pos),(X.g,frX (D 0) #[]),(X.n,frX (D 1) #[]),(X.s,frX (D 2) #[]),(X.t,frX (D 3) #[])]++frs X D r
 out:=fun _ _ l=>⟨.error (.ref (l 2)),exL .none (.ref L) (rawInt L) l Z2r false++frsW X D,l 0,l 1,id,[]⟩
section
variable{b b2:Bool}{w:World}(hw:Wd b b2 w)(X:Fr)(D:Nat→Dt)(L lex ld sio sd pb fs:Nat)(T S F:Nat→Nat)(buf:Str)(pos t3 sT lt tt ln nT pos':Nat)(nc:Str)(qd:Bool)(tok:Str)(hr:OK w (Za w.params sio sd S t3 buf pos (Str.ofString "") pos'))
include b b2 w hw X D L lex ld sio sd pb fs T S F buf pos t3 sT lt tt ln nT pos' nc qd tok hr
theorem Z0d :
  OK w (VK w.params X D false L lex ld sio sd pb fs T S F buf pos t3 qd (some (nc,nT)) (.str (Str.ofString "'") sT) ln lt tok tt):=by
 refine Z1 hw.w0 _ fun c B p sz tk g he=>?_
 change _=_ at he
 delta VK at he
 dsimp only at he
 replace he:=Zo he
 subst he
 refine ⟨408,.item [] (Za w.params sio sd S t3 buf pos (Str.ofString "") pos') (fun l0=>.fin []),(dg 225 0x23e0ffdecdbcab9a67212222212248f1121149f21200b26055000520005482243411f260550005200054605500052000540ff26055000520005460550005200054b2605500052000540ff2434440065000050000000500000005403300032000328224033000320003110010010202000000002200021),[2,1,0,7,7,7,7,7,7],0,fun ls=>(fun l0=>fl [l0 0+4,l0 1+15,l0 0+1,l0 0+2,l0 0+3,l0 1+14,634,634,20,60]) (ls 0),?_,fun ls=>?_⟩
 ·exact ⟨(fun x hx=>(nomatch hx)),hr,fun l0=>(fun x hx=>(nomatch hx))⟩
 ·cases b <;> kernel_rfl
theorem Z20 :
  OK w (VK w.params X D true L lex ld sio sd pb fs T S F buf pos t3 qd (some (nc,nT)) (.str (Str.ofString "'") sT) ln lt tok tt):=by
 refine Z1 hw.w0 _ fun c B p sz tk g he=>?_
 change _=_ at he
 delta VK at he
 dsimp only at he
 replace he:=Zo he
 subst he
 refine ⟨404,.item [] (Za w.params sio sd S t3 buf pos (Str.ofString "") pos') (fun l0=>.fin []),(dg 222 0x23ecdbcab9a67212222212248f1121149f21200b26055000520005482243411f260550005200054605500052000540ff26055000520005460550005200054b2605500052000540ff2434440065000050000000500000005403300032000328224033000320003110010010202000000002200021),[2,1,0,7,7,7,7,7,7],0,fun ls=>(fun l0=>fl [l0 0+4,l0 1+15,l0 0+1,l0 0+2,l0 0+3,l0 1+14,634,634,20,60]) (ls 0),?_,fun ls=>?_⟩
 ·exact ⟨(fun x hx=>(nomatch hx)),hr,fun l0=>(fun x hx=>(nomatch hx))⟩
 ·cases b <;> kernel_rfl
end
noncomputable def dset (D:Nat→Dt)(d:Dt):Nat→Dt:=fun i=>match i with
 | 2=>d
 | i=>D i
noncomputable def itSP (P:Params)(X:Fr)(D:Nat→Dt)(r:Bool)(s:Str)(ts:List Str):FItem where
 c:=.call (.ref 751) ⟨[.str s 0],[]⟩
 B:=nrm (shT P X)
 pre:=(X.t,frX (D 3) #[])::frs X D r
 out:=fun _ _ l=>⟨.ok (.ret (.ref (l 2))),(l 2,Z0 (svA ts (fun i=>l (i+20))) (l 3))::Z1o X D,l 0,l 1,id,[]⟩
theorem sp_ok{b b2:Bool}{w:World}(hw:Wd b b2 w)(X:Fr)(D:Nat→Dt)(r:Bool)(s:Str)(ts:List Str)
  (h:∀ d z lex ld sio sd pb fs T S t3 sT lt tt,OK w (itLS w.params { X with s:=z } (dset D d) r lex ld sio sd pb fs T S s 0 t3 (.str (Str.ofString " ") sT) 1 lt tt ts)):OK w (itSP w.params X D r s ts):=by
 refine Z1 hw.w0 _ fun c B p sz tk g he=>?_
 obtain ⟨bs,rfl,hb⟩:=Z3 he
 obtain ⟨v1,rfl,e1⟩:=Z4 hb
 obtain ⟨u1,rfl⟩:=Zk e1
 refine ⟨1412,.item [] (itLS w.params { g:=X.g,n:=X.n,s:=sz,t:=X.t,p:=X.p,w:=X.w } (dset D { es:=#[en w.params "s" tk (Value.str s u1),en w.params "comments" (tk+1) (Value.bool false),en w.params "posix" (tk+2) (Value.bool true),en w.params "lex" (tk+93) (Value.ref (sz+2))],n:=4 }) r (sz+2) (sz+1) (sz+8) (sz+7) (sz+11) (sz+12) (fl [tk+36,tk+38,tk+40,tk+42,tk+45,tk+48,tk+57,tk+59,tk+62,tk+65,tk+68,tk+71,tk+73,tk+76,tk+79,tk+82,tk+84,tk+86,tk+90,tk+96,tk+52,tk+55,tk+60,tk+63,tk+66,tk+77,tk+87]) (fl [tk+19,766,tk+22,u1,tk+25]) s 0 (tk+23) (Value.str (Str.ofString " ") (tk+69)) 1 (tk+74) (tk+80) ts) (fun l0=>.fin []),(dg 922 0x66660144aa0d00cbc0b000b0b50b2000bddcbc0b000b0b50b2000bdcd822acbc0b000b0b50b2000baa9aacbc0b000b0b50b2000bacbc0b000b0b50b2000ba10120f12111ff2120bab0a000a0a50a2000a9bab0a000a0a50a2000a9bab0a000a0a50a2000a9bab0a000a0a50a2000a910120f12111ff2120a9a09000909509200098a9a09000909509200098a9a09000909509200098a9a09000909509200098a9a09000909509200098a9a09000909509200098a9a09000909509200091af2a0990009200098a0990009200098a9a09000909509200098a9a09000909509200098a9a090009095092000988a9a090009095092000988a9a090009095092000988a9a090009095092000988878434030000000303503200000003210ff210ff21101403300000003200000003110010100201320000200000002000000021132302000000020250220000000213230200000002025022000000021323020000000202502200000002110012100110f2110f211001210011001010100020000101000000000000000000014f000000000000000000213af2000100011001010100203bf02000000000003af02000010100200101df1cf20010010010101010100020000101000000000000014f0000000200010100200110110010101000),[0,1,1,1],0,fun ls=>(fun l0=>flT [l0 0,l0 1,l0 2,l0 3,0,0,0,0,0,0,0,0,0,0,0,0,0,0,0,0] (fun i=>l0 (i+20))) (ls 0),?_,fun ls=>?_⟩
 ·exact ⟨(fun x hx=>(nomatch hx)),h _ _ _ _ _ _ _ _ _ _ _ _ _ _,fun l0=>(fun x hx=>(nomatch hx))⟩
 ·cases b <;> kernel_rfl
noncomputable def Z0U (D:Nat→Dt)(d:Dt):Nat→Dt:=fun i=>match i with
 | 3=>d
 | i=>D i
noncomputable def shP (P:Params)(X:Fr):List Knd:=[.L,.f (ZG P 813 X.p),.f (ZG P 823 X.w),.b "claim.caller"]
noncomputable def frsP (X:Fr)(D:Nat→Dt):Led:=[(X.p,frX (D 4) (rdy 813 (.ref X.w))),(X.w,frX (D 5) (rdy 823 .notImplemented))]
noncomputable def UU (P:Params)(X:Fr)(D:Nat→Dt)(r:Bool)(s:Str)(ts:List Str):FItem where
 c:=.call (.ref 806) ⟨[.str s 0],[]⟩
 B:=nrm (shP P X)
 pre:=frs X D r
 out:=fun _ _ l=>⟨.ok (.ret (.ref (l 2))),(l 2,Z0 (svA ts (fun i=>l (i+20))) (l 3))::frsP X D,l 0,l 1,id,[]⟩
theorem td_ok{b b2:Bool}{w:World}(hw:Wd b b2 w)(X:Fr)(D:Nat→Dt)(r:Bool)(s:Str)(ts:List Str)
  (h:∀ d z,OK w (itSP w.params { X with t:=z } (Z0U D d) r s ts)):OK w (UU w.params X D r s ts):=by
 refine Z1 hw.w0 _ fun c B p sz tk g he=>?_
 obtain ⟨bs,rfl,hb⟩:=Z3 he
 obtain ⟨v1,rfl,e1⟩:=Z4 hb
 obtain ⟨u1,rfl⟩:=Zk e1
 refine ⟨72,.item [] (itSP w.params { g:=X.g,n:=X.n,s:=X.s,t:=sz,p:=X.p,w:=X.w } (Z0U D { es:=#[en w.params "line" tk (Value.str s u1)],n:=1 }) r s ts) (fun l0=>.fin []),(dg 13 0x10100100),[0,1,1],0,fun ls=>(fun l0=>flT [l0 0,l0 1,l0 2,l0 3,0,0,0,0,0,0,0,0,0,0,0,0,0,0,0,0] (fun i=>l0 (i+20))) (ls 0),?_,fun ls=>?_⟩
 ·exact ⟨(fun x hx=>(nomatch hx)),h _ _,fun l0=>(fun x hx=>(nomatch hx))⟩
 ·kernel_rfl
section
open Sem (wp finPost)
theorem Wj{C:Cfg}{w:World}(W:World0 C w)(it:FItem)(t:Code→Sem Fin)(ht:(it.all.map (·.1)).Nodup→∀ Γ:Ctx,it.er Γ.code=it.c→∀ Rr p s,wp (model C.prog w) Γ (t Γ.code) (finPost (model C.prog w) Γ Rr) (EP (model C.prog w) Γ Rr) p s→wp (model C.prog w) Γ (Yj Γ.code) (finPost (model C.prog w) Γ Rr) (EP (model C.prog w) Γ Rr) p s)
  (h:∀(c:Code)(B:Stk)(p:Pos)(sz tk:Nat)(g:Array GenState),it.er c=it.c→GoC C w it (t c) c B p sz tk g) :
  it.Valid (model C.prog w) C.top:=by
 rintro ⟨c,hd,ow,B,pa⟩ p s Rr hc hh hB hg top nd own here k
 dsimp only at hc hh hB
 obtain ⟨n,pl,hs,js,kx,l,ok,chk⟩:=h c B p s.heap.objs.size s.toks s.gens hc
 delta Chk at chk
 rw[hB,hg] at chk
 subst hh
 refine ZW (ht nd ⟨c,none,ow,B,pa⟩ hc _ _ _ ?_)
 refine Yn W.hP W.hids n pl ⟨C.top,s.heap,it.all.map (·.1),s.gens,s.drawn,s.os⟩ c B p (t c) it.pre it.preS s.heap.objs.size s.toks hs [] rfl ok (fun ls=>?_) ow pa s Rr (Desc.start top nd own here) (fun ls=>?_)
 ·exact (Prod.mk.inj (Prod.mk.inj (Prod.mk.inj (Prod.mk.inj (Prod.mk.inj (Prod.mk.inj (chk ls)).2).2).2).2).2).2
 ·obtain ⟨e1,r1⟩:=Prod.mk.inj (chk ls)
  obtain ⟨e2,r2⟩:=Prod.mk.inj r1
  obtain ⟨e3,r3⟩:=Prod.mk.inj r2
  obtain ⟨e4,r4⟩:=Prod.mk.inj r3
  obtain ⟨e5,r5⟩:=Prod.mk.inj r4
  obtain ⟨e6,e7⟩:=Prod.mk.inj r5
  have hS':=(List.take_append_drop kx (it.out s.heap.objs.size s.toks (l ls)).ledS).symm
  generalize (it.out s.heap.objs.size s.toks (l ls)).ledS.drop kx=S' at hS' e5
  generalize (it.out s.heap.objs.size s.toks (l ls)).ledS.take kx=ex' at hS' e2
  generalize go0 C n pl ls c B p (t c) it.pre it.preS s.heap.objs.size s.toks hs [] s.gens=R at e1 e2 e3 e4 e5 e6 e7 ⊢
  obtain ⟨⟨kd,c₁,p₁,led₁,sz₁,tk₁,hs₁,pits₁,ob₁⟩,S₁,g₁⟩:=R
  dsimp only at e1 e2 e3 e4 e5 e6 e7 ⊢
  obtain ⟨rest,pm⟩:=fst?_perm e2
  have fin:∀ s',Desc ⟨C.top,s.heap,it.all.map (·.1),g₁,s.drawn,s.os⟩ (led₁++S₁) sz₁ tk₁ s'→Rr (it.out s.heap.objs.size s.toks (l ls)).r s':=fun s' D=>by
   have pm2:(led₁++S₁).Perm ((it.out s.heap.objs.size s.toks (l ls)).all++rest):=by
    rw[FOut.all,hS',←e5]
    exact Q2 pm
   have L:=D.left pm2
   rw[e3] at L
   have:=k (l ls) s'.heap L
   rw[←e4,←e6] at this
   have es:s'=⟨s'.heap,g₁,s.drawn,tk₁,s.os⟩:=by
    obtain ⟨a1,a2,a3,a4,a5⟩:=s'
    have b1:a2=g₁:=D.gens
    have b2:a3=s.drawn:=D.drawn
    have b3:a4=tk₁:=D.toks
    have b4:a5=s.os:=D.os
    subst b1 b2 b3 b4
    rfl
   rw[es]
   exact this
  cases kd with
  | done f =>
   have e:(.ok f:Result)=(it.out s.heap.objs.size s.toks (l ls)).r:=Option.some.inj e1
   intro s' D
   rw[e]
   exact fin s' D
  | raise e' =>
   have e:(.error e':Result)=(it.out s.heap.objs.size s.toks (l ls)).r:=Option.some.inj e1
   intro s' D
   show Rr (.error e') s'
   rw[e]
   exact fin s' D
  | pause _=>cases e1
  | pauseT _=>cases e1
  | fail _=>cases e1
theorem Vt{C:Cfg}{w:World}(W:World0 C w)(it:FItem)(it':Code→Nat→Nat→(Nat→Nat→Nat)→FItem)
  (hout:∀ c sz tk sz' tk' a b ls l,it.out sz tk l=(it' c a b ls).out sz' tk' l)(hB:∀ c a b ls,it.B=(it' c a b ls).B)(hgi:∀ c a b ls,it.gin=(it' c a b ls).gin)
  (h:∀(c:Code)(B:Stk)(p:Pos)(sz tk:Nat)(g:Array GenState),it.er c=it.c→ThC C w it (it' c sz tk) (Yj c) c B p sz tk g g)
  (h':∀ c a b ls,(it' c a b ls).Valid (model C.prog w) C.top)(her:∀ c a b ls,(it' c a b ls).er=erC:=by exact fun _ _ _ _=>rfl):it.Valid (model C.prog w) C.top:=by
 rintro ⟨c,hd,ow,B,pa⟩ p s Rr hc hh hBB hg top nd own here k
 dsimp only at hc hh hBB
 obtain ⟨n,pl,hs,js,kx,ok,chk⟩:=h c B p s.heap.objs.size s.toks s.gens hc
 delta ChkT at chk
 rw[hBB,hg] at chk
 subst hh
 refine ZW ?_
 refine Yn W.hP W.hids n pl ⟨C.top,s.heap,it.all.map (·.1),s.gens,s.drawn,s.os⟩ c B p (Yj c) it.pre it.preS s.heap.objs.size s.toks hs [] rfl ok (fun ls=>?_) ow pa s Rr (Desc.start top nd own here) (fun ls=>?_)
 ·exact (Prod.mk.inj (Prod.mk.inj (Prod.mk.inj (Prod.mk.inj (chk ls)).2).2).2).2
 ·obtain ⟨e1,r1⟩:=Prod.mk.inj (chk ls)
  obtain ⟨e2,r2⟩:=Prod.mk.inj r1
  obtain ⟨e3,r3⟩:=Prod.mk.inj r2
  obtain ⟨e4,e5⟩:=Prod.mk.inj r3
  have hb:=hB c s.heap.objs.size s.toks ls
  have hgg:=hgi c s.heap.objs.size s.toks ls
  have h0:=h' c s.heap.objs.size s.toks ls
  have her':=her c s.heap.objs.size s.toks ls
  have ho0:=fun sz tk sz' tk' l=>hout c sz tk sz' tk' s.heap.objs.size s.toks ls l
  generalize it' c s.heap.objs.size s.toks ls=it'' at e1 e2 e3 e4 hb h0 ho0 hgg her'
  have hS':=(List.take_append_drop kx it''.preS).symm
  generalize it''.preS.drop kx=S' at hS' e3
  generalize it''.preS.take kx=ex' at hS' e2
  rw[←hgg,hg] at e4
  generalize go0 C n pl ls c B p (Yj c) it.pre it.preS s.heap.objs.size s.toks hs [] s.gens=R at e1 e2 e3 e4 e5 ⊢
  obtain ⟨⟨kd,c₁,p₁,led₁,sz₁,tk₁,hs₁,pits₁,ob₁⟩,S₁,g₁⟩:=R
  dsimp only at e1 e2 e3 e4 e5 ⊢
  subst e4
  obtain ⟨rest,pm⟩:=fst?_perm e2
  have pm2:(led₁++S₁).Perm (it''.all++rest):=by
   rw[FItem.all,hS',←e3]
   exact Q2 pm
  cases kd with
  | done f=>cases e1
  | raise e'=>cases e1
  | pause _=>cases e1
  | fail _=>cases e1
  | pauseT c' =>
   have e:erC c'=it''.c:=Option.some.inj e1
   intro s' D
   have D2:Desc ⟨C.top,s.heap,it.all.map (·.1),s.gens,s.drawn,s.os⟩ (it''.all++rest) sz₁ tk₁ s':=Desc.perm D pm2
   have nd2:=D2.nodup
   rw[List.map_append,List.nodup_append] at nd2
   have eg:s'.gens=s.gens:=D2.gens
   have ed:s'.drawn=s.drawn:=D2.drawn
   have eo:s'.os=s.os:=D2.os
   refine h0 ⟨c',none,ow,B,pa⟩ p₁ s' Rr (by rw[her'];exact e) rfl (by rw[←hb];exact hBB) (by rw[←hgg,eg];exact hg) D2.top nd2.1 (fun q hq=>D2.own q (List.mem_append_left _ hq)) (fun q hq=>D2.here q (List.mem_append_left _ hq)) fun l h2 L=>?_
   have ho:=ho0 s.heap.objs.size s.toks s'.heap.objs.size s'.toks l
   have key:=k l h2 (by
    obtain ⟨f1,f2,f3,f4,f5,f6⟩:=L
    rw[←ho] at f2 f3 f4 f5 f6
    have le:s.heap.objs.size≤s'.heap.objs.size:=by rw[D2.size];exact D2.old
    refine ⟨fun a x hx hn=>f1 a x (D2.frame a x hx hn) fun hm=>?_,f2,f3,fun q hq=>?_,f5,Nat.le_trans le f6⟩
    ·obtain ⟨q,hq,e⟩:=List.mem_map.mp hm
     rcases D2.base q (List.mem_append_left _ hq) with hb | hb
     ·exact hn (e▸hb)
     ·exact absurd (Heap.lt_size hx) (Nat.not_lt.mpr (e▸hb))
    ·rcases f4 q hq with hb | hb
     ·obtain ⟨r,hr,e⟩:=List.mem_map.mp hb
      rw[←e]
      exact D2.base r (List.mem_append_left _ hr)
     ·exact .inr (Nat.le_trans le hb))
   rw[ho] at key
   rw[eg,ed,eo]
   exact key
noncomputable def argTok (c:Code)(i:Nat):Nat:=match c with
 | .call _ a=>(match a.pos[i]? with | some (.str _ t)=>t | some (.int _ t)=>t | _=>0)
 | .builtin _ a=>(match a.pos[i]? with | some (.str _ t)=>t | some (.int _ t)=>t | _=>0)
 | _=>0
noncomputable abbrev KR:=Fast.tw14206642085496868694
noncomputable def tdX (tb:List Stmt)(hs:List ExceptHandler)(pos:Pos)(env:Env)(f:Addr):Sem Fin :=
 .at pos fun _=>R.bindR (Fast.tw3205988728414705400 (U1 tb env)) fun r=>match r with
  | .ok (.ret v)=>.pure (.done (.ret v))
  | .ok _=>.unsupported "x"
  | .error e=>R.bindR (Z0z 1 e f) fun _=>R.bindR (YN e none) fun _=>R.bindR (KR e env hs) fun fl=>match fl with
   | .ret v=>.pure (.done (.ret v))
   | _=>.unsupported "x"
theorem td_of{M:Model}{Γ:Ctx}{tb:List Stmt}{h:ExceptHandler}{hs:List ExceptHandler}{pos:Pos}{env:Env}{f:Addr}(hc:Γ.code=.func [.Try tb (h::hs) [] [] pos] env)(hf:env.frame=some f){Q:Fin→Pos→Shared→Prop}{E:Value→Pos→Shared→Prop}{p:Pos}{s:Shared}
  (hx:wp M Γ (tdX tb (h::hs) pos env f) Q E p s):wp M Γ (Yj Γ.code) Q E p s:=by
 have h1:∀ p,ZO ((Γ.code,p)::Γ.below)=some f:=fun p=>by
  rw[hc]
  exact hf
 have he:Γ.code.env?=some env:=by rw[hc];rfl
 unfold tdX at hx
 have ea:@Fast.tw3205988728414705400=@Sem.attempt:=Fast.te3205988728414705400.symm
 rw[Sem.wp_at,←R.bindR_eq,Sem.wp_bind,ea,Sem.wp_attempt,Qo] at hx
 have ed:Yj Γ.code=.point [] fun _=>Sem.bind (execs [.Try tb (h::hs) [] [] pos] env) Z1W:=by
  rw[hc,R.bindR_eq,←Qo]
  rfl
 rw[ed,Sem.wp_point,Sem.wp_bind,arm_execs_cons,Sem.wp_bind',arm_exec_Try,Sem.wp_bind']
 show wp M Γ (Sem.at pos Sem.pure) _ E p s
 rw[Sem.wp_at,Sem.wp_pure]
 unfold tryStmt
 simp only[List.isEmpty_nil,if_true,List.isEmpty_cons,Bool.false_eq_true,if_false,Bool.false_and]
 rw[Sem.wp_bind',Sem.wp_attempt]
 refine Sem.wp_mono _ _ _ (fun fl p' s' hy=>?_) (fun e p' s' hy=>?_) _ _ hx
 ·cases fl <;> first | exact False.elim hy | exact hy
 ·dsimp only at hy ⊢
  rw[Sem.wp_bind] at hy
  rw[Sem.wp_bind']
  refine WT he hf h1 (Sem.wp_mono _ _ _ (fun _ p'' s'' hz=>?_) (fun _ _ _ e=>e) _ _ hy)
  rw[Sem.wp_bind,Yu] at hz
  rw[Sem.wp_bind']
  refine Sem.wp_mono _ _ _ (fun _ p'' s'' hz=>?_) (fun _ _ _ e=>e) _ _ hz
  have eh:KR=handleBy:=Fast.te14206642085496868694.symm
  rw[Sem.wp_bind,eh] at hz
  refine Sem.wp_mono _ _ _ (fun fl p'' s'' hz=>?_) (fun _ _ _ e=>e) _ _ hz
  cases fl <;> first | exact False.elim hz | exact hz
end
section
set_option backward.match.sparseCases false
noncomputable def Z0W (D:Nat→Dt)(d:Dt):Nat→Dt:=fun i=>match i with
 | 0=>d
 | i=>D i
noncomputable def Z0V (D:Nat→Dt)(d:Dt):Nat→Dt:=fun i=>match i with
 | 1=>d
 | i=>D i
noncomputable def Z2f (P:Params)(X:Fr)(D:Nat→Dt)(r:Bool)(lex ld sio sd pb fs:Nat)(T S:Nat→Nat)(buf:Str)(pos t3:Nat)(st:Value)(ln lt tt:Nat):FItem where
 c:=.call (.ref 707) ⟨[.ref lex],[]⟩
 B:=nrm (.f (ZG P 700 X.g)::.f (ZG P 736 X.n)::shN P X)
 pre:=[(lex,ZA 739 ld),(ld,JC P T sio pb fs st ln lt (Str.ofString "") tt),(sio,ZA 604 sd),(sd,QQ P S t3 buf pos),(X.g,frX (D 0) #[]),(X.n,frX (D 1) #[]),(X.s,frX (D 2) #[]),(X.t,frX (D 3) #[])]++frs X D r
 out:=fun _ _ l=>⟨.error (.ref (l 2)),exL .none (.ref (l 10)) .none l Z2r false++frsW X D,l 0,l 1,id,[]⟩
theorem rte{b b2:Bool}{w:World}(hw:Wd b b2 w)(X:Fr)(D:Nat→Dt)(r:Bool)(lex ld sio sd pb fs:Nat)(T S:Nat→Nat)(buf:Str)(pos t3 lt tt ln:Nat)(st:Value)
  (hl:∀ L F,OK w (VK w.params X D r L lex ld sio sd pb fs T S F buf pos t3 false none st ln lt (Str.ofString "") tt)):OK w (Z2f w.params X D r lex ld sio sd pb fs T S buf pos t3 st ln lt tt):=by
 refine Z1 hw.w0 _ fun c B p sz tk g he=>?_
 obtain ⟨bs,rfl,hb⟩:=Z3 he
 obtain ⟨v1,rfl,e1⟩:=Z4 hb
 obtain rfl:=Z5 e1
 refine ⟨89,.item [] (VK w.params X D r sz lex ld sio sd pb fs T S (fl [tk,tk+1,tk+3,tk+2]) buf pos t3 false none st ln lt (Str.ofString "") tt) (fun l0=>.fin []),(dg 32 0x23120023110000000000000101100100),[0,0,0,0,0,0,0,0,0],0,fun ls=>(fun l0=>fl [l0 0,l0 1,l0 2,l0 3,l0 4,l0 5,l0 6,l0 7,l0 8,l0 9,sz]) (ls 0),?_,fun ls=>?_⟩
 ·exact ⟨(fun x hx=>(nomatch hx)),hl _ _,fun l0=>(fun x hx=>(nomatch hx))⟩
 ·kernel_rfl
noncomputable def Z2l (P:Params)(X:Fr)(D:Nat→Dt)(r:Bool)(lex ld sio sd pb fs:Nat)(T S:Nat→Nat)(buf:Str)(pos t3:Nat)(st:Value)(ln lt tt:Nat):FItem where
 c:=.call (.ref 700) ⟨[.ref lex],[]⟩
 B:=nrm (.f (ZG P 736 X.n)::shN P X)
 pre:=[(lex,ZA 739 ld),(ld,JC P T sio pb fs st ln lt (Str.ofString "") tt),(sio,ZA 604 sd),(sd,QQ P S t3 buf pos),(pb,dqO),(fs,dqO),(X.n,frX (D 1) #[]),(X.s,frX (D 2) #[]),(X.t,frX (D 3) #[])]++frs X D r
 out:=fun _ _ l=>⟨.error (.ref (l 2)),exL (.ref (l 11)) (.ref (l 10)) .none l Z2r true++frsG X D,l 0,l 1,id,[]⟩
theorem gte{b b2:Bool}{w:World}(hw:Wd b b2 w)(X:Fr)(D:Nat→Dt)(r:Bool)(lex ld sio sd pb fs:Nat)(T S:Nat→Nat)(buf:Str)(pos t3 lt tt ln:Nat)(st:Value)
  (hl:∀ z d,OK w (Z2f w.params { X with g:=z } (Z0W D d) r lex ld sio sd pb fs T S buf pos t3 st ln lt tt)):OK w (Z2l w.params X D r lex ld sio sd pb fs T S buf pos t3 st ln lt tt):=by
 refine Z1 hw.w0 _ fun c B p sz tk g he=>?_
 obtain ⟨bs,rfl,hb⟩:=Z3 he
 obtain ⟨v1,rfl,e1⟩:=Z4 hb
 obtain rfl:=Z5 e1
 refine ⟨133,.item [] (Z2f w.params { g:=sz,n:=X.n,s:=X.s,t:=X.t,p:=X.p,w:=X.w } (Z0W D { es:=#[en w.params "self" tk (Value.ref lex)],n:=1 }) r lex ld sio sd pb fs T S buf pos t3 st ln lt tt) (fun l0=>.fin []),(dg 67 0x12124233122222201111003200002000200021621f62626630220002200021100100),[1,1,0,2,2,2,2,2],0,fun ls=>(fun l0=>fl [l0 0+1,l0 1,l0 2,l0 3,l0 0,l0 5,557,557,14,31,sz,l0 4]) (ls 0),?_,fun ls=>?_⟩
 ·exact ⟨(fun x hx=>(nomatch hx)),hl _ _,fun l0=>(fun x hx=>(nomatch hx))⟩
 ·kernel_rfl
noncomputable def Z0I (P:Params)(X:Fr)(D:Nat→Dt)(r:Bool)(lex ld sio sd pb fs:Nat)(T S:Nat→Nat)(buf:Str)(pos t3:Nat)(st:Value)(ln lt tt:Nat):FItem where
 c:=.call (.ref 736) ⟨[.ref lex],[]⟩
 B:=nrm (shN P X)
 pre:=[(lex,ZA 739 ld),(ld,JC P T sio pb fs st ln lt (Str.ofString "") tt),(sio,ZA 604 sd),(sd,QQ P S t3 buf pos),(pb,dqO),(fs,dqO),(X.s,frX (D 2) #[]),(X.t,frX (D 3) #[])]++frs X D r
 out:=fun _ _ l=>⟨.error (.ref (l 2)),exL (.ref (l 11)) (.ref (l 10)) .none l Z2r true++frsN X D,l 0,l 1,id,[]⟩
theorem nxe{b b2:Bool}{w:World}(hw:Wd b b2 w)(X:Fr)(D:Nat→Dt)(r:Bool)(lex ld sio sd pb fs:Nat)(T S:Nat→Nat)(buf:Str)(pos t3 lt tt ln:Nat)(st:Value)
  (hl:∀ z d,OK w (Z2l w.params { X with n:=z } (Z0V D d) r lex ld sio sd pb fs T S buf pos t3 st ln lt tt)):OK w (Z0I w.params X D r lex ld sio sd pb fs T S buf pos t3 st ln lt tt):=by
 refine Z1 hw.w0 _ fun c B p sz tk g he=>?_
 obtain ⟨bs,rfl,hb⟩:=Z3 he
 obtain ⟨v1,rfl,e1⟩:=Z4 hb
 obtain rfl:=Z5 e1
 refine ⟨99,.item [] (Z2l w.params { g:=X.g,n:=sz,s:=X.s,t:=X.t,p:=X.p,w:=X.w } (Z0V D { es:=#[en w.params "self" tk (Value.ref lex)],n:=1 }) r lex ld sio sd pb fs T S buf pos t3 st ln lt tt) (fun l0=>.fin []),(dg 46 0x121242331200000111111003200002000200021100100),[1,1,0,2,2,2,2],0,fun ls=>(fun l0=>fl [l0 0+1,l0 1,l0 2,l0 3,l0 0,l0 5,729,729,16,32,sz,l0 4]) (ls 0),?_,fun ls=>?_⟩
 ·exact ⟨(fun x hx=>(nomatch hx)),hl _ _,fun l0=>(fun x hx=>(nomatch hx))⟩
 ·kernel_rfl
noncomputable def itTX (P:Params)(X:Fr)(D:Nat→Dt)(r:Bool)(a:Nat)(lex ld sio sd pb fs:Nat)(T S:Nat→Nat)(buf:Str)(pos t3:Nat)(st:Value)(ln lt tt:Nat):FItem where
 c:=.builtin "list.extend.loop" ⟨[.ref a,.ref lex,.none],[]⟩
 B:=nrm (.tt "list"::.f (ZG P 751 X.s)::shT P X)
 pre:=[(lex,ZA 739 ld),(ld,JC P T sio pb fs st ln lt (Str.ofString "") tt),(sio,ZA 604 sd),(sd,QQ P S t3 buf pos),(pb,dqO),(fs,dqO),(X.s,frX (D 2) #[]),(X.t,frX (D 3) #[])]++frs X D r
 out:=fun _ _ l=>⟨.error (.ref (l 2)),exL (.ref (l 11)) (.ref (l 10)) .none l Z2r true++frsN X D,l 0,l 1,id,[]⟩
theorem txe{b b2:Bool}{w:World}(hw:Wd b b2 w)(X:Fr)(D:Nat→Dt)(r:Bool)(a:Nat)(lex ld sio sd pb fs:Nat)(T S:Nat→Nat)(buf:Str)(pos t3 lt tt ln:Nat)(st:Value)
  (hl:OK w (Z0I w.params X D r lex ld sio sd pb fs T S buf pos t3 st ln lt tt)) :
  OKT w (itTX w.params X D r a lex ld sio sd pb fs T S buf pos t3 st ln lt tt) (nxT (.ref lex)):=by
 refine ZL hw.w0 _ (nxT (Value.ref lex)) (ZC) fun c B p sz tk g he=>?_
 obtain ⟨bs,rfl,hb⟩:=Zb he
 obtain ⟨v1,v2,v3,rfl,e1,e2,e3⟩:=Y1 hb
 obtain rfl:=Z5 e1
 obtain rfl:=Z5 e2
 obtain rfl:=Ju e3
 refine ⟨58,.item [] (Z0I w.params X D r lex ld sio sd pb fs T S buf pos t3 st ln lt tt) (fun l0=>.fin []),(dg 17 0x10000000000000001),[0,0,0,0,0,0,0],0,fun ls=>(fun l0=>fl [l0 0,l0 1,l0 2,l0 3,l0 4,l0 5,l0 6,l0 7,l0 8,l0 9,l0 10,l0 11]) (ls 0),?_,fun ls=>?_⟩
 ·exact ⟨(fun x hx=>(nomatch hx)),hl,fun l0=>(fun x hx=>(nomatch hx))⟩
 ·kernel_rfl
noncomputable def OLE (X:Fr)(D:Nat→Dt):(Nat→Nat)→FOut:=fun l=>⟨.error (.ref (l 2)),exL (.ref (l 11)) (.ref (l 10)) .none l Z2r true++frsN X D,l 0,l 1,id,[]⟩
noncomputable def Z2h (P:Params)(X:Fr)(D:Nat→Dt)(r:Bool)(lex ld sio sd pb fs:Nat)(T S:Nat→Nat)(buf:Str)(pos t3:Nat)(st:Value)(ln lt tt:Nat):FItem where
 c:=.call (.type "list") ⟨[.ref lex],[]⟩
 B:=nrm (.f (ZG P 751 X.s)::shT P X)
 pre:=[(lex,ZA 739 ld),(ld,JC P T sio pb fs st ln lt (Str.ofString "") tt),(sio,ZA 604 sd),(sd,QQ P S t3 buf pos),(pb,dqO),(fs,dqO),(X.s,frX (D 2) #[]),(X.t,frX (D 3) #[])]++frs X D r
 out:=fun _ _ l=>OLE X D l
theorem lse{b b2:Bool}{w:World}(hw:Wd b b2 w)(X:Fr)(D:Nat→Dt)(r:Bool)(lex ld sio sd pb fs:Nat)(T S:Nat→Nat)(buf:Str)(pos t3 lt tt ln:Nat)(st:Value)
  (h:∀ a n,OK w (N8 w.params X D r a n lex ld sio sd pb fs T S buf pos t3 st ln lt tt (OLE X D))) :
  OK w (Z2h w.params X D r lex ld sio sd pb fs T S buf pos t3 st ln lt tt):=by
 refine Z1 hw.w0 _ fun c B p sz tk g he=>?_
 obtain ⟨bs,rfl,hb⟩:=Z3 he
 obtain ⟨v1,rfl,e1⟩:=Z4 hb
 obtain rfl:=Z5 e1
 refine ⟨60,.item [] (N8 w.params X D r sz 0 lex ld sio sd pb fs T S buf pos t3 st ln lt tt (OLE X D)) (fun l0=>.fin []),(dg 17 0x114ef21),[0,0,0,0,0,0,0],0,fun ls=>(fun l0=>fl [l0 0,l0 1,l0 2,l0 3,l0 4,l0 5,l0 6,l0 7,l0 8,l0 9,l0 10,l0 11]) (ls 0),?_,fun ls=>?_⟩
 ·exact ⟨(fun x hx=>(nomatch hx)),h _ _,fun l0=>(fun x hx=>(nomatch hx))⟩
 ·kernel_rfl
noncomputable def Z2e (P:Params)(X:Fr)(D:Nat→Dt)(r:Bool)(s:Str):FItem where
 c:=.call (.ref 751) ⟨[.str s 0],[]⟩
 B:=nrm (shT P X)
 pre:=(X.t,frX (D 3) #[])::frs X D r
 out:=fun _ _ l=>⟨.error (.ref (l 2)),exL (.ref (l 11)) (.ref (l 10)) .none l ["claim.caller"] true++Z1o X D,l 0,l 1,id,[]⟩
theorem spe{b b2:Bool}{w:World}(hw:Wd b b2 w)(X:Fr)(D:Nat→Dt)(r:Bool)(s:Str)
  (h:∀ d z lex ld sio sd pb fs T S t3 sT lt tt,OK w (Z2h w.params { X with s:=z } (dset D d) r lex ld sio sd pb fs T S s 0 t3 (.str (Str.ofString " ") sT) 1 lt tt)):OK w (Z2e w.params X D r s):=by
 refine Z1 hw.w0 _ fun c B p sz tk g he=>?_
 obtain ⟨bs,rfl,hb⟩:=Z3 he
 obtain ⟨v1,rfl,e1⟩:=Z4 hb
 obtain ⟨u1,rfl⟩:=Zk e1
 refine ⟨1425,.item [] (Z2h w.params { g:=X.g,n:=X.n,s:=sz,t:=X.t,p:=X.p,w:=X.w } (dset D { es:=#[en w.params "s" tk (Value.str s u1),en w.params "comments" (tk+1) (Value.bool false),en w.params "posix" (tk+2) (Value.bool true),en w.params "lex" (tk+93) (Value.ref (sz+2))],n:=4 }) r (sz+2) (sz+1) (sz+8) (sz+7) (sz+11) (sz+12) (fl [tk+36,tk+38,tk+40,tk+42,tk+45,tk+48,tk+57,tk+59,tk+62,tk+65,tk+68,tk+71,tk+73,tk+76,tk+79,tk+82,tk+84,tk+86,tk+90,tk+96,tk+52,tk+55,tk+60,tk+63,tk+66,tk+77,tk+87]) (fl [tk+19,766,tk+22,u1,tk+25]) s 0 (tk+23) (Value.str (Str.ofString " ") (tk+69)) 1 (tk+74) (tk+80)) (fun l0=>.fin []),(dg 933 0x121242331266660144aa0d00cbc0b000b0b50b2000bddcbc0b000b0b50b2000bdcd822acbc0b000b0b50b2000baa9aacbc0b000b0b50b2000bacbc0b000b0b50b2000ba10120f12111ff2120bab0a000a0a50a2000a9bab0a000a0a50a2000a9bab0a000a0a50a2000a9bab0a000a0a50a2000a910120f12111ff2120a9a09000909509200098a9a09000909509200098a9a09000909509200098a9a09000909509200098a9a09000909509200098a9a09000909509200098a9a09000909509200091af2a0990009200098a0990009200098a9a09000909509200098a9a09000909509200098a9a090009095092000988a9a090009095092000988a9a090009095092000988a9a090009095092000988878434030000000303503200000003210ff210ff21101403300000003200000003110010100201320000200000002000000021132302000000020250220000000213230200000002025022000000021323020000000202502200000002110012100110f2110f211001210011001010100020000101000000000000000000014f000000000000000000213af2000100011001010100203bf02000000000003af02000010100200101df1cf20010010010101010100020000101000000000000014f0000000200010100200110110010101000),[1,1,0,2,2,2],0,fun ls=>(fun l0=>fl [l0 0+1,l0 1,l0 2,l0 3,l0 0,l0 5,740,740,11,20,sz,l0 4]) (ls 0),?_,fun ls=>?_⟩
 ·exact ⟨(fun x hx=>(nomatch hx)),h _ _ _ _ _ _ _ _ _ _ _ _ _ _,fun l0=>(fun x hx=>(nomatch hx))⟩
 ·cases b <;> kernel_rfl
noncomputable def VL (P:Params)(X:Fr)(D:Nat→Dt)(r:Bool)(s:Str):FItem where
 c:=.call (.ref 806) ⟨[.str s 0],[]⟩
 B:=nrm (shP P X)
 pre:=frs X D r
 out:=fun _ _ l=>⟨.ok (.ret (.str (Str.ofString "No closing quotation") (l 2))),frsP X D,l 0,l 1,id,[]⟩
noncomputable def tbOf (s:Stmt):List Stmt:=match s with
 | .Try b _ _ _ _=>b
 | _=>[]
noncomputable def hsOf (s:Stmt):List ExceptHandler:=match s with
 | .Try _ h _ _ _=>h
 | _=>[]
noncomputable def posOf (s:Stmt):Pos:=match s with
 | .Try _ _ _ _ p=>p
 | _=>default
noncomputable def tdT (P:Params)(L:Nat):Sem PySem.Fin:=tdX (tbOf (sAt (Y0 P 806) 0)) (hsOf (sAt (Y0 P 806) 0)) (posOf (sAt (Y0 P 806) 0)) (ZG P 806 L) L
noncomputable def itTF (P:Params)(X:Fr)(D:Nat→Dt)(r:Bool)(L t0 u:Nat)(s:Str):FItem where
 c:=.func (Y0 P 806) (ZG P 806 L)
 B:=nrm (shP P X)
 pre:=(L,frO [en P "line" t0 (.str s u)] 1)::frs X D r
 out:=fun _ _ l=>⟨.ok (.ret (.str (Str.ofString "No closing quotation") (l 2))),frsP X D,l 0,l 1,id,[]⟩
theorem td_ht{w:World}{L:Nat}{as:List Addr}(nd:as.Nodup)(Γ:Ctx)(he:erC Γ.code=.func (Y0 w.params 806) (ZG w.params 806 L))(Rr:Result→Shared→Prop)(p:Pos)(s:Shared)
  (hx:Sem.wp (MD w) Γ (tdT w.params L) (Sem.finPost (MD w) Γ Rr) (EP (MD w) Γ Rr) p s):Sem.wp (MD w) Γ (Yj Γ.code) (Sem.finPost (MD w) Γ Rr) (EP (MD w) Γ Rr) p s:=by
 have hc:=Ur he
 have hb:Y0 w.params 806=[.Try (tbOf (sAt (Y0 w.params 806) 0)) (hsOf (sAt (Y0 w.params 806) 0)) [] [] (posOf (sAt (Y0 w.params 806) 0))]:=by kernel_rfl
 have hn:(hsOf (sAt (Y0 w.params 806) 0)).isEmpty=false:=by kernel_rfl
 unfold tdT at hx
 generalize hh:hsOf (sAt (Y0 w.params 806) 0)=hs at hb hn hx
 cases hs with
 | nil=>cases hn
 | cons h hs=>exact td_of (hc.trans (congrArg (fun b=>Code.func b _) hb)) rfl hx
theorem tfe{b b2:Bool}{w:World}(hw:Wd b b2 w)(X:Fr)(D:Nat→Dt)(r:Bool)(L t0 u:Nat)(s:Str)
  (h:∀ d z,OK w (Z2e w.params { X with t:=z } (Z0U D d) r s)):OK w (itTF w.params X D r L t0 u s):=by
 refine Wj hw.w0 _ (fun _=>tdT w.params L) (td_ht) fun c B p sz tk g he=>?_
 obtain rfl:=Ur he
 refine ⟨129,.item [] (Z2e w.params { g:=X.g,n:=X.n,s:=X.s,t:=L,p:=X.p,w:=X.w } (Z0U D { es:=#[en w.params "line" t0 (Value.str s u)],n:=1 }) r s) (fun l0=>.fin []),(dg 46 0x454513f23246f22247f212500450121200101212423310000010),[5,5],0,fun ls=>(fun l0=>fl [l0 0+1,l0 1+2,l0 5]) (ls 0),?_,fun ls=>?_⟩
 ·exact ⟨(fun x hx=>(nomatch hx)),h _ _,fun l0=>(fun x hx=>(nomatch hx))⟩
 ·kernel_rfl
theorem tde{b b2:Bool}{w:World}(hw:Wd b b2 w)(X:Fr)(D:Nat→Dt)(r:Bool)(s:Str)
  (h:∀ L t0 u,OK w (itTF w.params X D r L t0 u s)):OK w (VL w.params X D r s):=by
 refine Vt hw.w0 _ (fun c sz tk ls=>itTF w.params X D r sz tk (argTok c 0) s) (fun _ _ _ _ _ _ _ _ _=>rfl) (fun _ _ _ _=>rfl) (fun _ _ _ _=>rfl) (fun c B p sz tk g he=>?_) (fun c sz tk ls=>h _ _ _)
 obtain ⟨bs,rfl,hb⟩:=Z3 he
 obtain ⟨v1,rfl,e1⟩:=Z4 hb
 obtain ⟨u1,rfl⟩:=Zk e1
 refine ⟨60,.fin [],[0,0,1,0,0,0],[0,0,0],0,?_,fun ls=>?_⟩
 ·exact (fun x hx=>(nomatch hx))
 ·kernel_rfl
end
inductive LS where
 | sp | a | q | d
noncomputable def LS.txt:LS→Str
 | .sp=>Str.ofString " "
 | .a=>Str.ofString "a"
 | .q=>Str.ofString "'"
 | .d=>Str.ofString "\""
inductive SO where
 | brk (tok:List Nat)(qd fin:Bool)(nc rest:List Nat)
 | err
noncomputable def VP (c:Nat):Bool:=c==32||c==9||c==13||c==10
noncomputable def ZI:List Nat→LS→List Nat→Bool→Option SO
 | [],.sp,tok,qd=>if tok=[]∧qd=false then some (.brk [] false true [] []) else none
 | [],.a,tok,qd=>some (.brk tok qd true [] [])
 | [],.q,_,_=>some .err
 | [],.d,_,_=>none
 | c::cs,.sp,tok,qd=>if tok=[]∧qd=false then
   (if VP c then ZI cs .sp [] false else if c=39 then ZI cs .q [] false else if c=34∨c=92 then none else ZI cs .a [c] false) else none
 | c::cs,.a,tok,qd=>if VP c then (if tok=[]∧qd=false then none else some (.brk tok qd false [c] cs)) else if c=39 then ZI cs .q tok qd else if c=34 then ZI cs .d tok qd else if c=92 then none
   else if tok=[] then none else ZI cs .a (tok++[c]) qd
 | c::cs,.q,tok,qd=>if c=39 then ZI cs .a tok true else ZI cs .q (tok++[c]) true
 | c::cs,.d,tok,qd=>if c=34 then ZI cs .a tok true else if c=92∨c=10 then none else ZI cs .d (tok++[c]) true
theorem YD(x:Str)(c:Nat):Zh x (mkS [c])=decide (c∈x.cps.toList):=PySem.StrLaws.found_one x c
theorem Yi(c d:Nat):eqS (mkS [c]) (mkS [d])=decide (c=d):=by
 show ([c]==[d])=_
 by_cases h:c=d
 ·subst h;simp
 ·simp[h]
theorem ZB(c:Nat):(mkS [c]).length=1:=rfl
theorem ZU(a b:List Nat):mkS a++mkS b=mkS (a++b):=by
 show (⟨a.toArray++b.toArray⟩:Str)=_
 simp[mkS]
theorem Zf(a:List Nat):(mkS a).length=a.length:=by simp[mkS,Str.length]
theorem JY:Str.ofString "\n"=mkS [10]:=by decide +kernel
theorem e_q:Str.ofString "'"=mkS [39]:=by decide +kernel
theorem e_d:Str.ofString "\""=mkS [34]:=by decide +kernel
theorem e_bs:Str.ofString "\\"=mkS [92]:=by decide +kernel
theorem Y4:Str.ofString ""=mkS []:=by decide +kernel
theorem e_ws:(Str.ofString " \t\r\n").cps.toList=[32,9,13,10]:=by decide +kernel
theorem e_qu:(Str.ofString "'\"").cps.toList=[39,34]:=by decide +kernel
theorem wc_q:Zh wcS (mkS [39])=false:=by rw[YD];decide +kernel
theorem YH(c:Nat):Zh (Str.ofString " \t\r\n") (mkS [c])=VP c:=by
 rw[YD,e_ws]
 unfold VP
 simp only[List.mem_cons,List.not_mem_nil,or_false]
 by_cases h1:c=32 <;> by_cases h2:c=9 <;> by_cases h3:c=13 <;> by_cases h4:c=10 <;> simp_all
theorem QE(c:Nat):Zh (Str.ofString "") (mkS [c])=false:=by
 rw[YD]
 rfl
theorem Ql(c:Nat):Zh (Str.ofString "\\") (mkS [c])=decide (c=92):=by
 rw[YD,e_bs]
 simp[mkS]
theorem Kj(c:Nat)(h1:c≠39)(h2:c≠34):Zh (Str.ofString "'\"") (mkS [c])=false:=by
 rw[YD,e_qu]
 simp[h1,h2]
theorem WA{buf:Str}{pos c:Nat}{cs:List Nat}(h:buf.cps.toList.drop pos=c::cs):pos<buf.length∧NX buf pos (pos+1)=mkS [c]∧buf.cps.toList.drop (pos+1)=cs:=by
 have hlt:pos<buf.cps.toList.length:=by
  rcases Nat.lt_or_ge pos buf.cps.toList.length with h1 | h1
  ·exact h1
  ·rw[List.drop_eq_nil_of_le h1] at h;cases h
 refine ⟨by simpa [Str.length] using hlt,?_,?_⟩
 ·unfold NX mkS
  rw[h]
  simp
 ·rw[←List.drop_drop,h];rfl
noncomputable def fL (X:Fr)(D:Nat→Dt)(r:Bool):Led:=[(X.g,frX (D 0) #[]),(X.n,frX (D 1) #[]),(X.s,frX (D 2) #[]),(X.t,frX (D 3) #[])]++frs X D r
noncomputable def OWE (X:Fr)(D:Nat→Dt)(L:Nat):(Nat→Nat)→FOut:=fun l=>⟨.error (.ref (l 2)),exL .none (.ref L) (rawInt L) l Z2r false++frsW X D,l 0,l 1,id,[]⟩
noncomputable def Oof (P:Params)(X:Fr)(D:Nat→Dt)(R:Led)(L lex ld sio sd pb fs:Nat)(T S:Nat→Nat)(buf:Str):SO→(Nat→Nat)→FOut
 | .brk tok qd fin nc rest=>Ow P R L lex ld sio sd pb fs T S buf (buf.length-rest.length) qd (mkS nc) (match fin with | true=>fun _=>.none | false=>fun t=>.str (Str.ofString " ") t) (mkS tok)
 | .err=>OWE X D L
end
section
open PySem PySem.Builtin PySem.W
section
open Sem (wp finPost)
theorem Nd{c:Code}{e:PySem.Expr}{d:Nat}{i a:Value}{env:Env}(h:erC c=.compStart e d i a env):c=.compStart e d i a env:=by
 cases c <;> simp[erC] at h
 simp[h]
noncomputable def QS (w:World)(I:Nat)(cls:String):Prop:=∀(A:Around)(s:Shared),s.TypeIs (.ref I) cls→wpAny (MD w) A (pyIter (.ref I)) (fun v s'=>v=.ref I∧s'=s) (fun _ _=>False) s
theorem KV{w:World}(I:Nat):QS w I "list_iterator":=fun A s hT =>
 wpAny_pyIter_slot hT slot_listiter_iter (wpAny_call_entry slot_listiter_iter hT entry_listiter_iter (wpAny_pure ⟨_,rfl,"list_iterator",_,hT,slot_listiter_next.lookup,rfl,rfl⟩) (args_listiter_iter _))
theorem Z02{w:World}(I:Nat):QS w I "str_iterator":=fun A s hT =>
 wpAny_pyIter_slot hT F.slot_str_iterator_iter (wpAny_call_entry F.slot_str_iterator_iter hT F.entry_str_iterator_iter (wpAny_pure ⟨_,rfl,"str_iterator",_,hT,F.slot_str_iterator_next.lookup,rfl,rfl⟩) (F.args_str_iterator_iter_1 _))
theorem UH{w:World}(I:Nat):QS w I "str_ascii_iterator":=fun A s hT =>
 wpAny_pyIter_slot hT F.slot_str_ascii_iterator_iter (wpAny_call_entry F.slot_str_ascii_iterator_iter hT F.entry_str_ascii_iterator_iter (wpAny_pure ⟨_,rfl,"str_ascii_iterator",_,hT,F.slot_str_ascii_iterator_next.lookup,rfl,rfl⟩) (F.args_str_ascii_iterator_iter_1 _))
theorem QD{w:World}{e:PySem.Expr}{acc:Value}{env:Env}{I:Nat}{cls:String}{it:FItem}(h:OK w it)(hc:it.c=.compLoop e 0 (.ref I) acc env)(her:it.er=erC)(hcl:((clausesOf e)[0]?).elim false (·.is_async != 0)=false)
  {o:Obj}(hm:(I,o)∈it.all)(ho:o.cls=.type cls)(hi:QS w I cls):OK w { it with c:=.compStart e 0 (.ref I) acc env }:=by
 rintro ⟨c,hd,ow,B,pa⟩ p s Rr hcc hh hB hg top nd own here k
 dsimp only at hcc hh
 rw[her] at hcc
 obtain rfl:=Nd hcc
 have hT:s.TypeIs (.ref I) cls:=⟨o,here _ hm,ho⟩
 refine ZW ?_
 show wp (MD w) ⟨.compStart e 0 (.ref I) acc env,hd,ow,B,pa⟩ (U2 e 0 (.ref I) acc env) _ _ p s
 have et:U2=compStart:=Fast.te17756973803653878507.symm
 rw[et]
 have hq:(Code.compLoop e 0 (.ref I) acc env).quiet=true:=QW _ fun _ _ h=>by cases h
 have fin:∀ p',finPost (MD w) ⟨.compStart e 0 (.ref I) acc env,hd,ow,B,pa⟩ Rr (.again (.compLoop e 0 (.ref I) acc env)) p' s:=fun p' =>
  ⟨hq,h ⟨.compLoop e 0 (.ref I) acc env,hd,ow,B,pa⟩ p' s Rr (by rw[her,hc];rfl) hh hB hg top nd own here k⟩
 have e1:compStart e 0 (.ref I) acc env=(ask >>= fun x=>if x.params.followText "comprehension-iter-twice"=true then again (.compLoop e 0 (.ref I) acc env) else (rule "comprehension.iter-twice" >>= fun _=>(match (clausesOf e)[0]? with | some g=>standAt g.iter.pos | none=>pure ()) >>= fun _=>pyIter (.ref I) >>= fun v=>again (.compLoop e 0 v acc env))):=by
  unfold compStart
  rw[hcl]
  cases (clausesOf e)[0]? <;> rfl
 rw[e1,Sem.wp_bind']
 show wp _ _ (Sem.ask Sem.pure) _ _ p s
 rw[Sem.wp_ask,Sem.wp_pure]
 by_cases hx:(⟨(MD w).prog,(MD w).w.params⟩:Setting).params.followText "comprehension-iter-twice"=true
 ·rw[if_pos hx]
  exact fin p
 ·rw[if_neg hx,Sem.wp_bind']
  show wp _ _ (Sem.rule _ Sem.pure) _ _ p s
  rw[Sem.wp_rule,Sem.wp_pure,Sem.wp_bind']
  have go:∀ p',wp (MD w) ⟨.compStart e 0 (.ref I) acc env,hd,ow,B,pa⟩ (pyIter (.ref I) >>= fun v=>again (.compLoop e 0 v acc env)) (finPost (MD w) ⟨.compStart e 0 (.ref I) acc env,hd,ow,B,pa⟩ Rr) (EP (MD w) ⟨.compStart e 0 (.ref I) acc env,hd,ow,B,pa⟩ Rr) p' s:=fun p'=>by
   rw[Sem.wp_bind']
   refine Sem.wp_mono _ _ _ (fun v p'' s'' hv=>?_) (fun _ _ _ e=>False.elim e) _ _ (hi (arOf ⟨.compStart e 0 (.ref I) acc env,hd,ow,B,pa⟩) s hT _ p' (Kz _))
   obtain ⟨rfl,rfl⟩:=hv
   exact fin p''
  cases hcl2:(clausesOf e)[0]? with
  | none =>
   show wp _ _ (Sem.pure ()) _ _ p s
   rw[Sem.wp_pure];exact go p
  | some g =>
   show wp _ _ (Sem.at _ Sem.pure) _ _ p s
   rw[Sem.wp_at,Sem.wp_pure];exact go _
end
section
set_option backward.match.sparseCases false
noncomputable def shD (P:Params)(X:Fr):List Knd:=[.L,.f (ZG P 818 X.p),.f (ZG P 823 X.w),.b "claim.caller"]
noncomputable def wE (P:Params):PySem.Expr:=match sAt (Y0 P 799) 1 with
 | .Return (some (.Compare e _ _ _)) _=>e
 | _=>default
noncomputable def Z2P (s:Scope):Scope:={ s with names:=s.names.map fun x=>if x.2==.free then (x.1,.cell) else x }
noncomputable def Vx (e:PySem.Expr):Scope:=match e with
 | .ListComp _ _ s _=>s
 | _=>default
noncomputable def wEnv (P:Params)(Lf L cl:Nat):Env:={ scope:=Z2P (Vx (wE P)),locals:=L,globals:=(ZG P 799 Lf).globals,cells:=[(Str.ofString "white",cl)],qual:=(ZG P 799 Lf).qual,func:=none,code:=(ZG P 799 Lf).code,frame:=some Lf,builtins:=(ZG P 799 Lf).builtins }
noncomputable def whS:Str:=⟨#[9,10,11,12,13,28,29,30,31,32,133,160,5760,8232,8233,8239,8287,12288]⟩
noncomputable def KE (v:Value):Obj:=⟨.type "cell",none,.cell (some v),#[]⟩
noncomputable def Ja (P:Params)(F:Nat)(o:Option (Nat × Nat)):Obj:=match o with
 | none=>Vp [] 0
 | some x=>Vp [en P "sign" F (.str (mkS [x.1]) x.2)] 1
noncomputable def Ye (P:Params)(Lf:Nat)(c:String)(it acc L cl:Nat)(s:Str)(t wt:Nat)(O:(Nat→Nat)→FOut)(i:Nat)(xs:Array Value)(n F:Nat)(o:Option (Nat × Nat)):FItem where
 c:=.compLoop (wE P) 0 (.ref it) (.ref acc) (wEnv P Lf L cl)
 B:=fun B=>B
 pre:=[(it,itO c (.str s t) i),(acc,Z0 xs n),(L,Ja P F o),(cl,KE (.str whS wt))]
 out:=fun _ _ l=>O l
section
variable{b b2:Bool}{w:World}(hw:Wd b b2 w)(Lf it acc L cl:Nat)(s:Str)(t wt:Nat)
include b b2 w hw Lf it acc L cl s t wt
theorem NM(O:(Nat→Nat)→FOut)(i:Nat)(xs:Array Value)(n F:Nat)(k:Nat)(hk:s.cps[i]?=some k)(h1:Zh whS (mkS [k])=true)(next:∀ F u,OK w (Ye w.params Lf "str_ascii_iterator" it acc L cl s t wt O (i+1) xs n F (some (k,u)))):OK w (Ye w.params Lf "str_ascii_iterator" it acc L cl s t wt O i xs n F none):=by
 refine Z2 hw.w0 _ (fun sz tk ls=>(fun l0=>Ye w.params Lf "str_ascii_iterator" it acc L cl s t wt O (i+1) xs n (tk+1) (some (k,tk))) (ls 0)) (fun _ _ _ _ _ _ _ _=>rfl) (fun _ _ _=>rfl) (fun _ _ _=>rfl) (fun c B p sz tk g he=>?_) (fun sz tk ls=>next _ _)
 obtain rfl:=Zg he
 refine ⟨67,.item [] (ZR "str_ascii_iterator" it s t i k) (fun l0=>.fin [Zc whS (mkS [k]) true]),(dg 9 0x14323001),[0,0,0,0],0,?_,fun ls=>?_⟩
 ·exact ⟨(fun x hx=>(nomatch hx)),Y9 hk,fun l0=>(AllV.all ⟨Z8 h1,trivial⟩)⟩
 ·kernel_rfl
theorem NI(O:(Nat→Nat)→FOut)(i:Nat)(xs:Array Value)(n F:Nat)(k:Nat)(hk:s.cps[i]?=some k)(h1:Zh whS (mkS [k])=false)(h2:(!decide ((mkS [k]).cps.toList<(mkS [8192]).cps.toList))=false)(hs:xs.size<sizeLine)(next:∀ F u v n,OK w (Ye w.params Lf "str_ascii_iterator" it acc L cl s t wt O (i+1) (xs.push (.str (mkS [k]) v)) n F (some (k,u)))):OK w (Ye w.params Lf "str_ascii_iterator" it acc L cl s t wt O i xs n F none):=by
 refine Z2 hw.w0 _ (fun sz tk ls=>(fun l0 l1=>Ye w.params Lf "str_ascii_iterator" it acc L cl s t wt O (i+1) (xs.push (Value.str (mkS [k]) (l1 0))) (n+1) (tk+1) (some (k,tk))) (ls 0) (ls 1)) (fun _ _ _ _ _ _ _ _=>rfl) (fun _ _ _=>rfl) (fun _ _ _=>rfl) (fun c B p sz tk g he=>?_) (fun sz tk ls=>next _ _ _ _)
 obtain rfl:=Zg he
 refine ⟨76,.item [] (ZR "str_ascii_iterator" it s t i k) (fun l0=>.item [Zc whS (mkS [k]) false,ZD (mkS [8192]) (mkS [k]) false] (YO acc xs n (mkS [k])) (fun l1=>.fin [])),(dg 14 0x1031314323001),[1,0,0,0],0,?_,fun ls=>?_⟩
 ·exact ⟨(fun x hx=>(nomatch hx)),Y9 hk,fun l0=>⟨(AllV.all ⟨Z8 h1,Zx h2,trivial⟩),Yo hs,fun l1=>(fun x hx=>(nomatch hx))⟩⟩
 ·cases b <;> kernel_rfl
theorem We(O:(Nat→Nat)→FOut)(i:Nat)(xs:Array Value)(n F:Nat)(k:Nat)(hk:s.cps[i]?=some k)(h1:Zh whS (mkS [k])=false)(h2:(!decide ((mkS [k]).cps.toList<(mkS [8192]).cps.toList))=true)(h3:(!decide ((mkS [8202]).cps.toList<(mkS [k]).cps.toList))=true)(next:∀ F u,OK w (Ye w.params Lf "str_ascii_iterator" it acc L cl s t wt O (i+1) xs n F (some (k,u)))):OK w (Ye w.params Lf "str_ascii_iterator" it acc L cl s t wt O i xs n F none):=by
 refine Z2 hw.w0 _ (fun sz tk ls=>(fun l0=>Ye w.params Lf "str_ascii_iterator" it acc L cl s t wt O (i+1) xs n (tk+1) (some (k,tk))) (ls 0)) (fun _ _ _ _ _ _ _ _=>rfl) (fun _ _ _=>rfl) (fun _ _ _=>rfl) (fun c B p sz tk g he=>?_) (fun sz tk ls=>next _ _)
 obtain rfl:=Zg he
 refine ⟨77,.item [] (ZR "str_ascii_iterator" it s t i k) (fun l0=>.fin [Zc whS (mkS [k]) false,ZD (mkS [8192]) (mkS [k]) true,ZD (mkS [k]) (mkS [8202]) true]),(dg 12 0x11314323001),[0,0,0,0],0,?_,fun ls=>?_⟩
 ·exact ⟨(fun x hx=>(nomatch hx)),Y9 hk,fun l0=>(AllV.all ⟨Z8 h1,Zx h2,Zx h3,trivial⟩)⟩
 ·cases b <;> kernel_rfl
theorem NQ(O:(Nat→Nat)→FOut)(i:Nat)(xs:Array Value)(n F:Nat)(k:Nat)(hk:s.cps[i]?=some k)(h1:Zh whS (mkS [k])=false)(h2:(!decide ((mkS [k]).cps.toList<(mkS [8192]).cps.toList))=true)(h3:(!decide ((mkS [8202]).cps.toList<(mkS [k]).cps.toList))=false)(hs:xs.size<sizeLine)(next:∀ F u v n,OK w (Ye w.params Lf "str_ascii_iterator" it acc L cl s t wt O (i+1) (xs.push (.str (mkS [k]) v)) n F (some (k,u)))):OK w (Ye w.params Lf "str_ascii_iterator" it acc L cl s t wt O i xs n F none):=by
 refine Z2 hw.w0 _ (fun sz tk ls=>(fun l0 l1=>Ye w.params Lf "str_ascii_iterator" it acc L cl s t wt O (i+1) (xs.push (Value.str (mkS [k]) (l1 0))) (n+1) (tk+1) (some (k,tk))) (ls 0) (ls 1)) (fun _ _ _ _ _ _ _ _=>rfl) (fun _ _ _=>rfl) (fun _ _ _=>rfl) (fun c B p sz tk g he=>?_) (fun sz tk ls=>next _ _ _ _)
 obtain rfl:=Zg he
 refine ⟨80,.item [] (ZR "str_ascii_iterator" it s t i k) (fun l0=>.item [Zc whS (mkS [k]) false,ZD (mkS [8192]) (mkS [k]) true,ZD (mkS [k]) (mkS [8202]) false] (YO acc xs n (mkS [k])) (fun l1=>.fin [])),(dg 15 0x10311314323001),[1,0,0,0],0,?_,fun ls=>?_⟩
 ·exact ⟨(fun x hx=>(nomatch hx)),Y9 hk,fun l0=>⟨(AllV.all ⟨Z8 h1,Zx h2,Zx h3,trivial⟩),Yo hs,fun l1=>(fun x hx=>(nomatch hx))⟩⟩
 ·cases b <;> kernel_rfl
theorem Wi(i:Nat)(xs:Array Value)(n F:Nat)(hk:s.length≤i):OK w (Ye w.params Lf "str_ascii_iterator" it acc L cl s t wt (fun l=>⟨.ok .next,[(acc,Z0 xs n),(L,Ja w.params F none),(cl,KE (.str whS wt))],l 0,l 1,id,[]⟩) i xs n F none):=by
 refine Z1 hw.w0 _ fun c B p sz tk g he=>?_
 obtain rfl:=Zg he
 refine ⟨55,.item [] (K2 "str_ascii_iterator" it s t i) (fun l0=>.fin []),[1,0,0,1],[3,3,3],0,fun ls=>(fun l0=>fl [sz+2,tk]) (ls 0),?_,fun ls=>?_⟩
 ·exact ⟨(fun x hx=>(nomatch hx)),Va hk,fun l0=>(fun x hx=>(nomatch hx))⟩
 ·kernel_rfl
theorem NL(O:(Nat→Nat)→FOut)(i:Nat)(xs:Array Value)(n F:Nat)(k0 u0:Nat)(k:Nat)(hk:s.cps[i]?=some k)(h1:Zh whS (mkS [k])=true)(next:∀ F u,OK w (Ye w.params Lf "str_ascii_iterator" it acc L cl s t wt O (i+1) xs n F (some (k,u)))):OK w (Ye w.params Lf "str_ascii_iterator" it acc L cl s t wt O i xs n F (some (k0,u0))):=by
 refine Z2 hw.w0 _ (fun sz tk ls=>(fun l0=>Ye w.params Lf "str_ascii_iterator" it acc L cl s t wt O (i+1) xs n F (some (k,tk))) (ls 0)) (fun _ _ _ _ _ _ _ _=>rfl) (fun _ _ _=>rfl) (fun _ _ _=>rfl) (fun c B p sz tk g he=>?_) (fun sz tk ls=>next _ _)
 obtain rfl:=Zg he
 refine ⟨67,.item [] (ZR "str_ascii_iterator" it s t i k) (fun l0=>.fin [Zc whS (mkS [k]) true]),(dg 9 0x14323001),[0,0,0,0],0,?_,fun ls=>?_⟩
 ·exact ⟨(fun x hx=>(nomatch hx)),Y9 hk,fun l0=>(AllV.all ⟨Z8 h1,trivial⟩)⟩
 ·kernel_rfl
theorem NH(O:(Nat→Nat)→FOut)(i:Nat)(xs:Array Value)(n F:Nat)(k0 u0:Nat)(k:Nat)(hk:s.cps[i]?=some k)(h1:Zh whS (mkS [k])=false)(h2:(!decide ((mkS [k]).cps.toList<(mkS [8192]).cps.toList))=false)(hs:xs.size<sizeLine)(next:∀ F u v n,OK w (Ye w.params Lf "str_ascii_iterator" it acc L cl s t wt O (i+1) (xs.push (.str (mkS [k]) v)) n F (some (k,u)))):OK w (Ye w.params Lf "str_ascii_iterator" it acc L cl s t wt O i xs n F (some (k0,u0))):=by
 refine Z2 hw.w0 _ (fun sz tk ls=>(fun l0 l1=>Ye w.params Lf "str_ascii_iterator" it acc L cl s t wt O (i+1) (xs.push (Value.str (mkS [k]) (l1 0))) (n+1) F (some (k,tk))) (ls 0) (ls 1)) (fun _ _ _ _ _ _ _ _=>rfl) (fun _ _ _=>rfl) (fun _ _ _=>rfl) (fun c B p sz tk g he=>?_) (fun sz tk ls=>next _ _ _ _)
 obtain rfl:=Zg he
 refine ⟨76,.item [] (ZR "str_ascii_iterator" it s t i k) (fun l0=>.item [Zc whS (mkS [k]) false,ZD (mkS [8192]) (mkS [k]) false] (YO acc xs n (mkS [k])) (fun l1=>.fin [])),(dg 14 0x1031314323001),[1,0,0,0],0,?_,fun ls=>?_⟩
 ·exact ⟨(fun x hx=>(nomatch hx)),Y9 hk,fun l0=>⟨(AllV.all ⟨Z8 h1,Zx h2,trivial⟩),Yo hs,fun l1=>(fun x hx=>(nomatch hx))⟩⟩
 ·cases b <;> kernel_rfl
theorem Wc(O:(Nat→Nat)→FOut)(i:Nat)(xs:Array Value)(n F:Nat)(k0 u0:Nat)(k:Nat)(hk:s.cps[i]?=some k)(h1:Zh whS (mkS [k])=false)(h2:(!decide ((mkS [k]).cps.toList<(mkS [8192]).cps.toList))=true)(h3:(!decide ((mkS [8202]).cps.toList<(mkS [k]).cps.toList))=true)(next:∀ F u,OK w (Ye w.params Lf "str_ascii_iterator" it acc L cl s t wt O (i+1) xs n F (some (k,u)))):OK w (Ye w.params Lf "str_ascii_iterator" it acc L cl s t wt O i xs n F (some (k0,u0))):=by
 refine Z2 hw.w0 _ (fun sz tk ls=>(fun l0=>Ye w.params Lf "str_ascii_iterator" it acc L cl s t wt O (i+1) xs n F (some (k,tk))) (ls 0)) (fun _ _ _ _ _ _ _ _=>rfl) (fun _ _ _=>rfl) (fun _ _ _=>rfl) (fun c B p sz tk g he=>?_) (fun sz tk ls=>next _ _)
 obtain rfl:=Zg he
 refine ⟨77,.item [] (ZR "str_ascii_iterator" it s t i k) (fun l0=>.fin [Zc whS (mkS [k]) false,ZD (mkS [8192]) (mkS [k]) true,ZD (mkS [k]) (mkS [8202]) true]),(dg 12 0x11314323001),[0,0,0,0],0,?_,fun ls=>?_⟩
 ·exact ⟨(fun x hx=>(nomatch hx)),Y9 hk,fun l0=>(AllV.all ⟨Z8 h1,Zx h2,Zx h3,trivial⟩)⟩
 ·cases b <;> kernel_rfl
theorem NP(O:(Nat→Nat)→FOut)(i:Nat)(xs:Array Value)(n F:Nat)(k0 u0:Nat)(k:Nat)(hk:s.cps[i]?=some k)(h1:Zh whS (mkS [k])=false)(h2:(!decide ((mkS [k]).cps.toList<(mkS [8192]).cps.toList))=true)(h3:(!decide ((mkS [8202]).cps.toList<(mkS [k]).cps.toList))=false)(hs:xs.size<sizeLine)(next:∀ F u v n,OK w (Ye w.params Lf "str_ascii_iterator" it acc L cl s t wt O (i+1) (xs.push (.str (mkS [k]) v)) n F (some (k,u)))):OK w (Ye w.params Lf "str_ascii_iterator" it acc L cl s t wt O i xs n F (some (k0,u0))):=by
 refine Z2 hw.w0 _ (fun sz tk ls=>(fun l0 l1=>Ye w.params Lf "str_ascii_iterator" it acc L cl s t wt O (i+1) (xs.push (Value.str (mkS [k]) (l1 0))) (n+1) F (some (k,tk))) (ls 0) (ls 1)) (fun _ _ _ _ _ _ _ _=>rfl) (fun _ _ _=>rfl) (fun _ _ _=>rfl) (fun c B p sz tk g he=>?_) (fun sz tk ls=>next _ _ _ _)
 obtain rfl:=Zg he
 refine ⟨80,.item [] (ZR "str_ascii_iterator" it s t i k) (fun l0=>.item [Zc whS (mkS [k]) false,ZD (mkS [8192]) (mkS [k]) true,ZD (mkS [k]) (mkS [8202]) false] (YO acc xs n (mkS [k])) (fun l1=>.fin [])),(dg 15 0x10311314323001),[1,0,0,0],0,?_,fun ls=>?_⟩
 ·exact ⟨(fun x hx=>(nomatch hx)),Y9 hk,fun l0=>⟨(AllV.all ⟨Z8 h1,Zx h2,Zx h3,trivial⟩),Yo hs,fun l1=>(fun x hx=>(nomatch hx))⟩⟩
 ·cases b <;> kernel_rfl
theorem Wh(i:Nat)(xs:Array Value)(n F:Nat)(k0 u0:Nat)(hk:s.length≤i):OK w (Ye w.params Lf "str_ascii_iterator" it acc L cl s t wt (fun l=>⟨.ok .next,[(acc,Z0 xs n),(L,Ja w.params F (some (k0,u0))),(cl,KE (.str whS wt))],l 0,l 1,id,[]⟩) i xs n F (some (k0,u0))):=by
 refine Z1 hw.w0 _ fun c B p sz tk g he=>?_
 obtain rfl:=Zg he
 refine ⟨55,.item [] (K2 "str_ascii_iterator" it s t i) (fun l0=>.fin []),[1,0,0,1],[3,3,3],0,fun ls=>(fun l0=>fl [sz+2,tk]) (ls 0),?_,fun ls=>?_⟩
 ·exact ⟨(fun x hx=>(nomatch hx)),Va hk,fun l0=>(fun x hx=>(nomatch hx))⟩
 ·kernel_rfl
theorem NK(O:(Nat→Nat)→FOut)(i:Nat)(xs:Array Value)(n F:Nat)(k:Nat)(hk:s.cps[i]?=some k)(h1:Zh whS (mkS [k])=true)(next:∀ F u,OK w (Ye w.params Lf "str_iterator" it acc L cl s t wt O (i+1) xs n F (some (k,u)))):OK w (Ye w.params Lf "str_iterator" it acc L cl s t wt O i xs n F none):=by
 refine Z2 hw.w0 _ (fun sz tk ls=>(fun l0=>Ye w.params Lf "str_iterator" it acc L cl s t wt O (i+1) xs n (tk+1) (some (k,tk))) (ls 0)) (fun _ _ _ _ _ _ _ _=>rfl) (fun _ _ _=>rfl) (fun _ _ _=>rfl) (fun c B p sz tk g he=>?_) (fun sz tk ls=>next _ _)
 obtain rfl:=Zg he
 refine ⟨67,.item [] (ZR "str_iterator" it s t i k) (fun l0=>.fin [Zc whS (mkS [k]) true]),(dg 9 0x14323001),[0,0,0,0],0,?_,fun ls=>?_⟩
 ·exact ⟨(fun x hx=>(nomatch hx)),Y8 hk,fun l0=>(AllV.all ⟨Z8 h1,trivial⟩)⟩
 ·kernel_rfl
theorem NG(O:(Nat→Nat)→FOut)(i:Nat)(xs:Array Value)(n F:Nat)(k:Nat)(hk:s.cps[i]?=some k)(h1:Zh whS (mkS [k])=false)(h2:(!decide ((mkS [k]).cps.toList<(mkS [8192]).cps.toList))=false)(hs:xs.size<sizeLine)(next:∀ F u v n,OK w (Ye w.params Lf "str_iterator" it acc L cl s t wt O (i+1) (xs.push (.str (mkS [k]) v)) n F (some (k,u)))):OK w (Ye w.params Lf "str_iterator" it acc L cl s t wt O i xs n F none):=by
 refine Z2 hw.w0 _ (fun sz tk ls=>(fun l0 l1=>Ye w.params Lf "str_iterator" it acc L cl s t wt O (i+1) (xs.push (Value.str (mkS [k]) (l1 0))) (n+1) (tk+1) (some (k,tk))) (ls 0) (ls 1)) (fun _ _ _ _ _ _ _ _=>rfl) (fun _ _ _=>rfl) (fun _ _ _=>rfl) (fun c B p sz tk g he=>?_) (fun sz tk ls=>next _ _ _ _)
 obtain rfl:=Zg he
 refine ⟨76,.item [] (ZR "str_iterator" it s t i k) (fun l0=>.item [Zc whS (mkS [k]) false,ZD (mkS [8192]) (mkS [k]) false] (YO acc xs n (mkS [k])) (fun l1=>.fin [])),(dg 14 0x1031314323001),[1,0,0,0],0,?_,fun ls=>?_⟩
 ·exact ⟨(fun x hx=>(nomatch hx)),Y8 hk,fun l0=>⟨(AllV.all ⟨Z8 h1,Zx h2,trivial⟩),Yo hs,fun l1=>(fun x hx=>(nomatch hx))⟩⟩
 ·cases b <;> kernel_rfl
theorem Wb(O:(Nat→Nat)→FOut)(i:Nat)(xs:Array Value)(n F:Nat)(k:Nat)(hk:s.cps[i]?=some k)(h1:Zh whS (mkS [k])=false)(h2:(!decide ((mkS [k]).cps.toList<(mkS [8192]).cps.toList))=true)(h3:(!decide ((mkS [8202]).cps.toList<(mkS [k]).cps.toList))=true)(next:∀ F u,OK w (Ye w.params Lf "str_iterator" it acc L cl s t wt O (i+1) xs n F (some (k,u)))):OK w (Ye w.params Lf "str_iterator" it acc L cl s t wt O i xs n F none):=by
 refine Z2 hw.w0 _ (fun sz tk ls=>(fun l0=>Ye w.params Lf "str_iterator" it acc L cl s t wt O (i+1) xs n (tk+1) (some (k,tk))) (ls 0)) (fun _ _ _ _ _ _ _ _=>rfl) (fun _ _ _=>rfl) (fun _ _ _=>rfl) (fun c B p sz tk g he=>?_) (fun sz tk ls=>next _ _)
 obtain rfl:=Zg he
 refine ⟨77,.item [] (ZR "str_iterator" it s t i k) (fun l0=>.fin [Zc whS (mkS [k]) false,ZD (mkS [8192]) (mkS [k]) true,ZD (mkS [k]) (mkS [8202]) true]),(dg 12 0x11314323001),[0,0,0,0],0,?_,fun ls=>?_⟩
 ·exact ⟨(fun x hx=>(nomatch hx)),Y8 hk,fun l0=>(AllV.all ⟨Z8 h1,Zx h2,Zx h3,trivial⟩)⟩
 ·cases b <;> kernel_rfl
theorem NO(O:(Nat→Nat)→FOut)(i:Nat)(xs:Array Value)(n F:Nat)(k:Nat)(hk:s.cps[i]?=some k)(h1:Zh whS (mkS [k])=false)(h2:(!decide ((mkS [k]).cps.toList<(mkS [8192]).cps.toList))=true)(h3:(!decide ((mkS [8202]).cps.toList<(mkS [k]).cps.toList))=false)(hs:xs.size<sizeLine)(next:∀ F u v n,OK w (Ye w.params Lf "str_iterator" it acc L cl s t wt O (i+1) (xs.push (.str (mkS [k]) v)) n F (some (k,u)))):OK w (Ye w.params Lf "str_iterator" it acc L cl s t wt O i xs n F none):=by
 refine Z2 hw.w0 _ (fun sz tk ls=>(fun l0 l1=>Ye w.params Lf "str_iterator" it acc L cl s t wt O (i+1) (xs.push (Value.str (mkS [k]) (l1 0))) (n+1) (tk+1) (some (k,tk))) (ls 0) (ls 1)) (fun _ _ _ _ _ _ _ _=>rfl) (fun _ _ _=>rfl) (fun _ _ _=>rfl) (fun c B p sz tk g he=>?_) (fun sz tk ls=>next _ _ _ _)
 obtain rfl:=Zg he
 refine ⟨80,.item [] (ZR "str_iterator" it s t i k) (fun l0=>.item [Zc whS (mkS [k]) false,ZD (mkS [8192]) (mkS [k]) true,ZD (mkS [k]) (mkS [8202]) false] (YO acc xs n (mkS [k])) (fun l1=>.fin [])),(dg 15 0x10311314323001),[1,0,0,0],0,?_,fun ls=>?_⟩
 ·exact ⟨(fun x hx=>(nomatch hx)),Y8 hk,fun l0=>⟨(AllV.all ⟨Z8 h1,Zx h2,Zx h3,trivial⟩),Yo hs,fun l1=>(fun x hx=>(nomatch hx))⟩⟩
 ·cases b <;> kernel_rfl
theorem Wg(i:Nat)(xs:Array Value)(n F:Nat)(hk:s.length≤i):OK w (Ye w.params Lf "str_iterator" it acc L cl s t wt (fun l=>⟨.ok .next,[(acc,Z0 xs n),(L,Ja w.params F none),(cl,KE (.str whS wt))],l 0,l 1,id,[]⟩) i xs n F none):=by
 refine Z1 hw.w0 _ fun c B p sz tk g he=>?_
 obtain rfl:=Zg he
 refine ⟨55,.item [] (K2 "str_iterator" it s t i) (fun l0=>.fin []),[1,0,0,1],[3,3,3],0,fun ls=>(fun l0=>fl [sz+2,tk]) (ls 0),?_,fun ls=>?_⟩
 ·exact ⟨(fun x hx=>(nomatch hx)),V9 hk,fun l0=>(fun x hx=>(nomatch hx))⟩
 ·kernel_rfl
theorem NJ(O:(Nat→Nat)→FOut)(i:Nat)(xs:Array Value)(n F:Nat)(k0 u0:Nat)(k:Nat)(hk:s.cps[i]?=some k)(h1:Zh whS (mkS [k])=true)(next:∀ F u,OK w (Ye w.params Lf "str_iterator" it acc L cl s t wt O (i+1) xs n F (some (k,u)))):OK w (Ye w.params Lf "str_iterator" it acc L cl s t wt O i xs n F (some (k0,u0))):=by
 refine Z2 hw.w0 _ (fun sz tk ls=>(fun l0=>Ye w.params Lf "str_iterator" it acc L cl s t wt O (i+1) xs n F (some (k,tk))) (ls 0)) (fun _ _ _ _ _ _ _ _=>rfl) (fun _ _ _=>rfl) (fun _ _ _=>rfl) (fun c B p sz tk g he=>?_) (fun sz tk ls=>next _ _)
 obtain rfl:=Zg he
 refine ⟨67,.item [] (ZR "str_iterator" it s t i k) (fun l0=>.fin [Zc whS (mkS [k]) true]),(dg 9 0x14323001),[0,0,0,0],0,?_,fun ls=>?_⟩
 ·exact ⟨(fun x hx=>(nomatch hx)),Y8 hk,fun l0=>(AllV.all ⟨Z8 h1,trivial⟩)⟩
 ·kernel_rfl
theorem NF(O:(Nat→Nat)→FOut)(i:Nat)(xs:Array Value)(n F:Nat)(k0 u0:Nat)(k:Nat)(hk:s.cps[i]?=some k)(h1:Zh whS (mkS [k])=false)(h2:(!decide ((mkS [k]).cps.toList<(mkS [8192]).cps.toList))=false)(hs:xs.size<sizeLine)(next:∀ F u v n,OK w (Ye w.params Lf "str_iterator" it acc L cl s t wt O (i+1) (xs.push (.str (mkS [k]) v)) n F (some (k,u)))):OK w (Ye w.params Lf "str_iterator" it acc L cl s t wt O i xs n F (some (k0,u0))):=by
 refine Z2 hw.w0 _ (fun sz tk ls=>(fun l0 l1=>Ye w.params Lf "str_iterator" it acc L cl s t wt O (i+1) (xs.push (Value.str (mkS [k]) (l1 0))) (n+1) F (some (k,tk))) (ls 0) (ls 1)) (fun _ _ _ _ _ _ _ _=>rfl) (fun _ _ _=>rfl) (fun _ _ _=>rfl) (fun c B p sz tk g he=>?_) (fun sz tk ls=>next _ _ _ _)
 obtain rfl:=Zg he
 refine ⟨76,.item [] (ZR "str_iterator" it s t i k) (fun l0=>.item [Zc whS (mkS [k]) false,ZD (mkS [8192]) (mkS [k]) false] (YO acc xs n (mkS [k])) (fun l1=>.fin [])),(dg 14 0x1031314323001),[1,0,0,0],0,?_,fun ls=>?_⟩
 ·exact ⟨(fun x hx=>(nomatch hx)),Y8 hk,fun l0=>⟨(AllV.all ⟨Z8 h1,Zx h2,trivial⟩),Yo hs,fun l1=>(fun x hx=>(nomatch hx))⟩⟩
 ·cases b <;> kernel_rfl
theorem Wa(O:(Nat→Nat)→FOut)(i:Nat)(xs:Array Value)(n F:Nat)(k0 u0:Nat)(k:Nat)(hk:s.cps[i]?=some k)(h1:Zh whS (mkS [k])=false)(h2:(!decide ((mkS [k]).cps.toList<(mkS [8192]).cps.toList))=true)(h3:(!decide ((mkS [8202]).cps.toList<(mkS [k]).cps.toList))=true)(next:∀ F u,OK w (Ye w.params Lf "str_iterator" it acc L cl s t wt O (i+1) xs n F (some (k,u)))):OK w (Ye w.params Lf "str_iterator" it acc L cl s t wt O i xs n F (some (k0,u0))):=by
 refine Z2 hw.w0 _ (fun sz tk ls=>(fun l0=>Ye w.params Lf "str_iterator" it acc L cl s t wt O (i+1) xs n F (some (k,tk))) (ls 0)) (fun _ _ _ _ _ _ _ _=>rfl) (fun _ _ _=>rfl) (fun _ _ _=>rfl) (fun c B p sz tk g he=>?_) (fun sz tk ls=>next _ _)
 obtain rfl:=Zg he
 refine ⟨77,.item [] (ZR "str_iterator" it s t i k) (fun l0=>.fin [Zc whS (mkS [k]) false,ZD (mkS [8192]) (mkS [k]) true,ZD (mkS [k]) (mkS [8202]) true]),(dg 12 0x11314323001),[0,0,0,0],0,?_,fun ls=>?_⟩
 ·exact ⟨(fun x hx=>(nomatch hx)),Y8 hk,fun l0=>(AllV.all ⟨Z8 h1,Zx h2,Zx h3,trivial⟩)⟩
 ·cases b <;> kernel_rfl
theorem NN(O:(Nat→Nat)→FOut)(i:Nat)(xs:Array Value)(n F:Nat)(k0 u0:Nat)(k:Nat)(hk:s.cps[i]?=some k)(h1:Zh whS (mkS [k])=false)(h2:(!decide ((mkS [k]).cps.toList<(mkS [8192]).cps.toList))=true)(h3:(!decide ((mkS [8202]).cps.toList<(mkS [k]).cps.toList))=false)(hs:xs.size<sizeLine)(next:∀ F u v n,OK w (Ye w.params Lf "str_iterator" it acc L cl s t wt O (i+1) (xs.push (.str (mkS [k]) v)) n F (some (k,u)))):OK w (Ye w.params Lf "str_iterator" it acc L cl s t wt O i xs n F (some (k0,u0))):=by
 refine Z2 hw.w0 _ (fun sz tk ls=>(fun l0 l1=>Ye w.params Lf "str_iterator" it acc L cl s t wt O (i+1) (xs.push (Value.str (mkS [k]) (l1 0))) (n+1) F (some (k,tk))) (ls 0) (ls 1)) (fun _ _ _ _ _ _ _ _=>rfl) (fun _ _ _=>rfl) (fun _ _ _=>rfl) (fun c B p sz tk g he=>?_) (fun sz tk ls=>next _ _ _ _)
 obtain rfl:=Zg he
 refine ⟨80,.item [] (ZR "str_iterator" it s t i k) (fun l0=>.item [Zc whS (mkS [k]) false,ZD (mkS [8192]) (mkS [k]) true,ZD (mkS [k]) (mkS [8202]) false] (YO acc xs n (mkS [k])) (fun l1=>.fin [])),(dg 15 0x10311314323001),[1,0,0,0],0,?_,fun ls=>?_⟩
 ·exact ⟨(fun x hx=>(nomatch hx)),Y8 hk,fun l0=>⟨(AllV.all ⟨Z8 h1,Zx h2,Zx h3,trivial⟩),Yo hs,fun l1=>(fun x hx=>(nomatch hx))⟩⟩
 ·cases b <;> kernel_rfl
theorem Wf(i:Nat)(xs:Array Value)(n F:Nat)(k0 u0:Nat)(hk:s.length≤i):OK w (Ye w.params Lf "str_iterator" it acc L cl s t wt (fun l=>⟨.ok .next,[(acc,Z0 xs n),(L,Ja w.params F (some (k0,u0))),(cl,KE (.str whS wt))],l 0,l 1,id,[]⟩) i xs n F (some (k0,u0))):=by
 refine Z1 hw.w0 _ fun c B p sz tk g he=>?_
 obtain rfl:=Zg he
 refine ⟨55,.item [] (K2 "str_iterator" it s t i) (fun l0=>.fin []),[1,0,0,1],[3,3,3],0,fun ls=>(fun l0=>fl [sz+2,tk]) (ls 0),?_,fun ls=>?_⟩
 ·exact ⟨(fun x hx=>(nomatch hx)),V9 hk,fun l0=>(fun x hx=>(nomatch hx))⟩
 ·kernel_rfl
end
end
end
section
open PySem PySem.Builtin PySem.Builtin.Re PySem.W
theorem JX:entryFor table "re.Pattern.search"=some Builtin.«re.Pattern.search»:=entryFor_of_fast (by kernel_rfl)
theorem plain_srch:plainId "re.Pattern.search"=true:=by decide +kernel
noncomputable def Zr:Array Nat:=#[14,17,4,1,1,21,9,0,604043296,1,0,0,0,0,0,8,4,0,13,14,21,9,0,604043296,1,0,0,0,0,0,8,4,0,1]
noncomputable def bare (c:Nat):Bool:=(c<256&&(Zr.getD (6+(1+c / 32)) 0).testBit (c%32))||Sre.isWord c
theorem inSet1(c:Nat)(seen:Sre.Seen):∃ sn,Sre.inSet Zr c Zr.size 5 true seen=.ok (!bare c,sn):=by
 unfold bare
 have hc:Sre.category 4 c=.ok (Sre.isWord c):=by
  show (Except.ok (Sre.isWord c)).map (· != (4%2==1))=_
  cases Sre.isWord c <;> rfl
 show ∃ sn,Sre.inSet Zr c 34 5 true seen=_
 show ∃ sn,Sre.inSet Zr c 33 6 false _=_
 show ∃ sn,(if (c<256&&(Zr.getD (6+(1+c / 32)) 0).testBit (c%32))=true then _ else Sre.inSet Zr c 32 15 false _)=_
 cases h:(c<256&&(Zr.getD (6+(1+c / 32)) 0).testBit (c%32))
 ·rw[if_neg (by simp)]
  show ∃ sn,(Sre.category 4 c >>= fun y=>if y=true then pure (false,_) else Sre.inSet Zr c 31 17 false _)=_
  rw[hc]
  cases hw:Sre.isWord c
  ·exact ⟨_,rfl⟩
  ·exact ⟨_,rfl⟩
 ·exact ⟨_,rfl⟩
theorem inSet2(c:Nat)(seen:Sre.Seen):∃ sn,Sre.inSet Zr c Zr.size 20 true seen=.ok (!bare c,sn):=by
 unfold bare
 have hc:Sre.category 4 c=.ok (Sre.isWord c):=by
  show (Except.ok (Sre.isWord c)).map (· != (4%2==1))=_
  cases Sre.isWord c <;> rfl
 have he:(Zr.getD (6+(1+c / 32)) 0).testBit (c%32)=(if c<256 then (Zr.getD (21+(1+c / 32)) 0).testBit (c%32) else (Zr.getD (6+(1+c / 32)) 0).testBit (c%32)):=by
  by_cases h:c<256
  ·rw[if_pos h]
   have:∀ k,k<8→Zr.getD (6+(1+k)) 0=Zr.getD (21+(1+k)) 0:=by decide
   rw[this (c / 32) (by omega)]
  ·rw[if_neg h]
 have he2:(decide (c<256)&&(Zr.getD (6+(1+c / 32)) 0).testBit (c%32))=(decide (c<256)&&(Zr.getD (21+(1+c / 32)) 0).testBit (c%32)):=by
  rw[he]
  by_cases h:c<256
  ·rw[if_pos h]
  ·rw[if_neg h,decide_eq_false h];rfl
 rw[he2]
 show ∃ sn,Sre.inSet Zr c 34 20 true seen=_
 show ∃ sn,Sre.inSet Zr c 33 21 false _=_
 show ∃ sn,(if (c<256&&(Zr.getD (21+(1+c / 32)) 0).testBit (c%32))=true then _ else Sre.inSet Zr c 32 30 false _)=_
 cases h:(c<256&&(Zr.getD (21+(1+c / 32)) 0).testBit (c%32))
 ·rw[if_neg (by simp)]
  show ∃ sn,(Sre.category 4 c >>= fun y=>if y=true then pure (false,_) else Sre.inSet Zr c 31 32 false _)=_
  rw[hc]
  cases hw:Sre.isWord c
  ·exact ⟨_,rfl⟩
  ·exact ⟨_,rfl⟩
 ·exact ⟨_,rfl⟩
noncomputable def ZV (text:Array Nat)(lim:Nat):Nat→Nat→Option Nat
 | 0,_=>none
 | fuel+1,s=>if s≥lim then none else if bare (text.getD s 0) then ZV text lim fuel (s+1) else some s
theorem adm(m:Sre.M)(hc:m.code=Zr):∀(fuel s:Nat)(seen:Sre.Seen),∃ sn,m.admitted fuel s seen=.ok (ZV m.text m.lim fuel s,sn):=by
 intro fuel
 induction fuel with
 | zero=>exact fun s seen=>⟨seen,rfl⟩
 | succ fuel ih =>
  intro s seen
  unfold Sre.M.admitted ZV
  by_cases h:s≥m.lim
  ·rw[if_pos h,if_pos h];exact ⟨seen,rfl⟩
  ·rw[if_neg h,if_neg h,hc]
   obtain ⟨sn,e⟩:=inSet1 (m.text.getD s 0) seen
   rw[e]
   cases hb:bare (m.text.getD s 0) with
   | true =>
    obtain ⟨sn2,e2⟩:=ih (s+1) sn
    exact ⟨sn2,e2⟩
   | false=>exact ⟨sn,rfl⟩
theorem Js(text:Array Nat)(lim:Nat):∀(fuel s j:Nat),ZV text lim fuel s=some j→s≤j∧j<lim∧bare (text.getD j 0)=false:=by
 intro fuel
 induction fuel with
 | zero=>intro s j h;cases h
 | succ fuel ih =>
  intro s j h
  unfold ZV at h
  by_cases hs:s≥lim
  ·rw[if_pos hs] at h;cases h
  ·rw[if_neg hs] at h
   cases hb:bare (text.getD s 0) with
   | true =>
    rw[hb] at h
    obtain ⟨h1,h2,h3⟩:=ih (s+1) j h
    exact ⟨by omega,h2,h3⟩
   | false =>
    rw[hb] at h
    cases h
    exact ⟨Nat.le_refl _,by omega,hb⟩
theorem Z1y(text:Array Nat)(hn:0<text.size):∃ m:Sre.M,m.code=Zr∧m.text=text∧m.lim=text.size∧m.frames=[]∧m.outcome=none∧m.weight=0∧m.pc=18∧m.wholeText=false∧m.answer=none∧m.mustAdvance=false∧Sre.forSearch Zr text 0 0 text.size false=m.attemptFrom 0 true:=by
 unfold Sre.forSearch
 refine ⟨_,?_,?_,?_,?_,?_,?_,?_,?_,?_,?_,if_neg (by
  show ¬((decide (0>text.size)||decide (text.size-0<1))=true)
  rw[decide_eq_false (by omega),decide_eq_false (by omega)]
  simp)⟩ <;> rfl
theorem Z2W(m:Sre.M)(hc:m.code=Zr)(ha:m.answer=none)(ho:m.outcome=none)(hf:m.frames=[])(h:ZV m.text m.lim (m.lim+1) 0=none):((m.attemptFrom 0 true).runFor 4).outcome=some .failed:=by
 unfold Sre.M.attemptFrom
 have h1:m.hasFirstSet=true:=by unfold Sre.M.hasFirstSet;rw[hc];rfl
 obtain ⟨sn,e⟩:=adm m hc (m.lim+1-0) 0 m.seen
 rw[Nat.sub_zero,h] at e
 rw[h1,if_neg (by simp),Nat.sub_zero,e]
 obtain ⟨a1,a2,a3,a4,a5,a6,a7,a8,a9,a10,a11,a12,a13,a14,a15,a16,a17,a18,a19,a20,a21⟩:=m
 dsimp only at hc ha ho hf
 subst hf ho
 rfl
theorem Z2B (m:Sre.M)(hc:m.code=Zr)(hp:m.pc=18)(h:m.pos<m.lim)(hb:bare (m.text.getD m.pos 0)=false):∃ sn,m.exec={ m with seen:=sn,pc:=33,pos:=m.pos+1 }:=by
 unfold Sre.M.exec
 have hw:Sre.ops[m.word 0]?=some .IN:=by unfold Sre.M.word;rw[hc,hp];rfl
 obtain ⟨sn,e⟩:=inSet2 (m.text.getD m.pos 0) (m.seen.add (m.word 0))
 have ea:Sre.accepts m.code m.pc (m.text.getD m.pos 0) (m.seen.add (m.word 0))=.ok (true,sn):=by
  rw[hc,hp]
  show Sre.inSet Zr (m.text.getD m.pos 0) Zr.size 20 true _=_
  rw[e,hb]
  rfl
 rw[hw]
 dsimp only
 rw[if_neg (Nat.not_le.mpr h)]
 rw[ea]
 dsimp only
 refine ⟨sn,?_⟩
 have hi:m.pc+Sre.itemWidth m.code m.pc=33:=by rw[hc,hp];rfl
 rw[hi]
theorem Z03(m:Sre.M)(n:Nat)(ho:m.outcome=none)(ha:m.answer=none)(hp:m.pc<m.code.size):m.runFor (n+1)=m.exec.runFor n:=by
 show (if m.outcome.isSome=true then m else Sre.M.runFor n m.step)=_
 rw[ho,if_neg (by simp)]
 have:m.step=m.exec:=by
  unfold Sre.M.step
  rw[ho,if_neg (by simp),ha]
  dsimp only
  rw[if_pos hp]
 rw[this]
theorem Z2V(m:Sre.M)(hc:m.code=Zr)(ha:m.answer=none)(ho:m.outcome=none)(hf:m.frames=[])(hw:m.weight=0)(hp:m.pc=18)(ht:m.wholeText=false){j:Nat}(h:ZV m.text m.lim (m.lim+1) 0=some j):∃ m1:Sre.M,(m.attemptFrom 0 true).runFor 4=m1∧m1.outcome=some .matched:=by
 obtain ⟨_,hj,hb⟩:=Js _ _ _ _ _ h
 unfold Sre.M.attemptFrom
 have h1:m.hasFirstSet=true:=by unfold Sre.M.hasFirstSet;rw[hc];rfl
 obtain ⟨sn,e⟩:=adm m hc (m.lim+1-0) 0 m.seen
 rw[Nat.sub_zero,h] at e
 rw[h1,if_neg (by simp),Nat.sub_zero,e]
 obtain ⟨a1,a2,a3,a4,a5,a6,a7,a8,a9,a10,a11,a12,a13,a14,a15,a16,a17,a18,a19,a20,a21⟩:=m
 dsimp only at hc ha ho hf hw hp ht hj hb
 subst hf ho hw hp ht hc ha
 refine ⟨_,rfl,?_⟩
 dsimp only[Sre.M.attemptAt,Sre.M.attempt]
 rw[if_neg (by decide)]
 obtain ⟨sn2,e2⟩:=Z2B ⟨Zr,a2,a3,j,a5,false,false,18,j,j,true,a12,-1,-1,a15,a16,[{ wait:=Sre.Wait.nextStart,pc:=18,pos:=j,outermost:=true }],0+1+(#[]:Array (Option Nat)).size,none,sn,none⟩ rfl rfl hj hb
 rw[Z03 _ 3 rfl rfl (by show 18<34;decide),e2]
 rfl
theorem NY(text:Array Nat)(hn:0<text.size):((Sre.forSearch Zr text 0 0 text.size false).runFor 4).outcome=some (match ZV text text.size (text.size+1) 0 with | none=>.failed | some _=>.matched):=by
 obtain ⟨m,h1,h2,h3,h4,h5,h6,h7,h8,h9,h10,e⟩:=Z1y text hn
 rw[e]
 cases hf:ZV text text.size (text.size+1) 0 with
 | none=>exact Z2W m h1 h9 h5 h4 (by rw[h2,h3];exact hf)
 | some j =>
  obtain ⟨m1,e1,e2⟩:=Z2V m h1 h9 h5 h4 h6 h7 h8 (j:=j) (by rw[h2,h3];exact hf)
  rw[e1];exact e2
noncomputable def patO:Obj:=⟨.type "re.Pattern",none,.fields #[.str (Str.ofString "[^\\w@%+=:,./-]") 342,.int 256 379,.int 0 0,.none,.none,.ref 55,.int 0 0],#[]⟩
noncomputable def Z1X:List Value:=[14,17,4,1,1,21,9,0,604043296,1,0,0,0,0,0,8,4,0,13,14,21,9,0,604043296,1,0,0,0,0,0,8,4,0,1].map fun i=>.int i 0
theorem Nn{M:Model}{A:Around}{s:Shared}{Q:Sre.M→Shared→Prop}{E:Value→Shared→Prop}{m:Sre.M}(h:(m.runFor 4).outcome.isSome=true)(hQ:Q (m.runFor 4) s):wpAny M A (reDrive (2 ^ 64) m) Q E s:=by
 have:∃ k,2 ^ 64=k+1:=⟨2 ^ 64-1,rfl⟩
 obtain ⟨k,hk⟩:=this
 rw[hk]
 show wpAny M A (if (m.runFor 4).outcome.isSome=true then pure (m.runFor 4) else _) Q E s
 rw[if_pos h]
 exact wpAny_pure hQ
theorem KZ{M:Model}{A:Around}{E:Value→Shared→Prop}{s:Shared}{Q:Shared→Prop}(f:Nat→Sem (ForInStep PUnit))(hf:∀ i Q',Q' (ForInStep.yield PUnit.unit) s→wpAny M A (f i) Q' E s)(hQ:Q s):∀ l:List Nat,wpAny M A (forIn l PUnit.unit fun i _=>f i) (fun _ s'=>Q s') E s
 | []=>wpAny_pure hQ
 | i::l=>by
  rw[List.forIn_cons]
  exact wpAny_bind (hf i _ (KZ f hf hQ l))
theorem Uz{M:Model}{A:Around}{s:Shared}{x:Str}{t:Tok}{Q:ReTarget→Shared→Prop}{E:Value→Shared→Prop}(h56:s.heap.get? 56=some patO)(h55:s.heap.get? 55=some (Y5 Z1X 0))(h63:x.cps.size≤(2 ^ 63-1:Int).toNat)(hQ:Q ⟨.ref 56,.str x t,Zr,x.cps,0,0,0,x.cps.size⟩ s) :
  wpAny M A (reTarget "re.Pattern.search" "search" ⟨[.ref 56,.str x t],[]⟩) Q E s:=by
 unfold reTarget
 wp_walk
 have e:min (2 ^ 63-1:Int).toNat x.cps.size=x.cps.size:=Nat.min_eq_right h63
 have e2:(⟨.ref 56,.str x t,Array.map (fun x=>x.toNat) (Array.map reRawOf ((some Z1X.toArray).getD #[])),x.cps,0,0,0,min (2 ^ 63-1:Int).toNat x.cps.size⟩:ReTarget)=⟨.ref 56,.str x t,Zr,x.cps,0,0,0,x.cps.size⟩:=by
  have ec:Array.map (fun x:Int=>x.toNat) (Array.map reRawOf ((some Z1X.toArray).getD #[]))=Zr:=by decide +kernel
  rw[e,ec]
 have hQ':=hQ
 rw[←e2] at hQ'
 have e3:min (0:Int).toNat x.cps.size=0:=Nat.zero_min _
 show Q ⟨.ref 56,.str x t,Array.map (fun x=>x.toNat) (Array.map reRawOf ((some Z1X.toArray).getD #[])),x.cps,0,0,min (0:Int).toNat x.cps.size,min (2 ^ 63-1:Int).toNat x.cps.size⟩ s
 rw[e3]
 exact hQ'
theorem Z1S{M:Model}{A:Around}{s:Shared}{Q:Option Sre.M→Shared→Prop}{E:Value→Shared→Prop}{m:Sre.M}(h:(m.runFor 4).outcome.isSome=true)(hQ:wpAny M A (match (m.runFor 4).outcome with | some .matched=>pure (some (m.runFor 4)) | some .failed=>pure none | some (.stuck why)=>unsupported s!"_sre:{why}" | none=>unsupported "internal:sre:no-outcome") Q E s):wpAny M A (reRunToEnd m) Q E s:=by
 unfold reRunToEnd
 refine wpAny_bind (Nn h ?_)
 refine wpAny_bind (wpAny_mono (KZ (s:=s) (Q:=fun s'=>s'=s) (fun i=>_) (fun i Q' hq=>?_) rfl _) (fun _ s' e=>?_) fun _ _ e=>e)
 ·split
  ·exact wpAny_bind (wpAny_rule (wpAny_pure hq))
  ·exact wpAny_pure hq
 ·subst e
  exact hQ
theorem U7{M:Model}{A:Around}{s:Shared}{R:Result→Shared→Prop}{x:Str}{t:Tok}(h56:s.heap.get? 56=some patO)(h55:s.heap.get? 55=some (Y5 Z1X 0))(hn:0<x.cps.size)(h63:x.cps.size≤(2 ^ 63-1:Int).toNat)
  (h0:ZV x.cps x.cps.size (x.cps.size+1) 0=none→R (.ok (.ret .none)) s)
  (h1:ZV x.cps x.cps.size (x.cps.size+1) 0≠none→∀ o1 o2:Obj,o1.isFreed=false→o2.isFreed=false→R (.ok (.ret (.ref (s.heap.objs.size+1)))) { s with heap:=(s.heap.push o1).push o2 }) :
  wpAny M A (Builtin.«re.Pattern.search» ⟨[.ref 56,.str x t],[]⟩) (fun fin s'=>∃ v,fin=.done (.ret v)∧R (.ok (.ret v)) s') (fun e s'=>R (.error e) s') s:=by
 unfold Builtin.«re.Pattern.search»
 refine wpAny_bind (Uz h56 h55 h63 ?_)
 unfold reAnswer
 have ha:=NY x.cps hn
 refine wpAny_bind (Z1S (by
  show ((Sre.forSearch Zr x.cps 0 0 x.cps.size false).runFor 4).outcome.isSome=true
  rw[ha];rfl) ?_)
 show wpAny M A (match ((Sre.forSearch Zr x.cps 0 0 x.cps.size false).runFor 4).outcome with | some .matched=>pure (some ((Sre.forSearch Zr x.cps 0 0 x.cps.size false).runFor 4)) | some .failed=>pure none | some (.stuck why)=>unsupported s!"_sre:{why}" | none=>unsupported "internal:sre:no-outcome") _ _ s
 rw[ha]
 cases hf:ZV x.cps x.cps.size (x.cps.size+1) 0 with
 | none=>exact wpAny_pure (wpAny_pure ⟨_,rfl,h0 hf⟩)
 | some j =>
  have h1':=h1 (by rw[hf];simp)
  generalize (Sre.forSearch Zr x.cps 0 0 x.cps.size false).runFor 4=m
  refine wpAny_pure ?_
  show wpAny M A (reNewMatch (.ref 56) (.str x t) 0 0 x.cps.size m >>= _) _ _ s
  unfold reNewMatch
  wp_walk
  refine ⟨_,rfl,?_⟩
  have:=h1' ⟨.type "tuple",none,.seq (rawInt m.start::rawInt m.handed::[]).toArray 0,#[]⟩ ⟨.type "re.Match",none,.fields #[.str x t,.ref 56,rawInt 0,rawInt x.cps.size,rawInt m.lastindex,.ref s.heap.objs.size],#[]⟩ rfl rfl
  rw[Heap.size_push]
  exact this
noncomputable def bB (id:String)(as:List Value)(B:Stk→Stk)(out:Nat→Nat→(Nat→Nat)→FOut):FItem:=⟨.builtin id ⟨as,[]⟩,B,[],out,fun g=>g,[],erC⟩
theorem WP{w:World}{x:Str}{B:Stk→Stk}(hn:0<x.length)(hl:x.length≤sizeLine)(h:ZV x.cps x.cps.size (x.cps.size+1) 0=none):OK w (bB "re.Pattern.search" [.ref 56,.str x 0] B fun _ _ l=>⟨.ok (.ret .none),[],l 0,l 1,fun g=>g,[]⟩):=by
 rintro ⟨c,hd,ow,B',pa⟩ p s Rr hc hh hB hgi top nd own here k
 obtain ⟨bs,rfl,hb⟩:=Zb hc
 obtain ⟨u,u2,rfl,e1,e2⟩:=Zj hb
 obtain rfl:=Z5 e1
 obtain ⟨t,rfl⟩:=Zk e2
 have h56:=top 56 patO (by kernel_rfl)
 have h55:=top 55 (Y5 Z1X 0) (by kernel_rfl)
 have key:=k (fun i=>match i with | 0=>s.heap.objs.size | _=>s.toks) s.heap ⟨fun _ _ h _=>h,fun q hq=>(nomatch hq),.nil,fun q hq=>(nomatch hq),rfl,Nat.le_refl _⟩
 refine codeAny_builtin (A:=⟨hd,frameCount B',none,none,unitsOf B'⟩) JX ?_ ⟨_,hd,ow,B',pa⟩ p rfl ⟨rfl,Nat.le_refl _,(fun _ h=>nomatch h),(fun _ h=>nomatch h),Nat.le_refl _⟩
 refine wpAny_mono (U7 (R:=Rr) h56 h55 hn (Nat.le_trans hl (by decide)) (fun _=>key) (fun h2=>absurd h h2)) (fun fin s' h'=>by obtain ⟨v,rfl,hv⟩:=h';exact hv) fun _ _ e=>e
theorem Ui{w:World}{x:Str}{B:Stk→Stk}(hn:0<x.length)(hl:x.length≤sizeLine)(h:ZV x.cps x.cps.size (x.cps.size+1) 0≠none):OK w (bB "re.Pattern.search" [.ref 56,.str x 0] B fun _ _ l=>⟨.ok (.ret (.ref (l 2))),[],l 0,l 1,fun g=>g,[]⟩):=by
 rintro ⟨c,hd,ow,B',pa⟩ p s Rr hc hh hB hgi top nd own here k
 obtain ⟨bs,rfl,hb⟩:=Zb hc
 obtain ⟨u,u2,rfl,e1,e2⟩:=Zj hb
 obtain rfl:=Z5 e1
 obtain ⟨t,rfl⟩:=Zk e2
 have h56:=top 56 patO (by kernel_rfl)
 have h55:=top 55 (Y5 Z1X 0) (by kernel_rfl)
 refine codeAny_builtin (A:=⟨hd,frameCount B',none,none,unitsOf B'⟩) JX ?_ ⟨_,hd,ow,B',pa⟩ p rfl ⟨rfl,Nat.le_refl _,(fun _ h=>nomatch h),(fun _ h=>nomatch h),Nat.le_refl _⟩
 refine wpAny_mono (U7 (R:=Rr) h56 h55 hn (Nat.le_trans hl (by decide)) (fun h2=>absurd h2 h) (fun _ o1 o2 f1 f2=>?_)) (fun fin s' h'=>by obtain ⟨v,rfl,hv⟩:=h';exact hv) fun _ _ e=>e
 exact k (fun i=>match i with | 0=>s.heap.objs.size+2 | 1=>s.toks | _=>s.heap.objs.size+1) _ ⟨fun a x hx _=>Heap.get?_push_of_some _ (Heap.get?_push_of_some _ hx),fun q hq=>(nomatch hq),.nil,fun q hq=>(nomatch hq),by rw[Heap.size_push,Heap.size_push];rfl,by show _≤_+2;omega⟩
noncomputable def W4 (s q m r:Str)(u a b:Nat)(e:Bool):FItem:={ c:=.call (.builtin "str.replace") ⟨[.str s u,.str q a,.str m b],[]⟩,B:=fun B=>B,pre:=[],out:=fun sz tk l=>⟨.ok (.ret (.str r (sel e u tk))),[],sz,tk+sel e 0 1,fun g=>g,[]⟩,gin:=fun g=>g,er:=fun c=>c }
open PySem.Builtin.Str in
theorem ok_rep {w:World}{s q m r:Str}{u a b:Nat}{e:Bool}(ha:a≠0)(hb:b≠0)(hab:a≠b)(hyz:(q==m)=false)(he:((occurrences s q 0 s.length (s.length+1)).isEmpty||(q.length==0&&m.length==0))=e)
  (htl:tooLong (s.length+(occurrences s q 0 s.length (s.length+1)).length*m.length)=false)(hr:(if e=true then s else glued m (partsBetween s (occurrences s q 0 s.length (s.length+1)) q.length))=r)(hrl:r.length≤sizeLine):OK w (W4 s q m r u a b e):=by
 rintro ⟨c,hd,ow,B',pa⟩ p sh Rr hc hh hB hgi top nd own here k
 have hc':c=.call (.builtin "str.replace") ⟨[.str s u,.str q a,.str m b],[]⟩:=hc
 subst hc'
 have g:=gives_str_replace s q m u a b fun _=>⟨by simp[ha,hb],by simp[hab],hyz,htl⟩
 have L:Left0 [] [] sh.heap.objs.size sh.heap sh.heap:=⟨fun _ _ h _=>h,fun q hq=>(nomatch hq),.nil,fun q hq=>(nomatch hq),rfl,Nat.le_refl _⟩
 have key:=k (fun _=>0) sh.heap L
 refine codeAny_call_builtin (A:=⟨hd,frameCount B',none,none,unitsOf B'⟩) F.slot_str_replace.plain F.entry_str_replace (F.slot_str_replace.check _ _ _ _ _ _ _ _ (typeIs_str _ _ _) (F.args_str_replace_3 _ _ _) (g _ w _ Rr sh ?_)) ⟨_,hd,ow,B',pa⟩ p rfl ⟨rfl,Nat.le_refl _,(fun _ h=>nomatch h),(fun _ h=>nomatch h),Nat.le_refl _⟩
 rw[he]
 cases e with
 | true =>
  have hr':s=r:=hr
  subst hr'
  exact key
 | false =>
  have hr':glued m (partsBetween s (occurrences s q 0 s.length (s.length+1)) q.length)=r:=hr
  rw[hr']
  exact ⟨hrl,key⟩
end
section
open PySem PySem.Builtin PySem.W
section
set_option backward.match.sparseCases false
noncomputable def shJ (P:Params)(X:Fr)(m:Bool):List Knd:=match m with
 | true=>[.L,.f (ZG P 794 X.p),.f (ZG P 823 X.w),.b "claim.caller"]
 | false=>[.f (ZG P 794 X.p),.f (ZG P 823 X.w),.b "claim.caller"]
noncomputable def geE (P:Params):PySem.Expr:=match sAt (Y0 P 758) 0 with
 | .Return (some (.Call _ [e] _ _)) _=>e
 | _=>default
noncomputable def geS (P:Params):Scope:=match geE P with
 | .GeneratorExp _ _ s _=>s
 | _=>default
noncomputable def Yy (P:Params)(J C co:Nat):Env:={ scope:=geS P,locals:=C,globals:=(ZG P 758 J).globals,cells:=[],qual:=(ZG P 758 J).qual++Str.ofString "<genexpr>.",func:=none,code:=.ref co,frame:=some C,builtins:=(ZG P 758 J).builtins }
noncomputable def geC (P:Params)(J I C co:Nat):Code:=.compLoop (geE P) 0 (.ref I) .none (Yy P J C co)
noncomputable def shQ (P:Params)(X:Fr)(m:Bool)(I C co:Nat):List Knd:=.x (geC P X.s I C co)::.b "generator.__next__"::.b "list.extend.loop"::.b "str.join"::.f (ZG P 758 X.s)::shJ P X m
noncomputable def Kx (P:Params)(X:Fr)(m:Bool)(I C co:Nat)(s r:Str):FItem where
 c:=.call (.ref 766) ⟨[.str s 0],[]⟩
 B:=nrm (shQ P X m I C co)
 pre:=[]
 out:=fun _ _ l=>⟨.ok (.ret (.str r (l 2))),[],l 0,l 1,id,[]⟩
noncomputable def V5:Nat→Nat→(Nat→Nat)→FOut:=fun _ _ l=>⟨.ok (.ret .none),[],l 0,l 1,fun g=>g,[]⟩
noncomputable def V4:Nat→Nat→(Nat→Nat)→FOut:=fun _ _ l=>⟨.ok (.ret (.ref (l 2))),[],l 0,l 1,fun g=>g,[]⟩
noncomputable def W7 (P:Params)(X:Fr)(m:Bool)(I C co:Nat)(s:Str)(O:Nat→Nat→(Nat→Nat)→FOut):FItem where
 c:=.call (.ref 759) ⟨[.str s 0],[]⟩
 B:=nrm (.f (ZG P 766 X.t)::shQ P X m I C co)
 pre:=[]
 out:=O
noncomputable def qS (z:Str):Str:=mkS [39]++z++mkS [39]
section
variable{b b2:Bool}{w:World}(hw:Wd b b2 w)(X:Fr)(I C co:Nat)
include b b2 w hw X I C co
theorem Z0P(s:Str)(hn:0<s.length)(hl:s.length≤sizeLine)(h:ZV s.cps s.cps.size (s.cps.size+1) 0=none):OK w (W7 w.params X true I C co s V5):=by
 refine Z2 hw.w0 _ (fun sz tk ls=>bB "re.Pattern.search" [Value.ref 56,Value.str s 0] (nrm (Knd.f (ZG w.params 766 X.t)::shQ w.params X true I C co)) V5) (fun _ _ _ _ _ _ _ _=>rfl) (fun _ _ _=>rfl) (fun _ _ _=>rfl) (fun c B p sz tk g he=>?_) (fun sz tk ls=>WP hn hl h)
 obtain ⟨bs,rfl,hb⟩:=Z3 he
 obtain ⟨v1,rfl,e1⟩:=Z4 hb
 obtain ⟨u1,rfl⟩:=Zk e1
 refine ⟨55,.fin [],[0,0,0,0,0,39],[],0,?_,fun ls=>?_⟩
 ·exact (fun x hx=>(nomatch hx))
 ·kernel_rfl
theorem Z0N(s:Str)(hn:0<s.length)(hl:s.length≤sizeLine)(h:ZV s.cps s.cps.size (s.cps.size+1) 0≠none):OK w (W7 w.params X true I C co s V4):=by
 refine Z2 hw.w0 _ (fun sz tk ls=>bB "re.Pattern.search" [Value.ref 56,Value.str s 0] (nrm (Knd.f (ZG w.params 766 X.t)::shQ w.params X true I C co)) V4) (fun _ _ _ _ _ _ _ _=>rfl) (fun _ _ _=>rfl) (fun _ _ _=>rfl) (fun c B p sz tk g he=>?_) (fun sz tk ls=>Ui hn hl h)
 obtain ⟨bs,rfl,hb⟩:=Z3 he
 obtain ⟨v1,rfl,e1⟩:=Z4 hb
 obtain ⟨u1,rfl⟩:=Zk e1
 refine ⟨55,.fin [],[0,0,0,0,0,39],[],0,?_,fun ls=>?_⟩
 ·exact (fun x hx=>(nomatch hx))
 ·kernel_rfl
theorem Z1Y:OK w (Kx w.params X true I C co (mkS []) (mkS [39,39])):=by
 refine Z1 hw.w0 _ fun c B p sz tk g he=>?_
 obtain ⟨bs,rfl,hb⟩:=Z3 he
 obtain ⟨v1,rfl,e1⟩:=Z4 hb
 obtain ⟨u1,rfl⟩:=Zk e1
 refine ⟨69,.fin [ZH (mkS []) 0],(dg 8 0x11100100),[],0,fun ls=>fl [sz+1,tk+4,tk+3],?_,fun ls=>?_⟩
 ·exact (AllV.all ⟨Zy (by rfl) (by omega),trivial⟩)
 ·kernel_rfl
end
theorem Z0b {b b2:Bool}{w:World}(hw:Wd b b2 w)(X:Fr)(I C co:Nat)(s:Str)(n:Nat)(hn:s.length=n+1)(hl:s.length≤sizeLine)(h:∀ t,OK w (W7 w.params { X with t:=t } true I C co s V5)):OK w (Kx w.params X true I C co s s):=by
 refine Z1 hw.w0 _ fun c B p sz tk g he=>?_
 obtain ⟨bs,rfl,hb⟩:=Z3 he
 obtain ⟨v1,rfl,e1⟩:=Z4 hb
 obtain ⟨u1,rfl⟩:=Zk e1
 refine ⟨80,.item [ZH s (n+1)] (W7 w.params { g:=X.g,n:=X.n,s:=X.s,t:=sz,p:=X.p,w:=X.w } true I C co s V5) (fun l0=>.fin []),(dg 13 0x1001011100100),[],0,fun ls=>(fun l0=>fl [l0 0,l0 1,u1]) (ls 0),?_,fun ls=>?_⟩
 ·exact ⟨(AllV.all ⟨Zy hn (by rw[←hn];exact Nat.lt_of_le_of_lt hl (by decide)),trivial⟩),h _,fun l0=>(fun x hx=>(nomatch hx))⟩
 ·kernel_rfl
theorem WJ {b b2:Bool}{w:World}(hw:Wd b b2 w)(X:Fr)(I C co:Nat)(s z:Str)(e b1 c1 b3 c3:Bool)(n:Nat)(hn:s.length=n+1)(hl:s.length≤sizeLine)(h:∀ t,OK w (W7 w.params { X with t:=t } true I C co s V4))(hrep:∀ u a b,a≠0→b≠0→a≠b→OK w (W4 s (mkS [39]) (mkS [39,34,39,34,39]) z u a b e))(hb1:((mkS [39]).length==0)=b1)(hc1:(z.length==0)=c1)(hb3:((mkS [39]++z).length==0)=b3)(hc3:((mkS [39]).length==0)=c3)(h1l:(mkS [39]++z).length≤sizeLine)(h2l:(qS z).length≤sizeLine):OK w (Kx w.params X true I C co s (qS z)):=by
 refine Z1 hw.w0 _ fun c B p sz tk g he=>?_
 obtain ⟨bs,rfl,hb⟩:=Z3 he
 obtain ⟨v1,rfl,e1⟩:=Z4 hb
 obtain ⟨u1,rfl⟩:=Zk e1
 refine ⟨95,.item [ZH s (n+1)] (W7 w.params { g:=X.g,n:=X.n,s:=X.s,t:=sz,p:=X.p,w:=X.w } true I C co s V4) (fun l0=>.item [] (W4 s (mkS [39]) (mkS [39,34,39,34,39]) z u1 (l0 1+1) (l0 1+2) e) (fun l1=>.fin [QF (mkS [39]) z (mkS [39]++z) b1 c1,QF (mkS [39]++z) (mkS [39]) (qS z) b3 c3])),(dg 16 0x1101001011100100),[],0,fun ls=>(fun l0 l1=>fl [l0 0,(Nat.brecOn.go (motive:=fun x=>Nat→Nat) (sel e 0 1) Nat.add._f).1 (l0 1+3)+Bool.rec ((fun _=>sel c1 0 1) ()) ((fun _=>0) ()) b1+1+Bool.rec ((fun _=>sel c3 0 1) ()) ((fun _=>0) ()) b3,sel b3 (YI [Value.str { cps:=(mkS [39]).cps++z.cps } (sel b1 (YI [Value.str (Str.ofString "'") (l0 1),Value.str z (sel e u1 (l0 1+3))] 1) (sel c1 (YI [Value.str (Str.ofString "'") (l0 1),Value.str z (sel e u1 (l0 1+3))] 0) ((Nat.brecOn.go (motive:=fun x=>Nat→Nat) (sel e 0 1) Nat.add._f).1 (l0 1+3)))),Value.str (Str.ofString "'") ((Nat.brecOn.go (motive:=fun x=>Nat→Nat) (sel e 0 1) Nat.add._f).1 (l0 1+3)+Bool.rec ((fun _=>sel c1 0 1) ()) ((fun _=>0) ()) b1)] 1) (sel c3 (YI [Value.str { cps:=(mkS [39]).cps++z.cps } (sel b1 (YI [Value.str (Str.ofString "'") (l0 1),Value.str z (sel e u1 (l0 1+3))] 1) (sel c1 (YI [Value.str (Str.ofString "'") (l0 1),Value.str z (sel e u1 (l0 1+3))] 0) ((Nat.brecOn.go (motive:=fun x=>Nat→Nat) (sel e 0 1) Nat.add._f).1 (l0 1+3)))),Value.str (Str.ofString "'") ((Nat.brecOn.go (motive:=fun x=>Nat→Nat) (sel e 0 1) Nat.add._f).1 (l0 1+3)+Bool.rec ((fun _=>sel c1 0 1) ()) ((fun _=>0) ()) b1)] 0) ((Nat.brecOn.go (motive:=fun x=>Nat→Nat) (sel e 0 1) Nat.add._f).1 (l0 1+3)+Bool.rec ((fun _=>sel c1 0 1) ()) ((fun _=>0) ()) b1+1))]) (ls 0) (ls 1),?_,fun ls=>?_⟩
 ·exact ⟨(AllV.all ⟨Zy hn (by rw[←hn];exact Nat.lt_of_le_of_lt hl (by decide)),trivial⟩),h _,fun l0=>⟨(fun x hx=>(nomatch hx)),hrep _ _ _ (by omega) (by omega) (by omega),fun l1=>(AllV.all ⟨YV rfl hb1 hc1 h1l,YV rfl hb3 hc3 h2l,trivial⟩)⟩⟩
 ·kernel_rfl
section
variable{b b2:Bool}{w:World}(hw:Wd b b2 w)(X:Fr)(I C co:Nat)
include b b2 w hw X I C co
theorem Z0Q(s:Str)(hn:0<s.length)(hl:s.length≤sizeLine)(h:ZV s.cps s.cps.size (s.cps.size+1) 0=none):OK w (W7 w.params X false I C co s V5):=by
 refine Z2 hw.w0 _ (fun sz tk ls=>bB "re.Pattern.search" [Value.ref 56,Value.str s 0] (nrm (Knd.f (ZG w.params 766 X.t)::shQ w.params X false I C co)) V5) (fun _ _ _ _ _ _ _ _=>rfl) (fun _ _ _=>rfl) (fun _ _ _=>rfl) (fun c B p sz tk g he=>?_) (fun sz tk ls=>WP hn hl h)
 obtain ⟨bs,rfl,hb⟩:=Z3 he
 obtain ⟨v1,rfl,e1⟩:=Z4 hb
 obtain ⟨u1,rfl⟩:=Zk e1
 refine ⟨55,.fin [],[0,0,0,0,0,39],[],0,?_,fun ls=>?_⟩
 ·exact (fun x hx=>(nomatch hx))
 ·kernel_rfl
theorem Z0O(s:Str)(hn:0<s.length)(hl:s.length≤sizeLine)(h:ZV s.cps s.cps.size (s.cps.size+1) 0≠none):OK w (W7 w.params X false I C co s V4):=by
 refine Z2 hw.w0 _ (fun sz tk ls=>bB "re.Pattern.search" [Value.ref 56,Value.str s 0] (nrm (Knd.f (ZG w.params 766 X.t)::shQ w.params X false I C co)) V4) (fun _ _ _ _ _ _ _ _=>rfl) (fun _ _ _=>rfl) (fun _ _ _=>rfl) (fun c B p sz tk g he=>?_) (fun sz tk ls=>Ui hn hl h)
 obtain ⟨bs,rfl,hb⟩:=Z3 he
 obtain ⟨v1,rfl,e1⟩:=Z4 hb
 obtain ⟨u1,rfl⟩:=Zk e1
 refine ⟨55,.fin [],[0,0,0,0,0,39],[],0,?_,fun ls=>?_⟩
 ·exact (fun x hx=>(nomatch hx))
 ·kernel_rfl
theorem Z1Z:OK w (Kx w.params X false I C co (mkS []) (mkS [39,39])):=by
 refine Z1 hw.w0 _ fun c B p sz tk g he=>?_
 obtain ⟨bs,rfl,hb⟩:=Z3 he
 obtain ⟨v1,rfl,e1⟩:=Z4 hb
 obtain ⟨u1,rfl⟩:=Zk e1
 refine ⟨69,.fin [ZH (mkS []) 0],(dg 8 0x11100100),[],0,fun ls=>fl [sz+1,tk+4,tk+3],?_,fun ls=>?_⟩
 ·exact (AllV.all ⟨Zy (by rfl) (by omega),trivial⟩)
 ·kernel_rfl
end
theorem Z0c {b b2:Bool}{w:World}(hw:Wd b b2 w)(X:Fr)(I C co:Nat)(s:Str)(n:Nat)(hn:s.length=n+1)(hl:s.length≤sizeLine)(h:∀ t,OK w (W7 w.params { X with t:=t } false I C co s V5)):OK w (Kx w.params X false I C co s s):=by
 refine Z1 hw.w0 _ fun c B p sz tk g he=>?_
 obtain ⟨bs,rfl,hb⟩:=Z3 he
 obtain ⟨v1,rfl,e1⟩:=Z4 hb
 obtain ⟨u1,rfl⟩:=Zk e1
 refine ⟨80,.item [ZH s (n+1)] (W7 w.params { g:=X.g,n:=X.n,s:=X.s,t:=sz,p:=X.p,w:=X.w } false I C co s V5) (fun l0=>.fin []),(dg 13 0x1001011100100),[],0,fun ls=>(fun l0=>fl [l0 0,l0 1,u1]) (ls 0),?_,fun ls=>?_⟩
 ·exact ⟨(AllV.all ⟨Zy hn (by rw[←hn];exact Nat.lt_of_le_of_lt hl (by decide)),trivial⟩),h _,fun l0=>(fun x hx=>(nomatch hx))⟩
 ·kernel_rfl
theorem WK {b b2:Bool}{w:World}(hw:Wd b b2 w)(X:Fr)(I C co:Nat)(s z:Str)(e b1 c1 b3 c3:Bool)(n:Nat)(hn:s.length=n+1)(hl:s.length≤sizeLine)(h:∀ t,OK w (W7 w.params { X with t:=t } false I C co s V4))(hrep:∀ u a b,a≠0→b≠0→a≠b→OK w (W4 s (mkS [39]) (mkS [39,34,39,34,39]) z u a b e))(hb1:((mkS [39]).length==0)=b1)(hc1:(z.length==0)=c1)(hb3:((mkS [39]++z).length==0)=b3)(hc3:((mkS [39]).length==0)=c3)(h1l:(mkS [39]++z).length≤sizeLine)(h2l:(qS z).length≤sizeLine):OK w (Kx w.params X false I C co s (qS z)):=by
 refine Z1 hw.w0 _ fun c B p sz tk g he=>?_
 obtain ⟨bs,rfl,hb⟩:=Z3 he
 obtain ⟨v1,rfl,e1⟩:=Z4 hb
 obtain ⟨u1,rfl⟩:=Zk e1
 refine ⟨95,.item [ZH s (n+1)] (W7 w.params { g:=X.g,n:=X.n,s:=X.s,t:=sz,p:=X.p,w:=X.w } false I C co s V4) (fun l0=>.item [] (W4 s (mkS [39]) (mkS [39,34,39,34,39]) z u1 (l0 1+1) (l0 1+2) e) (fun l1=>.fin [QF (mkS [39]) z (mkS [39]++z) b1 c1,QF (mkS [39]++z) (mkS [39]) (qS z) b3 c3])),(dg 16 0x1101001011100100),[],0,fun ls=>(fun l0 l1=>fl [l0 0,(Nat.brecOn.go (motive:=fun x=>Nat→Nat) (sel e 0 1) Nat.add._f).1 (l0 1+3)+Bool.rec ((fun _=>sel c1 0 1) ()) ((fun _=>0) ()) b1+1+Bool.rec ((fun _=>sel c3 0 1) ()) ((fun _=>0) ()) b3,sel b3 (YI [Value.str { cps:=(mkS [39]).cps++z.cps } (sel b1 (YI [Value.str (Str.ofString "'") (l0 1),Value.str z (sel e u1 (l0 1+3))] 1) (sel c1 (YI [Value.str (Str.ofString "'") (l0 1),Value.str z (sel e u1 (l0 1+3))] 0) ((Nat.brecOn.go (motive:=fun x=>Nat→Nat) (sel e 0 1) Nat.add._f).1 (l0 1+3)))),Value.str (Str.ofString "'") ((Nat.brecOn.go (motive:=fun x=>Nat→Nat) (sel e 0 1) Nat.add._f).1 (l0 1+3)+Bool.rec ((fun _=>sel c1 0 1) ()) ((fun _=>0) ()) b1)] 1) (sel c3 (YI [Value.str { cps:=(mkS [39]).cps++z.cps } (sel b1 (YI [Value.str (Str.ofString "'") (l0 1),Value.str z (sel e u1 (l0 1+3))] 1) (sel c1 (YI [Value.str (Str.ofString "'") (l0 1),Value.str z (sel e u1 (l0 1+3))] 0) ((Nat.brecOn.go (motive:=fun x=>Nat→Nat) (sel e 0 1) Nat.add._f).1 (l0 1+3)))),Value.str (Str.ofString "'") ((Nat.brecOn.go (motive:=fun x=>Nat→Nat) (sel e 0 1) Nat.add._f).1 (l0 1+3)+Bool.rec ((fun _=>sel c1 0 1) ()) ((fun _=>0) ()) b1)] 0) ((Nat.brecOn.go (motive:=fun x=>Nat→Nat) (sel e 0 1) Nat.add._f).1 (l0 1+3)+Bool.rec ((fun _=>sel c1 0 1) ()) ((fun _=>0) ()) b1+1))]) (ls 0) (ls 1),?_,fun ls=>?_⟩
 ·exact ⟨(AllV.all ⟨Zy hn (by rw[←hn];exact Nat.lt_of_le_of_lt hl (by decide)),trivial⟩),h _,fun l0=>⟨(fun x hx=>(nomatch hx)),hrep _ _ _ (by omega) (by omega) (by omega),fun l1=>(AllV.all ⟨YV rfl hb1 hc1 h1l,YV rfl hb3 hc3 h2l,trivial⟩)⟩⟩
 ·kernel_rfl
end
end
section
open PySem PySem.W
section
set_option backward.match.sparseCases false
section
open Sem (wp finPost)
noncomputable def FItem.ValidE (M:Model)(K:List (Nat × Obj))(it:FItem)(t:Sem Fin):Prop:=∀(Γ:Ctx)(p:Pos)(s:Shared)(Rr:Result→Shared→Prop),it.er Γ.code=it.c→Γ.handled=none→it.B Γ.below=Γ.below→it.gin s.gens=s.gens →
 (∀ a o,lk K a=some o→s.heap.get? a=some o)→(it.all.map (·.1)).Nodup→(∀ q∈it.all,lk K q.1=none)→(∀ q∈it.all,s.heap.get? q.1=some q.2) →
 (∀ l h',Left0 it.all (it.out s.heap.objs.size s.toks l).all (it.out s.heap.objs.size s.toks l).sz s.heap h' →
  Rr (it.out s.heap.objs.size s.toks l).r ⟨h',(it.out s.heap.objs.size s.toks l).g s.gens,s.drawn,(it.out s.heap.objs.size s.toks l).tk,s.os⟩)→wp M Γ t (finPost M Γ Rr) (EP M Γ Rr) p s
theorem YM{C:Cfg}{w:World}(W:World0 C w)(it:FItem)(t:Sem Fin)
  (h:∀(c:Code)(B:Stk)(p:Pos)(sz tk:Nat)(g:Array GenState),it.er c=it.c→GoC C w it t c B p sz tk g) :
  it.ValidE (model C.prog w) C.top t:=by
 rintro ⟨c,hd,ow,B,pa⟩ p s Rr hc hh hB hg top nd own here k
 dsimp only at hc hh hB
 obtain ⟨n,pl,hs,js,kx,l,ok,chk⟩:=h c B p s.heap.objs.size s.toks s.gens hc
 delta Chk at chk
 rw[hB,hg] at chk
 subst hh
 refine Yn W.hP W.hids n pl ⟨C.top,s.heap,it.all.map (·.1),s.gens,s.drawn,s.os⟩ c B p t it.pre it.preS s.heap.objs.size s.toks hs [] rfl ok (fun ls=>?_) ow pa s Rr (Desc.start top nd own here) (fun ls=>?_)
 ·exact (Prod.mk.inj (Prod.mk.inj (Prod.mk.inj (Prod.mk.inj (Prod.mk.inj (Prod.mk.inj (chk ls)).2).2).2).2).2).2
 ·obtain ⟨e1,r1⟩:=Prod.mk.inj (chk ls)
  obtain ⟨e2,r2⟩:=Prod.mk.inj r1
  obtain ⟨e3,r3⟩:=Prod.mk.inj r2
  obtain ⟨e4,r4⟩:=Prod.mk.inj r3
  obtain ⟨e5,r5⟩:=Prod.mk.inj r4
  obtain ⟨e6,e7⟩:=Prod.mk.inj r5
  have hS':=(List.take_append_drop kx (it.out s.heap.objs.size s.toks (l ls)).ledS).symm
  generalize (it.out s.heap.objs.size s.toks (l ls)).ledS.drop kx=S' at hS' e5
  generalize (it.out s.heap.objs.size s.toks (l ls)).ledS.take kx=ex' at hS' e2
  generalize go0 C n pl ls c B p t it.pre it.preS s.heap.objs.size s.toks hs [] s.gens=R at e1 e2 e3 e4 e5 e6 e7 ⊢
  obtain ⟨⟨kd,c₁,p₁,led₁,sz₁,tk₁,hs₁,pits₁,ob₁⟩,S₁,g₁⟩:=R
  dsimp only at e1 e2 e3 e4 e5 e6 e7 ⊢
  obtain ⟨rest,pm⟩:=fst?_perm e2
  have fin:∀ s',Desc ⟨C.top,s.heap,it.all.map (·.1),g₁,s.drawn,s.os⟩ (led₁++S₁) sz₁ tk₁ s'→Rr (it.out s.heap.objs.size s.toks (l ls)).r s':=fun s' D=>by
   have pm2:(led₁++S₁).Perm ((it.out s.heap.objs.size s.toks (l ls)).all++rest):=by
    rw[FOut.all,hS',←e5]
    exact Q2 pm
   have L:=D.left pm2
   rw[e3] at L
   have:=k (l ls) s'.heap L
   rw[←e4,←e6] at this
   have es:s'=⟨s'.heap,g₁,s.drawn,tk₁,s.os⟩:=by
    obtain ⟨a1,a2,a3,a4,a5⟩:=s'
    have b1:a2=g₁:=D.gens
    have b2:a3=s.drawn:=D.drawn
    have b3:a4=tk₁:=D.toks
    have b4:a5=s.os:=D.os
    subst b1 b2 b3 b4
    rfl
   rw[es]
   exact this
  cases kd with
  | done f =>
   have e:(.ok f:Result)=(it.out s.heap.objs.size s.toks (l ls)).r:=Option.some.inj e1
   intro s' D
   rw[e]
   exact fin s' D
  | raise e' =>
   have e:(.error e':Result)=(it.out s.heap.objs.size s.toks (l ls)).r:=Option.some.inj e1
   intro s' D
   show Rr (.error e') s'
   rw[e]
   exact fin s' D
  | pause _=>cases e1
  | pauseT _=>cases e1
  | fail _=>cases e1
noncomputable abbrev OKE (w:World)(it:FItem)(t:Sem Fin):Prop:=it.ValidE (MD w) (KT0 w.params) t
noncomputable abbrev Wu:=Fast.tw17772580674575903948
noncomputable abbrev tEval:=Fast.tw14044960220447912780
noncomputable def KB (P:Params):PySem.Expr:=match geE P with
 | .GeneratorExp e _ _ _=>e
 | _=>default
noncomputable def gCl (P:Params):Comprehension:=match geE P with
 | .GeneratorExp _ (c::_) _ _=>c
 | _=>default
noncomputable def gPos (P:Params):Pos:=match geE P with
 | .GeneratorExp _ _ _ p=>p
 | _=>default
theorem UY(P:Params):geE P=.GeneratorExp (KB P) [⟨(gCl P).target,(gCl P).iter,[],0⟩] (geS P) (gPos P):=by kernel_rfl
noncomputable def gT (P:Params)(J I C co:Nat):Sem Fin :=
 .at (gCl P).iter.pos fun _=>R.bindR (Q0 (.ref I)) fun o=>match o with
  | none=>.pure (.done .next)
  | some v=>R.bindR (Wu (gCl P).target (Yy P J C co) v) fun _=>R.bindR (tEval (KB P) (Yy P J C co)) fun v=>.pure (.done (.ret v))
noncomputable def gPre (P:Params)(J I C co:Nat):Sem (Option Value) :=
 standAt (gCl P).iter.pos >>= fun _=>pyNext (.ref I) >>= fun o=>match o with
  | none=>pure none
  | some v=>assign (gCl P).target (Yy P J C co) v >>= fun _=>eval (KB P) (Yy P J C co) >>= fun v=>pure (some v)
noncomputable def gK (P:Params)(J I C co:Nat):Option Value→Sem Fin
 | none=>.pure (.done .next)
 | some v=>((do standAt (KB P).pos;let _ ←yieldOut (Yy P J C co) v;again (geC P J I C co)):Sem Fin).onRaise (leaving (Yy P J C co))
noncomputable def gH (P:Params)(J C co:Nat)(x:Value):Sem Fin:=(leaving (Yy P J C co) x).bind fun _=>.raise x
theorem gT_pre{M:Model}{Γ:Ctx}{P:Params}{J I C co:Nat}{Q:Fin→Pos→Shared→Prop}{E:Value→Pos→Shared→Prop}{p:Pos}{s:Shared}(h:wp M Γ (gT P J I C co) Q E p s) :
  wp M Γ (gPre P J I C co) (fun o p s=>match o with | none=>Q (.done .next) p s | some v=>Q (.done (.ret v)) p s) E p s:=by
 have e1:Q0=pyNext:=Fast.te9404975358583537561.symm
 have e2:Wu=assign:=Fast.te17772580674575903948.symm
 have e3:tEval=eval:=Fast.te14044960220447912780.symm
 unfold gT at h
 rw[e1,e2,e3] at h
 simp only[←R.bindR_eq] at h
 unfold gPre
 rw[Sem.wp_bind']
 show wp M Γ (Sem.at _ Sem.pure) _ E p s
 rw[Sem.wp_at,Sem.wp_pure,Sem.wp_bind']
 rw[Sem.wp_at,Sem.wp_bind] at h
 refine Sem.wp_mono _ _ _ (fun o p' s' hx=>?_) (fun _ _ _ e=>e) _ _ h
 cases o with
 | none=>exact hx
 | some v =>
  dsimp only at hx ⊢
  rw[Sem.wp_bind] at hx
  rw[Sem.wp_bind']
  refine Sem.wp_mono _ _ _ (fun _ p' s' hy=>?_) (fun _ _ _ e=>e) _ _ hx
  rw[Sem.wp_bind] at hy
  rw[Sem.wp_bind']
  exact Sem.wp_mono _ _ _ (fun v p' s' hz=>hz) (fun _ _ _ e=>e) _ _ hy
theorem Z0F(P:Params)(it v:Value):letOwnedTupleGo (gCl P).target it v=pure ():=by kernel_rfl
theorem Q1{α β γ:Type}(m:Sem α)(f:α→Sem β)(g:β→Sem γ):(m >>= f) >>= g=m >>= fun a=>f a >>= g:=by
 rw[Sem.bind_eq_wrap',Sem.bind_eq_wrap',Sem.wrap_wrap,Sem.bind_eq_wrap']
 exact Sem.wrap_congr _ _ _ (fun a=>(Sem.bind_eq_wrap' _ _).symm) fun _=>rfl
theorem Z2G{w:World}(P:Params)(J I C co:Nat):(MD w).den (geC P J I C co)=(gPre P J I C co).wrap (gK P J I C co) (gH P J C co) id id:=by
 show denote table (geC P J I C co)=_
 have hf:(geC P J I C co).isFrame=true:=by unfold geC;rw[UY];rfl
 have e0:denote table (geC P J I C co)=(compTurn (geE P) 0 (.ref I) .none (Yy P J C co)).onRaise (leaving (Yy P J C co)):=by
  show (if (geC P J I C co).isFrame=true then (compTurn (geE P) 0 (.ref I) .none (Yy P J C co)).onRaise (leaving (Yy P J C co)) else (compTurn (geE P) 0 (.ref I) .none (Yy P J C co)).onRaise (fun x=>do noteFrame x (Yy P J C co);theTreesLotGoes x))=_
  rw[if_pos hf]
 have e1:compTurn (geE P) 0 (.ref I) .none (Yy P J C co)=gPre P J I C co >>= fun o=>match o with
   | none=>.pure (.done .next)
   | some v=>(do standAt (KB P).pos;let _ ←yieldOut (Yy P J C co) v;again (geC P J I C co)):=by
  have hc:geC P J I C co=.compLoop (.GeneratorExp (KB P) [⟨(gCl P).target,(gCl P).iter,[],0⟩] (geS P) (gPos P)) 0 (.ref I) .none (Yy P J C co):=by unfold geC;rw[UY]
  rw[hc,UY,compTurn_gen]
  generalize (Code.compLoop (.GeneratorExp (KB P) [⟨(gCl P).target,(gCl P).iter,[],0⟩] (geS P) (gPos P)) 0 (.ref I) .none (Yy P J C co))=CC
  unfold gPre
  have pb:∀ {α β:Type}(a:α)(f:α→Sem β),(pure a >>= f)=f a:=fun _ _=>rfl
  simp only[Z0F,List.forIn_nil,pb,if_true]
  rw[Q1,Q1]
  refine congrArg (fun f=>standAt (gCl P).iter.pos >>= f) (funext fun _=>?_)
  rw[Q1]
  refine congrArg (fun f=>pyNext (.ref I) >>= f) (funext fun o=>?_)
  cases o with
  | none=>rfl
  | some v =>
   show (assign (gCl P).target (Yy P J C co) v >>= fun _=>eval (KB P) (Yy P J C co) >>= fun v=>(standAt (KB P).pos >>= fun _=>yieldOut (Yy P J C co) v >>= fun _=>pure PUnit.unit) >>= fun _=>again CC)=(assign (gCl P).target (Yy P J C co) v >>= fun _=>eval (KB P) (Yy P J C co) >>= fun v=>pure (some v)) >>= fun o:Option Value=>(match o with | none=>.pure (.done .next) | some v=>(do standAt (KB P).pos;let _ ←yieldOut (Yy P J C co) v;again CC):Sem Fin)
   rw[Q1]
   refine congrArg (fun f=>assign (gCl P).target (Yy P J C co) v >>= f) (funext fun _=>?_)
   rw[Q1]
   refine congrArg (fun f=>eval (KB P) (Yy P J C co) >>= f) (funext fun v=>?_)
   show (standAt (KB P).pos >>= fun _=>yieldOut (Yy P J C co) v >>= fun _=>pure PUnit.unit) >>= (fun _=>again CC)=(standAt (KB P).pos >>= fun _=>yieldOut (Yy P J C co) v >>= fun _=>again CC)
   rw[Q1]
   refine congrArg (fun f=>standAt (KB P).pos >>= f) (funext fun _=>?_)
   rw[Q1]
   rfl
 rw[e0,e1,Sem.bind_eq_wrap',Sem.onRaise_eq_wrap,Sem.wrap_wrap]
 refine Sem.wrap_congr _ _ _ (fun o=>?_) (fun e=>?_)
 ·cases o with
  | none=>rfl
  | some v=>exact (Sem.onRaise_eq_wrap _ _).symm
 ·rfl
end
end
section
open Sem (wp finPost)
noncomputable def kG (P:Params)(J I C co:Nat):Resume→Sem Fin:=fun r=>((match r with
 | .send x=>(pure x:Sem Value)
 | .throw e=>raiseThrown e) >>= fun _=>(again (geC P J I C co):Sem Fin)).onRaise (leaving (Yy P J C co))
theorem Z2x(P:Params)(J I C co:Nat)(v:Value):gK P J I C co (some v)=.at (KB P).pos fun _=>.yield v false [] (kG P J I C co):=by
 have hs:(Yy P J C co).scope.isCoroutine=false:=by
  show (geS P).isCoroutine=false
  kernel_rfl
 have e:yieldOut (Yy P J C co) v=yieldValue v:=by
  unfold yieldOut
  rw[hs]
  rfl
 unfold gK
 dsimp only
 rw[e]
 rfl
theorem Z2c(P:Params)(J I C co:Nat):kG P J I C co (.send .none)=.pure (.again (geC P J I C co)):=rfl
theorem Km(Γ:Ctx):Γ.over []=Γ:=by cases Γ;rfl
noncomputable def gSt (P:Params)(J I C co:Nat):GenState:=.suspended (kG P J I C co) [] (geC P J I C co) (KB P).pos [] false
theorem Z2w{w:World}{P:Params}{J I C co:Nat}{Γ:Ctx}{p:Pos}{s:Shared}{Y:Value→Shared→Prop}{N:Shared→Prop}(hc:Γ.code=geC P J I C co)
  (h:wp (MD w) Γ (gT P J I C co) (finPost (MD w) Γ fun r s'=>match r with | .ok (.ret v)=>Y v s' | .ok .next=>N s' | _=>False) (EP (MD w) Γ fun r s'=>match r with | .ok (.ret v)=>Y v s' | .ok .next=>N s' | _=>False) p s) :
  ∃ e s'',Runs (MD w) Γ p ((MD w).den (geC P J I C co)) [] s e s''∧((∃ v,e=.susp v false [] (kG P J I C co) (geC P J I C co) (KB P).pos []∧Y v s'')∨(e=.ret (.ok .next)∧N s'')):=by
 rw[Z2G]
 have hw:=gT_pre h
 refine runs_wrap_of_wp (fs:=[]) (gK P J I C co) (gH P J C co) id id (gPre P J I C co) (by rw[Km];exact hw) (fun o p' s' hx=>?_) (fun x p' s' hx=>?_)
 ·cases o with
  | none=>exact ⟨_,_,Runs.done,.inr ⟨rfl,hx⟩⟩
  | some v =>
   rw[Z2x]
   refine ⟨_,_,Runs.at Runs.yield,.inl ⟨v,?_,hx⟩⟩
   rw[hc]
 ·unfold EP at hx
  have hwc:YQ Γ.code=true:=by rw[hc];rfl
  rw[hwc] at hx
  dsimp only at hx
  have hf:(geC P J I C co).isFrame=true:=by unfold geC;rw[UY];rfl
  have hh:hnd Γ.code x=leaving (Yy P J C co) x:=by
   rw[hc]
   show (if (geC P J I C co).isFrame=true then leaving (Yy P J C co) x else (do noteFrame x (Yy P J C co);theTreesLotGoes x))=_
   rw[if_pos hf]
  rw[hh] at hx
  unfold gH
  rw[Sem.bind_eq_wrap]
  exact runs_wrap_of_wp (fs:=[]) _ _ id id (leaving (Yy P J C co) x) (by rw[Km];exact hx) (fun _ _ _ h=>False.elim h) (fun _ _ _ h=>False.elim h)
theorem Kl{g:Array GenState}{a b:GenState}:(g.push a).setIfInBounds g.size b=g.push b:=by
 apply Array.ext'
 simp
theorem YE{g:Array GenState}{a:GenState}:(g.push a)[g.size]?=some a:=by simp
noncomputable def Qd (gi:Nat)(B:Stk→Stk)(g0:Array GenState)(st:GenState)(it:FItem)(out:Nat→Nat→(Nat→Nat)→GOut):GItem:=⟨gi,B,it.pre,out,fun _=>g0.push st,it.preS⟩
theorem Ug(P:Params)(J I C co:Nat):(geC P J I C co).quiet=true:=QW _ fun _ _ h=>by unfold geC at h;cases h
theorem U0{w:World}{J I C co:Nat}{B:Stk→Stk}{g0:Array GenState}{st:GenState}{it:FItem}{out:Nat→Nat→(Nat→Nat)→GOut}
  (h:OKE w it (gT w.params J I C co))(hc:it.c=geC w.params J I C co)(her:it.er=erC)(hB:it.B=B)(hgi:it.gin=fun g=>g)(hgo:∀ sz tk l,(it.out sz tk l).g=fun g=>g)
  (hout:∀ sz tk l,(out sz tk l).led=(it.out sz tk l).led∧(out sz tk l).ledS=(it.out sz tk l).ledS∧(out sz tk l).sz=(it.out sz tk l).sz∧(out sz tk l).tk=(it.out sz tk l).tk ∧
   ((∃ v,(it.out sz tk l).r=.ok (.ret v)∧(out sz tk l).r=.yielded v∧(out sz tk l).g=fun _=>g0.push (gSt w.params J I C co))∨((it.out sz tk l).r=.ok .next∧(out sz tk l).r=.returned .none∧(out sz tk l).g=fun _=>g0.push .finished)))
  (Γ:Ctx)(p p₀:Pos)(s:Shared)(Rr:GenResult→Shared→Prop)(hh:Γ.handled=none)(hBB:B ((Γ.code,p)::Γ.below)=(Γ.code,p)::Γ.below)(hg:g0.push st=s.gens)
  (top:∀ a o,lk (KT0 w.params) a=some o→s.heap.get? a=some o)(nd:(it.all.map (·.1)).Nodup)(own:∀ q∈it.all,lk (KT0 w.params) q.1=none)(here:∀ q∈it.all,s.heap.get? q.1=some q.2)
  (k:∀ l h',Left0 it.all (out s.heap.objs.size s.toks l).all (out s.heap.objs.size s.toks l).sz s.heap h'→Rr (out s.heap.objs.size s.toks l).r ⟨h',(out s.heap.objs.size s.toks l).g s.gens,s.drawn,(out s.heap.objs.size s.toks l).tk,s.os⟩) :
  ∃ e₁ s₁,Runs (MD w) (Γ.wake (geC w.params J I C co) p) p₀ ((MD w).den (geC w.params J I C co)) [] (s.setGen g0.size .running) e₁ s₁∧e₁.quiet=true∧Rr e₁.result (s₁.setGen g0.size e₁.genState):=by
 have hsg:∀ x,(s.setGen g0.size x).gens=g0.push x:=fun x=>by
  show s.gens.setIfInBounds g0.size x=_
  rw[←hg,Kl]
 have hw:=h (Γ.wake (geC w.params J I C co) p) p₀ (s.setGen g0.size .running) (fun r s'=>match r with
   | .ok (.ret v)=>Rr (.yielded v) (s'.setGen g0.size (gSt w.params J I C co))
   | .ok .next=>Rr (.returned .none) (s'.setGen g0.size .finished)
   | _=>False) (by rw[hc,her];rfl) hh (by rw[hB];exact hBB) (by rw[hgi]) top nd own here (fun l h' L=>by
  obtain ⟨o1,o2,o3,o4,o5⟩:=hout s.heap.objs.size s.toks l
  have key:=k l h' (by
   show Left0 it.all ((out s.heap.objs.size s.toks l).led++(out s.heap.objs.size s.toks l).ledS) (out s.heap.objs.size s.toks l).sz s.heap h'
   rw[o1,o2,o3]
   exact L)
  have e1:(s.setGen g0.size .running).gens=g0.push .running:=hsg .running
  show (match (it.out s.heap.objs.size s.toks l).r with
   | .ok (.ret v)=>Rr (.yielded v) (Shared.setGen _ g0.size (gSt w.params J I C co))
   | .ok .next=>Rr (.returned .none) (Shared.setGen _ g0.size .finished)
   | _=>False)
  rcases o5 with ⟨v,r1,r2,r3⟩ | ⟨r1,r2,r3⟩
  ·rw[r1]
   dsimp only
   rw[r2,r3,o4] at key
   show Rr (.yielded v) ⟨h',((it.out s.heap.objs.size s.toks l).g (s.setGen g0.size .running).gens).setIfInBounds g0.size (gSt w.params J I C co),s.drawn,(it.out s.heap.objs.size s.toks l).tk,s.os⟩
   rw[hgo,e1,Kl]
   exact key
  ·rw[r1]
   dsimp only
   rw[r2,r3,o4] at key
   show Rr (.returned .none) ⟨h',((it.out s.heap.objs.size s.toks l).g (s.setGen g0.size .running).gens).setIfInBounds g0.size .finished,s.drawn,(it.out s.heap.objs.size s.toks l).tk,s.os⟩
   rw[hgo,e1,Kl]
   exact key)
 obtain ⟨e,s'',hr,hy⟩:=Z2w (Y:=fun v s'=>Rr (.yielded v) (s'.setGen g0.size (gSt w.params J I C co))) (N:=fun s'=>Rr (.returned .none) (s'.setGen g0.size .finished)) (Γ:=Γ.wake (geC w.params J I C co) p) rfl hw
 rcases hy with ⟨v,rfl,hy⟩ | ⟨rfl,hy⟩
 ·exact ⟨_,_,hr,rfl,hy⟩
 ·exact ⟨_,_,hr,rfl,hy⟩
theorem KL{w:World}{J I C co:Nat}{B:Stk→Stk}{g0:Array GenState}{it:FItem}{out:Nat→Nat→(Nat→Nat)→GOut}
  (h:OKE w it (gT w.params J I C co))(hc:it.c=geC w.params J I C co)(her:it.er=erC)(hB:it.B=B)(hgi:it.gin=fun g=>g)(hgo:∀ sz tk l,(it.out sz tk l).g=fun g=>g)
  (hout:∀ sz tk l,(out sz tk l).led=(it.out sz tk l).led∧(out sz tk l).ledS=(it.out sz tk l).ledS∧(out sz tk l).sz=(it.out sz tk l).sz∧(out sz tk l).tk=(it.out sz tk l).tk ∧
   ((∃ v,(it.out sz tk l).r=.ok (.ret v)∧(out sz tk l).r=.yielded v∧(out sz tk l).g=fun _=>g0.push (gSt w.params J I C co))∨((it.out sz tk l).r=.ok .next∧(out sz tk l).r=.returned .none∧(out sz tk l).g=fun _=>g0.push .finished))) :
  (Qd g0.size B g0 (gSt w.params J I C co) it out).Valid (MD w) (KT0 w.params):=by
 intro Γ p s Rr hh hBB hg top nd own here k
 obtain ⟨e₁,s₁,hr,hq,hR⟩:=U0 h hc her hB hgi hgo hout Γ p (KB w.params).pos s Rr hh hBB hg top nd own here k
 refine ⟨e₁.result,s₁.setGen g0.size e₁.genState,?_,hR⟩
 unfold Wakes
 have e1:s.gens[(Qd g0.size B g0 (gSt w.params J I C co) it out).gi]?=some (gSt w.params J I C co):=by rw[←show g0.push (gSt w.params J I C co)=s.gens from hg];exact YE
 rw[e1]
 refine ⟨e₁,s₁,?_,hq,rfl,rfl⟩
 rw[Z2c]
 exact Runs.again (Ug ..) hr
noncomputable def gC0 (P:Params)(J I C co:Nat):Code:=.compStart (geE P) 0 (.ref I) .none (Yy P J C co)
noncomputable def sPre (P:Params)(I:Nat):Sem Value:=ask >>= fun x=>if x.params.followText "comprehension-iter-twice"=true then pure (.ref I) else (rule "comprehension.iter-twice" >>= fun _=>standAt (gCl P).iter.pos >>= fun _=>pyIter (.ref I))
theorem UD(P:Params)(J I C co:Nat):compStart (geE P) 0 (.ref I) .none (Yy P J C co)=sPre P I >>= fun v=>again (.compLoop (geE P) 0 v .none (Yy P J C co)):=by
 have h:compStart (geE P) 0 (.ref I) .none (Yy P J C co)=(ask >>= fun x=>if x.params.followText "comprehension-iter-twice"=true then again (.compLoop (geE P) 0 (.ref I) .none (Yy P J C co)) else (rule "comprehension.iter-twice" >>= fun _=>standAt (gCl P).iter.pos >>= fun _=>pyIter (.ref I) >>= fun v=>again (.compLoop (geE P) 0 v .none (Yy P J C co)))):=by
  rw[UY]
  rfl
 rw[h]
 unfold sPre
 rw[Q1]
 refine congrArg (fun f=>ask >>= f) (funext fun x=>?_)
 by_cases hx:x.params.followText "comprehension-iter-twice"=true
 ·rw[if_pos hx,if_pos hx];rfl
 ·rw[if_neg hx,if_neg hx,Q1]
  refine congrArg (fun f=>rule "comprehension.iter-twice" >>= f) (funext fun _=>?_)
  rw[Q1]
theorem WB{w:World}{P:Params}{I:Nat}{A:Around}{s:Shared}{o:Obj}(ho:s.heap.get? I=some o)(hcls:o.cls=.type "list_iterator"):wpAny (MD w) A (sPre P I) (fun v s'=>v=.ref I∧s'=s) (fun _ _=>False) s:=by
 unfold sPre
 have hT:s.TypeIs (.ref I) "list_iterator":=⟨_,ho,hcls⟩
 refine wpAny_bind ?_
 intro Γ p hΓ
 show wp _ _ (Sem.ask Sem.pure) _ _ p s
 rw[Sem.wp_ask,Sem.wp_pure]
 show wpAny (MD w) A (if _=true then pure (Value.ref I) else _) (fun v s'=>v=.ref I∧s'=s) (fun _ _=>False) s
 refine wpAny_ite_split (fun _=>wpAny_pure ⟨rfl,rfl⟩) (fun _=>?_)
 refine wpAny_bind (wpAny_rule (wpAny_bind (wpAny_standAt ?_)))
 exact wpAny_pyIter_slot hT slot_listiter_iter (wpAny_call_entry slot_listiter_iter hT entry_listiter_iter (wpAny_pure ⟨_,rfl,"list_iterator",_,hT,slot_listiter_next.lookup,rfl,rfl⟩) (args_listiter_iter _))
theorem Np{w:World}(P:Params)(J I C co:Nat):(MD w).den (gC0 P J I C co)=(sPre P I).wrap (fun v=>again (.compLoop (geE P) 0 v .none (Yy P J C co))) (gH P J C co) id id:=by
 have hf:(gC0 P J I C co).isFrame=true:=by unfold gC0;rw[UY];rfl
 have e0:(MD w).den (gC0 P J I C co)=(compStart (geE P) 0 (.ref I) .none (Yy P J C co)).onRaise (leaving (Yy P J C co)):=by
  show (if (gC0 P J I C co).isFrame=true then (compStart (geE P) 0 (.ref I) .none (Yy P J C co)).onRaise (leaving (Yy P J C co)) else (compStart (geE P) 0 (.ref I) .none (Yy P J C co)).onRaise (fun x=>do noteFrame x (Yy P J C co);standAt theWindowsPlace))=_
  rw[if_pos hf]
 rw[e0,UD,Sem.bind_eq_wrap',Sem.onRaise_eq_wrap,Sem.wrap_wrap]
 exact Sem.wrap_congr _ _ _ (fun o=>rfl) (fun e=>rfl)
theorem Uy{w:World}{J I C co:Nat}{B:Stk→Stk}{g0:Array GenState}{it:FItem}{out:Nat→Nat→(Nat→Nat)→GOut}{na i:Nat}
  (h:OKE w it (gT w.params J I C co))(hc:it.c=geC w.params J I C co)(her:it.er=erC)(hB:it.B=B)(hgi:it.gin=fun g=>g)(hgo:∀ sz tk l,(it.out sz tk l).g=fun g=>g)
  (hit:(I,itO "list_iterator" (.ref na) i)∈it.pre)
  (hout:∀ sz tk l,(out sz tk l).led=(it.out sz tk l).led∧(out sz tk l).ledS=(it.out sz tk l).ledS∧(out sz tk l).sz=(it.out sz tk l).sz∧(out sz tk l).tk=(it.out sz tk l).tk ∧
   ((∃ v,(it.out sz tk l).r=.ok (.ret v)∧(out sz tk l).r=.yielded v∧(out sz tk l).g=fun _=>g0.push (gSt w.params J I C co))∨((it.out sz tk l).r=.ok .next∧(out sz tk l).r=.returned .none∧(out sz tk l).g=fun _=>g0.push .finished))) :
  (Qd g0.size B g0 (.fresh (gC0 w.params J I C co)) it out).Valid (MD w) (KT0 w.params):=by
 intro Γ p s Rr hh hBB hg top nd own here k
 have run:∀ p₀,∃ e₁ s₁,Runs (MD w) (Γ.wake (geC w.params J I C co) p) p₀ ((MD w).den (geC w.params J I C co)) [] (s.setGen g0.size .running) e₁ s₁∧e₁.quiet=true∧Rr e₁.result (s₁.setGen g0.size e₁.genState):=fun p₀ =>
  U0 h hc her hB hgi hgo hout Γ p p₀ s Rr hh hBB hg top nd own here k
 have ho:=here _ (List.mem_append_left _ hit)
 have hs:=WB (w:=w) (P:=w.params) (A:=arOf (Γ.wake (gC0 w.params J I C co) p)) (s:=s.setGen g0.size .running) ho rfl (Γ.wake (gC0 w.params J I C co) p) p (Kz _)
 obtain ⟨e,s'',hr,hq,hR⟩:=runs_wrap_of_wp (Γ:=Γ.wake (gC0 w.params J I C co) p) (fs:=[]) (Φ:=fun e₁ s₁=>e₁.quiet=true∧Rr e₁.result (s₁.setGen g0.size e₁.genState)) (fun v=>again (.compLoop (geE w.params) 0 v .none (Yy w.params J C co))) (gH w.params J C co) id id (sPre w.params I) (by rw[Km];exact hs) (fun v p' s' hx=>by
   obtain ⟨rfl,rfl⟩:=hx
   obtain ⟨e₁,s₁,hr,hq,hR⟩:=run p'
   exact ⟨e₁,s₁,Runs.again (Ug w.params J I C co) hr,hq,hR⟩) (fun _ _ _ h=>False.elim h)
 refine ⟨e.result,s''.setGen g0.size e.genState,?_,hR⟩
 unfold Wakes
 have e1:s.gens[(Qd g0.size B g0 (.fresh (gC0 w.params J I C co)) it out).gi]?=some (.fresh (gC0 w.params J I C co)):=by rw[←show g0.push (.fresh (gC0 w.params J I C co))=s.gens from hg];exact YE
 rw[e1]
 refine ⟨e,s'',?_,hq,rfl,rfl⟩
 rw[Np]
 exact hr
end
end
section
open PySem PySem.Builtin PySem.W
noncomputable def gfr (P:Params)(F:Nat→Nat)(I:Nat)(o:Option (Str × Nat)):Obj:=match o with
 | none=>frO [en P ".0" (F 0) (.ref I)] 1
 | some x=>frO [en P ".0" (F 0) (.ref I),en P "arg" (F 1) (.str x.1 x.2)] 2
noncomputable def shG (P:Params)(X:Fr)(m:Bool):List Knd:=.b "list.extend.loop"::.b "str.join"::.f (ZG P 758 X.s)::shJ P X m
noncomputable def Uq (P:Params)(X:Fr)(m:Bool)(I C co na:Nat)(nv:Array Value)(nn i:Nat)(F:Nat→Nat)(o:Option (Str × Nat))(s r:Str):FItem where
 c:=geC P X.s I C co
 B:=nrm (.b "generator.__next__"::shG P X m)
 pre:=[(I,itO "list_iterator" (.ref na) i),(na,Z0 nv nn),(C,gfr P F I o)]
 out:=fun _ _ l=>⟨.ok (.ret (.str r (l 2))),[(I,itO "list_iterator" (.ref na) (i+1)),(na,Z0 nv nn),(C,gfr P (fun j=>l (j+10)) I (some (s,l 3)))],l 0,l 1,fun g=>g,[]⟩
noncomputable def Z2k (P:Params)(X:Fr)(m:Bool)(I C co na:Nat)(nv:Array Value)(nn i:Nat)(F:Nat→Nat)(o:Option (Str × Nat)):FItem where
 c:=geC P X.s I C co
 B:=nrm (.b "generator.__next__"::shG P X m)
 pre:=[(I,itO "list_iterator" (.ref na) i),(na,Z0 nv nn),(C,gfr P F I o)]
 out:=fun _ _ l=>⟨.ok .next,[(na,Z0 nv nn)],l 0,l 1,fun g=>g,[]⟩
section
variable{b b2:Bool}{w:World}(hw:Wd b b2 w)(X:Fr)(I C co na:Nat)(nv:Array Value)(nn i:Nat)(F:Nat→Nat)
include b b2 w hw X I C co na nv nn i F
theorem gy_10(s r:Str)(st:Nat)(hx:nv[i]?=some (.str s st))(hq:OK w (Kx w.params X true I C co s r)):OKE w (Uq w.params X true I C co na nv nn i F none s r) (gT w.params X.s I C co):=by
 refine YM hw.w0 _ (gT w.params X.s I C co) fun c B p sz tk g he=>?_
 obtain rfl:=Zg he
 refine ⟨69,.item [] (ZX I na nv nn i (Value.str s st)) (fun l0=>.item [] (Kx w.params X true I C co s r) (fun l1=>.fin [])),(dg 10 0x30230001),[0,0,0],0,fun ls=>(fun l0 l1=>fl [l1 0,l1 1,l1 2,st,0,0,0,0,0,0,F 0,tk]) (ls 0) (ls 1),?_,fun ls=>?_⟩
 ·exact ⟨(fun x hx=>(nomatch hx)),ZE hx,fun l0=>⟨(fun x hx=>(nomatch hx)),hq,fun l1=>(fun x hx=>(nomatch hx))⟩⟩
 ·kernel_rfl
theorem gy_11(s0:Str)(t0:Nat)(s r:Str)(st:Nat)(hx:nv[i]?=some (.str s st))(hq:OK w (Kx w.params X true I C co s r)):OKE w (Uq w.params X true I C co na nv nn i F (some (s0,t0)) s r) (gT w.params X.s I C co):=by
 refine YM hw.w0 _ (gT w.params X.s I C co) fun c B p sz tk g he=>?_
 obtain rfl:=Zg he
 refine ⟨69,.item [] (ZX I na nv nn i (Value.str s st)) (fun l0=>.item [] (Kx w.params X true I C co s r) (fun l1=>.fin [])),(dg 10 0x30230001),[0,0,0],0,fun ls=>(fun l0 l1=>fl [l1 0,l1 1,l1 2,st,0,0,0,0,0,0,F 0,F 1]) (ls 0) (ls 1),?_,fun ls=>?_⟩
 ·exact ⟨(fun x hx=>(nomatch hx)),ZE hx,fun l0=>⟨(fun x hx=>(nomatch hx)),hq,fun l1=>(fun x hx=>(nomatch hx))⟩⟩
 ·kernel_rfl
theorem gz_1(s0:Str)(t0:Nat)(hx:nv.size≤i):OKE w (Z2k w.params X true I C co na nv nn i F (some (s0,t0))) (gT w.params X.s I C co):=by
 refine YM hw.w0 _ (gT w.params X.s I C co) fun c B p sz tk g he=>?_
 obtain rfl:=Zg he
 refine ⟨55,.item [] (K4 I na nv nn i) (fun l0=>.fin []),[1,0,0,0,1],[3],0,fun ls=>(fun l0=>fl [sz+2,tk]) (ls 0),?_,fun ls=>?_⟩
 ·exact ⟨(fun x hx=>(nomatch hx)),Jm hx,fun l0=>(fun x hx=>(nomatch hx))⟩
 ·kernel_rfl
theorem gy_00(s r:Str)(st:Nat)(hx:nv[i]?=some (.str s st))(hq:OK w (Kx w.params X false I C co s r)):OKE w (Uq w.params X false I C co na nv nn i F none s r) (gT w.params X.s I C co):=by
 refine YM hw.w0 _ (gT w.params X.s I C co) fun c B p sz tk g he=>?_
 obtain rfl:=Zg he
 refine ⟨69,.item [] (ZX I na nv nn i (Value.str s st)) (fun l0=>.item [] (Kx w.params X false I C co s r) (fun l1=>.fin [])),(dg 10 0x30230001),[0,0,0],0,fun ls=>(fun l0 l1=>fl [l1 0,l1 1,l1 2,st,0,0,0,0,0,0,F 0,tk]) (ls 0) (ls 1),?_,fun ls=>?_⟩
 ·exact ⟨(fun x hx=>(nomatch hx)),ZE hx,fun l0=>⟨(fun x hx=>(nomatch hx)),hq,fun l1=>(fun x hx=>(nomatch hx))⟩⟩
 ·kernel_rfl
theorem gy_01(s0:Str)(t0:Nat)(s r:Str)(st:Nat)(hx:nv[i]?=some (.str s st))(hq:OK w (Kx w.params X false I C co s r)):OKE w (Uq w.params X false I C co na nv nn i F (some (s0,t0)) s r) (gT w.params X.s I C co):=by
 refine YM hw.w0 _ (gT w.params X.s I C co) fun c B p sz tk g he=>?_
 obtain rfl:=Zg he
 refine ⟨69,.item [] (ZX I na nv nn i (Value.str s st)) (fun l0=>.item [] (Kx w.params X false I C co s r) (fun l1=>.fin [])),(dg 10 0x30230001),[0,0,0],0,fun ls=>(fun l0 l1=>fl [l1 0,l1 1,l1 2,st,0,0,0,0,0,0,F 0,F 1]) (ls 0) (ls 1),?_,fun ls=>?_⟩
 ·exact ⟨(fun x hx=>(nomatch hx)),ZE hx,fun l0=>⟨(fun x hx=>(nomatch hx)),hq,fun l1=>(fun x hx=>(nomatch hx))⟩⟩
 ·kernel_rfl
theorem gz_0(s0:Str)(t0:Nat)(hx:nv.size≤i):OKE w (Z2k w.params X false I C co na nv nn i F (some (s0,t0))) (gT w.params X.s I C co):=by
 refine YM hw.w0 _ (gT w.params X.s I C co) fun c B p sz tk g he=>?_
 obtain rfl:=Zg he
 refine ⟨55,.item [] (K4 I na nv nn i) (fun l0=>.fin []),[1,0,0,0,1],[3],0,fun ls=>(fun l0=>fl [sz+2,tk]) (ls 0),?_,fun ls=>?_⟩
 ·exact ⟨(fun x hx=>(nomatch hx)),Jm hx,fun l0=>(fun x hx=>(nomatch hx))⟩
 ·kernel_rfl
end
noncomputable def UX (gi t1 t2:Nat)(q:Str):Obj:=⟨.type "generator",none,.fields #[.int (Int.ofNat gi) 0,.str (Str.ofString "<genexpr>") t1,.str q t2],#[]⟩
noncomputable def gY (P:Params)(g0:Array GenState)(st':GenState)(I na C:Nat)(nv:Array Value)(nn i:Nat)(s r:Str):Nat→Nat→(Nat→Nat)→GOut:=fun _ _ l=>⟨.yielded (.str r (l 2)),[(I,itO "list_iterator" (.ref na) (i+1)),(na,Z0 nv nn),(C,gfr P (fun j=>l (j+10)) I (some (s,l 3)))],l 0,l 1,fun _=>g0.push st',[]⟩
noncomputable def gZ (g0:Array GenState)(na:Nat)(nv:Array Value)(nn:Nat):Nat→Nat→(Nat→Nat)→GOut:=fun _ _ l=>⟨.returned .none,[(na,Z0 nv nn)],l 0,l 1,fun _=>g0.push .finished,[]⟩
noncomputable def W6 (P:Params)(X:Fr)(m:Bool)(gn t1 t2:Nat)(q:Str)(I C co na:Nat)(nv:Array Value)(nn i:Nat)(F:Nat→Nat)(o:Option (Str × Nat))(g0:Array GenState)(st:GenState)(s r:Str):FItem where
 c:=.call (.builtin "generator.__next__") ⟨[.ref gn],[]⟩
 B:=nrm (shG P X m)
 pre:=[(gn,UX g0.size t1 t2 q),(I,itO "list_iterator" (.ref na) i),(na,Z0 nv nn),(C,gfr P F I o)]
 out:=fun _ _ l=>⟨.ok (.ret (.str r (l 2))),[(gn,UX g0.size t1 t2 q),(I,itO "list_iterator" (.ref na) (i+1)),(na,Z0 nv nn),(C,gfr P (fun j=>l (j+10)) I (some (s,l 3)))],l 0,l 1,fun _=>g0.push (gSt P X.s I C co),[]⟩
 gin:=fun _=>g0.push st
noncomputable def itGF (P:Params)(X:Fr)(m:Bool)(gn t1 t2:Nat)(q:Str)(I C co na:Nat)(nv:Array Value)(nn i:Nat)(F:Nat→Nat)(o:Option (Str × Nat))(g0:Array GenState):FItem where
 c:=.call (.builtin "generator.__next__") ⟨[.ref gn],[]⟩
 B:=nrm (shG P X m)
 pre:=[(gn,UX g0.size t1 t2 q),(I,itO "list_iterator" (.ref na) i),(na,Z0 nv nn),(C,gfr P F I o)]
 out:=fun _ _ l=>⟨.error (.ref (l 2)),[(l 2,stO (l 3)),(na,Z0 nv nn)],l 0,l 1,fun _=>g0.push .finished,[]⟩
 gin:=fun _=>g0.push (gSt P X.s I C co)
section
variable{b b2:Bool}{w:World}(hw:Wd b b2 w)(X:Fr)(gn t1 t2:Nat)(q:Str)(I C co na:Nat)(nv:Array Value)(nn i:Nat)(F:Nat→Nat)
include b b2 w hw X gn t1 t2 q I C co na nv nn i F
theorem gn_f1(g0:Array GenState)(s r:Str)(hv:(Qd g0.size (nrm (.b "generator.__next__"::shG w.params X true)) g0 (.fresh (gC0 w.params X.s I C co)) (Uq w.params X true I C co na nv nn i F none s r) (gY w.params g0 (gSt w.params X.s I C co) I na C nv nn i s r)).Valid (MD w) (KT0 w.params)):OK w (W6 w.params X true gn t1 t2 q I C co na nv nn i F none g0 (.fresh (gC0 w.params X.s I C co)) s r):=by
 refine Z1 hw.w0 _ fun c B p sz tk g he=>?_
 obtain ⟨bs,rfl,hb⟩:=Z3 he
 obtain ⟨v1,rfl,e1⟩:=Z4 hb
 obtain rfl:=Z5 e1
 refine ⟨58,.genS [] ({ st:=GenState.fresh (gC0 w.params X.s I C co),gg:=g0.push (GenState.fresh (gC0 w.params X.s I C co)),gi:=g0.size }) (.wake [] (Qd g0.size (nrm (Knd.b "generator.__next__"::shG w.params X true)) g0 (GenState.fresh (gC0 w.params X.s I C co)) (Uq w.params X true I C co na nv nn i F none s r) (gY w.params g0 (gSt w.params X.s I C co) I na C nv nn i s r)) (fun l0=>.fin [])),(dg 7 0x111014ff1),[3,0,0,0],0,fun ls=>ls 0,?_,fun ls=>?_⟩
 ·exact ⟨(fun x hx=>(nomatch hx)),YE,⟨(fun x hx=>(nomatch hx)),hv,fun l0=>(fun x hx=>(nomatch hx))⟩⟩
 ·kernel_rfl
theorem gn_s1(s0:Str)(t0:Nat)(g0:Array GenState)(s r:Str)(hv:(Qd g0.size (nrm (.b "generator.__next__"::shG w.params X true)) g0 (gSt w.params X.s I C co) (Uq w.params X true I C co na nv nn i F (some (s0,t0)) s r) (gY w.params g0 (gSt w.params X.s I C co) I na C nv nn i s r)).Valid (MD w) (KT0 w.params)):OK w (W6 w.params X true gn t1 t2 q I C co na nv nn i F (some (s0,t0)) g0 (gSt w.params X.s I C co) s r):=by
 refine Z1 hw.w0 _ fun c B p sz tk g he=>?_
 obtain ⟨bs,rfl,hb⟩:=Z3 he
 obtain ⟨v1,rfl,e1⟩:=Z4 hb
 obtain rfl:=Z5 e1
 refine ⟨58,.genS [] ({ st:=gSt w.params X.s I C co,gg:=g0.push (gSt w.params X.s I C co),gi:=g0.size }) (.wake [] (Qd g0.size (nrm (Knd.b "generator.__next__"::shG w.params X true)) g0 (gSt w.params X.s I C co) (Uq w.params X true I C co na nv nn i F (some (s0,t0)) s r) (gY w.params g0 (gSt w.params X.s I C co) I na C nv nn i s r)) (fun l0=>.fin [])),(dg 7 0x111014ff1),[3,0,0,0],0,fun ls=>ls 0,?_,fun ls=>?_⟩
 ·exact ⟨(fun x hx=>(nomatch hx)),YE,⟨(fun x hx=>(nomatch hx)),hv,fun l0=>(fun x hx=>(nomatch hx))⟩⟩
 ·kernel_rfl
theorem gn_e1(s0:Str)(t0:Nat)(g0:Array GenState)(hv:(Qd g0.size (nrm (.b "generator.__next__"::shG w.params X true)) g0 (gSt w.params X.s I C co) (Z2k w.params X true I C co na nv nn i F (some (s0,t0))) (gZ g0 na nv nn)).Valid (MD w) (KT0 w.params)):OK w (itGF w.params X true gn t1 t2 q I C co na nv nn i F (some (s0,t0)) g0):=by
 refine Z1 hw.w0 _ fun c B p sz tk g he=>?_
 obtain ⟨bs,rfl,hb⟩:=Z3 he
 obtain ⟨v1,rfl,e1⟩:=Z4 hb
 obtain rfl:=Z5 e1
 refine ⟨61,.genS [] ({ st:=gSt w.params X.s I C co,gg:=g0.push (gSt w.params X.s I C co),gi:=g0.size }) (.wake [] (Qd g0.size (nrm (Knd.b "generator.__next__"::shG w.params X true)) g0 (gSt w.params X.s I C co) (Z2k w.params X true I C co na nv nn i F (some (s0,t0))) (gZ g0 na nv nn)) (fun l0=>.fin [])),(dg 7 0x111014ff1),[0,1],0,fun ls=>(fun l0=>fl [l0 0+2,l0 1,l0 0+1,l0 0]) (ls 0),?_,fun ls=>?_⟩
 ·exact ⟨(fun x hx=>(nomatch hx)),YE,⟨(fun x hx=>(nomatch hx)),hv,fun l0=>(fun x hx=>(nomatch hx))⟩⟩
 ·kernel_rfl
theorem gn_f0(g0:Array GenState)(s r:Str)(hv:(Qd g0.size (nrm (.b "generator.__next__"::shG w.params X false)) g0 (.fresh (gC0 w.params X.s I C co)) (Uq w.params X false I C co na nv nn i F none s r) (gY w.params g0 (gSt w.params X.s I C co) I na C nv nn i s r)).Valid (MD w) (KT0 w.params)):OK w (W6 w.params X false gn t1 t2 q I C co na nv nn i F none g0 (.fresh (gC0 w.params X.s I C co)) s r):=by
 refine Z1 hw.w0 _ fun c B p sz tk g he=>?_
 obtain ⟨bs,rfl,hb⟩:=Z3 he
 obtain ⟨v1,rfl,e1⟩:=Z4 hb
 obtain rfl:=Z5 e1
 refine ⟨58,.genS [] ({ st:=GenState.fresh (gC0 w.params X.s I C co),gg:=g0.push (GenState.fresh (gC0 w.params X.s I C co)),gi:=g0.size }) (.wake [] (Qd g0.size (nrm (Knd.b "generator.__next__"::shG w.params X false)) g0 (GenState.fresh (gC0 w.params X.s I C co)) (Uq w.params X false I C co na nv nn i F none s r) (gY w.params g0 (gSt w.params X.s I C co) I na C nv nn i s r)) (fun l0=>.fin [])),(dg 7 0x111014ff1),[3,0,0,0],0,fun ls=>ls 0,?_,fun ls=>?_⟩
 ·exact ⟨(fun x hx=>(nomatch hx)),YE,⟨(fun x hx=>(nomatch hx)),hv,fun l0=>(fun x hx=>(nomatch hx))⟩⟩
 ·kernel_rfl
theorem gn_s0(s0:Str)(t0:Nat)(g0:Array GenState)(s r:Str)(hv:(Qd g0.size (nrm (.b "generator.__next__"::shG w.params X false)) g0 (gSt w.params X.s I C co) (Uq w.params X false I C co na nv nn i F (some (s0,t0)) s r) (gY w.params g0 (gSt w.params X.s I C co) I na C nv nn i s r)).Valid (MD w) (KT0 w.params)):OK w (W6 w.params X false gn t1 t2 q I C co na nv nn i F (some (s0,t0)) g0 (gSt w.params X.s I C co) s r):=by
 refine Z1 hw.w0 _ fun c B p sz tk g he=>?_
 obtain ⟨bs,rfl,hb⟩:=Z3 he
 obtain ⟨v1,rfl,e1⟩:=Z4 hb
 obtain rfl:=Z5 e1
 refine ⟨58,.genS [] ({ st:=gSt w.params X.s I C co,gg:=g0.push (gSt w.params X.s I C co),gi:=g0.size }) (.wake [] (Qd g0.size (nrm (Knd.b "generator.__next__"::shG w.params X false)) g0 (gSt w.params X.s I C co) (Uq w.params X false I C co na nv nn i F (some (s0,t0)) s r) (gY w.params g0 (gSt w.params X.s I C co) I na C nv nn i s r)) (fun l0=>.fin [])),(dg 7 0x111014ff1),[3,0,0,0],0,fun ls=>ls 0,?_,fun ls=>?_⟩
 ·exact ⟨(fun x hx=>(nomatch hx)),YE,⟨(fun x hx=>(nomatch hx)),hv,fun l0=>(fun x hx=>(nomatch hx))⟩⟩
 ·kernel_rfl
theorem gn_e0(s0:Str)(t0:Nat)(g0:Array GenState)(hv:(Qd g0.size (nrm (.b "generator.__next__"::shG w.params X false)) g0 (gSt w.params X.s I C co) (Z2k w.params X false I C co na nv nn i F (some (s0,t0))) (gZ g0 na nv nn)).Valid (MD w) (KT0 w.params)):OK w (itGF w.params X false gn t1 t2 q I C co na nv nn i F (some (s0,t0)) g0):=by
 refine Z1 hw.w0 _ fun c B p sz tk g he=>?_
 obtain ⟨bs,rfl,hb⟩:=Z3 he
 obtain ⟨v1,rfl,e1⟩:=Z4 hb
 obtain rfl:=Z5 e1
 refine ⟨61,.genS [] ({ st:=gSt w.params X.s I C co,gg:=g0.push (gSt w.params X.s I C co),gi:=g0.size }) (.wake [] (Qd g0.size (nrm (Knd.b "generator.__next__"::shG w.params X false)) g0 (gSt w.params X.s I C co) (Z2k w.params X false I C co na nv nn i F (some (s0,t0))) (gZ g0 na nv nn)) (fun l0=>.fin [])),(dg 7 0x111014ff1),[0,1],0,fun ls=>(fun l0=>fl [l0 0+2,l0 1,l0 0+1,l0 0]) (ls 0),?_,fun ls=>?_⟩
 ·exact ⟨(fun x hx=>(nomatch hx)),YE,⟨(fun x hx=>(nomatch hx)),hv,fun l0=>(fun x hx=>(nomatch hx))⟩⟩
 ·kernel_rfl
end
end
section
open PySem PySem.Builtin.List PySem.W
section
open Sem (wp finPost)
theorem Desc.ontoG{K:List (Nat × Obj)}{M:Model}{pre rest:Led}{it'':FItem}{s s':Shared}{sz tk:Nat}{out:Nat→Nat→(Nat→Nat)→FOut}{Γ:Ctx}{p:Pos}{Rr:Result→Shared→Prop}
  {G:Array GenState}(D2:Desc ⟨K,s.heap,pre.map (·.1),G,s.drawn,s.os⟩ (it''.all++rest) sz tk s')(h0:it''.Valid M K)(ho:∀ l,out s.heap.objs.size s.toks l=it''.out s'.heap.objs.size s'.toks l)
  (hc:it''.er Γ.code=it''.c)(hh:Γ.handled=none)(hB:it''.B Γ.below=Γ.below)(hg:it''.gin G=G)(hgc:∀ l,(out s.heap.objs.size s.toks l).g s.gens=(it''.out s'.heap.objs.size s'.toks l).g G)
  (k:∀ l h',Left0 pre (out s.heap.objs.size s.toks l).all (out s.heap.objs.size s.toks l).sz s.heap h'→Rr (out s.heap.objs.size s.toks l).r ⟨h',(out s.heap.objs.size s.toks l).g s.gens,s.drawn,(out s.heap.objs.size s.toks l).tk,s.os⟩) :
  wpCode M Γ Rr p s':=by
 have nd2:=D2.nodup
 rw[List.map_append,List.nodup_append] at nd2
 have eg:s'.gens=G:=D2.gens
 have ed:s'.drawn=s.drawn:=D2.drawn
 have eo:s'.os=s.os:=D2.os
 refine h0 Γ p s' Rr hc hh hB (by rw[eg];exact hg) D2.top nd2.1 (fun q hq=>D2.own q (List.mem_append_left _ hq)) (fun q hq=>D2.here q (List.mem_append_left _ hq)) fun l h2 L=>?_
 have key:=k l h2 (by
  obtain ⟨f1,f2,f3,f4,f5,f6⟩:=L
  rw[←ho l] at f2 f3 f4 f5 f6
  have le:s.heap.objs.size≤s'.heap.objs.size:=by rw[D2.size];exact D2.old
  refine ⟨fun a x hx hn=>f1 a x (D2.frame a x hx hn) fun hm=>?_,f2,f3,fun q hq=>?_,f5,Nat.le_trans le f6⟩
  ·obtain ⟨q,hq,e⟩:=List.mem_map.mp hm
   rcases D2.base q (List.mem_append_left _ hq) with hb | hb
   ·exact hn (e▸hb)
   ·exact absurd (Heap.lt_size hx) (Nat.not_lt.mpr (e▸hb))
  ·rcases f4 q hq with hb | hb
   ·obtain ⟨r,hr,e⟩:=List.mem_map.mp hb
    rw[←e]
    exact D2.base r (List.mem_append_left _ hr)
   ·exact .inr (Nat.le_trans le hb))
 rw[hgc,ho l] at key
 rw[eg,ed,eo]
 exact key
theorem Z1r{c:Code}{a:Addr}{res:Value}{x:Addr}(hr:∀ v,er v=res→v=res)(h:erC c=.builtin "list.extend.loop" ⟨[.ref a,.ref x,res],[]⟩):c=.builtin "list.extend.loop" ⟨[.ref a,.ref x,res],[]⟩:=by
 obtain ⟨bs,rfl,hb⟩:=Zb h
 obtain ⟨v1,v2,v3,rfl,e1,e2,e3⟩:=Y1 hb
 obtain rfl:=Z5 e1
 obtain rfl:=Z5 e2
 rw[hr _ e3]
theorem Z27{w:World}{K:List (Nat × Obj)}{T:FItem}{res:Value}{a x:Nat}{xs:Array Value}{n:Nat}{O:(Nat→Nat)→FOut}(hres:∀ v,er v=res→v=res){G:Array GenState}(hT:T.ValidT (MD w) K (nxT (.ref x)))(hc:T.c=.builtin "list.extend.loop" ⟨[.ref a,.ref x,res],[]⟩)
  (hr:∀ sz tk l,∃ v,(T.out sz tk l).r=.ok (.ret v)∧(T.out sz tk l).g=fun _=>G)(hO:∀ l,∃ Gf,(O l).g=fun _=>Gf)(hs:xs.size<sizeLine)
  (next:∀ sz tk l v,(T.out sz tk l).r=.ok (.ret v)→FItem.Valid (MD w) K ⟨T.c,T.B,(a,Z0 (xs.push v) (n+1))::(T.out sz tk l).led,fun _ _ l=>O l,fun _=>G,(T.out sz tk l).ledS,T.er⟩)(hTe:T.er=erC:=by rfl) :
  FItem.Valid (MD w) K ⟨T.c,T.B,(a,Z0 xs n)::T.pre,fun _ _ l=>O l,T.gin,T.preS,T.er⟩:=by
 rintro ⟨c,hd,ow,B,pa⟩ p s Rr hcc hh hB hg top nd own here k
 dsimp only at hcc hh hB hg
 subst hh
 obtain rfl:=Z1r hres ((congrFun hTe c).symm.trans (hcc.trans hc))
 refine ZW ?_
 rw[Ve (w:=w),Sem.wp_bind']
 have D0:=Desc.start top nd own here
 have D1:Desc _ (T.all++[(a,Z0 xs n)]) _ _ s:=D0.perm (by
  show ((a,Z0 xs n)::(T.pre++T.preS)).Perm _
  exact List.perm_append_comm (l₁:=[_]))
 have nd1:=D1.nodup
 rw[List.map_append,List.nodup_append] at nd1
 have hw:=hT ⟨.builtin "list.extend.loop" ⟨[.ref a,.ref x,res],[]⟩,none,ow,B,pa⟩ p s (fun r s'=>match r with
   | .ok (.ret v)=>∀ p',wp (MD w) ⟨.builtin "list.extend.loop" ⟨[.ref a,.ref x,res],[]⟩,none,ow,B,pa⟩ (listUpdate (.ref a) (·.push v) >>= fun _=>again (.builtin "list.extend.loop" ⟨[.ref a,.ref x,res],[]⟩))
    (finPost (MD w) ⟨.builtin "list.extend.loop" ⟨[.ref a,.ref x,res],[]⟩,none,ow,B,pa⟩ Rr) (EP (MD w) ⟨.builtin "list.extend.loop" ⟨[.ref a,.ref x,res],[]⟩,none,ow,B,pa⟩ Rr) p' s'
   | _=>False) hcc rfl hB hg top nd1.1
  (fun q hq=>D1.own q (List.mem_append_left _ hq)) (fun q hq=>D1.here q (List.mem_append_left _ hq)) (fun l h' L=>?_)
 ·unfold nxT at hw
  have e1:Q0=pyNext:=Fast.te9404975358583537561.symm
  rw[e1,←R.bindR_eq,Sem.wp_bind] at hw
  refine Sem.wp_mono _ _ _ (fun o p' s' hx=>?_) (fun e p' s' he=>False.elim he) p s hw
  cases o with
  | none=>exact False.elim hx
  | some v=>exact hx p'
 ·obtain ⟨v,hv,hid⟩:=hr s.heap.objs.size s.toks l
  rw[hv,hid]
  intro p'
  have D2:=(D1.item (tk':=(T.out s.heap.objs.size s.toks l).tk) (g':=G) L).perm (List.perm_append_comm (l₂:=[(a,Z0 xs n)]))
  have ha:=D2.here _ (List.mem_cons_self ..)
  rw[Sem.wp_bind']
  refine Sem.wp_mono _ _ _ (fun _ p'' s'' hx=>hx p'') (fun _ _ _ e=>False.elim e) _ _ (J9 (E:=fun _ _=>False) (PyProof.Rows.listUpdate_at (f:=fun ys=>ys.push v) (Q:=fun _ s''=>∀ p',wp (MD w) ⟨.builtin "list.extend.loop" ⟨[.ref a,.ref x,res],[]⟩,none,ow,B,pa⟩ (again (.builtin "list.extend.loop" ⟨[.ref a,.ref x,res],[]⟩)) (finPost (MD w) ⟨.builtin "list.extend.loop" ⟨[.ref a,.ref x,res],[]⟩,none,ow,B,pa⟩ Rr) (EP (MD w) ⟨.builtin "list.extend.loop" ⟨[.ref a,.ref x,res],[]⟩,none,ow,B,pa⟩ Rr) p' s'') ha rfl (fun p'=>?_) (Nat.le_of_lt hs) (by show (xs.push v).size≤_;rw[Array.size_push];omega)))
  have D3:=D2.update (i:=0) (q:=(a,Z0 xs n)) rfl (f:=Obj.mapSeq (·.push v)) (by rw[Yg];rfl)
  rw[Yg] at D3
  have D4:=D3.perm (led':=((a,Z0 (xs.push v) (n+1))::(T.out s.heap.objs.size s.toks l).led++(T.out s.heap.objs.size s.toks l).ledS)++[]) (by rw[List.append_nil];exact .refl _)
  show Code.quiet _=true∧wpCode (MD w) ⟨.builtin "list.extend.loop" ⟨[.ref a,.ref x,res],[]⟩,none,ow,B,pa⟩ Rr p' _
  refine ⟨Code.quiet_builtin _ (by decide +kernel),?_⟩
  exact Desc.ontoG (it'':=⟨T.c,T.B,(a,Z0 (xs.push v) (n+1))::(T.out s.heap.objs.size s.toks l).led,fun _ _ l=>O l,fun _=>G,(T.out s.heap.objs.size s.toks l).ledS,T.er⟩) (out:=fun _ _ l=>O l) D4 (next _ _ l v hv) (fun _=>rfl) hcc rfl hB rfl (fun l=>by obtain ⟨Gf,e⟩:=hO l;rw[e]) k
theorem ly_end{w:World}{K:List (Nat × Obj)}{T:FItem}{res:Value}{a x:Nat}{xs:Array Value}{n:Nat}(hres:∀ v,er v=res→v=res)(hT:T.ValidT (MD w) K (nxT (.ref x)))(hc:T.c=.builtin "list.extend.loop" ⟨[.ref a,.ref x,res],[]⟩)
  (hr:∀ sz tk l,(T.out sz tk l).r=.ok .next)(hTe:T.er=erC:=by rfl) :
  FItem.Valid (MD w) K ⟨T.c,T.B,(a,Z0 xs n)::T.pre,fun sz tk l=>{ T.out sz tk l with r:=.ok (.ret res),led:=(a,Z0 xs n)::(T.out sz tk l).led },T.gin,T.preS,T.er⟩:=by
 rintro ⟨c,hd,ow,B,pa⟩ p s Rr hcc hh hB hg top nd own here k
 dsimp only at hcc hh hB hg
 subst hh
 obtain rfl:=Z1r hres ((congrFun hTe c).symm.trans (hcc.trans hc))
 refine ZW ?_
 rw[Ve (w:=w),Sem.wp_bind']
 have D0:=Desc.start top nd own here
 have D1:Desc _ (T.all++[(a,Z0 xs n)]) _ _ s:=D0.perm (by
  show ((a,Z0 xs n)::(T.pre++T.preS)).Perm _
  exact List.perm_append_comm (l₁:=[_]))
 have nd1:=D1.nodup
 rw[List.map_append,List.nodup_append] at nd1
 have hw:=hT ⟨.builtin "list.extend.loop" ⟨[.ref a,.ref x,res],[]⟩,none,ow,B,pa⟩ p s (fun r s'=>match r with
   | .ok .next=>Rr (.ok (.ret res)) s'
   | _=>False) hcc rfl hB hg top nd1.1
  (fun q hq=>D1.own q (List.mem_append_left _ hq)) (fun q hq=>D1.here q (List.mem_append_left _ hq)) (fun l h' L=>?_)
 ·unfold nxT at hw
  have e1:Q0=pyNext:=Fast.te9404975358583537561.symm
  rw[e1,←R.bindR_eq,Sem.wp_bind] at hw
  refine Sem.wp_mono _ _ _ (fun o p' s' hx=>?_) (fun e p' s' he=>False.elim he) p s hw
  cases o with
  | none=>exact hx
  | some v=>exact False.elim hx
 ·rw[hr]
  have D2:=(D1.item (tk':=(T.out s.heap.objs.size s.toks l).tk) (g':=(T.out s.heap.objs.size s.toks l).g s.gens) L).perm (List.perm_append_comm (l₂:=[(a,Z0 xs n)]))
  refine k l h' (Desc.left (rest:=[]) D2 ?_)
  rw[List.append_nil]
  exact .refl _
end
end
section
open PySem PySem.Builtin PySem.W
noncomputable def shC (P:Params)(X:Fr)(m:Bool):List Knd:=.b "str.join"::.f (ZG P 758 X.s)::shJ P X m
noncomputable def itTG (P:Params)(X:Fr)(m:Bool)(a gn t1 t2:Nat)(q:Str)(I C co na:Nat)(nv:Array Value)(nn i:Nat)(F:Nat→Nat)(o:Option (Str × Nat))(g0:Array GenState)(st:GenState)(s r:Str):FItem where
 c:=.builtin "list.extend.loop" ⟨[.ref a,.ref gn,.ref a],[]⟩
 B:=nrm (shC P X m)
 pre:=[(gn,UX g0.size t1 t2 q),(I,itO "list_iterator" (.ref na) i),(na,Z0 nv nn),(C,gfr P F I o)]
 out:=fun _ _ l=>⟨.ok (.ret (.str r (l 2))),[(gn,UX g0.size t1 t2 q),(I,itO "list_iterator" (.ref na) (i+1)),(na,Z0 nv nn),(C,gfr P (fun j=>l (j+10)) I (some (s,l 3)))],l 0,l 1,fun _=>g0.push (gSt P X.s I C co),[]⟩
 gin:=fun _=>g0.push st
noncomputable def itTZ (P:Params)(X:Fr)(m:Bool)(a gn t1 t2:Nat)(q:Str)(I C co na:Nat)(nv:Array Value)(nn i:Nat)(F:Nat→Nat)(o:Option (Str × Nat))(g0:Array GenState):FItem where
 c:=.builtin "list.extend.loop" ⟨[.ref a,.ref gn,.ref a],[]⟩
 B:=nrm (shC P X m)
 pre:=[(gn,UX g0.size t1 t2 q),(I,itO "list_iterator" (.ref na) i),(na,Z0 nv nn),(C,gfr P F I o)]
 out:=fun _ _ l=>⟨.ok .next,[(na,Z0 nv nn)],l 0,l 1,fun _=>g0.push .finished,[]⟩
 gin:=fun _=>g0.push (gSt P X.s I C co)
noncomputable def Z0K (P:Params)(X:Fr)(m:Bool)(a:Nat)(xs:Array Value)(n gn t1 t2:Nat)(q:Str)(I C co na:Nat)(nv:Array Value)(nn i:Nat)(F:Nat→Nat)(o:Option (Str × Nat))(g0:Array GenState)(st:GenState)(O:(Nat→Nat)→FOut):FItem where
 c:=.builtin "list.extend.loop" ⟨[.ref a,.ref gn,.ref a],[]⟩
 B:=nrm (shC P X m)
 pre:=[(a,Z0 xs n),(gn,UX g0.size t1 t2 q),(I,itO "list_iterator" (.ref na) i),(na,Z0 nv nn),(C,gfr P F I o)]
 out:=fun _ _ l=>O l
 gin:=fun _=>g0.push st
noncomputable def Z2j (P:Params)(X:Fr)(m:Bool)(a n gn t1 t2:Nat)(q:Str)(I C co na:Nat)(nv:Array Value)(nn:Nat)(F:Nat→Nat)(g0:Array GenState)(O:(Nat→Nat)→FOut):FItem where
 c:=.builtin "list.__iadd__" ⟨[.ref a,.ref gn],[]⟩
 B:=nrm (shC P X m)
 pre:=[(a,Z0 #[] n),(gn,UX g0.size t1 t2 q),(I,itO "list_iterator" (.ref na) 0),(na,Z0 nv nn),(C,gfr P F I none)]
 out:=fun _ _ l=>O l
 gin:=fun _=>g0.push (.fresh (gC0 P X.s I C co))
noncomputable def Z2n (P:Params)(X:Fr)(m:Bool)(gn t1 t2:Nat)(q:Str)(I C co na:Nat)(nv:Array Value)(nn:Nat)(F:Nat→Nat)(g0:Array GenState)(O:(Nat→Nat)→FOut):FItem where
 c:=.builtin "proto.collect" ⟨[.ref gn],[]⟩
 B:=nrm (shC P X m)
 pre:=[(gn,UX g0.size t1 t2 q),(I,itO "list_iterator" (.ref na) 0),(na,Z0 nv nn),(C,gfr P F I none)]
 out:=fun _ _ l=>O l
 gin:=fun _=>g0.push (.fresh (gC0 P X.s I C co))
noncomputable abbrev KO:=Fast.tw12194477576918160588
noncomputable def jX (gn:Nat):Sem PySem.Fin:=R.bindR (K9 (.ref gn)) fun it=>R.bindR (KO (.builtin "proto.collect" ⟨[it],[]⟩)) fun v=>.pure (.done (.ret v))
noncomputable def itJX (P:Params)(X:Fr)(m:Bool)(sep:Str)(gn t1 t2:Nat)(q:Str)(I C co na:Nat)(nv:Array Value)(nn:Nat)(F:Nat→Nat)(g0:Array GenState)(O:(Nat→Nat)→FOut):FItem where
 c:=.builtin "str.join" ⟨[.str sep 0,.ref gn],[]⟩
 B:=nrm (.f (ZG P 758 X.s)::shJ P X m)
 pre:=[(gn,UX g0.size t1 t2 q),(I,itO "list_iterator" (.ref na) 0),(na,Z0 nv nn),(C,gfr P F I none)]
 out:=fun _ _ l=>O l
 gin:=fun _=>g0.push (.fresh (gC0 P X.s I C co))
theorem Ng{w:World}{a b:Addr}{l:List Addr}(nd:(a::b::l).Nodup)(c:Code)(h:erC c=.builtin "list.__iadd__" ⟨[.ref a,.ref b],[]⟩)(Γ:Ctx)(Q:PySem.Fin→Pos→Shared→Prop)(E:Value→Pos→Shared→Prop)(p:Pos)(s:Shared)(hx:Sem.wp (MD w) Γ (extX a (.ref b) (.ref a)) Q E p s):Sem.wp (MD w) Γ (Yj c) Q E p s:=by
 obtain ⟨bs,rfl,hb⟩:=Zb h
 obtain ⟨v1,v2,rfl,e1,e2⟩:=Zj hb
 obtain rfl:=Z5 e1
 obtain rfl:=Z5 e2
 have e0:Yj (.builtin "list.__iadd__" ⟨[.ref a,.ref b],[]⟩)=PySem.Builtin.List.listExtendWith (.ref a) (.ref b) (.ref a):=by
  have:Yj (.builtin "list.__iadd__" ⟨[.ref a,.ref b],[]⟩)=Z1x (.builtin "list.__iadd__" ⟨[.ref a,.ref b],[]⟩):=rfl
  rw[this,Jg]
  unfold denote
  dsimp only
  rw[F.entry_list_iadd]
  rfl
 rw[e0]
 exact Z1p (fun e=>(List.nodup_cons.mp nd).1 (by rw[e];exact List.mem_cons_self)) hx
section
variable{b b2:Bool}{w:World}(hw:Wd b b2 w)(X:Fr)
include b b2 w hw X
theorem tg_f1(a gn t1 t2:Nat)(q:Str)(I C co na:Nat)(nv:Array Value)(nn i:Nat)(F:Nat→Nat)(g0:Array GenState)(s r:Str)(h:OK w (W6 w.params X true gn t1 t2 q I C co na nv nn i F none g0 (.fresh (gC0 w.params X.s I C co)) s r)):OKT w (itTG w.params X true a gn t1 t2 q I C co na nv nn i F none g0 (.fresh (gC0 w.params X.s I C co)) s r) (nxT (.ref gn)):=by
 refine ZL hw.w0 _ (nxT (Value.ref gn)) (ZC) fun c B p sz tk g he=>?_
 obtain ⟨bs,rfl,hb⟩:=Zb he
 obtain ⟨v1,v2,v3,rfl,e1,e2,e3⟩:=Y1 hb
 obtain rfl:=Z5 e1
 obtain rfl:=Z5 e2
 obtain rfl:=Z5 e3
 refine ⟨53,.item [] (W6 w.params X true gn t1 t2 q I C co na nv nn i F none g0 (GenState.fresh (gC0 w.params X.s I C co)) s r) (fun l0=>.fin []),[1,0,0,0,0,0],[0,0,0,0],0,fun ls=>ls 0,?_,fun ls=>?_⟩
 ·exact ⟨(fun x hx=>(nomatch hx)),h,fun l0=>(fun x hx=>(nomatch hx))⟩
 ·kernel_rfl
theorem tg_s1(a gn t1 t2:Nat)(q:Str)(I C co na:Nat)(nv:Array Value)(nn i:Nat)(F:Nat→Nat)(g0:Array GenState)(s0:Str)(t0:Nat)(s r:Str)(h:OK w (W6 w.params X true gn t1 t2 q I C co na nv nn i F (some (s0,t0)) g0 (gSt w.params X.s I C co) s r)):OKT w (itTG w.params X true a gn t1 t2 q I C co na nv nn i F (some (s0,t0)) g0 (gSt w.params X.s I C co) s r) (nxT (.ref gn)):=by
 refine ZL hw.w0 _ (nxT (Value.ref gn)) (ZC) fun c B p sz tk g he=>?_
 obtain ⟨bs,rfl,hb⟩:=Zb he
 obtain ⟨v1,v2,v3,rfl,e1,e2,e3⟩:=Y1 hb
 obtain rfl:=Z5 e1
 obtain rfl:=Z5 e2
 obtain rfl:=Z5 e3
 refine ⟨53,.item [] (W6 w.params X true gn t1 t2 q I C co na nv nn i F (some (s0,t0)) g0 (gSt w.params X.s I C co) s r) (fun l0=>.fin []),[1,0,0,0,0,0],[0,0,0,0],0,fun ls=>ls 0,?_,fun ls=>?_⟩
 ·exact ⟨(fun x hx=>(nomatch hx)),h,fun l0=>(fun x hx=>(nomatch hx))⟩
 ·kernel_rfl
theorem tz_1(a gn t1 t2:Nat)(q:Str)(I C co na:Nat)(nv:Array Value)(nn i:Nat)(F:Nat→Nat)(g0:Array GenState)(s0:Str)(t0:Nat)(h:OK w (itGF w.params X true gn t1 t2 q I C co na nv nn i F (some (s0,t0)) g0)):OKT w (itTZ w.params X true a gn t1 t2 q I C co na nv nn i F (some (s0,t0)) g0) (nxT (.ref gn)):=by
 refine ZL hw.w0 _ (nxT (Value.ref gn)) (ZC) fun c B p sz tk g he=>?_
 obtain ⟨bs,rfl,hb⟩:=Zb he
 obtain ⟨v1,v2,v3,rfl,e1,e2,e3⟩:=Y1 hb
 obtain rfl:=Z5 e1
 obtain rfl:=Z5 e2
 obtain rfl:=Z5 e3
 refine ⟨54,.item [] (itGF w.params X true gn t1 t2 q I C co na nv nn i F (some (s0,t0)) g0) (fun l0=>.fin []),(dg 7 0x1000001),[1],0,fun ls=>ls 0,?_,fun ls=>?_⟩
 ·exact ⟨(fun x hx=>(nomatch hx)),h,fun l0=>(fun x hx=>(nomatch hx))⟩
 ·kernel_rfl
theorem ia_1(a gn t1 t2:Nat)(q:Str)(I C co na:Nat)(nv:Array Value)(nn:Nat)(F:Nat→Nat)(g0:Array GenState)(O:(Nat→Nat)→FOut)(n:Nat)(h:∀ n,OK w (Z0K w.params X true a #[] n gn t1 t2 q I C co na nv nn 0 F none g0 (.fresh (gC0 w.params X.s I C co)) O)):OK w (Z2j w.params X true a n gn t1 t2 q I C co na nv nn F g0 O):=by
 refine Qf hw.w0 _ (fun _=>extX a (Value.ref gn) (Value.ref a)) (Ng) (fun sz tk ls=>Z0K w.params X true a #[] (n+2) gn t1 t2 q I C co na nv nn 0 F none g0 (GenState.fresh (gC0 w.params X.s I C co)) O) (fun _ _ _ _ _ _ _ _=>rfl) (fun _ _ _=>rfl) (fun _ _ _=>rfl) (fun c B p sz tk g he=>?_) (fun sz tk ls=>h _)
 obtain ⟨bs,rfl,hb⟩:=Zb he
 obtain ⟨v1,v2,rfl,e1,e2⟩:=Zj hb
 obtain rfl:=Z5 e1
 obtain rfl:=Z5 e2
 refine ⟨68,.fin [],(dg 17 0x4ff010110122253f22222),[0,0,0,0,0],0,?_,fun ls=>?_⟩
 ·exact (fun x hx=>(nomatch hx))
 ·cases b <;> kernel_rfl
theorem cl_1(gn t1 t2:Nat)(q:Str)(I C co na:Nat)(nv:Array Value)(nn:Nat)(F:Nat→Nat)(g0:Array GenState)(O:(Nat→Nat)→FOut)(h:∀ a n,OK w (Z2j w.params X true a n gn t1 t2 q I C co na nv nn F g0 O)):OK w (Z2n w.params X true gn t1 t2 q I C co na nv nn F g0 O):=by
 refine Z2 hw.w0 _ (fun sz tk ls=>Z2j w.params X true sz 0 gn t1 t2 q I C co na nv nn F g0 O) (fun _ _ _ _ _ _ _ _=>rfl) (fun _ _ _=>rfl) (fun _ _ _=>rfl) (fun c B p sz tk g he=>?_) (fun sz tk ls=>h _ _)
 obtain ⟨bs,rfl,hb⟩:=Zb he
 obtain ⟨v1,rfl,e1⟩:=Z4 hb
 obtain rfl:=Z5 e1
 refine ⟨52,.fin [],[0,80],[0,0,0,0,0],0,?_,fun ls=>?_⟩
 ·exact (fun x hx=>(nomatch hx))
 ·kernel_rfl
theorem tg_f0(a gn t1 t2:Nat)(q:Str)(I C co na:Nat)(nv:Array Value)(nn i:Nat)(F:Nat→Nat)(g0:Array GenState)(s r:Str)(h:OK w (W6 w.params X false gn t1 t2 q I C co na nv nn i F none g0 (.fresh (gC0 w.params X.s I C co)) s r)):OKT w (itTG w.params X false a gn t1 t2 q I C co na nv nn i F none g0 (.fresh (gC0 w.params X.s I C co)) s r) (nxT (.ref gn)):=by
 refine ZL hw.w0 _ (nxT (Value.ref gn)) (ZC) fun c B p sz tk g he=>?_
 obtain ⟨bs,rfl,hb⟩:=Zb he
 obtain ⟨v1,v2,v3,rfl,e1,e2,e3⟩:=Y1 hb
 obtain rfl:=Z5 e1
 obtain rfl:=Z5 e2
 obtain rfl:=Z5 e3
 refine ⟨53,.item [] (W6 w.params X false gn t1 t2 q I C co na nv nn i F none g0 (GenState.fresh (gC0 w.params X.s I C co)) s r) (fun l0=>.fin []),[1,0,0,0,0,0],[0,0,0,0],0,fun ls=>ls 0,?_,fun ls=>?_⟩
 ·exact ⟨(fun x hx=>(nomatch hx)),h,fun l0=>(fun x hx=>(nomatch hx))⟩
 ·kernel_rfl
theorem tg_s0(a gn t1 t2:Nat)(q:Str)(I C co na:Nat)(nv:Array Value)(nn i:Nat)(F:Nat→Nat)(g0:Array GenState)(s0:Str)(t0:Nat)(s r:Str)(h:OK w (W6 w.params X false gn t1 t2 q I C co na nv nn i F (some (s0,t0)) g0 (gSt w.params X.s I C co) s r)):OKT w (itTG w.params X false a gn t1 t2 q I C co na nv nn i F (some (s0,t0)) g0 (gSt w.params X.s I C co) s r) (nxT (.ref gn)):=by
 refine ZL hw.w0 _ (nxT (Value.ref gn)) (ZC) fun c B p sz tk g he=>?_
 obtain ⟨bs,rfl,hb⟩:=Zb he
 obtain ⟨v1,v2,v3,rfl,e1,e2,e3⟩:=Y1 hb
 obtain rfl:=Z5 e1
 obtain rfl:=Z5 e2
 obtain rfl:=Z5 e3
 refine ⟨53,.item [] (W6 w.params X false gn t1 t2 q I C co na nv nn i F (some (s0,t0)) g0 (gSt w.params X.s I C co) s r) (fun l0=>.fin []),[1,0,0,0,0,0],[0,0,0,0],0,fun ls=>ls 0,?_,fun ls=>?_⟩
 ·exact ⟨(fun x hx=>(nomatch hx)),h,fun l0=>(fun x hx=>(nomatch hx))⟩
 ·kernel_rfl
theorem tz_0(a gn t1 t2:Nat)(q:Str)(I C co na:Nat)(nv:Array Value)(nn i:Nat)(F:Nat→Nat)(g0:Array GenState)(s0:Str)(t0:Nat)(h:OK w (itGF w.params X false gn t1 t2 q I C co na nv nn i F (some (s0,t0)) g0)):OKT w (itTZ w.params X false a gn t1 t2 q I C co na nv nn i F (some (s0,t0)) g0) (nxT (.ref gn)):=by
 refine ZL hw.w0 _ (nxT (Value.ref gn)) (ZC) fun c B p sz tk g he=>?_
 obtain ⟨bs,rfl,hb⟩:=Zb he
 obtain ⟨v1,v2,v3,rfl,e1,e2,e3⟩:=Y1 hb
 obtain rfl:=Z5 e1
 obtain rfl:=Z5 e2
 obtain rfl:=Z5 e3
 refine ⟨54,.item [] (itGF w.params X false gn t1 t2 q I C co na nv nn i F (some (s0,t0)) g0) (fun l0=>.fin []),(dg 7 0x1000001),[1],0,fun ls=>ls 0,?_,fun ls=>?_⟩
 ·exact ⟨(fun x hx=>(nomatch hx)),h,fun l0=>(fun x hx=>(nomatch hx))⟩
 ·kernel_rfl
theorem ia_0(a gn t1 t2:Nat)(q:Str)(I C co na:Nat)(nv:Array Value)(nn:Nat)(F:Nat→Nat)(g0:Array GenState)(O:(Nat→Nat)→FOut)(n:Nat)(h:∀ n,OK w (Z0K w.params X false a #[] n gn t1 t2 q I C co na nv nn 0 F none g0 (.fresh (gC0 w.params X.s I C co)) O)):OK w (Z2j w.params X false a n gn t1 t2 q I C co na nv nn F g0 O):=by
 refine Qf hw.w0 _ (fun _=>extX a (Value.ref gn) (Value.ref a)) (Ng) (fun sz tk ls=>Z0K w.params X false a #[] (n+2) gn t1 t2 q I C co na nv nn 0 F none g0 (GenState.fresh (gC0 w.params X.s I C co)) O) (fun _ _ _ _ _ _ _ _=>rfl) (fun _ _ _=>rfl) (fun _ _ _=>rfl) (fun c B p sz tk g he=>?_) (fun sz tk ls=>h _)
 obtain ⟨bs,rfl,hb⟩:=Zb he
 obtain ⟨v1,v2,rfl,e1,e2⟩:=Zj hb
 obtain rfl:=Z5 e1
 obtain rfl:=Z5 e2
 refine ⟨68,.fin [],(dg 17 0x4ff010110122253f22222),[0,0,0,0,0],0,?_,fun ls=>?_⟩
 ·exact (fun x hx=>(nomatch hx))
 ·cases b <;> kernel_rfl
theorem cl_0(gn t1 t2:Nat)(q:Str)(I C co na:Nat)(nv:Array Value)(nn:Nat)(F:Nat→Nat)(g0:Array GenState)(O:(Nat→Nat)→FOut)(h:∀ a n,OK w (Z2j w.params X false a n gn t1 t2 q I C co na nv nn F g0 O)):OK w (Z2n w.params X false gn t1 t2 q I C co na nv nn F g0 O):=by
 refine Z2 hw.w0 _ (fun sz tk ls=>Z2j w.params X false sz 0 gn t1 t2 q I C co na nv nn F g0 O) (fun _ _ _ _ _ _ _ _=>rfl) (fun _ _ _=>rfl) (fun _ _ _=>rfl) (fun c B p sz tk g he=>?_) (fun sz tk ls=>h _ _)
 obtain ⟨bs,rfl,hb⟩:=Zb he
 obtain ⟨v1,rfl,e1⟩:=Z4 hb
 obtain rfl:=Z5 e1
 refine ⟨52,.fin [],[0,80],[0,0,0,0,0],0,?_,fun ls=>?_⟩
 ·exact (fun x hx=>(nomatch hx))
 ·kernel_rfl
end
noncomputable def shR (P:Params)(X:Fr):List Knd:=[.L,.f (ZG P 787 X.p),.f (ZG P 823 X.w),.b "claim.caller"]
noncomputable def QN (P:Params)(X:Fr)(x:Nat)(s:Str):FItem where
 c:=.call (.ref 773) ⟨[.int (Int.ofNat x) 0],[]⟩
 B:=nrm (shR P X)
 pre:=[]
 out:=fun _ _ l=>⟨.ok (.ret (.str s (l 2))),[],l 0,l 1,id,[]⟩
noncomputable def UW (P:Params)(X:Fr)(x:Nat)(g:Str)(ts:List Str):FItem where
 c:=.call (.ref 780) ⟨[.int (Int.ofNat x) 0],[]⟩
 B:=nrm (shR P X)
 pre:=[]
 out:=fun _ _ l=>⟨.ok (.ret (.ref (l 2))),[(l 2,Y5 [.str g (l 3),.ref (l 4)] 0),(l 4,Z0 (svA ts (fun i=>l (i+20))) (l 5))],l 0,l 1,id,[]⟩
theorem fm{x k m:Nat}(h:x%m=k):(Int.ofNat x).fmod (Int.ofNat m)=Int.ofNat k:=by rw[←h];exact (Int.ofNat_fmod x m).symm
theorem fd{x q m:Nat}(h:x / m=q):(Int.ofNat x).fdiv (Int.ofNat m)=Int.ofNat q:=by rw[←h];exact (Int.ofNat_fdiv x m).symm
theorem npl{a:Int}{m:Nat}(h:(if (Int.ofNat m==0)=true then 0 else (Int.ofNat m).natAbs.log2 / 30+1)≤300):divisionGoesByPylong a (Int.ofNat m)=false:=by
 unfold divisionGoesByPylong
 simp only[Bool.and_eq_false_imp,decide_eq_true_eq]
 intro h2
 omega
section
variable{b b2:Bool}{w:World}(hw:Wd b b2 w)(X:Fr)(x q c:Nat)(hq:x / 16=q)(hc:q%1112064=c)
include b b2 w hw X x q c hq hc
theorem sg_5(h:x%16=5):OK w (QN w.params X x (mkS [10])):=by
 refine Z1 hw.w0 _ fun c B p sz tk g he=>?_
 obtain ⟨bs,rfl,hb⟩:=Z3 he
 obtain ⟨v1,rfl,e1⟩:=Z4 hb
 obtain ⟨u1,rfl⟩:=Zt e1
 refine ⟨141,.fin [Zl (Int.ofNat x) (Int.ofNat 16) (Int.ofNat 5),ZN (Int.ofNat x) (Int.ofNat 16) (Int.ofNat q),Zl (Int.ofNat q) (Int.ofNat 1112064) (Int.ofNat c)],(dg 32 0x2161211116f22d21d21011110111100100),[],0,fun ls=>fl [sz+2,tk+23,tk+11],?_,fun ls=>?_⟩
 ·exact (AllV.all ⟨Z9 (by decide) (fm h),Zz (by decide) (npl (by decide)) (fd hq),Z9 (by decide) (fm hc),trivial⟩)
 ·cases b <;> kernel_rfl
theorem sg_6(h:x%16=6):OK w (QN w.params X x (mkS [10])):=by
 refine Z1 hw.w0 _ fun c B p sz tk g he=>?_
 obtain ⟨bs,rfl,hb⟩:=Z3 he
 obtain ⟨v1,rfl,e1⟩:=Z4 hb
 obtain ⟨u1,rfl⟩:=Zt e1
 refine ⟨141,.fin [Zl (Int.ofNat x) (Int.ofNat 16) (Int.ofNat 6),ZN (Int.ofNat x) (Int.ofNat 16) (Int.ofNat q),Zl (Int.ofNat q) (Int.ofNat 1112064) (Int.ofNat c)],(dg 32 0x2161211116f22d21d21011110111100100),[],0,fun ls=>fl [sz+2,tk+23,tk+12],?_,fun ls=>?_⟩
 ·exact (AllV.all ⟨Z9 (by decide) (fm h),Zz (by decide) (npl (by decide)) (fd hq),Z9 (by decide) (fm hc),trivial⟩)
 ·cases b <;> kernel_rfl
theorem sg_7(h:x%16=7):OK w (QN w.params X x (mkS [32])):=by
 refine Z1 hw.w0 _ fun c B p sz tk g he=>?_
 obtain ⟨bs,rfl,hb⟩:=Z3 he
 obtain ⟨v1,rfl,e1⟩:=Z4 hb
 obtain ⟨u1,rfl⟩:=Zt e1
 refine ⟨141,.fin [Zl (Int.ofNat x) (Int.ofNat 16) (Int.ofNat 7),ZN (Int.ofNat x) (Int.ofNat 16) (Int.ofNat q),Zl (Int.ofNat q) (Int.ofNat 1112064) (Int.ofNat c)],(dg 32 0x2161211116f22d21d21011110111100100),[],0,fun ls=>fl [sz+2,tk+23,tk+13],?_,fun ls=>?_⟩
 ·exact (AllV.all ⟨Z9 (by decide) (fm h),Zz (by decide) (npl (by decide)) (fd hq),Z9 (by decide) (fm hc),trivial⟩)
 ·cases b <;> kernel_rfl
theorem sg_8(h:x%16=8):OK w (QN w.params X x (mkS [97])):=by
 refine Z1 hw.w0 _ fun c B p sz tk g he=>?_
 obtain ⟨bs,rfl,hb⟩:=Z3 he
 obtain ⟨v1,rfl,e1⟩:=Z4 hb
 obtain ⟨u1,rfl⟩:=Zt e1
 refine ⟨141,.fin [Zl (Int.ofNat x) (Int.ofNat 16) (Int.ofNat 8),ZN (Int.ofNat x) (Int.ofNat 16) (Int.ofNat q),Zl (Int.ofNat q) (Int.ofNat 1112064) (Int.ofNat c)],(dg 32 0x2161211116f22d21d21011110111100100),[],0,fun ls=>fl [sz+2,tk+23,tk+14],?_,fun ls=>?_⟩
 ·exact (AllV.all ⟨Z9 (by decide) (fm h),Zz (by decide) (npl (by decide)) (fd hq),Z9 (by decide) (fm hc),trivial⟩)
 ·cases b <;> kernel_rfl
theorem sg_9(h:x%16=9):OK w (QN w.params X x (mkS [39])):=by
 refine Z1 hw.w0 _ fun c B p sz tk g he=>?_
 obtain ⟨bs,rfl,hb⟩:=Z3 he
 obtain ⟨v1,rfl,e1⟩:=Z4 hb
 obtain ⟨u1,rfl⟩:=Zt e1
 refine ⟨141,.fin [Zl (Int.ofNat x) (Int.ofNat 16) (Int.ofNat 9),ZN (Int.ofNat x) (Int.ofNat 16) (Int.ofNat q),Zl (Int.ofNat q) (Int.ofNat 1112064) (Int.ofNat c)],(dg 32 0x2161211116f22d21d21011110111100100),[],0,fun ls=>fl [sz+2,tk+23,tk+15],?_,fun ls=>?_⟩
 ·exact (AllV.all ⟨Z9 (by decide) (fm h),Zz (by decide) (npl (by decide)) (fd hq),Z9 (by decide) (fm hc),trivial⟩)
 ·cases b <;> kernel_rfl
theorem sg_10(h:x%16=10):OK w (QN w.params X x (mkS [34])):=by
 refine Z1 hw.w0 _ fun c B p sz tk g he=>?_
 obtain ⟨bs,rfl,hb⟩:=Z3 he
 obtain ⟨v1,rfl,e1⟩:=Z4 hb
 obtain ⟨u1,rfl⟩:=Zt e1
 refine ⟨141,.fin [Zl (Int.ofNat x) (Int.ofNat 16) (Int.ofNat 10),ZN (Int.ofNat x) (Int.ofNat 16) (Int.ofNat q),Zl (Int.ofNat q) (Int.ofNat 1112064) (Int.ofNat c)],(dg 32 0x2161211116f22d21d21011110111100100),[],0,fun ls=>fl [sz+2,tk+23,tk+16],?_,fun ls=>?_⟩
 ·exact (AllV.all ⟨Z9 (by decide) (fm h),Zz (by decide) (npl (by decide)) (fd hq),Z9 (by decide) (fm hc),trivial⟩)
 ·cases b <;> kernel_rfl
theorem sg_11(h:x%16=11):OK w (QN w.params X x (mkS [92])):=by
 refine Z1 hw.w0 _ fun c B p sz tk g he=>?_
 obtain ⟨bs,rfl,hb⟩:=Z3 he
 obtain ⟨v1,rfl,e1⟩:=Z4 hb
 obtain ⟨u1,rfl⟩:=Zt e1
 refine ⟨141,.fin [Zl (Int.ofNat x) (Int.ofNat 16) (Int.ofNat 11),ZN (Int.ofNat x) (Int.ofNat 16) (Int.ofNat q),Zl (Int.ofNat q) (Int.ofNat 1112064) (Int.ofNat c)],(dg 32 0x2161211116f22d21d21011110111100100),[],0,fun ls=>fl [sz+2,tk+23,tk+17],?_,fun ls=>?_⟩
 ·exact (AllV.all ⟨Z9 (by decide) (fm h),Zz (by decide) (npl (by decide)) (fd hq),Z9 (by decide) (fm hc),trivial⟩)
 ·cases b <;> kernel_rfl
theorem sg_12(h:x%16=12):OK w (QN w.params X x (mkS [160])):=by
 refine Z1 hw.w0 _ fun c B p sz tk g he=>?_
 obtain ⟨bs,rfl,hb⟩:=Z3 he
 obtain ⟨v1,rfl,e1⟩:=Z4 hb
 obtain ⟨u1,rfl⟩:=Zt e1
 refine ⟨141,.fin [Zl (Int.ofNat x) (Int.ofNat 16) (Int.ofNat 12),ZN (Int.ofNat x) (Int.ofNat 16) (Int.ofNat q),Zl (Int.ofNat q) (Int.ofNat 1112064) (Int.ofNat c)],(dg 32 0x2161211116f22d21d21011110111100100),[],0,fun ls=>fl [sz+2,tk+23,tk+18],?_,fun ls=>?_⟩
 ·exact (AllV.all ⟨Z9 (by decide) (fm h),Zz (by decide) (npl (by decide)) (fd hq),Z9 (by decide) (fm hc),trivial⟩)
 ·cases b <;> kernel_rfl
theorem sg_14(h:x%16=14):OK w (QN w.params X x (mkS [])):=by
 refine Z1 hw.w0 _ fun c B p sz tk g he=>?_
 obtain ⟨bs,rfl,hb⟩:=Z3 he
 obtain ⟨v1,rfl,e1⟩:=Z4 hb
 obtain ⟨u1,rfl⟩:=Zt e1
 refine ⟨141,.fin [Zl (Int.ofNat x) (Int.ofNat 16) (Int.ofNat 14),ZN (Int.ofNat x) (Int.ofNat 16) (Int.ofNat q),Zl (Int.ofNat q) (Int.ofNat 1112064) (Int.ofNat c)],(dg 32 0x2161211116f22d21d21011110111100100),[],0,fun ls=>fl [sz+2,tk+23,tk+20],?_,fun ls=>?_⟩
 ·exact (AllV.all ⟨Z9 (by decide) (fm h),Zz (by decide) (npl (by decide)) (fd hq),Z9 (by decide) (fm hc),trivial⟩)
 ·cases b <;> kernel_rfl
theorem Z1L(h:x%16=13)(hd:c%7=0):OK w (QN w.params X x (mkS [32])):=by
 refine Z1 hw.w0 _ fun c B p sz tk g he=>?_
 obtain ⟨bs,rfl,hb⟩:=Z3 he
 obtain ⟨v1,rfl,e1⟩:=Z4 hb
 obtain ⟨u1,rfl⟩:=Zt e1
 refine ⟨112,.fin [Zl (Int.ofNat x) (Int.ofNat 16) (Int.ofNat 13),ZN (Int.ofNat x) (Int.ofNat 16) (Int.ofNat q),Zl (Int.ofNat q) (Int.ofNat 1112064) (Int.ofNat c),Zl (Int.ofNat c) (Int.ofNat 7) (Int.ofNat 0)],(dg 22 0x1bf211d21011110111100100),[],0,fun ls=>fl [sz+1,tk+14,tk+13],?_,fun ls=>?_⟩
 ·exact (AllV.all ⟨Z9 (by decide) (fm h),Zz (by decide) (npl (by decide)) (fd hq),Z9 (by decide) (fm hc),Z9 (by decide) (fm hd),trivial⟩)
 ·cases b <;> kernel_rfl
theorem Z1K(h:x%16=13)(hd:c%7=1):OK w (QN w.params X x (mkS [9])):=by
 refine Z1 hw.w0 _ fun c B p sz tk g he=>?_
 obtain ⟨bs,rfl,hb⟩:=Z3 he
 obtain ⟨v1,rfl,e1⟩:=Z4 hb
 obtain ⟨u1,rfl⟩:=Zt e1
 refine ⟨112,.fin [Zl (Int.ofNat x) (Int.ofNat 16) (Int.ofNat 13),ZN (Int.ofNat x) (Int.ofNat 16) (Int.ofNat q),Zl (Int.ofNat q) (Int.ofNat 1112064) (Int.ofNat c),Zl (Int.ofNat c) (Int.ofNat 7) (Int.ofNat 1)],(dg 22 0x1bf211d21011110111100100),[],0,fun ls=>fl [sz+1,tk+14,tk+13],?_,fun ls=>?_⟩
 ·exact (AllV.all ⟨Z9 (by decide) (fm h),Zz (by decide) (npl (by decide)) (fd hq),Z9 (by decide) (fm hc),Z9 (by decide) (fm hd),trivial⟩)
 ·cases b <;> kernel_rfl
theorem Z1J(h:x%16=13)(hd:c%7=2):OK w (QN w.params X x (mkS [13])):=by
 refine Z1 hw.w0 _ fun c B p sz tk g he=>?_
 obtain ⟨bs,rfl,hb⟩:=Z3 he
 obtain ⟨v1,rfl,e1⟩:=Z4 hb
 obtain ⟨u1,rfl⟩:=Zt e1
 refine ⟨112,.fin [Zl (Int.ofNat x) (Int.ofNat 16) (Int.ofNat 13),ZN (Int.ofNat x) (Int.ofNat 16) (Int.ofNat q),Zl (Int.ofNat q) (Int.ofNat 1112064) (Int.ofNat c),Zl (Int.ofNat c) (Int.ofNat 7) (Int.ofNat 2)],(dg 22 0x1bf211d21011110111100100),[],0,fun ls=>fl [sz+1,tk+14,tk+13],?_,fun ls=>?_⟩
 ·exact (AllV.all ⟨Z9 (by decide) (fm h),Zz (by decide) (npl (by decide)) (fd hq),Z9 (by decide) (fm hc),Z9 (by decide) (fm hd),trivial⟩)
 ·cases b <;> kernel_rfl
theorem Z1I(h:x%16=13)(hd:c%7=3):OK w (QN w.params X x (mkS [11])):=by
 refine Z1 hw.w0 _ fun c B p sz tk g he=>?_
 obtain ⟨bs,rfl,hb⟩:=Z3 he
 obtain ⟨v1,rfl,e1⟩:=Z4 hb
 obtain ⟨u1,rfl⟩:=Zt e1
 refine ⟨112,.fin [Zl (Int.ofNat x) (Int.ofNat 16) (Int.ofNat 13),ZN (Int.ofNat x) (Int.ofNat 16) (Int.ofNat q),Zl (Int.ofNat q) (Int.ofNat 1112064) (Int.ofNat c),Zl (Int.ofNat c) (Int.ofNat 7) (Int.ofNat 3)],(dg 22 0x1bf211d21011110111100100),[],0,fun ls=>fl [sz+1,tk+14,tk+13],?_,fun ls=>?_⟩
 ·exact (AllV.all ⟨Z9 (by decide) (fm h),Zz (by decide) (npl (by decide)) (fd hq),Z9 (by decide) (fm hc),Z9 (by decide) (fm hd),trivial⟩)
 ·cases b <;> kernel_rfl
theorem Z1H(h:x%16=13)(hd:c%7=4):OK w (QN w.params X x (mkS [12])):=by
 refine Z1 hw.w0 _ fun c B p sz tk g he=>?_
 obtain ⟨bs,rfl,hb⟩:=Z3 he
 obtain ⟨v1,rfl,e1⟩:=Z4 hb
 obtain ⟨u1,rfl⟩:=Zt e1
 refine ⟨112,.fin [Zl (Int.ofNat x) (Int.ofNat 16) (Int.ofNat 13),ZN (Int.ofNat x) (Int.ofNat 16) (Int.ofNat q),Zl (Int.ofNat q) (Int.ofNat 1112064) (Int.ofNat c),Zl (Int.ofNat c) (Int.ofNat 7) (Int.ofNat 4)],(dg 22 0x1bf211d21011110111100100),[],0,fun ls=>fl [sz+1,tk+14,tk+13],?_,fun ls=>?_⟩
 ·exact (AllV.all ⟨Z9 (by decide) (fm h),Zz (by decide) (npl (by decide)) (fd hq),Z9 (by decide) (fm hc),Z9 (by decide) (fm hd),trivial⟩)
 ·cases b <;> kernel_rfl
theorem Z1G(h:x%16=13)(hd:c%7=5):OK w (QN w.params X x (mkS [8232])):=by
 refine Z1 hw.w0 _ fun c B p sz tk g he=>?_
 obtain ⟨bs,rfl,hb⟩:=Z3 he
 obtain ⟨v1,rfl,e1⟩:=Z4 hb
 obtain ⟨u1,rfl⟩:=Zt e1
 refine ⟨112,.fin [Zl (Int.ofNat x) (Int.ofNat 16) (Int.ofNat 13),ZN (Int.ofNat x) (Int.ofNat 16) (Int.ofNat q),Zl (Int.ofNat q) (Int.ofNat 1112064) (Int.ofNat c),Zl (Int.ofNat c) (Int.ofNat 7) (Int.ofNat 5)],(dg 22 0x1bf211d21011110111100100),[],0,fun ls=>fl [sz+1,tk+14,tk+13],?_,fun ls=>?_⟩
 ·exact (AllV.all ⟨Z9 (by decide) (fm h),Zz (by decide) (npl (by decide)) (fd hq),Z9 (by decide) (fm hc),Z9 (by decide) (fm hd),trivial⟩)
 ·cases b <;> kernel_rfl
theorem Z1F(h:x%16=13)(hd:c%7=6):OK w (QN w.params X x (mkS [12288])):=by
 refine Z1 hw.w0 _ fun c B p sz tk g he=>?_
 obtain ⟨bs,rfl,hb⟩:=Z3 he
 obtain ⟨v1,rfl,e1⟩:=Z4 hb
 obtain ⟨u1,rfl⟩:=Zt e1
 refine ⟨112,.fin [Zl (Int.ofNat x) (Int.ofNat 16) (Int.ofNat 13),ZN (Int.ofNat x) (Int.ofNat 16) (Int.ofNat q),Zl (Int.ofNat q) (Int.ofNat 1112064) (Int.ofNat c),Zl (Int.ofNat c) (Int.ofNat 7) (Int.ofNat 6)],(dg 22 0x1bf211d21011110111100100),[],0,fun ls=>fl [sz+1,tk+14,tk+13],?_,fun ls=>?_⟩
 ·exact (AllV.all ⟨Z9 (by decide) (fm h),Zz (by decide) (npl (by decide)) (fd hq),Z9 (by decide) (fm hc),Z9 (by decide) (fm hd),trivial⟩)
 ·cases b <;> kernel_rfl
theorem Z1E(h:x%16=15)(hl:c<55296):OK w (QN w.params X x (mkS [c])):=by
 refine Z1 hw.w0 _ fun c B p sz tk g he=>?_
 obtain ⟨bs,rfl,hb⟩:=Z3 he
 obtain ⟨v1,rfl,e1⟩:=Z4 hb
 obtain ⟨u1,rfl⟩:=Zt e1
 refine ⟨124,.fin [Zl (Int.ofNat x) (Int.ofNat 16) (Int.ofNat 15),ZN (Int.ofNat x) (Int.ofNat 16) (Int.ofNat q),Zl (Int.ofNat q) (Int.ofNat 1112064) (Int.ofNat c),Vr (Int.ofNat c) (Int.ofNat 55296) true,Z2Z (Int.ofNat c) (mkS [c])],(dg 27 0x111100d21d21011110111100100),[],0,fun ls=>fl [sz+1,tk+13,tk+12],?_,fun ls=>?_⟩
 ·exact (AllV.all ⟨Z9 (by decide) (fm h),Zz (by decide) (npl (by decide)) (fd hq),Z9 (by decide) (fm hc),Qi (decide_eq_true (by simp only[Int.ofNat_eq_natCast];omega)),Z1j (by simp only[Int.ofNat_eq_natCast];omega) (by simp only[Int.ofNat_eq_natCast];omega) rfl,trivial⟩)
 ·cases b <;> kernel_rfl
theorem Z1D(h:x%16=15)(hl:55296≤c)(hm:c<1112064):OK w (QN w.params X x (mkS [c+2048])):=by
 refine Z1 hw.w0 _ fun c B p sz tk g he=>?_
 obtain ⟨bs,rfl,hb⟩:=Z3 he
 obtain ⟨v1,rfl,e1⟩:=Z4 hb
 obtain ⟨u1,rfl⟩:=Zt e1
 refine ⟨127,.fin [Zl (Int.ofNat x) (Int.ofNat 16) (Int.ofNat 15),ZN (Int.ofNat x) (Int.ofNat 16) (Int.ofNat q),Zl (Int.ofNat q) (Int.ofNat 1112064) (Int.ofNat c),Vr (Int.ofNat c) (Int.ofNat 55296) false,YX (Int.ofNat c) (Int.ofNat 2048) (Int.ofNat (c+2048)),Z2Z (Int.ofNat (c+2048)) (mkS [c+2048])],(dg 28 0x1111100d21d21011110111100100),[],0,fun ls=>fl [sz+1,tk+15,tk+14],?_,fun ls=>?_⟩
 ·exact (AllV.all ⟨Z9 (by decide) (fm h),Zz (by decide) (npl (by decide)) (fd hq),Z9 (by decide) (fm hc),Qi (decide_eq_false (by simp only[Int.ofNat_eq_natCast];omega)),Ym rfl,Z1j (by simp only[Int.ofNat_eq_natCast];omega) (by simp only[Int.ofNat_eq_natCast];omega) rfl,trivial⟩)
 ·cases b <;> kernel_rfl
end
section
variable{b b2:Bool}{w:World}(hw:Wd b b2 w)(X:Fr)(x q:Nat)
include b b2 w hw X x q
theorem gp_0(h:x%16=0):OK w (UW w.params X x (mkS [10,10]) []):=by
 refine Z1 hw.w0 _ fun c B p sz tk g he=>?_
 obtain ⟨bs,rfl,hb⟩:=Z3 he
 obtain ⟨v1,rfl,e1⟩:=Z4 hb
 obtain ⟨u1,rfl⟩:=Zt e1
 refine ⟨80,.fin [Zl (Int.ofNat x) (Int.ofNat 16) (Int.ofNat 0)],(dg 10 0xd211100100),[0,0],0,fun ls=>fl [sz+3,tk+5,sz+2,tk+4,sz+1,0],?_,fun ls=>?_⟩
 ·exact (AllV.all ⟨Z9 (by decide) (fm h),trivial⟩)
 ·cases b <;> kernel_rfl
theorem gp_2(h:x%16=2):OK w (UW w.params X x (mkS [10]) []):=by
 refine Z1 hw.w0 _ fun c B p sz tk g he=>?_
 obtain ⟨bs,rfl,hb⟩:=Z3 he
 obtain ⟨v1,rfl,e1⟩:=Z4 hb
 obtain ⟨u1,rfl⟩:=Zt e1
 refine ⟨92,.fin [Zl (Int.ofNat x) (Int.ofNat 16) (Int.ofNat 2),Zl (Int.ofNat x) (Int.ofNat 16) (Int.ofNat 2)],(dg 14 0xd211d211100100),[0,0],0,fun ls=>fl [sz+3,tk+8,sz+2,tk+7,sz+1,0],?_,fun ls=>?_⟩
 ·exact (AllV.all ⟨Z9 (by decide) (fm h),Z9 (by decide) (fm h),trivial⟩)
 ·cases b <;> kernel_rfl
theorem gp_1_0(h:x%16=1)(hq:x / 16=q)(hd:q%6=0):OK w (UW w.params X x (mkS [10,32,10]) []):=by
 refine Z1 hw.w0 _ fun c B p sz tk g he=>?_
 obtain ⟨bs,rfl,hb⟩:=Z3 he
 obtain ⟨v1,rfl,e1⟩:=Z4 hb
 obtain ⟨u1,rfl⟩:=Zt e1
 refine ⟨230,.fin [Zl (Int.ofNat x) (Int.ofNat 16) (Int.ofNat 1),Zl (Int.ofNat x) (Int.ofNat 16) (Int.ofNat 1),ZN (Int.ofNat x) (Int.ofNat 16) (Int.ofNat q),Zl (Int.ofNat q) (Int.ofNat 6) (Int.ofNat 0)],(dg 72 0x11f1af21af211f10f11f10f11f101d1131f12101d1131f12101d1131f121130fc2ccc161211111eeded211d211100100),[0,15],0,fun ls=>fl [sz+18,tk+27,sz+17,tk+26,sz+1,0],?_,fun ls=>?_⟩
 ·exact (AllV.all ⟨Z9 (by decide) (fm h),Z9 (by decide) (fm h),Zz (by decide) (npl (by decide)) (fd hq),Z9 (by decide) (fm hd),trivial⟩)
 ·cases b <;> kernel_rfl
theorem gp_1_1(h:x%16=1)(hq:x / 16=q)(hd:q%6=1):OK w (UW w.params X x (mkS [10,9,10]) []):=by
 refine Z1 hw.w0 _ fun c B p sz tk g he=>?_
 obtain ⟨bs,rfl,hb⟩:=Z3 he
 obtain ⟨v1,rfl,e1⟩:=Z4 hb
 obtain ⟨u1,rfl⟩:=Zt e1
 refine ⟨230,.fin [Zl (Int.ofNat x) (Int.ofNat 16) (Int.ofNat 1),Zl (Int.ofNat x) (Int.ofNat 16) (Int.ofNat 1),ZN (Int.ofNat x) (Int.ofNat 16) (Int.ofNat q),Zl (Int.ofNat q) (Int.ofNat 6) (Int.ofNat 1)],(dg 72 0x11f1af21af211f10f11f10f11f101b1131f12101b1131f12101b1131f121130fa2aaa161211111eeded211d211100100),[0,13],0,fun ls=>fl [sz+18,tk+27,sz+17,tk+26,sz+3,0],?_,fun ls=>?_⟩
 ·exact (AllV.all ⟨Z9 (by decide) (fm h),Z9 (by decide) (fm h),Zz (by decide) (npl (by decide)) (fd hq),Z9 (by decide) (fm hd),trivial⟩)
 ·cases b <;> kernel_rfl
theorem gp_1_2(h:x%16=1)(hq:x / 16=q)(hd:q%6=2):OK w (UW w.params X x (mkS [10,160,10]) [mkS [160]]):=by
 refine Z1 hw.w0 _ fun c B p sz tk g he=>?_
 obtain ⟨bs,rfl,hb⟩:=Z3 he
 obtain ⟨v1,rfl,e1⟩:=Z4 hb
 obtain ⟨u1,rfl⟩:=Zt e1
 refine ⟨230,.fin [Zl (Int.ofNat x) (Int.ofNat 16) (Int.ofNat 1),Zl (Int.ofNat x) (Int.ofNat 16) (Int.ofNat 1),ZN (Int.ofNat x) (Int.ofNat 16) (Int.ofNat q),Zl (Int.ofNat q) (Int.ofNat 6) (Int.ofNat 2)],(dg 72 0x11f1af21af211f10f11f10f11f10191131f1210191131f1210191131f121130f82888161211111eeded211d211100100),[0,11],0,fun ls=>fl [sz+18,tk+27,sz+17,tk+26,sz+5,0,0,0,0,0,0,0,0,0,0,0,0,0,0,0,tk+10],?_,fun ls=>?_⟩
 ·exact (AllV.all ⟨Z9 (by decide) (fm h),Z9 (by decide) (fm h),Zz (by decide) (npl (by decide)) (fd hq),Z9 (by decide) (fm hd),trivial⟩)
 ·cases b <;> kernel_rfl
theorem gp_1_3(h:x%16=1)(hq:x / 16=q)(hd:q%6=3):OK w (UW w.params X x (mkS [10,11,32,12,10]) [mkS [11],mkS [12]]):=by
 refine Z1 hw.w0 _ fun c B p sz tk g he=>?_
 obtain ⟨bs,rfl,hb⟩:=Z3 he
 obtain ⟨v1,rfl,e1⟩:=Z4 hb
 obtain ⟨u1,rfl⟩:=Zt e1
 refine ⟨230,.fin [Zl (Int.ofNat x) (Int.ofNat 16) (Int.ofNat 1),Zl (Int.ofNat x) (Int.ofNat 16) (Int.ofNat 1),ZN (Int.ofNat x) (Int.ofNat 16) (Int.ofNat q),Zl (Int.ofNat q) (Int.ofNat 6) (Int.ofNat 3)],(dg 72 0x11f1af21af211f10f11f10f11f10171131f1210171131f1210171131f121130f62666161211111eeded211d211100100),[0,9],0,fun ls=>fl [sz+18,tk+27,sz+17,tk+26,sz+7,0,0,0,0,0,0,0,0,0,0,0,0,0,0,0,tk+12,tk+13],?_,fun ls=>?_⟩
 ·exact (AllV.all ⟨Z9 (by decide) (fm h),Z9 (by decide) (fm h),Zz (by decide) (npl (by decide)) (fd hq),Z9 (by decide) (fm hd),trivial⟩)
 ·cases b <;> kernel_rfl
theorem gp_1_4(h:x%16=1)(hq:x / 16=q)(hd:q%6=4):OK w (UW w.params X x (mkS [10,10,10]) []):=by
 refine Z1 hw.w0 _ fun c B p sz tk g he=>?_
 obtain ⟨bs,rfl,hb⟩:=Z3 he
 obtain ⟨v1,rfl,e1⟩:=Z4 hb
 obtain ⟨u1,rfl⟩:=Zt e1
 refine ⟨230,.fin [Zl (Int.ofNat x) (Int.ofNat 16) (Int.ofNat 1),Zl (Int.ofNat x) (Int.ofNat 16) (Int.ofNat 1),ZN (Int.ofNat x) (Int.ofNat 16) (Int.ofNat q),Zl (Int.ofNat q) (Int.ofNat 6) (Int.ofNat 4)],(dg 72 0x11f1af21af211f10f11f10f11f10151131f1210151131f1210151131f121130f42444161211111eeded211d211100100),[0,7],0,fun ls=>fl [sz+18,tk+27,sz+17,tk+26,sz+9,0],?_,fun ls=>?_⟩
 ·exact (AllV.all ⟨Z9 (by decide) (fm h),Z9 (by decide) (fm h),Zz (by decide) (npl (by decide)) (fd hq),Z9 (by decide) (fm hd),trivial⟩)
 ·cases b <;> kernel_rfl
theorem gp_1_5(h:x%16=1)(hq:x / 16=q)(hd:q%6=5):OK w (UW w.params X x (mkS [10,13,10]) []):=by
 refine Z1 hw.w0 _ fun c B p sz tk g he=>?_
 obtain ⟨bs,rfl,hb⟩:=Z3 he
 obtain ⟨v1,rfl,e1⟩:=Z4 hb
 obtain ⟨u1,rfl⟩:=Zt e1
 refine ⟨230,.fin [Zl (Int.ofNat x) (Int.ofNat 16) (Int.ofNat 1),Zl (Int.ofNat x) (Int.ofNat 16) (Int.ofNat 1),ZN (Int.ofNat x) (Int.ofNat 16) (Int.ofNat q),Zl (Int.ofNat q) (Int.ofNat 6) (Int.ofNat 5)],(dg 72 0x11f1af21af211f10f11f10f11f10131131f1210131131f1210131131f121130f22222161211111eeded211d211100100),[0,5],0,fun ls=>fl [sz+18,tk+27,sz+17,tk+26,sz+11,0],?_,fun ls=>?_⟩
 ·exact (AllV.all ⟨Z9 (by decide) (fm h),Z9 (by decide) (fm h),Zz (by decide) (npl (by decide)) (fd hq),Z9 (by decide) (fm hd),trivial⟩)
 ·cases b <;> kernel_rfl
end
noncomputable def rfr (P:Params)(F:Nat→Nat)(na ra ga:Nat)(o:Option (Nat × Nat)):Obj:=match o with
 | none=>frX ⟨#[en P "numbers" (F 0) (.ref na),en P "rows" (F 1) (.ref ra),en P "gaps" (F 2) (.ref ga)],3⟩ #[]
 | some x=>frX ⟨#[en P "numbers" (F 0) (.ref na),en P "rows" (F 1) (.ref ra),en P "gaps" (F 2) (.ref ga),en P "x" (F 3) (.int (Int.ofNat x.1) x.2)],4⟩ #[]
noncomputable def shRF (P:Params)(X:Fr):List Knd:=[.f (ZG P 787 X.p),.f (ZG P 823 X.w),.b "claim.caller"]
noncomputable def QB (P:Params)(X:Fr)(S:Led)(it na ra ga la:Nat)(nv:Array Value)(nn i:Nat)(O:(Nat→Nat)→FOut)(F:Nat→Nat)(o:Option (Nat × Nat))(xs:Array Value)(xn:Nat)(ys:Array Value)(yn:Nat)(ts:Array Value)(tn:Nat):FItem where
 c:=Qk (sAt (Y0 P 787) 2) (.ref it) (ZG P 787 X.p)
 B:=nrm (shRF P X)
 pre:=[(it,itO "list_iterator" (.ref na) i),(na,Z0 nv nn),(X.p,rfr P F na ra ga o),(ra,Z0 xs xn),(ga,Z0 ys yn),(la,Z0 ts tn)]
 out:=fun _ _ l=>O l
 preS:=S
structure GP where
 ta:Nat
 g:Str
 tok:Nat
 la:Nat
 ts:List Str
 tf:Nat→Nat
 n:Nat
noncomputable def GP.led (d:GP):Led:=[(d.ta,Y5 [.str d.g d.tok,.ref d.la] 0),(d.la,Z0 (svA d.ts d.tf) d.n)]
noncomputable def WG (P:Params)(X:Fr)(S:Led)(it na ra ga la:Nat)(nv:Array Value)(nn i:Nat)(O:(Nat→Nat)→FOut)(x:Nat)(gt0:Str)(tells:List Str)(xs ys ts:Array Value)(tn:Nat)(F:Nat→Nat)(xt gt tok gl:Nat)(tf:Nat→Nat)(gn lb xn yn t:Nat):FItem :=
 QB P X (GP.led ⟨gt,gt0,tok,gl,tells,tf,gn⟩++((la,Z0 ts tn)::S)) it na ra ga lb nv nn (i+1) O F (some (x,xt)) (xs.push (.ref lb)) xn (ys.push (.ref gt)) yn #[.str (mkS []) t] 0
section
variable{b b2:Bool}{w:World}(hw:Wd b b2 w)(X:Fr)(S:Led)(it na ra ga la:Nat)(nv:Array Value)(nn i:Nat)(O:(Nat→Nat)→FOut)(F:Nat→Nat)
include b b2 w hw X S it na ra ga la nv nn i O F
theorem Z1V(xs:Array Value)(xn:Nat)(ys:Array Value)(yn:Nat)(ts:Array Value)(tn x t k:Nat)(hx:nv[i]?=some (.int (Int.ofNat x) t))(h:x%16=k)(hk:k<3)(gt0:Str)(tells:List Str)(hg:OK w (UW w.params X x gt0 tells))(hxs:xs.size<sizeLine)(hys:ys.size<sizeLine)
  (next:∀ F xt gt tok gl tf gn lb xn yn t,OK w (WG w.params X S it na ra ga la nv nn i O x gt0 tells xs ys ts tn F xt gt tok gl tf gn lb xn yn t)):OK w (QB w.params X S it na ra ga la nv nn i O F none xs xn ys yn ts tn):=by
 refine Z2 hw.w0 _ (fun sz tk ls=>(fun l0 l1 l2 l3=>WG w.params X S it na ra ga la nv nn i O x gt0 tells xs ys ts tn (fl [F 0,F 1,F 2,tk]) t (l1 2) (l1 3) (l1 4) (fun i=>l1 (i+20)) (l1 5) (l1 0) (xn+1) (yn+1) (l1 1)) (ls 0) (ls 1) (ls 2) (ls 3)) (fun _ _ _ _ _ _ _ _=>rfl) (fun _ _ _=>rfl) (fun _ _ _=>rfl) (fun c B p sz tk g he=>?_) (fun sz tk ls=>next _ _ _ _ _ _ _ _ _ _ _)
 change _=_ at he
 delta QB at he
 dsimp only at he
 replace he:=Zd he
 subst he
 refine ⟨106,.item [] ((ZX it na nv nn i (Value.int (Int.ofNat x) t)).fr S) (fun l0=>.item [Zl (Int.ofNat x) (Int.ofNat 16) (Int.ofNat k),Vr (Int.ofNat k) (Int.ofNat 3) true] ((UW w.params X x gt0 tells).fr S) (fun l1=>.item [] ((Q7 ga ys yn (l1 2)).fr S) (fun l2=>.item [] ((Q7 ra xs xn (l1 0)).fr S) (fun l3=>.fin [])))),(dg 28 0x707777660003055553113230001),[5,5,5,0,1,0,0,0,0],3,?_,fun ls=>?_⟩
 ·exact ⟨(fun x hx=>(nomatch hx)),(ZE hx).fr S,fun l0=>⟨(AllV.all ⟨Z9 (by decide) (fm h),Qi (decide_eq_true (by simp only[Int.ofNat_eq_natCast];omega)),trivial⟩),hg.fr S,fun l1=>⟨(fun x hx=>(nomatch hx)),(YK hys).fr S,fun l2=>⟨(fun x hx=>(nomatch hx)),(YK hxs).fr S,fun l3=>(fun x hx=>(nomatch hx))⟩⟩⟩⟩
 ·cases b <;> kernel_rfl
theorem Z05(xs:Array Value)(xn:Nat)(ys:Array Value)(yn:Nat)(ts:Array Value)(tn x t k:Nat)(hx:nv[i]?=some (.int (Int.ofNat x) t))(h:x%16=k)(hk:3≤k)(hk2:k<5)(hla:Y6 xs (Int.negSucc 0) (.ref la))(hts:ts.size<sizeLine)
  (next:∀ F xt xn yn t n,OK w (QB w.params X S it na ra ga la nv nn (i+1) O F (some (x,xt)) xs xn ys yn (ts.push (.str (mkS []) t)) n)):OK w (QB w.params X S it na ra ga la nv nn i O F none xs xn ys yn ts tn):=by
 refine Z2 hw.w0 _ (fun sz tk ls=>(fun l0 l1=>QB w.params X S it na ra ga la nv nn (i+1) O (fl [F 0,F 1,F 2,tk]) (some (x,t)) xs xn ys yn (ts.push (Value.str (mkS []) (l1 0))) (tn+1)) (ls 0) (ls 1)) (fun _ _ _ _ _ _ _ _=>rfl) (fun _ _ _=>rfl) (fun _ _ _=>rfl) (fun c B p sz tk g he=>?_) (fun sz tk ls=>next _ _ _ _ _ _)
 change _=_ at he
 delta QB at he
 dsimp only at he
 replace he:=Zd he
 subst he
 refine ⟨105,.item [] ((ZX it na nv nn i (Value.int (Int.ofNat x) t)).fr S) (fun l0=>.item [Zl (Int.ofNat x) (Int.ofNat 16) (Int.ofNat k),Vr (Int.ofNat k) (Int.ofNat 3) false,Zl (Int.ofNat x) (Int.ofNat 16) (Int.ofNat k),Vr (Int.ofNat k) (Int.ofNat 5) true,Ze ra xs xn (Int.negSucc 0) (Value.ref la)] ((YO la ts tn (mkS [])).fr S) (fun l1=>.fin [])),(dg 27 0x5066663144419f23113113230001),[1,1,1,1,1,0],0,?_,fun ls=>?_⟩
 ·exact ⟨(fun x hx=>(nomatch hx)),(ZE hx).fr S,fun l0=>⟨(AllV.all ⟨Z9 (by decide) (fm h),Qi (decide_eq_false (by simp only[Int.ofNat_eq_natCast];omega)),Z9 (by decide) (fm h),Qi (decide_eq_true (by simp only[Int.ofNat_eq_natCast];omega)),Z7 hla,trivial⟩),(Yo hts).fr S,fun l1=>(fun x hx=>(nomatch hx))⟩⟩
 ·cases b <;> kernel_rfl
theorem Z07(xs:Array Value)(xn:Nat)(ys:Array Value)(yn:Nat)(ts:Array Value)(tn x t k:Nat)(hx:nv[i]?=some (.int (Int.ofNat x) t))(h:x%16=k)(hk:5≤k)(hla:Y6 xs (Int.negSucc 0) (.ref la))(z s zz:Str)(tz:Nat)(b1 c1:Bool)(hts:0<ts.size)(hz:Y6 ts (Int.negSucc 0) (.str z tz))(hs:OK w (QN w.params X x s))(hzz:z++s=zz)(hb1:(z.length==0)=b1)(hc1:(s.length==0)=c1)(hzl:zz.length≤sizeLine)
  (next:∀ F xt xn yn t n,OK w (QB w.params X S it na ra ga la nv nn (i+1) O F (some (x,xt)) xs xn ys yn (ts.setIfInBounds (ts.size-1) (.str zz t)) n)):OK w (QB w.params X S it na ra ga la nv nn i O F none xs xn ys yn ts tn):=by
 refine Z2 hw.w0 _ (fun sz tk ls=>(fun l0 l1 l2=>QB w.params X S it na ra ga la nv nn (i+1) O (fl [F 0,F 1,F 2,tk]) (some (x,t)) xs xn ys yn (ts.setIfInBounds (ts.size-1) (Value.str zz (l2 0))) tn) (ls 0) (ls 1) (ls 2)) (fun _ _ _ _ _ _ _ _=>rfl) (fun _ _ _=>rfl) (fun _ _ _=>rfl) (fun c B p sz tk g he=>?_) (fun sz tk ls=>next _ _ _ _ _ _)
 change _=_ at he
 delta QB at he
 dsimp only at he
 replace he:=Zd he
 subst he
 refine ⟨142,.item [] ((ZX it na nv nn i (Value.int (Int.ofNat x) t)).fr S) (fun l0=>.item [Zl (Int.ofNat x) (Int.ofNat 16) (Int.ofNat k),Vr (Int.ofNat k) (Int.ofNat 3) false,Zl (Int.ofNat x) (Int.ofNat 16) (Int.ofNat k),Vr (Int.ofNat k) (Int.ofNat 5) false,Ze ra xs xn (Int.negSucc 0) (Value.ref la),Ze la ts tn (Int.negSucc 0) (Value.str z tz)] ((QN w.params X x s).fr S) (fun l1=>.item [QF z s zz b1 c1,Ze ra xs xn (Int.negSucc 0) (Value.ref la)] ((Z30 la ts tn (Int.negSucc 0) (Value.str zz 0) (fun l=>Value.str zz (l 0)) (ts.size-1)).fr S) (fun l2=>.fin []))),(dg 48 0x506619f23144419f231003025166619f23144419f23113113230001),[1,1,1,1,1,0],0,?_,fun ls=>?_⟩
 ·exact ⟨(fun x hx=>(nomatch hx)),(ZE hx).fr S,fun l0=>⟨(AllV.all ⟨Z9 (by decide) (fm h),Qi (decide_eq_false (by simp only[Int.ofNat_eq_natCast];omega)),Z9 (by decide) (fm h),Qi (decide_eq_false (by simp only[Int.ofNat_eq_natCast];omega)),Z7 hla,Z7 hz,trivial⟩),hs.fr S,fun l1=>⟨(AllV.all ⟨YV hzz hb1 hc1 hzl,Z7 hla,trivial⟩),(V8 hts).fr S,fun l2=>(fun x hx=>(nomatch hx))⟩⟩⟩
 ·cases b <;> kernel_rfl
theorem Z1U(x0 u0:Nat)(xs:Array Value)(xn:Nat)(ys:Array Value)(yn:Nat)(ts:Array Value)(tn x t k:Nat)(hx:nv[i]?=some (.int (Int.ofNat x) t))(h:x%16=k)(hk:k<3)(gt0:Str)(tells:List Str)(hg:OK w (UW w.params X x gt0 tells))(hxs:xs.size<sizeLine)(hys:ys.size<sizeLine)
  (next:∀ F xt gt tok gl tf gn lb xn yn t,OK w (WG w.params X S it na ra ga la nv nn i O x gt0 tells xs ys ts tn F xt gt tok gl tf gn lb xn yn t)):OK w (QB w.params X S it na ra ga la nv nn i O F (some (x0,u0)) xs xn ys yn ts tn):=by
 refine Z2 hw.w0 _ (fun sz tk ls=>(fun l0 l1 l2 l3=>WG w.params X S it na ra ga la nv nn i O x gt0 tells xs ys ts tn (fl [F 0,F 1,F 2,F 3]) t (l1 2) (l1 3) (l1 4) (fun i=>l1 (i+20)) (l1 5) (l1 0) (xn+1) (yn+1) (l1 1)) (ls 0) (ls 1) (ls 2) (ls 3)) (fun _ _ _ _ _ _ _ _=>rfl) (fun _ _ _=>rfl) (fun _ _ _=>rfl) (fun c B p sz tk g he=>?_) (fun sz tk ls=>next _ _ _ _ _ _ _ _ _ _ _)
 change _=_ at he
 delta QB at he
 dsimp only at he
 replace he:=Zd he
 subst he
 refine ⟨106,.item [] ((ZX it na nv nn i (Value.int (Int.ofNat x) t)).fr S) (fun l0=>.item [Zl (Int.ofNat x) (Int.ofNat 16) (Int.ofNat k),Vr (Int.ofNat k) (Int.ofNat 3) true] ((UW w.params X x gt0 tells).fr S) (fun l1=>.item [] ((Q7 ga ys yn (l1 2)).fr S) (fun l2=>.item [] ((Q7 ra xs xn (l1 0)).fr S) (fun l3=>.fin [])))),(dg 28 0x707777660003055553113230001),[5,5,5,0,1,0,0,0,0],3,?_,fun ls=>?_⟩
 ·exact ⟨(fun x hx=>(nomatch hx)),(ZE hx).fr S,fun l0=>⟨(AllV.all ⟨Z9 (by decide) (fm h),Qi (decide_eq_true (by simp only[Int.ofNat_eq_natCast];omega)),trivial⟩),hg.fr S,fun l1=>⟨(fun x hx=>(nomatch hx)),(YK hys).fr S,fun l2=>⟨(fun x hx=>(nomatch hx)),(YK hxs).fr S,fun l3=>(fun x hx=>(nomatch hx))⟩⟩⟩⟩
 ·cases b <;> kernel_rfl
theorem Z04(x0 u0:Nat)(xs:Array Value)(xn:Nat)(ys:Array Value)(yn:Nat)(ts:Array Value)(tn x t k:Nat)(hx:nv[i]?=some (.int (Int.ofNat x) t))(h:x%16=k)(hk:3≤k)(hk2:k<5)(hla:Y6 xs (Int.negSucc 0) (.ref la))(hts:ts.size<sizeLine)
  (next:∀ F xt xn yn t n,OK w (QB w.params X S it na ra ga la nv nn (i+1) O F (some (x,xt)) xs xn ys yn (ts.push (.str (mkS []) t)) n)):OK w (QB w.params X S it na ra ga la nv nn i O F (some (x0,u0)) xs xn ys yn ts tn):=by
 refine Z2 hw.w0 _ (fun sz tk ls=>(fun l0 l1=>QB w.params X S it na ra ga la nv nn (i+1) O (fl [F 0,F 1,F 2,F 3]) (some (x,t)) xs xn ys yn (ts.push (Value.str (mkS []) (l1 0))) (tn+1)) (ls 0) (ls 1)) (fun _ _ _ _ _ _ _ _=>rfl) (fun _ _ _=>rfl) (fun _ _ _=>rfl) (fun c B p sz tk g he=>?_) (fun sz tk ls=>next _ _ _ _ _ _)
 change _=_ at he
 delta QB at he
 dsimp only at he
 replace he:=Zd he
 subst he
 refine ⟨105,.item [] ((ZX it na nv nn i (Value.int (Int.ofNat x) t)).fr S) (fun l0=>.item [Zl (Int.ofNat x) (Int.ofNat 16) (Int.ofNat k),Vr (Int.ofNat k) (Int.ofNat 3) false,Zl (Int.ofNat x) (Int.ofNat 16) (Int.ofNat k),Vr (Int.ofNat k) (Int.ofNat 5) true,Ze ra xs xn (Int.negSucc 0) (Value.ref la)] ((YO la ts tn (mkS [])).fr S) (fun l1=>.fin [])),(dg 27 0x5066663144419f23113113230001),[1,1,1,1,1,0],0,?_,fun ls=>?_⟩
 ·exact ⟨(fun x hx=>(nomatch hx)),(ZE hx).fr S,fun l0=>⟨(AllV.all ⟨Z9 (by decide) (fm h),Qi (decide_eq_false (by simp only[Int.ofNat_eq_natCast];omega)),Z9 (by decide) (fm h),Qi (decide_eq_true (by simp only[Int.ofNat_eq_natCast];omega)),Z7 hla,trivial⟩),(Yo hts).fr S,fun l1=>(fun x hx=>(nomatch hx))⟩⟩
 ·cases b <;> kernel_rfl
theorem Z06(x0 u0:Nat)(xs:Array Value)(xn:Nat)(ys:Array Value)(yn:Nat)(ts:Array Value)(tn x t k:Nat)(hx:nv[i]?=some (.int (Int.ofNat x) t))(h:x%16=k)(hk:5≤k)(hla:Y6 xs (Int.negSucc 0) (.ref la))(z s zz:Str)(tz:Nat)(b1 c1:Bool)(hts:0<ts.size)(hz:Y6 ts (Int.negSucc 0) (.str z tz))(hs:OK w (QN w.params X x s))(hzz:z++s=zz)(hb1:(z.length==0)=b1)(hc1:(s.length==0)=c1)(hzl:zz.length≤sizeLine)
  (next:∀ F xt xn yn t n,OK w (QB w.params X S it na ra ga la nv nn (i+1) O F (some (x,xt)) xs xn ys yn (ts.setIfInBounds (ts.size-1) (.str zz t)) n)):OK w (QB w.params X S it na ra ga la nv nn i O F (some (x0,u0)) xs xn ys yn ts tn):=by
 refine Z2 hw.w0 _ (fun sz tk ls=>(fun l0 l1 l2=>QB w.params X S it na ra ga la nv nn (i+1) O (fl [F 0,F 1,F 2,F 3]) (some (x,t)) xs xn ys yn (ts.setIfInBounds (ts.size-1) (Value.str zz (l2 0))) tn) (ls 0) (ls 1) (ls 2)) (fun _ _ _ _ _ _ _ _=>rfl) (fun _ _ _=>rfl) (fun _ _ _=>rfl) (fun c B p sz tk g he=>?_) (fun sz tk ls=>next _ _ _ _ _ _)
 change _=_ at he
 delta QB at he
 dsimp only at he
 replace he:=Zd he
 subst he
 refine ⟨142,.item [] ((ZX it na nv nn i (Value.int (Int.ofNat x) t)).fr S) (fun l0=>.item [Zl (Int.ofNat x) (Int.ofNat 16) (Int.ofNat k),Vr (Int.ofNat k) (Int.ofNat 3) false,Zl (Int.ofNat x) (Int.ofNat 16) (Int.ofNat k),Vr (Int.ofNat k) (Int.ofNat 5) false,Ze ra xs xn (Int.negSucc 0) (Value.ref la),Ze la ts tn (Int.negSucc 0) (Value.str z tz)] ((QN w.params X x s).fr S) (fun l1=>.item [QF z s zz b1 c1,Ze ra xs xn (Int.negSucc 0) (Value.ref la)] ((Z30 la ts tn (Int.negSucc 0) (Value.str zz 0) (fun l=>Value.str zz (l 0)) (ts.size-1)).fr S) (fun l2=>.fin []))),(dg 48 0x506619f23144419f231003025166619f23144419f23113113230001),[1,1,1,1,1,0],0,?_,fun ls=>?_⟩
 ·exact ⟨(fun x hx=>(nomatch hx)),(ZE hx).fr S,fun l0=>⟨(AllV.all ⟨Z9 (by decide) (fm h),Qi (decide_eq_false (by simp only[Int.ofNat_eq_natCast];omega)),Z9 (by decide) (fm h),Qi (decide_eq_false (by simp only[Int.ofNat_eq_natCast];omega)),Z7 hla,Z7 hz,trivial⟩),hs.fr S,fun l1=>⟨(AllV.all ⟨YV hzz hb1 hc1 hzl,Z7 hla,trivial⟩),(V8 hts).fr S,fun l2=>(fun x hx=>(nomatch hx))⟩⟩⟩
 ·cases b <;> kernel_rfl
end
noncomputable def ORs (P:Params)(X:Fr)(na ra ga:Nat)(xs:Array Value)(xn:Nat)(ys:Array Value)(yn:Nat)(S:Led):(Nat→Nat)→FOut:=fun l=>⟨.ok .next,[(X.p,rfr P (fun i=>l (i+10)) na ra ga (some (l 9,l 8))),(ra,Z0 xs xn),(ga,Z0 ys yn)],l 0,l 1,id,S⟩
theorem rl_end{b b2:Bool}{w:World}(hw:Wd b b2 w)(X:Fr)(S:Led)(it na ra ga la:Nat)(nv:Array Value)(nn i:Nat)(F:Nat→Nat)(x0 u0:Nat)(xs:Array Value)(xn:Nat)(ys:Array Value)(yn:Nat)(ts:Array Value)(tn:Nat)(hx:nv.size≤i) :
  OK w (QB w.params X S it na ra ga la nv nn i (ORs w.params X na ra ga xs xn ys yn ((la,Z0 ts tn)::S)) F (some (x0,u0)) xs xn ys yn ts tn):=by
 refine Z1 hw.w0 _ fun c B p sz tk g he=>?_
 change _=_ at he
 delta QB at he
 dsimp only at he
 replace he:=Zd he
 subst he
 refine ⟨56,.item [] ((K4 it na nv nn i).fr S) (fun l0=>.fin []),[1,0,0,0,1,1],[4,4,4,4],1,fun ls=>(fun l0=>fl [sz+2,tk,0,0,0,0,0,0,u0,(x0,u0).fst,F 0,F 1,F 2,F 3]) (ls 0),?_,fun ls=>?_⟩
 ·exact ⟨(fun x hx=>(nomatch hx)),(Jm hx).fr S,fun l0=>(fun x hx=>(nomatch hx))⟩
 ·kernel_rfl
noncomputable def JD (P:Params)(X:Fr)(doc a r:Str):FItem where
 c:=.call (.ref 51) ⟨[.str doc 0],[]⟩
 B:=nrm (shP P X)
 pre:=[]
 out:=fun _ _ l=>⟨.ok (.ret (.ref (l 2))),[(l 2,Y5 [.str a (l 3),.str r (l 4)] 0)],l 0,l 1,id,[]⟩
theorem hone{z:Str}:[z].length≤sizeLine:=by show 1≤sizeLine;decide
theorem sd_one{b b2:Bool}{w:World}(hw:Wd b b2 w)(X:Fr)(doc z:Str)(sb:Bool)(hsb:stripSame Unicode.isSpace true true doc=sb)(hz:PySem.stripped Unicode.isSpace true true doc=z)(hl:z.length≤sizeLine)
  (hp:Yr z (z.length+1)=[z]):OK w (JD w.params X doc z (Str.ofString "")):=by
 refine Z1 hw.w0 _ fun c B p sz tk g he=>?_
 obtain ⟨bs,rfl,hb⟩:=Z3 he
 obtain ⟨v1,rfl,e1⟩:=Z4 hb
 obtain ⟨u1,rfl⟩:=Zk e1
 refine ⟨110,.item [Qm "strip" doc z sb] (Zv z [z]) (fun l0=>.fin [Zu (sz+1) (svA [z] fun i=>l0 (i+20)) 0 1,Ze (sz+1) (svA [z] fun i=>l0 (i+20)) 0 0 (Value.str z (l0 20))]),(dg 24 0x11112d20120012011100100),[0],0,fun ls=>(fun l0=>fl [sz+3,l0 0+6,sz+2,l0 20,l0 0+5]) (ls 0),?_,fun ls=>?_⟩
 ·exact ⟨(AllV.all ⟨Kn hsb hz hl,trivial⟩),QZ hp hl hone,fun l0=>(AllV.all ⟨Zn rfl (by decide),Z7 (.inl ⟨0,rfl,by decide,rfl⟩),trivial⟩)⟩
 ·cases b <;> kernel_rfl
theorem sd_two{b b2:Bool}{w:World}(hw:Wd b b2 w)(X:Fr)(doc z a c j:Str)(rest:List Str)(sb sc o:Bool)(k:Nat)(hsb:stripSame Unicode.isSpace true true doc=sb)(hz:PySem.stripped Unicode.isSpace true true doc=z)(hl:z.length≤sizeLine)
  (hp:Yr z (z.length+1)=a::c::rest)(hk:rest.length=k)(hkl:k+2≤sizeLine)(hc:stripSame Unicode.isSpace false true c=sc)(hcz:PySem.stripped Unicode.isSpace false true c=Str.ofString "")(ho:isOne rest=o)(hj:JH nlS rest=j)(hjl:j.length≤sizeLine)
  (hm:PySem.Builtin.Str.tooLong (rest.toArray.foldl (·+·.length+nlS.length) 0)=false):OK w (JD w.params X doc a j):=by
 refine Z1 hw.w0 _ fun c B p sz tk g he=>?_
 obtain ⟨bs,rfl,hb⟩:=Z3 he
 obtain ⟨v1,rfl,e1⟩:=Z4 hb
 obtain ⟨u1,rfl⟩:=Zk e1
 refine ⟨158,.item [Qm "strip" doc z sb] (Zv z (a::c::rest)) (fun l0=>.item [Zu (sz+1) (svA (a::c::rest) fun i=>l0 (i+20)) 0 (k+2),Z13 (Int.ofNat (k+2)) 1 false,Zu (sz+1) (svA (a::c::rest) fun i=>l0 (i+20)) 0 (k+2),Z2Y (Int.ofNat (k+2)) (Int.ofNat 2) true,Ze (sz+1) (svA (a::c::rest) fun i=>l0 (i+20)) 0 1 (Value.str c (l0 21)),Qm "rstrip" c (Str.ofString "") sc,Ze (sz+1) (svA (a::c::rest) fun i=>l0 (i+20)) 0 0 (Value.str a (l0 20))] (VU (sz+1) (sz+2) (svA (a::c::rest) fun i=>l0 (i+20)) 0 (Value.int 2 (l0 0+8+Bool.rec ((fun _=>1) ()) ((fun _=>0) ()) sc+4)) Value.none (svA rest fun i=>l0 (i+22))) (fun l1=>.fin [Nz nlS (sz+3) rest (fun i=>l0 (i+22)) 0 j o])),(dg 48 0x10102222011112822101111210120010120012011100100),[0],0,fun ls=>(fun l0 l1=>fl [sz+5,(Nat.brecOn.go (motive:=fun x=>Nat→Nat) (Bool.rec ((fun _=>1) ()) ((fun _=>0) ()) sc) Nat.add._f).1 (l0 0+8)+5+Bool.rec ((fun _=>1) ()) ((fun _=>0) ()) o,sz+4,l0 20,sel o ((fun i=>l0 (i+22)) 0) ((Nat.brecOn.go (motive:=fun x=>Nat→Nat) (Bool.rec ((fun _=>1) ()) ((fun _=>0) ()) sc) Nat.add._f).1 (l0 0+8)+5)]) (ls 0) (ls 1),?_,fun ls=>?_⟩
 ·exact ⟨(AllV.all ⟨Kn hsb hz hl,trivial⟩),QZ hp hl (by rw[List.length_cons,List.length_cons,hk];exact hkl),fun l0=>⟨(AllV.all ⟨Zn (by rw[Z6,List.length_cons,List.length_cons,hk]) (Nat.lt_of_le_of_lt hkl (by decide)),Vd (beq_eq_false_iff_ne.mpr (by simp only[Int.ofNat_eq_natCast];omega)),Zn (by rw[Z6,List.length_cons,List.length_cons,hk]) (Nat.lt_of_le_of_lt hkl (by decide)),UN (by exact decide_eq_true (by simp only[Int.ofNat_eq_natCast];omega)),Z7 (.inl ⟨1,rfl,by decide,rfl⟩),Vb hc hcz (by decide +kernel),Z7 (.inl ⟨0,rfl,by decide,rfl⟩),trivial⟩),Vc (.int _ _) .none sl2 (by rw[Z6,List.length_cons,List.length_cons,hk];exact hkl),fun l1=>(AllV.all ⟨WR ho hj hjl hm,trivial⟩)⟩⟩
 ·cases b <;> kernel_rfl
theorem sd_no{b b2:Bool}{w:World}(hw:Wd b b2 w)(X:Fr)(doc z a c e j:Str)(rest:List Str)(sb sc:Bool)(k m:Nat)(hsb:stripSame Unicode.isSpace true true doc=sb)(hz:PySem.stripped Unicode.isSpace true true doc=z)(hl:z.length≤sizeLine)(hp:Yr z (z.length+1)=a::c::rest)(hk:rest.length=k)(hkl:k+2≤sizeLine)(hc:stripSame Unicode.isSpace false true c=sc)(hcz:PySem.stripped Unicode.isSpace false true c=e)(hel:e.length=m+1)(hes:e.length≤sizeLine)(hj:JH nlS (a::c::rest)=j)(hjl:j.length≤sizeLine)(hm:PySem.Builtin.Str.tooLong ((a::c::rest).toArray.foldl (·+·.length+nlS.length) 0)=false):OK w (JD w.params X doc (Str.ofString "") j):=by
 refine Z1 hw.w0 _ fun c B p sz tk g he=>?_
 obtain ⟨bs,rfl,hb⟩:=Z3 he
 obtain ⟨v1,rfl,e1⟩:=Z4 hb
 obtain ⟨u1,rfl⟩:=Zk e1
 refine ⟨136,.item [Qm "strip" doc z sb] (Zv z (a::c::rest)) (fun l0=>.fin [Zu (sz+1) (svA (a::c::rest) fun i=>l0 (i+20)) 0 (k+2),Z13 (Int.ofNat (k+2)) 1 false,Zu (sz+1) (svA (a::c::rest) fun i=>l0 (i+20)) 0 (k+2),Z2Y (Int.ofNat (k+2)) (Int.ofNat 2) true,Ze (sz+1) (svA (a::c::rest) fun i=>l0 (i+20)) 0 1 (Value.str c (l0 21)),Qm "rstrip" c e sc,ZH e (m+1),Nz nlS (sz+1) (a::c::rest) (fun i=>l0 (i+20)) 0 j false]),(dg 34 0x121101111210120010120012011100100),[0],0,fun ls=>(fun l0=>fl [sz+3,l0 0+8+Bool.rec ((fun _=>1) ()) ((fun _=>0) ()) sc+5,sz+2,l0 0+8+Bool.rec ((fun _=>1) ()) ((fun _=>0) ()) sc+2,sel false ((fun i=>l0 (i+20)) 0) (l0 0+8+Bool.rec ((fun _=>1) ()) ((fun _=>0) ()) sc+4)]) (ls 0),?_,fun ls=>?_⟩
 ·exact ⟨(AllV.all ⟨Kn hsb hz hl,trivial⟩),QZ hp hl (by rw[List.length_cons,List.length_cons,hk];exact hkl),fun l0=>(AllV.all ⟨Zn (by rw[Z6,List.length_cons,List.length_cons,hk]) (Nat.lt_of_le_of_lt hkl (by decide)),Vd (beq_eq_false_iff_ne.mpr (by simp only[Int.ofNat_eq_natCast];omega)),Zn (by rw[Z6,List.length_cons,List.length_cons,hk]) (Nat.lt_of_le_of_lt hkl (by decide)),UN (by exact decide_eq_true (by simp only[Int.ofNat_eq_natCast];omega)),Z7 (.inl ⟨1,rfl,by decide,rfl⟩),Vb hc hcz hes,Zy hel (by rw[←hel];exact Nat.lt_of_le_of_lt hes (by decide)),WR rfl hj hjl hm,trivial⟩)⟩
 ·cases b <;> kernel_rfl
structure RD where
 ta:Nat
 la:Nat
 ts:List Str
 tf:Nat→Nat
 n:Nat
 rest:Str
 tok:Nat
noncomputable def RD.led (d:RD):Led:=[(d.ta,Y5 [.ref d.la,.str d.rest d.tok] 0),(d.la,Z0 (svA d.ts d.tf) d.n)]
noncomputable def JE (ds:List RD):Led:=ds.flatMap RD.led
noncomputable def Qh (ds:List RD):Array Value:=(ds.map fun d=>Value.ref d.ta).toArray
noncomputable def pfr (P:Params)(X:Fr)(F:Nat→Nat)(page:Str)(rounds:Int)(rl:Nat)(rest:Str)(o:Option (Int × Str × Value))(r:Bool):Obj:=match o with
 | none=>frX ⟨#[en P "page" (F 0) (.str page (F 1)),en P "rounds" (F 2) (.int rounds (F 3)),en P "read" (F 4) (.ref rl),en P "rest" (F 5) (.str rest (F 6))],4⟩ (bif r then rdy 813 (.ref X.w) else #[])
 | some x=>frX ⟨#[en P "page" (F 0) (.str page (F 1)),en P "rounds" (F 2) (.int rounds (F 3)),en P "read" (F 4) (.ref rl),en P "rest" (F 5) (.str rest (F 6)),en P "k" (F 7) (.int x.1 (F 8)),en P "first" (F 9) (.str x.2.1 (F 10)),en P "told" (F 11) x.2.2],7⟩ (bif r then rdy 813 (.ref X.w) else #[])
noncomputable def shF (P:Params)(X:Fr):List Knd:=[.f (ZG P 813 X.p),.f (ZG P 823 X.w),.b "claim.caller"]
noncomputable def VM (P:Params)(X:Fr)(D5:Dt)(r:Bool)(S:Led)(it rl:Nat)(F:Nat→Nat)(page:Str)(rounds:Int)(rest:Str)(o:Option (Int × Str × Value))(k left:Int)(xs:Array Value)(n:Nat)(O:(Nat→Nat)→FOut):FItem where
 c:=Qk (sAt (Y0 P 813) 2) (.ref it) (ZG P 813 X.p)
 B:=nrm (shF P X)
 pre:=[(it,riO k left 1),(X.p,pfr P X F page rounds rl rest o r),(X.w,frX D5 (bif r then rdy 823 .notImplemented else #[])),(rl,Z0 xs n)]
 out:=fun _ _ l=>O l
 preS:=S
noncomputable def W3 (D:Nat→Dt)(d:Dt):Nat→Dt:=fun i=>match i with
 | 4=>d
 | i=>D i
noncomputable def W2 (D:Nat→Dt)(d:Dt):Nat→Dt:=fun i=>match i with
 | 5=>d
 | i=>D i
noncomputable def V6 (P:Params)(X:Fr)(D5:Dt)(S:Led)(it rl:Nat)(page:Str)(rounds:Int)(f r':Str)(ts:List Str)(k left:Int)(xs:Array Value)(O:(Nat→Nat)→FOut)(F:Nat→Nat)(told ta:Nat)(tf:Nat→Nat)(m t n:Nat):FItem :=
 VM P X D5 true (RD.led ⟨ta,told,ts,tf,m,r',t⟩++S) it rl F page rounds r' (some (k,f,.ref told)) (k+1) (left-1) (xs.push (.ref ta)) n O
noncomputable def told:Bool→List Str→(Nat→Nat)→Value × Led
 | true,ts=>fun l=>(.ref (l 5),[(l 5,Z0 (svA ts (fun i=>l (2*i+20))) (l 6))])
 | false,_=>fun l=>(.str (Str.ofString "No closing quotation") (l 5),[])
noncomputable def hdN (l:Nat→Nat):Nat→Nat:=fun j=>l (2*j)
noncomputable def tlN (l:Nat→Nat):Nat→Nat:=fun j=>l (2*j+1)
noncomputable def rdOf (v:List Str × Str)(h:Nat→Nat):RD:=⟨h 0,h 1,v.1,fun i=>h (i+4),h 2,v.2,h 3⟩
noncomputable def JA (vs:List (List Str × Str))(l:Nat→Nat):List RD:=match vs with
 | []=>[]
 | v::vs=>rdOf v (hdN l)::JA vs (tlN l)
noncomputable def OPL (X:Fr)(D5:Dt)(rl:Nat)(xs:Array Value)(S:Led)(vs:List (List Str × Str))(f r':Str)(tb:Bool)(ts:List Str):(Nat→Nat)→FOut:=fun l =>
 ⟨.ok (.ret (.ref (l 2))),(l 2,Y5 [.ref rl,.str f (l 3),.str r' (l 4),(told tb ts l).1] 0)::(rl,Z0 (xs++Qh (JA vs (fun i=>l (2*i+21)))) (l 7))::[(X.w,frX D5 (rdy 823 .notImplemented))],l 0,l 1,id,((told tb ts l).2++JE (JA vs (fun i=>l (2*i+21))))++S⟩
noncomputable def OPs (X:Fr)(D5:Dt)(rl:Nat)(xs:Array Value)(n:Nat)(S:Led)(f r':Str)(tb:Bool)(ts:List Str):(Nat→Nat)→FOut:=fun l =>
 ⟨.ok (.ret (.ref (l 2))),(l 2,Y5 [.ref rl,.str f (l 3),.str r' (l 4),(match tb with | true=>.ref (l 5) | false=>.str (Str.ofString "No closing quotation") (l 5))] 0)::(rl,Z0 xs n)::(X.w,frX D5 (rdy 823 .notImplemented))::(match tb with | true=>[(l 5,Z0 (svA ts (fun i=>l (i+20))) (l 6))] | false=>[]),l 0,l 1,id,S⟩
section
variable{b b2:Bool}{w:World}(hw:Wd b b2 w)(X:Fr)(D5:Dt)(r:Bool)(S:Led)(it rl:Nat)(F:Nat→Nat)(page:Str)(rounds:Int)
include b b2 w hw X D5 r S it rl F page rounds
theorem Z0l(rest f r':Str)(ts:List Str)(k left:Int)(xs:Array Value)(n:Nat)(O:(Nat→Nat)→FOut)
  (hleft:0<left)(hsd:OK w (JD w.params X rest f r'))(hf:eqS f (Str.ofString "")=false)(htd:∀ D,OK w (UU w.params X D r f ts))(hs:xs.size<sizeLine)
  (next:∀ F told ta tf m t n,OK w (V6 w.params X D5 S it rl page rounds f r' ts k left xs O F told ta tf m t n)) :
  OK w (VM w.params X D5 r S it rl F page rounds rest none k left xs n O):=by
 refine Z2 hw.w0 _ (fun sz tk ls=>(fun l0 l1 l2 l3=>V6 w.params X D5 S it rl page rounds f r' ts k left xs O (fl [F 0,F 1,F 2,F 3,F 4,F 5,l1 4,tk+1,tk,l1 1,l1 3,l2 1]) (l2 2) (l2 0) (fun i=>l2 (i+20)) (l2 3) (l1 4) (n+1)) (ls 0) (ls 1) (ls 2) (ls 3)) (fun _ _ _ _ _ _ _ _=>rfl) (fun _ _ _=>rfl) (fun _ _ _=>rfl) (fun c B p sz tk g he=>?_) (fun sz tk ls=>next _ _ _ _ _ _ _)
 change _=_ at he
 delta VM at he
 dsimp only at he
 replace he:=Zd he
 subst he
 refine ⟨194,.item [] ((Zw it k left 1 (k+1) (left-1)).fr S) (fun l0=>.item [] ((JD w.params X rest f r').fr S) (fun l1=>.item [Zq f (Str.ofString "") false] ((UU w.params X (W2 (W3 (fun x=>{ es:=#[],n:=0 }) { es:=#[en w.params "page" (F 0) (Value.str page (F 1)),en w.params "rounds" (F 2) (Value.int rounds (F 3)),en w.params "read" (F 4) (Value.ref rl),en w.params "rest" (F 5) (Value.str r' (l1 4)),en w.params "k" (tk+1) (Value.int k tk),en w.params "first" (l1 1) (Value.str f (l1 3))],n:=6 }) D5) r f ts).fr S) (fun l2=>.item [Zq f (Str.ofString "") false] ((Q7 rl xs n (l2 0)).fr S) (fun l3=>.fin [])))),(dg 79 0x90229999211df1cf200200121255006160565610121131f1210121131f1210121131f121130f12111002012001),[9,3,3,0,0,0],2,?_,fun ls=>?_⟩
 ·exact ⟨(fun x hx=>(nomatch hx)),(Zp hleft rfl rfl).fr S,fun l0=>⟨(fun x hx=>(nomatch hx)),hsd.fr S,fun l1=>⟨(AllV.all ⟨Zi hf,trivial⟩),(htd _).fr S,fun l2=>⟨(AllV.all ⟨Zi hf,trivial⟩),(YK hs).fr S,fun l3=>(fun x hx=>(nomatch hx))⟩⟩⟩⟩
 ·cases b <;> kernel_rfl
theorem Z0n(rest f r':Str)(ts:List Str)(k left:Int)(xs:Array Value)(n:Nat)
  (hleft:0<left)(hsd:OK w (JD w.params X rest f r'))(hf:f=Str.ofString "")(htd:∀ D,OK w (UU w.params X D r r' ts)) :
  OK w (VM w.params X D5 r S it rl F page rounds rest none k left xs n (OPs X D5 rl xs n S f r' true ts)):=by
 subst hf
 refine Z1 hw.w0 _ fun c B p sz tk g he=>?_
 change _=_ at he
 delta VM at he
 dsimp only at he
 replace he:=Zd he
 subst he
 refine ⟨174,.item [] ((Zw it k left 1 (k+1) (left-1)).fr S) (fun l0=>.item [] ((JD w.params X rest (Str.ofString "") r').fr S) (fun l1=>.item [] ((UU w.params X (W2 (W3 (fun x=>{ es:=#[],n:=0 }) { es:=#[en w.params "page" (F 0) (Value.str page (F 1)),en w.params "rounds" (F 2) (Value.int rounds (F 3)),en w.params "read" (F 4) (Value.ref rl),en w.params "rest" (F 5) (Value.str r' (l1 4)),en w.params "k" (tk+1) (Value.int k tk),en w.params "first" (l1 1) (Value.str (Str.ofString "") (l1 3))],n:=6 }) D5) r r' ts).fr S) (fun l2=>.fin []))),(dg 66 0x22220ff2212550060ff260565610121131f1210121131f1210121131f121130f12111002012001),[0,8,2,0],0,fun ls=>(fun l0 l1 l2=>flT [l2 0+1,l2 1+2,l2 0,l1 3,l1 4,l2 2,l2 3,0,0,0,0,0,0,0,0,0,0,0,0,0] (fun i=>l2 (i+20))) (ls 0) (ls 1) (ls 2),?_,fun ls=>?_⟩
 ·exact ⟨(fun x hx=>(nomatch hx)),(Zp hleft rfl rfl).fr S,fun l0=>⟨(fun x hx=>(nomatch hx)),hsd.fr S,fun l1=>⟨(fun x hx=>(nomatch hx)),(htd _).fr S,fun l2=>(fun x hx=>(nomatch hx))⟩⟩⟩
 ·cases b <;> kernel_rfl
theorem Z22(rest f r':Str)(ts:List Str)(k left:Int)(xs:Array Value)(n:Nat)
  (hleft:0<left)(hsd:OK w (JD w.params X rest f r'))(hf:eqS f (Str.ofString "")=false)(htd:∀ D,OK w (VL w.params X D r f)) :
  OK w (VM w.params X D5 r S it rl F page rounds rest none k left xs n (OPs X D5 rl xs n S f r' false ts)):=by
 refine Z1 hw.w0 _ fun c B p sz tk g he=>?_
 change _=_ at he
 delta VM at he
 dsimp only at he
 replace he:=Zd he
 subst he
 refine ⟨195,.item [] ((Zw it k left 1 (k+1) (left-1)).fr S) (fun l0=>.item [] ((JD w.params X rest f r').fr S) (fun l1=>.item [Zq f (Str.ofString "") false] ((VL w.params X (W2 (W3 (fun x=>{ es:=#[],n:=0 }) { es:=#[en w.params "page" (F 0) (Value.str page (F 1)),en w.params "rounds" (F 2) (Value.int rounds (F 3)),en w.params "read" (F 4) (Value.ref rl),en w.params "rest" (F 5) (Value.str r' (l1 4)),en w.params "k" (tk+1) (Value.int k tk),en w.params "first" (l1 1) (Value.str f (l1 3))],n:=6 }) D5) r f).fr S) (fun l2=>.fin [Zq f (Str.ofString "") false]))),(dg 77 0x111144f45f2421df1cf200100110155006160565610121131f1210121131f1210121131f121130f12111002012001),[0,7,1],0,fun ls=>(fun l0 l1 l2=>fl [l2 0+1,l2 1+3,l2 0,l1 3,l1 4,l2 2]) (ls 0) (ls 1) (ls 2),?_,fun ls=>?_⟩
 ·exact ⟨(fun x hx=>(nomatch hx)),(Zp hleft rfl rfl).fr S,fun l0=>⟨(fun x hx=>(nomatch hx)),hsd.fr S,fun l1=>⟨(AllV.all ⟨Zi hf,trivial⟩),(htd _).fr S,fun l2=>(AllV.all ⟨Zi hf,trivial⟩)⟩⟩⟩
 ·cases b <;> kernel_rfl
theorem Z0k(k0:Int)(f0:Str)(told0:Value)(rest f r':Str)(ts:List Str)(k left:Int)(xs:Array Value)(n:Nat)(O:(Nat→Nat)→FOut)
  (hleft:0<left)(hsd:OK w (JD w.params X rest f r'))(hf:eqS f (Str.ofString "")=false)(htd:∀ D,OK w (UU w.params X D r f ts))(hs:xs.size<sizeLine)
  (next:∀ F told ta tf m t n,OK w (V6 w.params X D5 S it rl page rounds f r' ts k left xs O F told ta tf m t n)) :
  OK w (VM w.params X D5 r S it rl F page rounds rest (some (k0,f0,told0)) k left xs n O):=by
 refine Z2 hw.w0 _ (fun sz tk ls=>(fun l0 l1 l2 l3=>V6 w.params X D5 S it rl page rounds f r' ts k left xs O (fl [F 0,F 1,F 2,F 3,F 4,F 5,l1 4,F 7,tk,F 9,l1 3,F 11]) (l2 2) (l2 0) (fun i=>l2 (i+20)) (l2 3) (l1 4) (n+1)) (ls 0) (ls 1) (ls 2) (ls 3)) (fun _ _ _ _ _ _ _ _=>rfl) (fun _ _ _=>rfl) (fun _ _ _=>rfl) (fun c B p sz tk g he=>?_) (fun sz tk ls=>next _ _ _ _ _ _ _)
 change _=_ at he
 delta VM at he
 dsimp only at he
 replace he:=Zd he
 subst he
 refine ⟨194,.item [] ((Zw it k left 1 (k+1) (left-1)).fr S) (fun l0=>.item [] ((JD w.params X rest f r').fr S) (fun l1=>.item [Zq f (Str.ofString "") false] ((UU w.params X (W2 (W3 (fun x=>{ es:=#[],n:=0 }) { es:=#[en w.params "page" (F 0) (Value.str page (F 1)),en w.params "rounds" (F 2) (Value.int rounds (F 3)),en w.params "read" (F 4) (Value.ref rl),en w.params "rest" (F 5) (Value.str r' (l1 4)),en w.params "k" (F 7) (Value.int k tk),en w.params "first" (F 9) (Value.str f (l1 3)),en w.params "told" (F 11) told0],n:=7 }) D5) r f ts).fr S) (fun l2=>.item [Zq f (Str.ofString "") false] ((Q7 rl xs n (l2 0)).fr S) (fun l3=>.fin [])))),(dg 79 0x90229999211df1cf200200121255006160565610121131f1210121131f1210121131f121130f12111002012001),[9,3,3,0,0,0],2,?_,fun ls=>?_⟩
 ·exact ⟨(fun x hx=>(nomatch hx)),(Zp hleft rfl rfl).fr S,fun l0=>⟨(fun x hx=>(nomatch hx)),hsd.fr S,fun l1=>⟨(AllV.all ⟨Zi hf,trivial⟩),(htd _).fr S,fun l2=>⟨(AllV.all ⟨Zi hf,trivial⟩),(YK hs).fr S,fun l3=>(fun x hx=>(nomatch hx))⟩⟩⟩⟩
 ·cases b <;> kernel_rfl
theorem Z0m(k0:Int)(f0:Str)(told0:Value)(rest f r':Str)(ts:List Str)(k left:Int)(xs:Array Value)(n:Nat)
  (hleft:0<left)(hsd:OK w (JD w.params X rest f r'))(hf:f=Str.ofString "")(htd:∀ D,OK w (UU w.params X D r r' ts)) :
  OK w (VM w.params X D5 r S it rl F page rounds rest (some (k0,f0,told0)) k left xs n (OPs X D5 rl xs n S f r' true ts)):=by
 subst hf
 refine Z1 hw.w0 _ fun c B p sz tk g he=>?_
 change _=_ at he
 delta VM at he
 dsimp only at he
 replace he:=Zd he
 subst he
 refine ⟨174,.item [] ((Zw it k left 1 (k+1) (left-1)).fr S) (fun l0=>.item [] ((JD w.params X rest (Str.ofString "") r').fr S) (fun l1=>.item [] ((UU w.params X (W2 (W3 (fun x=>{ es:=#[],n:=0 }) { es:=#[en w.params "page" (F 0) (Value.str page (F 1)),en w.params "rounds" (F 2) (Value.int rounds (F 3)),en w.params "read" (F 4) (Value.ref rl),en w.params "rest" (F 5) (Value.str r' (l1 4)),en w.params "k" (F 7) (Value.int k tk),en w.params "first" (F 9) (Value.str (Str.ofString "") (l1 3)),en w.params "told" (F 11) told0],n:=7 }) D5) r r' ts).fr S) (fun l2=>.fin []))),(dg 66 0x22220ff2212550060ff260565610121131f1210121131f1210121131f121130f12111002012001),[0,8,2,0],0,fun ls=>(fun l0 l1 l2=>flT [l2 0+1,l2 1+2,l2 0,l1 3,l1 4,l2 2,l2 3,0,0,0,0,0,0,0,0,0,0,0,0,0] (fun i=>l2 (i+20))) (ls 0) (ls 1) (ls 2),?_,fun ls=>?_⟩
 ·exact ⟨(fun x hx=>(nomatch hx)),(Zp hleft rfl rfl).fr S,fun l0=>⟨(fun x hx=>(nomatch hx)),hsd.fr S,fun l1=>⟨(fun x hx=>(nomatch hx)),(htd _).fr S,fun l2=>(fun x hx=>(nomatch hx))⟩⟩⟩
 ·cases b <;> kernel_rfl
theorem Z21(k0:Int)(f0:Str)(told0:Value)(rest f r':Str)(ts:List Str)(k left:Int)(xs:Array Value)(n:Nat)
  (hleft:0<left)(hsd:OK w (JD w.params X rest f r'))(hf:eqS f (Str.ofString "")=false)(htd:∀ D,OK w (VL w.params X D r f)) :
  OK w (VM w.params X D5 r S it rl F page rounds rest (some (k0,f0,told0)) k left xs n (OPs X D5 rl xs n S f r' false ts)):=by
 refine Z1 hw.w0 _ fun c B p sz tk g he=>?_
 change _=_ at he
 delta VM at he
 dsimp only at he
 replace he:=Zd he
 subst he
 refine ⟨195,.item [] ((Zw it k left 1 (k+1) (left-1)).fr S) (fun l0=>.item [] ((JD w.params X rest f r').fr S) (fun l1=>.item [Zq f (Str.ofString "") false] ((VL w.params X (W2 (W3 (fun x=>{ es:=#[],n:=0 }) { es:=#[en w.params "page" (F 0) (Value.str page (F 1)),en w.params "rounds" (F 2) (Value.int rounds (F 3)),en w.params "read" (F 4) (Value.ref rl),en w.params "rest" (F 5) (Value.str r' (l1 4)),en w.params "k" (F 7) (Value.int k tk),en w.params "first" (F 9) (Value.str f (l1 3)),en w.params "told" (F 11) told0],n:=7 }) D5) r f).fr S) (fun l2=>.fin [Zq f (Str.ofString "") false]))),(dg 77 0x111144f45f2421df1cf200100110155006160565610121131f1210121131f1210121131f121130f12111002012001),[0,7,1],0,fun ls=>(fun l0 l1 l2=>fl [l2 0+1,l2 1+3,l2 0,l1 3,l1 4,l2 2]) (ls 0) (ls 1) (ls 2),?_,fun ls=>?_⟩
 ·exact ⟨(fun x hx=>(nomatch hx)),(Zp hleft rfl rfl).fr S,fun l0=>⟨(fun x hx=>(nomatch hx)),hsd.fr S,fun l1=>⟨(AllV.all ⟨Zi hf,trivial⟩),(htd _).fr S,fun l2=>(AllV.all ⟨Zi hf,trivial⟩)⟩⟩⟩
 ·cases b <;> kernel_rfl
end
inductive Peel (w:World):Nat→Str→List (List Str × Str)→Str→Str→Bool→List Str→Prop where
 | list {n:Nat}{rest r':Str}{ts:List Str}:(∀ X,OK w (JD w.params X rest (Str.ofString "") r'))→(∀ X D r,OK w (UU w.params X D r r' ts))→Peel w (n+1) rest [] (Str.ofString "") r' true ts
 | err {n:Nat}{rest f r':Str}:(∀ X,OK w (JD w.params X rest f r'))→eqS f (Str.ofString "")=false→(∀ X D r,OK w (VL w.params X D r f))→Peel w (n+1) rest [] f r' false []
 | more {n:Nat}{rest f r' f' r'':Str}{ts ts':List Str}{vs:List (List Str × Str)}{tb:Bool}:(∀ X,OK w (JD w.params X rest f r'))→eqS f (Str.ofString "")=false→(∀ X D r,OK w (UU w.params X D r f ts))→Peel w n r' vs f' r'' tb ts'→Peel w (n+1) rest ((ts,r')::vs) f' r'' tb ts'
noncomputable def UQ (h t:Nat→Nat):Nat→Nat:=fun j=>if j%2=0 then h (j / 2) else t (j / 2)
theorem JU(h t:Nat→Nat):hdN (UQ h t)=h:=by
 funext j
 unfold hdN UQ
 rw[if_pos (by omega)]
 congr 1;omega
theorem JM(h t:Nat→Nat):tlN (UQ h t)=t:=by
 funext j
 unfold tlN UQ
 rw[if_neg (by omega)]
 congr 1;omega
noncomputable def lay (a:Nat→Nat)(e o:Nat→Nat):Nat→Nat:=fun j=>if j<20 then a j else UQ e o (j-20)
theorem YB(a e o:Nat→Nat)(j:Nat)(h:j<20):lay a e o j=a j:=if_pos h
theorem UR(a e o:Nat→Nat):(fun i=>lay a e o (2*i+20))=e:=by
 funext i
 unfold lay UQ
 rw[if_neg (by omega),if_pos (by omega)]
 congr 1;exact nb8 i
theorem Z0G(a e o:Nat→Nat):(fun i=>lay a e o (2*i+21))=o:=by
 funext i
 unfold lay UQ
 rw[if_neg (by omega),if_neg (by omega)]
 congr 1;exact nb9 i
theorem Z0u {w:World}{it it':FItem}{X:Fr}{D5:Dt}{rl:Nat}{xs:Array Value}{n:Nat}{S:Led}{f r':Str}{tb:Bool}{ts:List Str}(h:OK w it)(e:it'={ it with out:=fun _ _ l=>OPL X D5 rl xs S [] f r' tb ts l })(ho:it.out=fun _ _ l=>OPs X D5 rl xs n S f r' tb ts l):OK w it':=by
 subst e
 refine h.conseq [] rfl (fun _ e=>e) (fun _ e=>e) (by rw[List.append_nil]) fun sz tk l=>?_
 rw[ho]
 generalize hL:lay (fun j=>if j=7 then n else l j) (fun i=>l (i+20)) (fun _=>0)=L
 have lo:∀ j,j<20→j≠7→L j=l j:=fun j hj h7=>by rw[←hL];exact (YB _ _ _ j hj).trans (if_neg h7)
 have l7:L 7=n:=by rw[←hL];exact (YB _ _ _ 7 (by decide)).trans (if_pos rfl)
 have le:(fun i=>L (2*i+20))=fun i=>l (i+20):=by rw[←hL];exact UR _ _ _
 refine ⟨L,[],?_,lo 0 (by decide) (by decide),lo 1 (by decide) (by decide),rfl,?_⟩
 ·show Except.ok _=Except.ok _;rw[lo 2 (by decide) (by decide)]
 ·rw[List.append_nil,List.append_nil]
  have e1:(OPL X D5 rl xs S [] f r' tb ts L).all=(OPs X D5 rl xs n S f r' tb ts l).all:=by
   have ex:xs++Qh []=xs:=by simp[Qh]
   have et:told tb ts L=(match tb with | true=>.ref (l 5) | false=>.str (Str.ofString "No closing quotation") (l 5),match tb with | true=>[(l 5,Z0 (svA ts (fun i=>l (i+20))) (l 6))] | false=>[]):=by
    cases tb with
    | true =>
     show ((Value.ref (L 5),[(L 5,Z0 (svA ts (fun i=>L (2*i+20))) (L 6))]):Value × Led)=_
     rw[le,lo 5 (by decide) (by decide),lo 6 (by decide) (by decide)]
    | false =>
     show ((Value.str _ (L 5),[]):Value × Led)=_
     rw[lo 5 (by decide) (by decide)]
   show ((L 2,Y5 [.ref rl,.str f (L 3),.str r' (L 4),(told tb ts L).1] 0)::(rl,Z0 (xs++Qh []) (L 7))::[(X.w,frX D5 (rdy 823 .notImplemented))])++(((told tb ts L).2++[])++S)=_
   rw[et,ex,l7,lo 2 (by decide) (by decide),lo 3 (by decide) (by decide),lo 4 (by decide) (by decide),List.append_nil]
   cases tb <;> rfl
  rw[e1]
theorem Z0v {w:World}{it it':FItem}{X:Fr}{D5:Dt}{rl:Nat}{xs:Array Value}{S:Led}{f r':Str}{tb:Bool}{ts:List Str}{d:RD}{vs:List (List Str × Str)}(h:OK w it)(e:it'={ it with out:=fun _ _ l=>OPL X D5 rl xs S ((d.ts,d.rest)::vs) f r' tb ts l })
  (ho:it.out=fun _ _ l=>OPL X D5 rl (xs.push (.ref d.ta)) (d.led++S) vs f r' tb ts l):OK w it':=by
 subst e
 refine h.conseq [] rfl (fun _ e=>e) (fun _ e=>e) (by rw[List.append_nil]) fun sz tk l=>?_
 rw[ho]
 generalize hE:(UQ (fun i=>match i with | 0=>d.ta | 1=>d.la | 2=>d.n | 3=>d.tok | i+4=>d.tf i) (fun i=>l (2*i+21)))=E
 generalize hL:lay l (fun i=>l (2*i+20)) E=L
 have lo:∀ j,j<20→L j=l j:=fun j hj=>by rw[←hL];exact YB _ _ _ j hj
 have le:(fun i=>L (2*i+20))=fun i=>l (2*i+20):=by rw[←hL];exact UR _ _ _
 have lo':(fun i=>L (2*i+21))=E:=by rw[←hL];exact Z0G _ _ _
 refine ⟨L,[],?_,lo 0 (by decide),lo 1 (by decide),rfl,?_⟩
 ·show Except.ok _=Except.ok _;rw[lo 2 (by decide)]
 ·rw[List.append_nil,List.append_nil]
  have er':JA ((d.ts,d.rest)::vs) (fun i=>L (2*i+21))=d::JA vs (fun i=>l (2*i+21)):=by
   rw[lo',←hE]
   show rdOf _ (hdN _)::JA vs (tlN _)=_
   rw[JU,JM]
   rfl
  have ea:∀ ds,xs++Qh (d::ds)=xs.push (.ref d.ta)++Qh ds:=fun ds=>by
   apply Array.ext'
   simp[Qh]
  have et:told tb ts L=told tb ts l:=by
   cases tb with
   | true =>
    show ((Value.ref (L 5),[(L 5,Z0 (svA ts (fun i=>L (2*i+20))) (L 6))]):Value × Led)=_
    rw[le,lo 5 (by decide),lo 6 (by decide)]
    rfl
   | false =>
    show ((Value.str _ (L 5),[]):Value × Led)=_
    rw[lo 5 (by decide)]
    rfl
  show List.Perm (((l 2,Y5 [.ref rl,.str f (l 3),.str r' (l 4),(told tb ts l).1] 0)::(rl,Z0 (xs.push (.ref d.ta)++Qh (JA vs (fun i=>l (2*i+21)))) (l 7))::[(X.w,frX D5 (rdy 823 .notImplemented))])++(((told tb ts l).2++JE (JA vs (fun i=>l (2*i+21))))++(d.led++S)))
   (((L 2,Y5 [.ref rl,.str f (L 3),.str r' (L 4),(told tb ts L).1] 0)::(rl,Z0 (xs++Qh (JA ((d.ts,d.rest)::vs) (fun i=>L (2*i+21)))) (L 7))::[(X.w,frX D5 (rdy 823 .notImplemented))])++(((told tb ts L).2++JE (JA ((d.ts,d.rest)::vs) (fun i=>L (2*i+21))))++S))
  rw[er',ea,et,lo 2 (by decide),lo 3 (by decide),lo 4 (by decide),lo 7 (by decide)]
  rw[show JE (d::JA vs (fun i=>l (2*i+21)))=d.led++JE (JA vs (fun i=>l (2*i+21))) from rfl]
  refine .append_left _ ?_
  rw[←List.append_assoc]
  refine .append_right S ?_
  rw[List.append_assoc]
  exact List.perm_append_comm.append_left _
theorem pl_all{b b2:Bool}{w:World}(hw:Wd b b2 w)(X:Fr)(D5:Dt)(it rl:Nat)(page:Str)(rounds:Int):∀ {m:Nat}{rest:Str}{vs:List (List Str × Str)}{f r':Str}{tb:Bool}{ts:List Str},Peel w m rest vs f r' tb ts →
  ∀(r:Bool)(S:Led)(F:Nat→Nat)(o:Option (Int × Str × Value))(k left:Int)(xs:Array Value)(n:Nat),left=m→xs.size+vs.length<sizeLine →
  OK w (VM w.params X D5 r S it rl F page rounds rest o k left xs n (OPL X D5 rl xs S vs f r' tb ts)):=by
 intro m rest vs f r' tb ts h
 induction h with
 | @list n rest r' ts hsd htd =>
  intro r S F o k left xs n' hl hs
  cases o with
  | none=>exact Z0u (Z0n hw X D5 r S it rl F page rounds rest _ r' ts k left xs n' (by omega) (hsd X) rfl (fun D=>htd X D r)) rfl rfl
  | some o=>exact Z0u (Z0m hw X D5 r S it rl F page rounds o.1 o.2.1 o.2.2 rest _ r' ts k left xs n' (by omega) (hsd X) rfl (fun D=>htd X D r)) rfl rfl
 | @err n rest f r' hsd hf htd =>
  intro r S F o k left xs n' hl hs
  cases o with
  | none=>exact Z0u (Z22 hw X D5 r S it rl F page rounds rest f r' [] k left xs n' (by omega) (hsd X) hf (fun D=>htd X D r)) rfl rfl
  | some o=>exact Z0u (Z21 hw X D5 r S it rl F page rounds o.1 o.2.1 o.2.2 rest f r' [] k left xs n' (by omega) (hsd X) hf (fun D=>htd X D r)) rfl rfl
 | @more n rest f r' f' r'' ts ts' vs tb hsd hf htd hp ih =>
  intro r S F o k left xs n' hl hs
  rw[List.length_cons] at hs
  have next:∀ F told ta tf m t n,OK w (V6 w.params X D5 S it rl page rounds f r' ts k left xs (OPL X D5 rl xs S ((ts,r')::vs) f' r'' tb ts') F told ta tf m t n):=fun F told ta tf m t n =>
   Z0v (d:=⟨ta,told,ts,tf,m,r',t⟩) (ih true (RD.led ⟨ta,told,ts,tf,m,r',t⟩++S) F (some (k,f,.ref told)) (k+1) (left-1) (xs.push (.ref ta)) n (by omega) (by rw[Array.size_push];omega)) rfl rfl
  cases o with
  | none=>exact Z0l hw X D5 r S it rl F page rounds rest f r' ts k left xs n' _ (by omega) (hsd X) hf (fun D=>htd X D r) (by omega) next
  | some o=>exact Z0k hw X D5 r S it rl F page rounds o.1 o.2.1 o.2.2 rest f r' ts k left xs n' _ (by omega) (hsd X) hf (fun D=>htd X D r) (by omega) next
noncomputable def OPE (X:Fr)(D5:Dt)(vs:List (List Str × Str))(f r':Str)(tb:Bool)(ts:List Str):Nat→(Nat→Nat)→FOut:=fun sz l=>OPL X D5 (sz+1) #[] [] vs f r' tb ts l
noncomputable def itPE (P:Params)(X:Fr)(D5:Dt)(r:Bool)(page:Str)(rounds:Nat)(O:Nat→(Nat→Nat)→FOut):FItem where
 c:=.call (.ref 813) ⟨[.str page 0,.int (Int.ofNat rounds) 0],[]⟩
 B:=nrm [.f (ZG P 823 X.w),.b "claim.caller"]
 pre:=[(X.w,frX D5 (bif r then rdy 823 .notImplemented else #[]))]
 out:=fun sz _ l=>O sz l
noncomputable def itPL' (P:Params)(X:Fr)(D5:Dt)(it rl:Nat)(F:Nat→Nat)(page:Str)(rounds:Nat)(vs:List (List Str × Str))(f r':Str)(tb:Bool)(ts:List Str):FItem:=VM P X D5 false [] it rl F page (Int.ofNat rounds) page none 0 (Int.ofNat rounds) #[] 0 (OPL X D5 rl #[] [] vs f r' tb ts)
theorem pe_ok{b b2:Bool}{w:World}(hw:Wd b b2 w)(X:Fr)(D5:Dt)(page:Str)(rounds:Nat)(vs:List (List Str × Str))(f r':Str)(tb:Bool)(ts:List Str)(hr:Builtin.Range.small 0 (Int.ofNat rounds) 1=true)(hn:Builtin.Range.rangeSize 0 (Int.ofNat rounds) 1=Int.ofNat rounds)
  (h:∀ p it rl F,OK w (itPL' w.params { X with p:=p } D5 it rl F page rounds vs f r' tb ts)):OK w (itPE w.params X D5 false page rounds (OPE X D5 vs f r' tb ts)):=by
 refine Z1 hw.w0 _ fun c B p sz tk g he=>?_
 obtain ⟨bs,rfl,hb⟩:=Z3 he
 obtain ⟨v1,v2,rfl,e1,e2⟩:=Zj hb
 obtain ⟨u1,rfl⟩:=Zk e1
 obtain ⟨u2,rfl⟩:=Zt e2
 refine ⟨118,.item [] (Y3 (sz+2) 0 (Int.ofNat rounds) 1 (tk+4) u2 (tk+5) (Int.ofNat rounds)) (fun l0=>.item [] (itPL' w.params { g:=X.g,n:=X.n,s:=X.s,t:=X.t,p:=sz,w:=X.w } D5 (sz+3) (sz+1) (fl [tk,u1,tk+1,u2,tk+2,tk+3,u1]) page rounds vs f r' tb ts) (fun l1=>.fin [])),(dg 36 0x1220010011113f121133f2122001221210010100),[0,0,0],0,fun ls=>ls 1,?_,fun ls=>?_⟩
 ·exact ⟨(fun x hx=>(nomatch hx)),ZJ hr hn,fun l0=>⟨(fun x hx=>(nomatch hx)),h _ _ _ _,fun l1=>(fun x hx=>(nomatch hx))⟩⟩
 ·cases b <;> kernel_rfl
noncomputable def W0:Nat→List Nat × List (List Nat)
 | 0=>([32],[])
 | 1=>([9],[])
 | 2=>([160],[[160]])
 | 3=>([11,32,12],[[11],[12]])
 | 4=>([10],[])
 | _=>([13],[])
noncomputable def Qj (n:Nat):List Nat × List (List Nat):=if n%16=0 then ([10,10],[]) else if n%16=2 then ([10],[]) else (10::(W0 (n / 16%6)).1++[10],(W0 (n / 16%6)).2)
noncomputable def Z15:Nat→Nat
 | 0=>32
 | 1=>9
 | 2=>13
 | 3=>11
 | 4=>12
 | 5=>8232
 | _=>12288
noncomputable def Yl (n:Nat):List Nat:=match n%16 with
 | 13=>[Z15 (n / 16%1112064%7)]
 | 15=>if n / 16%1112064<55296 then [n / 16%1112064] else [n / 16%1112064+2048]
 | 5=>[10]
 | 6=>[10]
 | 7=>[32]
 | 8=>[97]
 | 9=>[39]
 | 10=>[34]
 | 11=>[92]
 | 12=>[160]
 | _=>[]
section
variable {b b2:Bool}{w:World}(hw:Wd b b2 w)(X:Fr)
include hw
theorem Z1n(n:Nat)(h:n%16<3):OK w (UW w.params X n (mkS (Qj n).1) ((Qj n).2.map mkS)):=by
 have h3:n%16=0∨n%16=1∨n%16=2:=by omega
 rcases h3 with h | h | h
 ·have e:Qj n=([10,10],[]):=by unfold Qj;rw[if_pos h]
  rw[e];exact gp_0 hw X n 0 h
 ·have h6:n / 16%6<6:=Nat.mod_lt _ (by decide)
  have e:Qj n=(10::(W0 (n / 16%6)).1++[10],(W0 (n / 16%6)).2):=by unfold Qj;rw[if_neg (by omega),if_neg (by omega)]
  rw[e]
  generalize hd:n / 16%6=d at h6
  match d,h6,hd with
  | 0,_,hd=>exact gp_1_0 hw X n _ h rfl hd
  | 1,_,hd=>exact gp_1_1 hw X n _ h rfl hd
  | 2,_,hd=>exact gp_1_2 hw X n _ h rfl hd
  | 3,_,hd=>exact gp_1_3 hw X n _ h rfl hd
  | 4,_,hd=>exact gp_1_4 hw X n _ h rfl hd
  | 5,_,hd=>exact gp_1_5 hw X n _ h rfl hd
 ·have e:Qj n=([10],[]):=by unfold Qj;rw[if_neg (by omega),if_pos h]
  rw[e];exact gp_2 hw X n 0 h
theorem Z1f(n:Nat)(h:5≤n%16):OK w (QN w.params X n (mkS (Yl n))):=by
 have h16:n%16<16:=Nat.mod_lt _ (by decide)
 unfold Yl
 generalize hk:n%16=k at h h16
 match k,h,h16,hk with
 | 5,_,_,hk=>exact sg_5 hw X n _ _ rfl rfl hk
 | 6,_,_,hk=>exact sg_6 hw X n _ _ rfl rfl hk
 | 7,_,_,hk=>exact sg_7 hw X n _ _ rfl rfl hk
 | 8,_,_,hk=>exact sg_8 hw X n _ _ rfl rfl hk
 | 9,_,_,hk=>exact sg_9 hw X n _ _ rfl rfl hk
 | 10,_,_,hk=>exact sg_10 hw X n _ _ rfl rfl hk
 | 11,_,_,hk=>exact sg_11 hw X n _ _ rfl rfl hk
 | 12,_,_,hk=>exact sg_12 hw X n _ _ rfl rfl hk
 | 13,_,_,hk =>
  have h7:n / 16%1112064%7<7:=Nat.mod_lt _ (by decide)
  generalize hd:n / 16%1112064%7=d at h7
  show OK w (QN w.params X n (mkS [Z15 d]))
  match d,h7,hd with
  | 0,_,hd=>exact Z1L hw X n _ _ rfl rfl hk hd
  | 1,_,hd=>exact Z1K hw X n _ _ rfl rfl hk hd
  | 2,_,hd=>exact Z1J hw X n _ _ rfl rfl hk hd
  | 3,_,hd=>exact Z1I hw X n _ _ rfl rfl hk hd
  | 4,_,hd=>exact Z1H hw X n _ _ rfl rfl hk hd
  | 5,_,hd=>exact Z1G hw X n _ _ rfl rfl hk hd
  | 6,_,hd=>exact Z1F hw X n _ _ rfl rfl hk hd
 | 14,_,_,hk=>exact sg_14 hw X n _ _ rfl rfl hk
 | 15,_,_,hk =>
  have hm:n / 16%1112064<1112064:=Nat.mod_lt _ (by decide)
  show OK w (QN w.params X n (mkS (if n / 16%1112064<55296 then [n / 16%1112064] else [n / 16%1112064+2048])))
  by_cases hl:n / 16%1112064<55296
  ·rw[if_pos hl];exact Z1E hw X n _ _ rfl rfl hk hl
  ·rw[if_neg hl];exact Z1D hw X n _ _ rfl rfl hk (Nat.le_of_not_lt hl) hm
 | k+16,_,h16,_=>omega
end
noncomputable def Y2:List Nat→List (List Nat)→List (List Nat) × List (List (List Nat)) × List (List Nat × List (List Nat))
 | [],cur=>(cur,[],[])
 | n::ns,cur=>if n%16<3 then (cur,(Y2 ns [[]]).1::(Y2 ns [[]]).2.1,Qj n::(Y2 ns [[]]).2.2)
  else if n%16<5 then Y2 ns (cur++[[]]) else Y2 ns (cur.dropLast++[cur.getLastD []++Yl n])
structure RWd where
 la:Nat
 ts:List Str
 tf:Nat→Nat
 n:Nat
noncomputable def RWd.led (d:RWd):Addr × Obj:=(d.la,Z0 (svA d.ts d.tf) d.n)
noncomputable def YW (rs:List (List (List Nat)))(l:Nat→Nat):List RWd:=match rs with
 | []=>[]
 | r::rs=>⟨hdN l 0,r.map mkS,fun i=>hdN l (i+2),hdN l 1⟩::YW rs (tlN l)
noncomputable def Q5 (gs:List (List Nat × List (List Nat)))(l:Nat→Nat):List GP:=match gs with
 | []=>[]
 | g::gs=>⟨hdN l 0,mkS g.1,hdN l 1,hdN l 2,g.2.map mkS,fun i=>hdN l (i+4),hdN l 3⟩::Q5 gs (tlN l)
noncomputable def rwA (ds:List RWd):Array Value:=(ds.map fun d=>Value.ref d.la).toArray
noncomputable def gpA (ds:List GP):Array Value:=(ds.map fun d=>Value.ref d.ta).toArray
noncomputable def rwS (ds:List RWd):Led:=ds.map RWd.led
noncomputable def gpS (ds:List GP):Led:=ds.flatMap GP.led
noncomputable def ORL (P:Params)(X:Fr)(na ra ga la:Nat)(xs ys:Array Value)(S:Led)(R:List (List Nat) × List (List (List Nat)) × List (List Nat × List (List Nat))):(Nat→Nat)→FOut:=fun l =>
 ⟨.ok .next,[(X.p,rfr P (fun i=>l (i+10)) na ra ga (some (l 9,l 8))),(ra,Z0 (xs++rwA (YW R.2.1 (hdN fun i=>l (2*i+21)))) (l 2)),(ga,Z0 (ys++gpA (Q5 R.2.2 (tlN fun i=>l (2*i+21)))) (l 3))],l 0,l 1,id,
  (la,Z0 (svA (R.1.map mkS) (fun i=>l (2*i+20))) (l 4))::(rwS (YW R.2.1 (hdN fun i=>l (2*i+21)))++gpS (Q5 R.2.2 (tlN fun i=>l (2*i+21)))++S)⟩
theorem V2{P:Params}{F G:Nat→Nat}(h:∀ i,i<4→F i=G i)(na ra ga:Nat)(o:Option (Nat × Nat)):rfr P F na ra ga o=rfr P G na ra ga o:=by
 cases o <;> (unfold rfr;dsimp only;rw[h 0 (by decide),h 1 (by decide),h 2 (by decide)]) <;> (try rw[h 3 (by decide)])
theorem U3:∀(ts:List Str)(f:Nat→Nat)(x:Str)(t:Nat),∃ f',(svA ts f).push (.str x t)=svA (ts++[x]) f':=by
 have key:∀(ts:List Str)(f:Nat→Nat)(x:Str)(t:Nat),∃ f',svL ts f++[.str x t]=svL (ts++[x]) f':=by
  intro ts
  induction ts with
  | nil=>exact fun f x t=>⟨fun _=>t,rfl⟩
  | cons y ts ih =>
   intro f x t
   obtain ⟨f',h⟩:=ih (fun i=>f (i+1)) x t
   refine ⟨fun i=>match i with | 0=>f 0 | i+1=>f' i,?_⟩
   show Value.str y (f 0)::(svL ts (fun i=>f (i+1))++[.str x t])=Value.str y (f 0)::_
   rw[h]
   rfl
 intro ts f x t
 obtain ⟨f',h⟩:=key ts f x t
 refine ⟨f',?_⟩
 unfold svA
 rw[←h]
 simp
theorem Wv:∀(ts:List Str)(f:Nat→Nat)(z:Str),∃ f' t,svL (ts++[z]) f=svL ts f'++[.str z t]:=by
 intro ts
 induction ts with
 | nil=>exact fun f z=>⟨f,f 0,rfl⟩
 | cons y ts ih =>
  intro f z
  obtain ⟨f',t,h⟩:=ih (fun i=>f (i+1)) z
  refine ⟨fun i=>match i with | 0=>f 0 | i+1=>f' i,t,?_⟩
  show Value.str y (f 0)::svL (ts++[z]) _=_
  rw[h]
  rfl
theorem U4(ts:List Str)(z:Str)(f:Nat→Nat)(zz:Str)(t:Nat):(∃ tz,Y6 (svA (ts++[z]) f) (Int.negSucc 0) (.str z tz))∧∃ f',(svA (ts++[z]) f).setIfInBounds ((svA (ts++[z]) f).size-1) (.str zz t)=svA (ts++[zz]) f':=by
 obtain ⟨f1,tz,h⟩:=Wv ts f z
 have hs:(svA (ts++[z]) f).size=ts.length+1:=by rw[Z6];simp
 have hl:(svL ts f1).length=ts.length:=Vu ts f1
 constructor
 ·refine ⟨tz,.inr ⟨0,rfl,by decide,by omega,?_⟩⟩
  rw[hs]
  unfold svA
  rw[h]
  simp[hl]
 ·obtain ⟨f2,h2⟩:=U3 ts f1 zz t
  refine ⟨f2,?_⟩
  rw[←h2,hs]
  apply Array.ext'
  unfold svA
  rw[h]
  simp[hl]
theorem Qw(xs:Array Value)(v:Value):Y6 (xs.push v) (Int.negSucc 0) v:=.inr ⟨0,rfl,by decide,by rw[Array.size_push];omega,by simp⟩
noncomputable def ivL (ns:List Nat)(t:Nat→Nat):List Value:=match ns with
 | []=>[]
 | n::ns=>.int (Int.ofNat n) (t 0)::ivL ns (fun i=>t (i+1))
noncomputable def ivA (ns:List Nat)(t:Nat→Nat):Array Value:=(ivL ns t).toArray
theorem N4:∀(ns:List Nat)(t:Nat→Nat),(ivL ns t).length=ns.length
 | [],_=>rfl
 | _::ns,t=>by show _+1=_+1;rw[N4 ns]
theorem N5:∀(ns:List Nat)(t:Nat→Nat)(i n:Nat),ns[i]?=some n→∃ u,(ivL ns t)[i]?=some (.int (Int.ofNat n) u)
 | _::_,t,0,n,h=>by cases h;exact ⟨_,rfl⟩
 | _::ns,t,i+1,n,h=>N5 ns (fun i=>t (i+1)) i n h
theorem Z0r{α:Type}(p1 p2:α)(A1 A2 A3 S:List α):(p1::(A1++A2++(A3++(p2::S)))).Perm (p2::((p1::A1)++(A3++A2)++S)):=by
 haveI:DecidableEq α:=fun a b=>Classical.propDecidable (a=b)
 rw[List.perm_iff_count]
 intro q
 simp only[List.count_cons,List.count_append]
 omega
section
variable {b b2:Bool}{w:World}(hw:Wd b b2 w)(X:Fr)(it na ra ga:Nat)(nv:Array Value)(nn:Nat)
include hw
theorem rl_all:∀(ns:List Nat)(i:Nat),(∀ j n,ns[j]?=some n→∃ t,nv[i+j]?=some (.int (Int.ofNat n) t))→nv.size=i+ns.length→∀(la:Nat)(xs ys:Array Value)(S:Led)(cur:List (List Nat)),cur≠[]→(∀ d∈cur,d.length+ns.length≤1000)→cur.length+ns.length≤1000→xs.size+ns.length≤1000→ys.size+ns.length≤1000 →
  ∀(F:Nat→Nat)(o:Option (Nat × Nat))(xn yn tn:Nat)(f:Nat→Nat),(ns=[]→o≠none)→OK w (QB w.params X S it na ra ga la nv nn i (ORL w.params X na ra ga la (xs.push (.ref la)) ys S (Y2 ns cur)) F o (xs.push (.ref la)) xn ys yn (svA (cur.map mkS) f) tn):=by
 have big:∀ {a:Nat},a≤1001→a<sizeLine:=fun h=>Nat.lt_of_le_of_lt h (by decide)
 intro ns
 induction ns with
 | nil =>
  intro i hn hsz la xs ys S cur hc h1 h2 h3 h4 F o xn yn tn f ho
  cases o with
  | none=>exact absurd rfl (ho rfl)
  | some o =>
  have h:=rl_end hw X S it na ra ga la nv nn i F o.1 o.2 (xs.push (.ref la)) xn ys yn (svA (cur.map mkS) f) tn (by rw[hsz];exact Nat.le_refl _)
  refine h.conseq [] rfl (fun _ e=>e) (fun _ e=>e) (by rw[List.append_nil];exact .refl _) fun sz tk l=>?_
  generalize hL:lay (fun j=>if j=2 then xn else if j=3 then yn else if j=4 then tn else l j) f (fun _=>0)=L
  have lo:∀ j,j<20→j≠2→j≠3→j≠4→L j=l j:=fun j hj a b c=>by rw[←hL];exact (YB _ _ _ j hj).trans (by rw[if_neg a,if_neg b,if_neg c])
  have l2:L 2=xn:=by rw[←hL];exact YB _ _ _ 2 (by decide)
  have l3:L 3=yn:=by rw[←hL];exact YB _ _ _ 3 (by decide)
  have l4:L 4=tn:=by rw[←hL];exact YB _ _ _ 4 (by decide)
  have le:(fun i=>L (2*i+20))=f:=by rw[←hL];exact UR _ _ _
  refine ⟨L,[],rfl,lo 0 (by decide) (by decide) (by decide) (by decide),lo 1 (by decide) (by decide) (by decide) (by decide),rfl,?_⟩
  rw[List.append_nil,List.append_nil]
  show List.Perm ([(X.p,rfr w.params (fun i=>l (i+10)) na ra ga (some (l 9,l 8))),(ra,Z0 (xs.push (.ref la)) xn),(ga,Z0 ys yn)]++((la,Z0 (svA (cur.map mkS) f) tn)::S))
   ([(X.p,rfr w.params (fun i=>L (i+10)) na ra ga (some (L 9,L 8))),(ra,Z0 (xs.push (.ref la)++#[]) (L 2)),(ga,Z0 (ys++#[]) (L 3))]++((la,Z0 (svA (cur.map mkS) (fun i=>L (2*i+20))) (L 4))::([]++[]++S)))
  rw[l2,l3,l4,le,lo 9 (by decide) (by decide) (by decide) (by decide),lo 8 (by decide) (by decide) (by decide) (by decide),V2 (F:=fun i=>L (i+10)) (G:=fun i=>l (i+10)) (fun i hi=>lo (i+10) (by omega) (by omega) (by omega) (by omega)),Array.append_empty,Array.append_empty]
  exact .refl _
 | cons n ns ih =>
  intro i hn hsz la xs ys S cur hc h1 h2 h3 h4 F o xn yn tn f ho
  rw[List.length_cons] at hsz h2 h3 h4
  obtain ⟨t,ht⟩:=hn 0 n rfl
  rw[Nat.add_zero] at ht
  have hn':∀ j m,ns[j]?=some m→∃ t,nv[i+1+j]?=some (.int (Int.ofNat m) t):=fun j m hj=>by
   obtain ⟨t,h⟩:=hn (j+1) m hj
   exact ⟨t,by rw[show i+1+j=i+(j+1) by omega];exact h⟩
  have hsz':nv.size=i+1+ns.length:=by omega
  have h1':∀ d∈cur,d.length+ns.length+1≤1000:=fun d hd=>by have:=h1 d hd;rw[List.length_cons] at this;omega
  have hcs:(svA (cur.map mkS) f).size=cur.length:=by rw[Z6,List.length_map]
  by_cases hk:n%16<3
  ·have eb:Y2 (n::ns) cur=(cur,(Y2 ns [[]]).1::(Y2 ns [[]]).2.1,Qj n::(Y2 ns [[]]).2.2):=by rw[Y2,if_pos hk]
   have next:∀ F xt gt tok gl tf gn lb xn yn t,OK w (WG w.params X S it na ra ga la nv nn i (ORL w.params X na ra ga la (xs.push (.ref la)) ys S (Y2 (n::ns) cur)) n (mkS (Qj n).1) ((Qj n).2.map mkS) (xs.push (.ref la)) ys (svA (cur.map mkS) f) tn F xt gt tok gl tf gn lb xn yn t):=fun F xt gt tok gl tf gn lb xn yn t=>by
    rw[eb]
    have h:=ih (i+1) hn' hsz' lb (xs.push (.ref la)) (ys.push (.ref gt)) (GP.led ⟨gt,mkS (Qj n).1,tok,gl,(Qj n).2.map mkS,tf,gn⟩++((la,Z0 (svA (cur.map mkS) f) tn)::S)) [[]] (by simp) (fun d hd=>by cases hd with | head=>simp;omega | tail _ h=>cases h) (by simp;omega) (by rw[Array.size_push];omega) (by rw[Array.size_push];omega) F (some (n,xt)) xn yn 0 (fun _=>t) (fun _=>by simp)
    generalize Y2 ns [[]]=R at h
    obtain ⟨c1,rws,gps⟩:=R
    refine h.conseq [] rfl (fun _ e=>e) (fun _ e=>e) (by rw[List.append_nil];exact .refl _) fun sz tk l=>?_
    generalize hE:UQ (UQ (fun i=>match i with | 0=>lb | 1=>l 4 | i+2=>l (2*i+20)) (hdN fun i=>l (2*i+21))) (UQ (fun i=>match i with | 0=>gt | 1=>tok | 2=>gl | 3=>gn | i+4=>tf i) (tlN fun i=>l (2*i+21)))=E
    generalize hL:lay (fun j=>if j=4 then tn else l j) f E=L
    have lo:∀ j,j<20→j≠4→L j=l j:=fun j hj c=>by rw[←hL];exact (YB _ _ _ j hj).trans (by rw[if_neg c])
    have l4:L 4=tn:=by rw[←hL];exact YB _ _ _ 4 (by decide)
    have le:(fun i=>L (2*i+20))=f:=by rw[←hL];exact UR _ _ _
    have lo':(fun i=>L (2*i+21))=E:=by rw[←hL];exact Z0G _ _ _
    refine ⟨L,[],rfl,lo 0 (by decide) (by decide),lo 1 (by decide) (by decide),rfl,?_⟩
    rw[List.append_nil,List.append_nil]
    have er:YW (c1::rws) (hdN E)=⟨lb,c1.map mkS,fun i=>l (2*i+20),l 4⟩::YW rws (hdN fun i=>l (2*i+21)):=by
     rw[←hE,JU]
     show (_:RWd)::YW rws (tlN _)=_
     rw[JU,JM]
    have eg:Q5 (Qj n::gps) (tlN E)=⟨gt,mkS (Qj n).1,tok,gl,(Qj n).2.map mkS,tf,gn⟩::Q5 gps (tlN fun i=>l (2*i+21)):=by
     rw[←hE,JM]
     show (_:GP)::Q5 gps (tlN _)=_
     rw[JU,JM]
    show List.Perm ([(X.p,rfr w.params (fun i=>l (i+10)) na ra ga (some (l 9,l 8))),(ra,Z0 ((xs.push (.ref la)).push (.ref lb)++rwA (YW rws (hdN fun i=>l (2*i+21)))) (l 2)),(ga,Z0 (ys.push (.ref gt)++gpA (Q5 gps (tlN fun i=>l (2*i+21)))) (l 3))] ++
      ((lb,Z0 (svA (c1.map mkS) (fun i=>l (2*i+20))) (l 4))::(rwS (YW rws (hdN fun i=>l (2*i+21)))++gpS (Q5 gps (tlN fun i=>l (2*i+21)))++(GP.led ⟨gt,mkS (Qj n).1,tok,gl,(Qj n).2.map mkS,tf,gn⟩++((la,Z0 (svA (cur.map mkS) f) tn)::S)))))
     ([(X.p,rfr w.params (fun i=>L (i+10)) na ra ga (some (L 9,L 8))),(ra,Z0 (xs.push (.ref la)++rwA (YW (c1::rws) (hdN fun i=>L (2*i+21)))) (L 2)),(ga,Z0 (ys++gpA (Q5 (Qj n::gps) (tlN fun i=>L (2*i+21)))) (L 3))] ++
      ((la,Z0 (svA (cur.map mkS) (fun i=>L (2*i+20))) (L 4))::(rwS (YW (c1::rws) (hdN fun i=>L (2*i+21)))++gpS (Q5 (Qj n::gps) (tlN fun i=>L (2*i+21)))++S)))
    rw[lo',er,eg,l4,le,lo 9 (by decide) (by decide),lo 8 (by decide) (by decide),lo 2 (by decide) (by decide),lo 3 (by decide) (by decide),V2 (F:=fun i=>L (i+10)) (G:=fun i=>l (i+10)) (fun i hi=>lo (i+10) (by omega) (by omega))]
    have e1:∀ ds,xs.push (.ref la)++rwA ((⟨lb,c1.map mkS,fun i=>l (2*i+20),l 4⟩:RWd)::ds)=(xs.push (.ref la)).push (.ref lb)++rwA ds:=fun ds=>by apply Array.ext';simp[rwA]
    have e2:∀ ds,ys++gpA ((⟨gt,mkS (Qj n).1,tok,gl,(Qj n).2.map mkS,tf,gn⟩:GP)::ds)=ys.push (.ref gt)++gpA ds:=fun ds=>by apply Array.ext';simp[gpA]
    rw[e1,e2]
    refine .append_left _ ?_
    rw[show ∀ d ds,rwS (d::ds)=d.led::rwS ds from fun _ _=>rfl,show ∀ d ds,gpS (d::ds)=d.led++gpS ds from fun _ _=>rfl]
    exact Z0r _ _ _ _ _ _
   cases o with
   | none=>exact Z1V hw X S it na ra ga la nv nn i _ F (xs.push (.ref la)) xn ys yn _ tn n t _ ht rfl hk _ _ (Z1n hw X n hk) (by rw[Array.size_push];exact big (by omega)) (big (by omega)) next
   | some o=>exact Z1U hw X S it na ra ga la nv nn i _ F o.1 o.2 (xs.push (.ref la)) xn ys yn _ tn n t _ ht rfl hk _ _ (Z1n hw X n hk) (by rw[Array.size_push];exact big (by omega)) (big (by omega)) next
  ·by_cases hk5:n%16<5
   ·have eb:Y2 (n::ns) cur=Y2 ns (cur++[[]]):=by rw[Y2,if_neg hk,if_pos hk5]
    have next:∀ F xt xn yn t tn,OK w (QB w.params X S it na ra ga la nv nn (i+1) (ORL w.params X na ra ga la (xs.push (.ref la)) ys S (Y2 (n::ns) cur)) F (some (n,xt)) (xs.push (.ref la)) xn ys yn ((svA (cur.map mkS) f).push (.str (mkS []) t)) tn):=fun F xt xn yn t tn=>by
     rw[eb]
     obtain ⟨f',hf⟩:=U3 (cur.map mkS) f (mkS []) t
     rw[hf,show cur.map mkS++[mkS []]=(cur++[[]]).map mkS by simp]
     exact ih (i+1) hn' hsz' la xs ys S (cur++[[]]) (by simp) (fun d hd=>by
      rcases List.mem_append.mp hd with hd | hd
      ·have:=h1' d hd;omega
      ·simp at hd;subst hd;simp;omega) (by simp;omega) (by omega) (by omega) F (some (n,xt)) xn yn tn f' (fun _=>by simp)
    cases o with
    | none=>exact Z05 hw X S it na ra ga la nv nn i _ F (xs.push (.ref la)) xn ys yn _ tn n t _ ht rfl (Nat.le_of_not_lt hk) hk5 (Qw _ _) (by rw[hcs];exact big (by omega)) next
    | some o=>exact Z04 hw X S it na ra ga la nv nn i _ F o.1 o.2 (xs.push (.ref la)) xn ys yn _ tn n t _ ht rfl (Nat.le_of_not_lt hk) hk5 (Qw _ _) (by rw[hcs];exact big (by omega)) next
   ·have hk5':5≤n%16:=Nat.le_of_not_lt hk5
    have eb:Y2 (n::ns) cur=Y2 ns (cur.dropLast++[cur.getLastD []++Yl n]):=by rw[Y2,if_neg hk,if_neg hk5]
    obtain ⟨ini,z,rfl⟩:∃ ini z,cur=ini++[z]:=⟨cur.dropLast,cur.getLast hc,(List.dropLast_concat_getLast hc).symm⟩
    have ed:(ini++[z]).dropLast=ini:=by simp
    have el:(ini++[z]).getLastD []=z:=by simp[List.getLastD_eq_getLast?]
    have em:(ini++[z]).map mkS=ini.map mkS++[mkS z]:=by simp
    have hsl:(Yl n).length≤1:=by
     unfold Yl
     split <;> (try split) <;> simp
    have hzl:(z++Yl n).length≤1000:=by
     have:=h1' z (by simp)
     rw[List.length_append];omega
    have next:∀ F xt xn yn t tn,OK w (QB w.params X S it na ra ga la nv nn (i+1) (ORL w.params X na ra ga la (xs.push (.ref la)) ys S (Y2 (n::ns) (ini++[z]))) F (some (n,xt)) (xs.push (.ref la)) xn ys yn ((svA ((ini++[z]).map mkS) f).setIfInBounds ((svA ((ini++[z]).map mkS) f).size-1) (.str (mkS (z++Yl n)) t)) tn):=fun F xt xn yn t tn=>by
     rw[eb,ed,el,em]
     obtain ⟨f',hf⟩:=(U4 (ini.map mkS) (mkS z) f (mkS (z++Yl n)) t).2
     rw[hf,show ini.map mkS++[mkS (z++Yl n)]=(ini++[z++Yl n]).map mkS by simp]
     refine ih (i+1) hn' hsz' la xs ys S (ini++[z++Yl n]) (by simp) (fun d hd=>?_) (by simp at h2 ⊢;omega) (by omega) (by omega) F (some (n,xt)) xn yn tn f' (fun _=>by simp)
     rcases List.mem_append.mp hd with hd | hd
     ·have:=h1' d (by simp[hd]);omega
     ·simp only[List.mem_singleton] at hd
      subst hd
      have:=h1' z (by simp)
      rw[List.length_append];omega
    obtain ⟨tz,hz⟩:=(U4 (ini.map mkS) (mkS z) f (mkS (z++Yl n)) 0).1
    rw[←em] at hz
    have hzz:mkS z++mkS (Yl n)=mkS (z++Yl n):=by
     show (⟨z.toArray++(Yl n).toArray⟩:Str)=_
     simp[mkS]
    have hle:(mkS (z++Yl n)).length≤sizeLine:=by
     show (z++Yl n).toArray.size≤_
     rw[List.size_toArray]
     exact Nat.le_of_lt (big (by omega))
    have hpos:0<(svA ((ini++[z]).map mkS) f).size:=by rw[Z6];simp
    cases o with
    | none=>exact Z07 hw X S it na ra ga la nv nn i _ F (xs.push (.ref la)) xn ys yn _ tn n t _ ht rfl hk5' (Qw _ _) (mkS z) (mkS (Yl n)) (mkS (z++Yl n)) tz _ _ hpos hz (Z1f hw X n hk5') hzz rfl rfl hle next
    | some o=>exact Z06 hw X S it na ra ga la nv nn i _ F o.1 o.2 (xs.push (.ref la)) xn ys yn _ tn n t _ ht rfl hk5' (Qw _ _) (mkS z) (mkS (Yl n)) (mkS (z++Yl n)) tz _ _ hpos hz (Z1f hw X n hk5') hzz rfl rfl hle next
end
noncomputable def ORW (P:Params)(X:Fr)(na:Nat)(R:List (List Nat) × List (List (List Nat)) × List (List Nat × List (List Nat))):Nat→(Nat→Nat)→FOut:=fun sz l =>
 ⟨.ok (.ret (.ref (l 0))),[(l 0,Y5 [.ref (sz+2),.ref (sz+3)] 0),(sz+2,Z0 (#[.ref (sz+1)]++rwA (YW R.2.1 (hdN fun i=>l (2*i+21)))) (l 2)),(sz+3,Z0 (#[]++gpA (Q5 R.2.2 (tlN fun i=>l (2*i+21)))) (l 3))],l 0+1,l 1,id,
  (sz+1,Z0 (svA (R.1.map mkS) (fun i=>l (2*i+20))) (l 4))::(rwS (YW R.2.1 (hdN fun i=>l (2*i+21)))++gpS (Q5 R.2.2 (tlN fun i=>l (2*i+21)))++[])⟩
noncomputable def itRW (P:Params)(X:Fr)(na:Nat)(nv:Array Value)(nn:Nat)(O:Nat→(Nat→Nat)→FOut):FItem where
 c:=.call (.ref 787) ⟨[.ref na],[]⟩
 B:=nrm [.f (ZG P 823 X.w),.b "claim.caller"]
 pre:=[(na,Z0 nv nn)]
 out:=fun sz _ l=>O sz l
noncomputable def itRL' (P:Params)(X:Fr)(it na ra ga la:Nat)(nv:Array Value)(nn:Nat)(F:Nat→Nat)(f:Nat→Nat)(R:List (List Nat) × List (List (List Nat)) × List (List Nat × List (List Nat))):FItem:=QB P X [] it na ra ga la nv nn 0 (ORL P X na ra ga la #[.ref la] #[] [] R) F none #[.ref la] 0 #[] 0 (svA [mkS []] f) 0
theorem rw_ok{b b2:Bool}{w:World}(hw:Wd b b2 w)(X:Fr)(na:Nat)(nv:Array Value)(nn:Nat)(R:List (List Nat) × List (List (List Nat)) × List (List Nat × List (List Nat)))
  (h:∀ p it ra ga la F f,OK w (itRL' w.params { X with p:=p } it na ra ga la nv nn F f R)):OK w (itRW w.params X na nv nn (ORW w.params X na R)):=by
 refine Z1 hw.w0 _ fun c B p sz tk g he=>?_
 obtain ⟨bs,rfl,hb⟩:=Z3 he
 obtain ⟨v1,rfl,e1⟩:=Z4 hb
 obtain rfl:=Z5 e1
 refine ⟨106,.item [] (itRL' w.params { g:=X.g,n:=X.n,s:=X.s,t:=X.t,p:=sz,w:=X.w } (sz+4) na (sz+2) (sz+3) (sz+1) nv nn (fl [tk,tk+2,tk+3]) (fl [tk+1]) R) (fun l0=>.fin []),(dg 26 0x11001340012bf525543423100100),[0,1,1],0,fun ls=>ls 0,?_,fun ls=>?_⟩
 ·exact ⟨(fun x hx=>(nomatch hx)),h _ _ _ _ _ _ _,fun l0=>(fun x hx=>(nomatch hx))⟩
 ·cases b <;> kernel_rfl
end
section
open PySem PySem.W
section
variable {b b2:Bool}{w:World}(hw:Wd b b2 w)(X:Fr)(D:Nat→Dt)(r:Bool)(R:Led)(L lex ld sio sd pb fs:Nat)(T S:Nat→Nat)(buf:Str)(hbuf:buf.length≤sizeLine)
include hw hbuf
theorem whE_ok(F:Nat→Nat)(pos t3 sT lt tt ln nT pos':Nat)(nc:Str)(qd:Bool)(tok:Str)(hr:OK w (Za w.params sio sd S t3 buf pos (Str.ofString "") pos')) :
  OK w (Zs w.params X (fL X D r) L lex ld sio sd pb fs T S F buf pos t3 qd (some (nc,nT)) (.str (Str.ofString "'") sT) ln lt tok tt (OWE X D L)):=by
 have h:OK w (VK w.params X D r L lex ld sio sd pb fs T S F buf pos t3 qd (some (nc,nT)) (.str (Str.ofString "'") sT) ln lt tok tt):=by
  cases r with
  | false=>exact Z0d hw X D L lex ld sio sd pb fs T S F buf pos t3 sT lt tt ln nT pos' nc qd tok hr
  | true=>exact Z20 hw X D L lex ld sio sd pb fs T S F buf pos t3 sT lt tt ln nT pos' nc qd tok hr
 refine h.conseq [] rfl (fun _ e=>e) (fun _ e=>e) ?_ fun sz tk l=>⟨l,[],rfl,rfl,rfl,rfl,?_⟩
 ·show List.Perm (_++_) ((_++_)++[])
  rw[List.append_nil]
  exact .refl _
 ·exact .refl _
theorem loop2:∀(rem:List Nat)(st:LS)(tok:List Nat)(qd:Bool)(o:SO),ZI rem st tok qd=some o→(o=.err→R=fL X D r)→∀ pos,buf.cps.toList.drop pos=rem→pos≤buf.length→tok.length+rem.length≤buf.length →
  ∀(F:Nat→Nat)(t3:Nat)(nc:Str)(nT sT ln lt tt:Nat),OK w (Zs w.params X R L lex ld sio sd pb fs T S F buf pos t3 qd (some (nc,nT)) (.str st.txt sT) ln lt (mkS tok) tt (Oof w.params X D R L lex ld sio sd pb fs T S buf o)):=by
 intro rem
 induction rem with
 | nil =>
  intro st tok qd o ho hR pos hd hp hl F t3 nc nT sT ln lt tt
  have hpos:buf.length≤pos:=by
   have:=List.drop_eq_nil_iff.mp hd
   simpa [Str.length] using this
  have hpe:pos=buf.length-([]:List Nat).length:=by simp;omega
  have hr:=itRead_end hw sio sd S t3 buf pos hpos hbuf
  cases st with
  | sp =>
   unfold ZI at ho
   split at ho
   ·rename_i hh
    obtain ⟨rfl,rfl⟩:=hh
    cases ho
    have:=Z1B hw X R L lex ld sio sd pb fs T S F buf pos t3 sT lt tt ln nT pos nc hr
    rw[Y4] at this
    unfold Oof
    dsimp only
    rw[←hpe]
    exact this
   ·cases ho
  | a =>
   cases ho
   have:=a_eof hw X R L lex ld sio sd pb fs T S F buf pos t3 sT lt tt ln nT pos nc qd (mkS tok) hr
   rw[Y4] at this
   unfold Oof
   dsimp only
   rw[←hpe]
   exact this
  | q =>
   cases ho
   obtain rfl:=hR rfl
   exact whE_ok hw X D r L lex ld sio sd pb fs T S buf hbuf F pos t3 sT lt tt ln nT pos nc qd (mkS tok) hr
  | d=>cases ho
 | cons c cs ih =>
  intro st tok qd o ho hR pos hd hp hl F t3 nc nT sT ln lt tt
  obtain ⟨hlt,hsub,hdr⟩:=WA hd
  have hr:=itRead_one hw sio sd S t3 buf pos hlt hbuf
  rw[hsub] at hr
  have hlen:(c::cs).length=buf.length-pos:=by
   rw[←hd,List.length_drop]
   rfl
  have hcs:buf.length-cs.length=pos+1:=nb6 (Nat.le_of_lt hlt) hlen
  have hlb:buf.length<2 ^ 62:=Nat.lt_of_le_of_lt hbuf (by decide)
  simp only[List.length_cons] at hl
  have hlA:tok.length+cs.length≤buf.length:=Nat.le_of_succ_le hl
  have hlB:∀ x:Nat,(tok++[x]).length+cs.length≤buf.length:=fun x=>by rw[List.length_append,List.length_singleton,Nat.add_assoc,Nat.add_comm 1];exact hl
  have hl0:([]:List Nat).length+cs.length≤buf.length:=by rw[List.length_nil,Nat.zero_add];exact Nat.le_trans (Nat.le_add_left _ _) hlA
  have go:∀ st tok qd,ZI cs st tok qd=some o→tok.length+cs.length≤buf.length→∀(F:Nat→Nat)(t3:Nat)(nc:Str)(nT sT ln lt tt:Nat),OK w (Zs w.params X R L lex ld sio sd pb fs T S F buf (pos+1) t3 qd (some (nc,nT)) (.str st.txt sT) ln lt (mkS tok) tt (Oof w.params X D R L lex ld sio sd pb fs T S buf o)) :=
   fun st tok qd h1 h2=>ih st tok qd o h1 hR (pos+1) hdr hlt h2
  cases st with
  | sp =>
   unfold ZI at ho
   split at ho
   ·rename_i hh
    obtain ⟨rfl,rfl⟩:=hh
    split at ho
    ·rename_i hws
     have g:=go .sp [] false ho hl0
     by_cases hc:c=10
     ·subst hc
      rw[←JY] at hr
      have:=sp_nl2 hw X R L lex ld sio sd pb fs T S F buf pos t3 sT lt tt ln nT (pos+1) nc hr (Oof w.params X D R L lex ld sio sd pb fs T S buf o) (fun t3 nT sT lt tt=>by rw[Y4];exact g _ _ _ _ _ _ _ _)
      rw[Y4] at this
      exact this
     ·have:=sp_ws2 hw X R L lex ld sio sd pb fs T S F buf pos t3 sT lt tt ln nT (pos+1) nc (mkS [c]) hr (ZB c) (by rw[JY,Yi];simpa using hc) (by rw[YH];exact hws) (Oof w.params X D R L lex ld sio sd pb fs T S buf o) (fun t3 nT sT lt tt=>by rw[Y4];exact g _ _ _ _ _ _ _ _)
      rw[Y4] at this
      exact this
    ·rename_i hws
     simp only[Bool.not_eq_true] at hws
     split at ho
     ·rename_i hc
      subst hc
      have g:=go .q [] false ho hl0
      rw[←e_q] at hr
      have:=sp_q2 hw X R L lex ld sio sd pb fs T S F buf pos t3 sT lt tt ln nT (pos+1) nc hr (by rw[e_q];exact wc_q) (Oof w.params X D R L lex ld sio sd pb fs T S buf o) (fun t3 nT sT lt tt=>by rw[Y4];exact g _ _ _ _ _ _ _ _)
      rw[Y4] at this
      exact this
     ·rename_i h39
      split at ho
      ·cases ho
      ·rename_i hdd
       have h34:c≠34:=fun e=>hdd (.inl e)
       have h92:c≠92:=fun e=>hdd (.inr e)
       have h10:c≠10:=fun e=>by subst e;cases hws
       have g:=go .a [c] false ho (by rw[List.length_singleton,Nat.add_comm];exact Nat.le_trans (Nat.le_add_left _ _) hl)
       cases hwc:Zh wcS (mkS [c]) with
       | true =>
        have:=NZ hw X R L lex ld sio sd pb fs T S F buf pos t3 sT lt tt ln nT (pos+1) nc (mkS [c]) hr (ZB c) (by rw[JY,Yi];simpa using h10) (by rw[YH];exact hws) (QE c) (by rw[Ql];simpa using h92) hwc (Oof w.params X D R L lex ld sio sd pb fs T S buf o) (fun t3 nT sT lt tt=>g _ _ _ _ _ _ _ _)
        rw[Y4] at this
        exact this
       | false =>
        have:=Z1z hw X R L lex ld sio sd pb fs T S F buf pos t3 sT lt tt ln nT (pos+1) nc (mkS [c]) hr (ZB c) (by rw[JY,Yi];simpa using h10) (by rw[YH];exact hws) (QE c) (by rw[Ql];simpa using h92) hwc (Kj c h39 h34) (Oof w.params X D R L lex ld sio sd pb fs T S buf o) (fun t3 nT sT lt tt=>g _ _ _ _ _ _ _ _)
        rw[Y4] at this
        exact this
   ·cases ho
  | a =>
   unfold ZI at ho
   split at ho
   ·rename_i hws
    split at ho
    ·cases ho
    ·rename_i hne
     cases ho
     unfold Oof
     dsimp only
     rw[hcs]
     by_cases hc:c=10
     ·subst hc
      rw[←JY] at hr ⊢
      cases tok with
      | nil =>
       have hq:qd=true:=by
        cases qd with
        | true=>rfl
        | false=>exact absurd ⟨rfl,rfl⟩ hne
       subst hq
       have:=a_nl0 hw X R L lex ld sio sd pb fs T S F buf pos t3 sT lt tt ln nT (pos+1) nc hr
       rw[Y4] at this
       exact this
      | cons x xs=>exact a_nl hw X R L lex ld sio sd pb fs T S F buf pos t3 sT lt tt ln nT (pos+1) nc qd (mkS (x::xs)) xs.length hr (by rw[Zf];rfl) (by simp only[List.length_cons] at hl;omega)
     ·have hnl:eqS (mkS [c]) (Str.ofString "\n")=false:=by rw[JY,Yi];simpa using hc
      cases tok with
      | nil =>
       have hq:qd=true:=by
        cases qd with
        | true=>rfl
        | false=>exact absurd ⟨rfl,rfl⟩ hne
       subst hq
       have:=a_ws0 hw X R L lex ld sio sd pb fs T S F buf pos t3 sT lt tt ln nT (pos+1) nc (mkS [c]) hr (ZB c) hnl (by rw[YH];exact hws)
       rw[Y4] at this
       exact this
      | cons x xs=>exact a_ws hw X R L lex ld sio sd pb fs T S F buf pos t3 sT lt tt ln nT (pos+1) nc qd (mkS (x::xs)) xs.length (mkS [c]) hr (by rw[Zf];rfl) (by simp only[List.length_cons] at hl;omega) (ZB c) hnl (by rw[YH];exact hws)
   ·rename_i hws
    simp only[Bool.not_eq_true] at hws
    split at ho
    ·rename_i hc
     subst hc
     have g:=go .q tok qd ho hlA
     rw[←e_q] at hr
     exact a_q hw X R L lex ld sio sd pb fs T S F buf pos t3 sT lt tt ln nT (pos+1) nc qd (mkS tok) hr (Oof w.params X D R L lex ld sio sd pb fs T S buf o) (fun t3 nT sT lt tt=>g _ _ _ _ _ _ _ _)
    ·rename_i h39
     split at ho
     ·rename_i hc
      subst hc
      have g:=go .d tok qd ho hlA
      rw[←e_d] at hr
      exact a_d hw X R L lex ld sio sd pb fs T S F buf pos t3 sT lt tt ln nT (pos+1) nc qd (mkS tok) hr (Oof w.params X D R L lex ld sio sd pb fs T S buf o) (fun t3 nT sT lt tt=>g _ _ _ _ _ _ _ _)
     ·rename_i h34
      split at ho
      ·cases ho
      ·rename_i h92
       split at ho
       ·cases ho
       ·rename_i hne
        have h10:c≠10:=fun e=>by subst e;cases hws
        have g:=go .a (tok++[c]) qd ho (hlB c)
        rw[←ZU] at g
        have ht0:(mkS tok).length≠0:=by rw[Zf];exact fun e=>hne (List.eq_nil_of_length_eq_zero e)
        have hb2:(mkS tok++mkS [c]).length≤sizeLine:=by rw[ZU,Zf];exact Nat.le_trans (Nat.le_trans (Nat.le_add_right _ _) (hlB c)) (by first | exact hbuf | exact Nat.le_of_lt hbuf)
        cases hwc:Zh wcS (mkS [c]) with
        | true=>exact a_word hw X R L lex ld sio sd pb fs T S F buf pos t3 sT lt tt ln nT (pos+1) nc qd (mkS tok) (mkS [c]) hr ht0 (by rw[ZB];decide) hb2 (ZB c) (by rw[JY,Yi];simpa using h10) (by rw[YH];exact hws) (QE c) (by rw[Ql];simpa using h92) hwc (Kj c h39 h34) (Oof w.params X D R L lex ld sio sd pb fs T S buf o) (fun t3 nT sT lt tt=>g _ _ _ _ _ _ _ _)
        | false=>exact a_oth hw X R L lex ld sio sd pb fs T S F buf pos t3 sT lt tt ln nT (pos+1) nc qd (mkS tok) (mkS [c]) hr ht0 (by rw[ZB];decide) hb2 (ZB c) (by rw[JY,Yi];simpa using h10) (by rw[YH];exact hws) (QE c) (by rw[Ql];simpa using h92) hwc (Kj c h39 h34) (Oof w.params X D R L lex ld sio sd pb fs T S buf o) (fun t3 nT sT lt tt=>g _ _ _ _ _ _ _ _)
  | q =>
   unfold ZI at ho
   split at ho
   ·rename_i hc
    subst hc
    have g:=go .a tok true ho hlA
    rw[←e_q] at hr
    exact q_end hw X R L lex ld sio sd pb fs T S F buf pos t3 sT lt tt ln nT (pos+1) nc qd (mkS tok) hr (Oof w.params X D R L lex ld sio sd pb fs T S buf o) (fun t3 nT sT lt tt=>g _ _ _ _ _ _ _ _)
   ·rename_i h39
    have g:=go .q (tok++[c]) true ho (hlB c)
    have hq:eqS (mkS [c]) (Str.ofString "'")=false:=by rw[e_q,Yi];simpa using h39
    by_cases hc:c=10
    ·subst hc
     rw[←JY] at hr
     cases tok with
     | nil =>
      have:=q_nl0 hw X R L lex ld sio sd pb fs T S F buf pos t3 sT lt tt ln nT (pos+1) nc qd hr (Oof w.params X D R L lex ld sio sd pb fs T S buf o) (fun t3 nT sT lt tt=>by rw[JY];exact g _ _ _ _ _ _ _ _)
      rw[Y4] at this
      exact this
     | cons x xs =>
      rw[←ZU,←JY] at g
      exact q_nl hw X R L lex ld sio sd pb fs T S F buf pos t3 sT lt tt ln nT (pos+1) nc qd (mkS (x::xs)) hr (by rw[Zf];simp) (by rw[JY,ZU,Zf];simp only[List.length_append,List.length_cons,List.length_nil] at hl ⊢;omega) (by rw[JY,ZB];decide) (Oof w.params X D R L lex ld sio sd pb fs T S buf o) (fun t3 nT sT lt tt=>g _ _ _ _ _ _ _ _)
    ·have hnl:eqS (mkS [c]) (Str.ofString "\n")=false:=by rw[JY,Yi];simpa using hc
     cases tok with
     | nil =>
      cases hes:Zh (Str.ofString "\\") (mkS [c]) with
      | false =>
       have:=q_oth0 hw X R L lex ld sio sd pb fs T S F buf pos t3 sT lt tt ln nT (pos+1) nc qd (mkS [c]) hr (ZB c) hnl hq hes (Oof w.params X D R L lex ld sio sd pb fs T S buf o) (fun t3 nT sT lt tt=>g _ _ _ _ _ _ _ _)
       rw[Y4] at this
       exact this
      | true =>
       have:=q_esc0 hw X R L lex ld sio sd pb fs T S F buf pos t3 sT lt tt ln nT (pos+1) nc qd (mkS [c]) hr (ZB c) hnl hq hes (Oof w.params X D R L lex ld sio sd pb fs T S buf o) (fun t3 nT sT lt tt=>g _ _ _ _ _ _ _ _)
       rw[Y4] at this
       exact this
     | cons x xs =>
      rw[←ZU] at g
      have ht0:(mkS (x::xs)).length≠0:=by rw[Zf];simp
      have hb2:(mkS (x::xs)++mkS [c]).length≤sizeLine:=by rw[ZU,Zf];simp only[List.length_append,List.length_cons,List.length_nil] at hl ⊢;omega
      cases hes:Zh (Str.ofString "\\") (mkS [c]) with
      | false=>exact q_oth hw X R L lex ld sio sd pb fs T S F buf pos t3 sT lt tt ln nT (pos+1) nc qd (mkS (x::xs)) (mkS [c]) hr ht0 (by rw[ZB];decide) hb2 (ZB c) hnl hq hes (Oof w.params X D R L lex ld sio sd pb fs T S buf o) (fun t3 nT sT lt tt=>g _ _ _ _ _ _ _ _)
      | true=>exact q_esc hw X R L lex ld sio sd pb fs T S F buf pos t3 sT lt tt ln nT (pos+1) nc qd (mkS (x::xs)) (mkS [c]) hr ht0 (by rw[ZB];decide) hb2 (ZB c) hnl hq hes (Oof w.params X D R L lex ld sio sd pb fs T S buf o) (fun t3 nT sT lt tt=>g _ _ _ _ _ _ _ _)
  | d =>
   unfold ZI at ho
   split at ho
   ·rename_i hc
    subst hc
    have g:=go .a tok true ho hlA
    rw[←e_d] at hr
    exact d_end hw X R L lex ld sio sd pb fs T S F buf pos t3 sT lt tt ln nT (pos+1) nc qd (mkS tok) hr (Oof w.params X D R L lex ld sio sd pb fs T S buf o) (fun t3 nT sT lt tt=>g _ _ _ _ _ _ _ _)
   ·rename_i h34
    split at ho
    ·cases ho
    ·rename_i hdd
     have h92:c≠92:=fun e=>hdd (.inl e)
     have h10:c≠10:=fun e=>hdd (.inr e)
     have g:=go .d (tok++[c]) true ho (hlB c)
     have hq:eqS (mkS [c]) (Str.ofString "\"")=false:=by rw[e_d,Yi];simpa using h34
     have hnl:eqS (mkS [c]) (Str.ofString "\n")=false:=by rw[JY,Yi];simpa using h10
     have hes:Zh (Str.ofString "\\") (mkS [c])=false:=by rw[Ql];simpa using h92
     cases tok with
     | nil =>
      have:=d_oth0 hw X R L lex ld sio sd pb fs T S F buf pos t3 sT lt tt ln nT (pos+1) nc qd (mkS [c]) hr (ZB c) hnl hq hes (Oof w.params X D R L lex ld sio sd pb fs T S buf o) (fun t3 nT sT lt tt=>g _ _ _ _ _ _ _ _)
      rw[Y4] at this
      exact this
     | cons x xs =>
      rw[←ZU] at g
      exact d_oth hw X R L lex ld sio sd pb fs T S F buf pos t3 sT lt tt ln nT (pos+1) nc qd (mkS (x::xs)) (mkS [c]) hr (by rw[Zf];simp) (by rw[ZB];decide) (by rw[ZU,Zf];simp only[List.length_append,List.length_cons,List.length_nil] at hl ⊢;omega) (ZB c) hnl hq hes (Oof w.params X D R L lex ld sio sd pb fs T S buf o) (fun t3 nT sT lt tt=>g _ _ _ _ _ _ _ _)
end
noncomputable def stF:Bool→Nat→Value
 | true=>fun _=>.none
 | false=>fun t=>.str (Str.ofString " ") t
section
variable {b b2:Bool}{w:World}(hw:Wd b b2 w)(X:Fr)(D:Nat→Dt)(r:Bool)(R:Led)(L lex ld sio sd pb fs:Nat)(T S:Nat→Nat)(buf:Str)(hbuf:buf.length≤sizeLine)
include hw hbuf
theorem Z2a(rem:List Nat)(o:SO)(ho:ZI rem .sp [] false=some o)(hR:o=.err→R=fL X D r)(pos:Nat)(hd:buf.cps.toList.drop pos=rem)(hp:pos≤buf.length)(F:Nat→Nat)(t3 sT ln lt tt:Nat) :
  OK w (Zs w.params X R L lex ld sio sd pb fs T S F buf pos t3 false none (.str (Str.ofString " ") sT) ln lt (Str.ofString "") tt (Oof w.params X D R L lex ld sio sd pb fs T S buf o)):=by
 cases rem with
 | nil =>
  have hpos:buf.length≤pos:=by
   have:=List.drop_eq_nil_iff.mp hd
   simpa [Str.length] using this
  have hpe:pos=buf.length-([]:List Nat).length:=by simp;omega
  have hr:=itRead_end hw sio sd S t3 buf pos hpos hbuf
  unfold ZI at ho
  simp only[and_self,if_true] at ho
  cases ho
  have:=Z1C hw X R L lex ld sio sd pb fs T S F buf pos t3 sT lt tt ln 0 pos hr
  rw[Y4] at this ⊢
  unfold Oof
  dsimp only
  rw[←hpe]
  exact this
 | cons c cs =>
  obtain ⟨hlt,hsub,hdr⟩:=WA hd
  have hr:=itRead_one hw sio sd S t3 buf pos hlt hbuf
  rw[hsub] at hr
  have hlen:(c::cs).length=buf.length-pos:=by
   rw[←hd,List.length_drop]
   rfl
  simp only[List.length_cons] at hlen
  have hc1:cs.length+1≤buf.length:=Nat.le_trans (Nat.le_of_eq hlen) (Nat.sub_le _ _)
  have hl0:([]:List Nat).length+cs.length≤buf.length:=by rw[List.length_nil,Nat.zero_add];exact Nat.le_of_succ_le hc1
  have go:∀ st tok qd,ZI cs st tok qd=some o→tok.length+cs.length≤buf.length→∀(F:Nat→Nat)(t3:Nat)(nc:Str)(nT sT ln lt tt:Nat),OK w (Zs w.params X R L lex ld sio sd pb fs T S F buf (pos+1) t3 qd (some (nc,nT)) (.str st.txt sT) ln lt (mkS tok) tt (Oof w.params X D R L lex ld sio sd pb fs T S buf o)) :=
   fun st tok qd h1 h2=>loop2 hw X D r R L lex ld sio sd pb fs T S buf hbuf cs st tok qd o h1 hR (pos+1) hdr hlt h2
  unfold ZI at ho
  simp only[and_self,if_true] at ho
  split at ho
  ·rename_i hws
   have g:=go .sp [] false ho hl0
   by_cases hc:c=10
   ·subst hc
    rw[←JY] at hr
    exact sp_nl1 hw X R L lex ld sio sd pb fs T S F buf pos t3 sT lt tt ln 0 (pos+1) hr (Oof w.params X D R L lex ld sio sd pb fs T S buf o) (fun F t3 nT sT lt tt=>by rw[Y4];exact g _ _ _ _ _ _ _ _)
   ·exact sp_ws1 hw X R L lex ld sio sd pb fs T S F buf pos t3 sT lt tt ln 0 (pos+1) (mkS [c]) hr (ZB c) (by rw[JY,Yi];simpa using hc) (by rw[YH];exact hws) (Oof w.params X D R L lex ld sio sd pb fs T S buf o) (fun F t3 nT sT lt tt=>by rw[Y4];exact g _ _ _ _ _ _ _ _)
  ·rename_i hws
   simp only[Bool.not_eq_true] at hws
   split at ho
   ·rename_i hc
    subst hc
    have g:=go .q [] false ho hl0
    rw[←e_q] at hr
    exact sp_q1 hw X R L lex ld sio sd pb fs T S F buf pos t3 sT lt tt ln 0 (pos+1) hr (by rw[e_q];exact wc_q) (Oof w.params X D R L lex ld sio sd pb fs T S buf o) (fun F t3 nT sT lt tt=>by rw[Y4];exact g _ _ _ _ _ _ _ _)
   ·rename_i h39
    split at ho
    ·cases ho
    ·rename_i hdd
     have h34:c≠34:=fun e=>hdd (.inl e)
     have h92:c≠92:=fun e=>hdd (.inr e)
     have h10:c≠10:=fun e=>by subst e;cases hws
     have g:=go .a [c] false ho (by rw[List.length_singleton,Nat.add_comm];exact hc1)
     cases hwc:Zh wcS (mkS [c]) with
     | true=>exact Z00 hw X R L lex ld sio sd pb fs T S F buf pos t3 sT lt tt ln 0 (pos+1) (mkS [c]) hr (ZB c) (by rw[JY,Yi];simpa using h10) (by rw[YH];exact hws) (QE c) (by rw[Ql];simpa using h92) hwc (Oof w.params X D R L lex ld sio sd pb fs T S buf o) (fun F t3 nT sT lt tt=>g _ _ _ _ _ _ _ _)
     | false=>exact Z1A hw X R L lex ld sio sd pb fs T S F buf pos t3 sT lt tt ln 0 (pos+1) (mkS [c]) hr (ZB c) (by rw[JY,Yi];simpa using h10) (by rw[YH];exact hws) (QE c) (by rw[Ql];simpa using h92) hwc (Kj c h39 h34) (Oof w.params X D R L lex ld sio sd pb fs T S buf o) (fun F t3 nT sT lt tt=>g _ _ _ _ _ _ _ _)
end
section
variable {b b2:Bool}{w:World}(hw:Wd b b2 w)(X:Fr)(D:Nat→Dt)(r:Bool)(lex ld sio sd pb fs:Nat)(T S:Nat→Nat)(buf:Str)(hbuf:buf.length≤sizeLine)
include hw hbuf
theorem nx_ok{rem tok nc rest:List Nat}{qd fin:Bool}(ho:ZI rem .sp [] false=some (.brk tok qd fin nc rest))(hne:tok≠[]∨qd=true)(pos:Nat)(hd:buf.cps.toList.drop pos=rem)(hp:pos≤buf.length)(t3 sT ln lt tt:Nat) :
  OK w (itNX w.params X lex ld sio sd pb fs T S buf pos t3 (stF false sT) ln lt tt (buf.length-rest.length) (stF fin) (mkS tok)):=by
 refine nx_tok hw X lex ld sio sd pb fs T S buf pos t3 lt tt ln _ 0 _ _ _ fun n=>gt_tok hw _ lex ld sio sd pb fs T S buf pos t3 lt tt ln _ 0 _ _ _ fun g=>?_
 have hl:∀ L F,OK w (Zs w.params { X with n:=n,g:=g } [] L lex ld sio sd pb fs T S F buf pos t3 false none (stF false sT) ln lt (Str.ofString "") tt (Ow w.params [] L lex ld sio sd pb fs T S buf (buf.length-rest.length) qd (mkS nc) (stF fin) (mkS tok))):=fun L F=>by
  have:=Z2a hw { X with n:=n,g:=g } (fun _=>⟨#[],0⟩) false [] L lex ld sio sd pb fs T S buf hbuf rem _ ho (fun e=>by cases e) pos hd hp F t3 sT ln lt tt
  unfold Oof at this
  cases fin <;> exact this
 cases qd with
 | true=>exact Z1T hw _ lex ld sio sd pb fs T S buf pos t3 lt tt ln _ 0 _ _ _ _ hl
 | false =>
  refine rt_tok hw _ lex ld sio sd pb fs T S buf pos t3 lt tt ln _ 0 _ _ _ _ hl ?_
  rcases hne with hne | hne
  ·rw[Y4]
   cases tok with
   | nil=>exact absurd rfl hne
   | cons x xs=>rfl
  ·cases hne
theorem Z2u{rem nc rest:List Nat}(ho:ZI rem .sp [] false=some (.brk [] false true nc rest))(X:Fr)(pos:Nat)(hd:buf.cps.toList.drop pos=rem)(hp:pos≤buf.length)(t3 sT ln lt tt:Nat) :
  OK w (N9 w.params X lex ld sio sd pb fs T S buf pos t3 (stF false sT) ln lt tt (buf.length-rest.length) (stF true) (fun _=>.none)):=by
 refine Ni hw _ lex ld sio sd pb fs T S buf pos t3 lt tt ln _ 0 _ _ fun g=>WF hw _ lex ld sio sd pb fs T S buf pos t3 lt tt ln _ 0 _ (mkS nc) _ fun L F=>?_
 have:=Z2a hw { X with g:=g } (fun _=>⟨#[],0⟩) false [] L lex ld sio sd pb fs T S buf hbuf rem _ ho (fun e=>by cases e) pos hd hp F t3 sT ln lt tt
 unfold Oof at this
 dsimp only at this
 rw[←Y4] at this
 exact this
theorem Z2t(X:Fr)(pos:Nat)(hp:buf.length≤pos)(t3 sT ln lt tt:Nat) :
  OK w (N9 w.params X lex ld sio sd pb fs T S buf pos t3 (stF true sT) ln lt tt pos (stF true) (fun _=>.none)):=by
 refine Ni hw _ lex ld sio sd pb fs T S buf pos t3 lt tt ln _ 0 _ _ fun g=>WF hw _ lex ld sio sd pb fs T S buf pos t3 lt tt ln _ 0 _ (Str.ofString "") _ fun L F=>?_
 exact no_eof hw { X with g:=g } [] L lex ld sio sd pb fs T S F buf pos t3 sT lt tt ln 0 pos (itRead_end hw sio sd S t3 buf pos hp hbuf)
theorem ne_ok {X:Fr}{pos t3 lt tt ln pos':Nat}{st:Value}{st':Nat→Value}(hl:∀ n,OK w (N9 w.params { X with n:=n } lex ld sio sd pb fs T S buf pos t3 st ln lt tt pos' st' (fun _=>.none))) :
  OK w (Z0J w.params X D r lex ld sio sd pb fs T S buf pos t3 st ln lt tt):=by
 cases r with
 | false=>exact ne_false hw X D lex ld sio sd pb fs T S buf pos t3 lt tt ln pos' 0 st st' hl
 | true=>exact ne_true hw X D lex ld sio sd pb fs T S buf pos t3 lt tt ln pos' 0 st st' hl
theorem te_ok{X:Fr}{a pos t3 lt tt ln:Nat}{st:Value}(hl:OK w (Z0J w.params X D r lex ld sio sd pb fs T S buf pos t3 st ln lt tt)) :
  OKT w (itTE w.params X D r a lex ld sio sd pb fs T S buf pos t3 st ln lt tt) (nxT (.ref lex)):=by
 cases r with
 | false=>exact te_false hw X D a lex ld sio sd pb fs T S buf pos t3 lt tt ln st hl
 | true=>exact te_true hw X D a lex ld sio sd pb fs T S buf pos t3 lt tt ln st hl
end
inductive Lex:List Nat→Bool→Option (List (List Nat))→Prop
 | fin:Lex [] true (some [])
 | eof {rem nc rest}:ZI rem .sp [] false=some (.brk [] false true nc rest)→Lex rem false (some [])
 | tok {rem tok nc rest qd fin ts}:ZI rem .sp [] false=some (.brk tok qd fin nc rest)→(tok≠[]∨qd=true)→Lex rest fin ts→Lex rem false (ts.map (tok::·))
 | err {rem}:ZI rem .sp [] false=some .err→Lex rem false none
noncomputable def rR (X:Fr)(D:Nat→Dt)(r:Bool):Led:=[(X.s,frX (D 2) #[]),(X.t,frX (D 3) #[])]++frs X D r
noncomputable def OA (X:Fr)(D:Nat→Dt)(a:Nat)(xs:Array Value)(ts:List (List Nat)):(Nat→Nat)→FOut:=fun l=>⟨.ok (.ret .none),[(a,Z0 (xs++svA (ts.map mkS) (fun i=>l (i+20))) (l 3)),(X.s,frX (D 2) (rdy 751 (.ref X.t)))]++Z1o X D,l 0,l 1,id,[]⟩
noncomputable def shl (l:Nat→Nat)(t:Nat):Nat→Nat:=fun i=>if i<20 then l i else if i=20 then t else l (i-1)
theorem ZS(l:Nat→Nat)(t i:Nat)(h:i<20):shl l t i=l i:=by simp[shl,h]
theorem Qp(xs:Array Value)(s:Str)(ts:List Str)(l:Nat→Nat)(t:Nat):xs++svA (s::ts) (fun i=>shl l t (i+20))=xs.push (.str s t)++svA ts (fun i=>l (i+20)):=by
 have e:svL ts (fun i=>shl l t (i+1+20))=svL ts (fun i=>l (i+20)):=by
  have:(fun i=>shl l t (i+1+20))=fun i=>l (i+20):=by
   funext i
   unfold shl
   rw[if_neg (by omega),if_neg (by omega)]
   rfl
  rw[this]
 apply Array.ext'
 unfold svA
 simp only[svL,Array.toList_append,Array.toList_push,List.append_assoc]
 rw[e]
 simp[shl]
theorem KX:∀(rem:List Nat)(st:LS)(tok:List Nat)(qd:Bool){tok' nc rest:List Nat}{qd' fin:Bool},ZI rem st tok qd=some (.brk tok' qd' fin nc rest)→∃ k,k≤rem.length∧rest=rem.drop k∧(k=0→rem=[]):=by
 intro rem
 induction rem with
 | nil =>
  intro st tok qd tok' nc rest qd' fin h
  refine ⟨0,Nat.le_refl _,?_,fun _=>rfl⟩
  cases st <;> unfold ZI at h <;> (try split at h) <;> cases h <;> rfl
 | cons c cs ih =>
  intro st tok qd tok' nc rest qd' fin h
  have up:∀ {st tok qd},ZI cs st tok qd=some (.brk tok' qd' fin nc rest)→∃ k,k≤(c::cs).length∧rest=(c::cs).drop k∧(k=0→c::cs=[]):=fun h=>by
   obtain ⟨k,h1,h2,_⟩:=ih _ _ _ h
   exact ⟨k+1,by simp;omega,by simpa using h2,fun e=>by omega⟩
  cases st <;> unfold ZI at h <;> repeat' split at h
  all_goals first
   | exact up h
   | (cases h;exact ⟨1,by simp,rfl,fun e=>by cases e⟩)
   | cases h
section
variable {b b2:Bool}{w:World}(hw:Wd b b2 w)(X:Fr)(D:Nat→Dt)(r:Bool)(a lex ld sio sd pb fs:Nat)(T S:Nat→Nat)(buf:Str)(hbuf:buf.length≤sizeLine)
include hw hbuf
theorem lx_all:∀ {rem:List Nat}{fin:Bool}{res:Option (List (List Nat))},Lex rem fin res→∀ ts,res=some ts→∀(xs:Array Value)(n pos:Nat),buf.cps.toList.drop pos=rem→pos≤buf.length→xs.size+rem.length<sizeLine →
  ∀(t3 sT ln lt tt:Nat),OK w (itLX w.params X D r a xs n lex ld sio sd pb fs T S buf pos t3 (stF fin sT) ln lt tt (OA X D a xs ts)):=by
 intro rem fin res h
 have fin_:∀ {st:Value}{pos t3 ln lt tt:Nat},OK w (Z0J w.params X D r lex ld sio sd pb fs T S buf pos t3 st ln lt tt)→∀(xs:Array Value)(n:Nat),OK w (itLX w.params X D r a xs n lex ld sio sd pb fs T S buf pos t3 st ln lt tt (OA X D a xs [])):=by
  intro st pos t3 ln lt tt hne xs n
  have he:=lx_end (a:=a) (xs:=xs) (n:=n) (te_ok hw D r lex ld sio sd pb fs T S buf hbuf (a:=a) hne) rfl (fun _ _ _=>rfl)
  refine he.conseq [] rfl (fun _ e=>e) (fun _ e=>e) ?_ fun sz tk l=>⟨flT [l 0,l 1,0,n,0,0,0,0,0,0,0,0,0,0,0,0,0,0,0,0] (fun _=>0),[],rfl,rfl,rfl,rfl,?_⟩
  ·show List.Perm _ (_++[])
   rw[List.append_nil]
   exact .refl _
  ·show List.Perm ((((a,Z0 xs n)::_)++[])++[]) _
   rw[List.append_nil,List.append_nil]
   have e:xs++svA (([]:List (List Nat)).map mkS) (fun i=>flT [l 0,l 1,0,n,0,0,0,0,0,0,0,0,0,0,0,0,0,0,0,0] (fun _=>0) (i+20))=xs:=by simp[svA,svL]
   show List.Perm _ (((a,Z0 (xs++svA (([]:List (List Nat)).map mkS) (fun i=>flT [l 0,l 1,0,n,0,0,0,0,0,0,0,0,0,0,0,0,0,0,0,0] (fun _=>0) (i+20))) n)::_)++[]++[])
   rw[e,List.append_nil,List.append_nil]
   exact .refl _
 induction h with
 | fin =>
  intro ts hts xs n pos hd hp hs t3 sT ln lt tt
  cases hts
  have hpos:buf.length≤pos:=by
   have:=List.drop_eq_nil_iff.mp hd
   simpa [Str.length] using this
  exact fin_ (ne_ok hw D r lex ld sio sd pb fs T S buf hbuf fun n=>Z2t hw lex ld sio sd pb fs T S buf hbuf _ pos hpos t3 sT ln lt tt) xs n
 | eof ho =>
  intro ts hts xs n pos hd hp hs t3 sT ln lt tt
  cases hts
  exact fin_ (ne_ok hw D r lex ld sio sd pb fs T S buf hbuf fun n=>Z2u hw lex ld sio sd pb fs T S buf hbuf ho _ pos hd hp t3 sT ln lt tt) xs n
 | err ho=>intro ts hts;cases hts
 | @tok rem tok nc rest qd fin' ts' ho hne hl ih =>
  intro ts hts xs n pos hd hp hs t3 sT ln lt tt
  cases ts' with
  | none=>cases hts
  | some ts' =>
   cases hts
   have hrest:rest.length<rem.length∧buf.cps.toList.drop (buf.length-rest.length)=rest:=by
    obtain ⟨k,h1,h2,h3⟩:=KX rem .sp [] false ho
    have hk:k≠0:=fun e=>by
     have:=h3 e
     subst this
     unfold ZI at ho
     simp only[and_self,if_true] at ho
     cases ho
     rcases hne with h | h
     ·exact h rfl
     ·cases h
    have hl1:rem.length=buf.length-pos:=by rw[←hd,List.length_drop];rfl
    have hl2:rest.length=rem.length-k:=by rw[h2,List.length_drop]
    refine ⟨by omega,?_⟩
    have e:buf.length-rest.length=pos+k:=by omega
    rw[e,←List.drop_drop,hd,h2]
   have hT:=Z19 hw X (rR X D r) a lex ld sio sd pb fs T S buf pos t3 lt tt ln (buf.length-rest.length) (stF false sT) (mkS tok) (stF fin') (nx_ok hw X lex ld sio sd pb fs T S buf hbuf ho hne pos hd hp t3 sT ln lt tt)
   have key:=WX (a:=a) (xs:=xs) (n:=n) (O:=OA X D a xs (tok::ts')) hT rfl (fun sz tk l=>⟨_,rfl,rfl⟩) (by omega) fun sz tk l v hv=>by
    cases hv
    have g:=ih ts' rfl (xs.push (.str (mkS tok) (l 2))) (n+1) (buf.length-rest.length) hrest.2 (by omega) (by rw[Array.size_push];omega) (l 5) (l 6) (l 7) (l 3) (l 4)
    refine g.conseq [] rfl (fun _ e=>e) (fun _ e=>e) ?_ fun sz tk l'=>⟨shl l' (l 2),[],rfl,ZS l' (l 2) 0 (by decide),ZS l' (l 2) 1 (by decide),rfl,?_⟩
    ·show List.Perm _ (_++[])
     rw[List.append_nil]
     exact .refl _
    ·show List.Perm (((([(a,Z0 (xs.push (.str (mkS tok) (l 2))++svA (ts'.map mkS) (fun i=>l' (i+20))) (l' 3)),_]:Led)++_)++[])++[]) (((([(a,Z0 (xs++svA (mkS tok::ts'.map mkS) (fun i=>shl l' (l 2) (i+20))) (shl l' (l 2) 3)),_]:Led)++_)++[])++[])
     rw[Qp,ZS l' (l 2) 3 (by decide)]
   refine key.conseq [] rfl (fun _ e=>e) (fun _ e=>e) ?_ fun sz tk l=>⟨l,[],rfl,rfl,rfl,rfl,?_⟩
   ·show List.Perm _ (_++[])
    rw[List.append_nil]
    exact .refl _
   ·exact .refl _
end
end
section
open PySem PySem.Builtin PySem.Builtin.Str PySem.W
section
open Sem (wp finPost)
noncomputable def OC (g0:Array GenState)(na:Nat)(nv:Array Value)(nn:Nat)(xs:Array Value)(rs:List Str):(Nat→Nat)→FOut:=fun l =>
 ⟨.ok (.ret (.ref (l 4))),[(l 4,Z0 (xs++svA rs (fun i=>l (i+20))) (l 3)),(na,Z0 nv nn)],l 0,l 1,fun _=>g0.push .finished,[]⟩
section
variable {b b2:Bool}{w:World}(hw:Wd b b2 w)(X:Fr)(m:Bool)(a gn t1 t2:Nat)(q:Str)(I C co na:Nat)(nv:Array Value)(nn:Nat)(g0:Array GenState)
include hw
theorem jl_end(i:Nat)(hi:nv.size≤i)(F:Nat→Nat)(s0:Str)(t0:Nat)(xs:Array Value)(n:Nat):OK w (Z0K w.params X m a xs n gn t1 t2 q I C co na nv nn i F (some (s0,t0)) g0 (gSt w.params X.s I C co) (OC g0 na nv nn xs [])):=by
 have hz:OKE w (Z2k w.params X m I C co na nv nn i F (some (s0,t0))) (gT w.params X.s I C co):=by
  cases m with
  | true=>exact gz_1 hw X I C co na nv nn i F s0 t0 hi
  | false=>exact gz_0 hw X I C co na nv nn i F s0 t0 hi
 have hv:=KL (g0:=g0) (B:=nrm (.b "generator.__next__"::shG w.params X m)) (out:=gZ g0 na nv nn) hz rfl rfl rfl rfl (fun _ _ _=>rfl) (fun _ _ _=>⟨rfl,rfl,rfl,rfl,.inr ⟨rfl,rfl,rfl⟩⟩)
 have hT:OKT w (itTZ w.params X m a gn t1 t2 q I C co na nv nn i F (some (s0,t0)) g0) (nxT (.ref gn)):=by
  cases m with
  | true=>exact tz_1 hw X a gn t1 t2 q I C co na nv nn i F g0 s0 t0 (gn_e1 hw X gn t1 t2 q I C co na nv nn i F s0 t0 g0 hv)
  | false=>exact tz_0 hw X a gn t1 t2 q I C co na nv nn i F g0 s0 t0 (gn_e0 hw X gn t1 t2 q I C co na nv nn i F s0 t0 g0 hv)
 have he:=ly_end (a:=a) (xs:=xs) (n:=n) (res:=.ref a) (fun v h=>Z5 h) hT rfl (fun _ _ _=>rfl)
 refine he.conseq [] rfl (fun _ e=>e) (fun _ e=>e) ?_ fun sz tk l=>⟨flT [l 0,l 1,0,n,a,0,0,0,0,0,0,0,0,0,0,0,0,0,0,0] (fun _=>0),[],rfl,rfl,rfl,rfl,?_⟩
 ·show List.Perm _ (_++[])
  rw[List.append_nil]
  exact .refl _
 ·have e:xs++svA [] (fun i=>flT [l 0,l 1,0,n,a,0,0,0,0,0,0,0,0,0,0,0,0,0,0,0] (fun _=>0) (i+20))=xs:=by simp[svA,svL]
  show List.Perm ((((a,Z0 xs n)::_)++[])++[]) (([(a,Z0 (xs++svA [] (fun i=>flT [l 0,l 1,0,n,a,0,0,0,0,0,0,0,0,0,0,0,0,0,0,0] (fun _=>0) (i+20))) n),_]++[])++[])
  rw[e]
  exact .refl _
theorem N3(i:Nat)(st:GenState)(s r:Str)(t:Nat)(F:Nat→Nat)(o:Option (Str × Nat))(hs:(o=none∧st=.fresh (gC0 w.params X.s I C co))∨(∃ p,o=some p∧st=gSt w.params X.s I C co))(hx:nv[i]?=some (.str s t))(hq:OK w (Kx w.params X m I C co s r))(rs:List Str)(xs:Array Value)(n:Nat)(hxs:xs.size<sizeLine)
  (ih:∀ F t0 tr n,OK w (Z0K w.params X m a (xs.push (.str r tr)) n gn t1 t2 q I C co na nv nn (i+1) F (some (s,t0)) g0 (gSt w.params X.s I C co) (OC g0 na nv nn (xs.push (.str r tr)) rs))) :
  OK w (Z0K w.params X m a xs n gn t1 t2 q I C co na nv nn i F o g0 st (OC g0 na nv nn xs (r::rs))):=by
 have hT:OKT w (itTG w.params X m a gn t1 t2 q I C co na nv nn i F o g0 st s r) (nxT (.ref gn)):=by
  rcases hs with ⟨rfl,rfl⟩ | ⟨⟨s0,t0⟩,rfl,rfl⟩
  ·have hz:OKE w (Uq w.params X m I C co na nv nn i F none s r) (gT w.params X.s I C co):=by
    cases m with
    | true=>exact gy_10 hw X I C co na nv nn i F s r t hx hq
    | false=>exact gy_00 hw X I C co na nv nn i F s r t hx hq
   have hv:=Uy (na:=na) (i:=i) (g0:=g0) (B:=nrm (.b "generator.__next__"::shG w.params X m)) (out:=gY w.params g0 (gSt w.params X.s I C co) I na C nv nn i s r) hz rfl rfl rfl rfl (fun _ _ _=>rfl) (.head _) (fun _ _ l=>⟨rfl,rfl,rfl,rfl,.inl ⟨_,rfl,rfl,rfl⟩⟩)
   cases m with
   | true=>exact tg_f1 hw X a gn t1 t2 q I C co na nv nn i F g0 s r (gn_f1 hw X gn t1 t2 q I C co na nv nn i F g0 s r hv)
   | false=>exact tg_f0 hw X a gn t1 t2 q I C co na nv nn i F g0 s r (gn_f0 hw X gn t1 t2 q I C co na nv nn i F g0 s r hv)
  ·have hz:OKE w (Uq w.params X m I C co na nv nn i F (some (s0,t0)) s r) (gT w.params X.s I C co):=by
    cases m with
    | true=>exact gy_11 hw X I C co na nv nn i F s0 t0 s r t hx hq
    | false=>exact gy_01 hw X I C co na nv nn i F s0 t0 s r t hx hq
   have hv:=KL (g0:=g0) (B:=nrm (.b "generator.__next__"::shG w.params X m)) (out:=gY w.params g0 (gSt w.params X.s I C co) I na C nv nn i s r) hz rfl rfl rfl rfl (fun _ _ _=>rfl) (fun _ _ l=>⟨rfl,rfl,rfl,rfl,.inl ⟨_,rfl,rfl,rfl⟩⟩)
   cases m with
   | true=>exact tg_s1 hw X a gn t1 t2 q I C co na nv nn i F g0 s0 t0 s r (gn_s1 hw X gn t1 t2 q I C co na nv nn i F s0 t0 g0 s r hv)
   | false=>exact tg_s0 hw X a gn t1 t2 q I C co na nv nn i F g0 s0 t0 s r (gn_s0 hw X gn t1 t2 q I C co na nv nn i F s0 t0 g0 s r hv)
 have key:=Z27 (a:=a) (xs:=xs) (n:=n) (res:=.ref a) (O:=OC g0 na nv nn xs (r::rs)) (fun v h=>Z5 h) (G:=g0.push (gSt w.params X.s I C co)) hT rfl (fun sz tk l=>⟨_,rfl,rfl⟩) (fun l=>⟨_,rfl⟩) hxs fun sz tk l v hv=>by
  cases hv
  have g:=ih (fun j=>l (j+10)) (l 3) (l 2) (n+1)
  refine g.conseq [] rfl (fun _ e=>e) (fun _ e=>e) ?_ fun sz tk l'=>⟨shl l' (l 2),[],?_,ZS l' (l 2) 0 (by decide),ZS l' (l 2) 1 (by decide),rfl,?_⟩
  ·show List.Perm _ (_++[])
   rw[List.append_nil]
   exact .refl _
  ·exact congrArg (fun x=>Except.ok (Flow.ret (Value.ref x))) (ZS l' (l 2) 4 (by decide))
  ·show List.Perm ((([(l' 4,Z0 (xs.push (.str r (l 2))++svA rs (fun i=>l' (i+20))) (l' 3)),_]:Led)++[])++[]) ((([(shl l' (l 2) 4,Z0 (xs++svA (r::rs) (fun i=>shl l' (l 2) (i+20))) (shl l' (l 2) 3)),_]:Led)++[])++[])
   rw[Qp,ZS l' (l 2) 3 (by decide),ZS l' (l 2) 4 (by decide)]
 refine key.conseq [] rfl (fun _ e=>e) (fun _ e=>e) ?_ fun sz tk l=>⟨l,[],rfl,rfl,rfl,rfl,?_⟩
 ·show List.Perm _ (_++[])
  rw[List.append_nil]
  exact .refl _
 ·exact .refl _
theorem Z2d:∀(ps:List (Str × Str))(i:Nat),(∀ p∈ps,OK w (Kx w.params X m I C co p.1 p.2))→(∀ j p,ps[j]?=some p→∃ t,nv[i+j]?=some (.str p.1 t))→nv.size=i+ps.length→∀(F:Nat→Nat)(s0:Str)(t0:Nat)(xs:Array Value)(n:Nat),xs.size+ps.length≤1000 →
  OK w (Z0K w.params X m a xs n gn t1 t2 q I C co na nv nn i F (some (s0,t0)) g0 (gSt w.params X.s I C co) (OC g0 na nv nn xs (ps.map (·.2)))):=by
 intro ps
 induction ps with
 | nil=>exact fun i _ _ hs F s0 t0 xs n _=>jl_end hw X m a gn t1 t2 q I C co na nv nn g0 i (by rw[hs];exact Nat.le_refl _) F s0 t0 xs n
 | cons p ps ih =>
  intro i hq hn hs F s0 t0 xs n hxs
  obtain ⟨t,ht⟩:=hn 0 p rfl
  rw[List.length_cons] at hs hxs
  refine N3 hw X m a gn t1 t2 q I C co na nv nn g0 i _ p.1 p.2 t F _ (.inr ⟨(s0,t0),rfl,rfl⟩) ht (hq p (.head _)) (ps.map (·.2)) xs n (Nat.lt_of_le_of_lt (show xs.size≤1000 by omega) (by decide)) fun F t0 tr n=>?_
  exact ih (i+1) (fun p hp=>hq p (.tail _ hp)) (fun j p hj=>by
   obtain ⟨t,h⟩:=hn (j+1) p hj
   exact ⟨t,by rw[show i+1+j=i+(j+1) by omega];exact h⟩) (by omega) F p.1 t0 _ n (by rw[Array.size_push];omega)
theorem cl_all(p:Str × Str)(ps:List (Str × Str))(hq:∀ x∈p::ps,OK w (Kx w.params X m I C co x.1 x.2))(hn:∀(j:Nat)(x:Str × Str),(p::ps)[j]?=some x→∃ t,nv[j]?=some (Value.str x.1 t))(hs:nv.size=ps.length+1)(hl:ps.length+1≤1000)(F:Nat→Nat) :
  OK w (Z2n w.params X m gn t1 t2 q I C co na nv nn F g0 (OC g0 na nv nn #[] ((p::ps).map (·.2)))):=by
 have h:∀ a n,OK w (Z2j w.params X m a n gn t1 t2 q I C co na nv nn F g0 (OC g0 na nv nn #[] ((p::ps).map (·.2)))):=fun a n=>by
  have hj:∀ n,OK w (Z0K w.params X m a #[] n gn t1 t2 q I C co na nv nn 0 F none g0 (.fresh (gC0 w.params X.s I C co)) (OC g0 na nv nn #[] ((p::ps).map (·.2)))):=fun n=>by
   obtain ⟨t,ht⟩:=hn 0 p rfl
   refine N3 hw X m a gn t1 t2 q I C co na nv nn g0 0 _ p.1 p.2 t F _ (.inl ⟨rfl,rfl⟩) ht (hq p (.head _)) (ps.map (·.2)) #[] n (by decide) fun F t0 tr n=>?_
   exact Z2d hw X m a gn t1 t2 q I C co na nv nn g0 ps 1 (fun p hp=>hq p (.tail _ hp)) (fun j p hj=>by
    obtain ⟨t,h⟩:=hn (j+1) p hj
    exact ⟨t,by rw[show 1+j=j+1 by omega];exact h⟩) (by omega) F p.1 t0 _ n (by simp;omega)
  cases m with
  | true=>exact ia_1 hw X a gn t1 t2 q I C co na nv nn F g0 _ n hj
  | false=>exact ia_0 hw X a gn t1 t2 q I C co na nv nn F g0 _ n hj
 cases m with
 | true=>exact cl_1 hw X gn t1 t2 q I C co na nv nn F g0 _ h
 | false=>exact cl_0 hw X gn t1 t2 q I C co na nv nn F g0 _ h
end
end
end
section
open PySem PySem.Builtin PySem.W
noncomputable def wo (eb:Bool)(l:Nat→Nat):Option (Nat × Nat):=match eb with
 | true=>some (l 5,l 4)
 | false=>none
noncomputable def isW (k:Nat):Bool:=Zh whS (mkS [k])||(decide (8192≤k)&&decide (k≤8202))
noncomputable def oTok (o:Option (Nat × Nat)):Nat:=match o with
 | some x=>x.2
 | none=>0
noncomputable def oChr (o:Option (Nat × Nat)):Nat:=match o with
 | some x=>x.1
 | none=>0
noncomputable def OWL (P:Params)(acc L cl:Nat)(wt:Nat)(eb:Bool)(xs:Array Value)(rs:List Str):(Nat→Nat)→FOut:=fun l =>
 ⟨.ok .next,[(acc,Z0 (xs++svA rs (fun i=>l (i+20))) (l 2)),(L,Ja P (l 3) (wo eb l)),(cl,KE (.str whS wt))],l 0,l 1,id,[]⟩
theorem Ul(a b:Nat):decide ((mkS [a]).cps.toList<(mkS [b]).cps.toList)=decide (a<b):=by
 show decide ([a]<[b])=_
 rw[StrLaws.lt_cons_cons]
 simp
section
variable {b b2:Bool}{w:World}(hw:Wd b b2 w)(Lf it acc L cl:Nat)(s:Str)(t wt:Nat)
include hw
theorem wl_all(c:String)(hcls:c="str_ascii_iterator"∨c="str_iterator"):∀(rem:List Nat)(i:Nat),s.cps.toList.drop i=rem→∀(xs:Array Value)(n F:Nat)(o:Option (Nat × Nat))(eb:Bool),(o=none→eb=!rem.isEmpty)→(o≠none→eb=true)→xs.size+rem.length≤1000 →
  OK w (Ye w.params Lf c it acc L cl s t wt (OWL w.params acc L cl wt eb xs ((rem.filter fun k=>!isW k).map fun k=>mkS [k])) i xs n F o):=by
 intro rem
 induction rem with
 | nil =>
  intro i hd xs n F o eb h1 h2 hs
  have hk:s.length≤i:=by
   have:=List.drop_eq_nil_iff.mp hd
   simpa [Str.length] using this
  have fin:∀(h:OK w (Ye w.params Lf c it acc L cl s t wt (fun l=>⟨.ok .next,[(acc,Z0 xs n),(L,Ja w.params F o),(cl,KE (.str whS wt))],l 0,l 1,id,[]⟩) i xs n F o)),OK w (Ye w.params Lf c it acc L cl s t wt (OWL w.params acc L cl wt eb xs (([].filter fun k=>!isW k).map fun k=>mkS [k])) i xs n F o):=fun h=>by
   refine h.conseq [] rfl (fun _ e=>e) (fun _ e=>e) (by rw[List.append_nil];exact .refl _) fun sz tk l=>?_
   refine ⟨flT [l 0,l 1,n,F,(oTok o),(oChr o),0,0,0,0,0,0,0,0,0,0,0,0,0,0] (fun _=>0),[],rfl,rfl,rfl,rfl,?_⟩
   rw[List.append_nil,List.append_nil]
   have e:xs++svA [] (fun i=>flT [l 0,l 1,n,F,(oTok o),(oChr o),0,0,0,0,0,0,0,0,0,0,0,0,0,0] (fun _=>0) (i+20))=xs:=by simp[svA,svL]
   show List.Perm ([(acc,Z0 xs n),(L,Ja w.params F o),(cl,KE (.str whS wt))]++[]) ([(acc,Z0 (xs++svA [] (fun i=>flT [l 0,l 1,n,F,(oTok o),(oChr o),0,0,0,0,0,0,0,0,0,0,0,0,0,0] (fun _=>0) (i+20))) n),(L,Ja w.params F (wo eb (flT [l 0,l 1,n,F,(oTok o),(oChr o),0,0,0,0,0,0,0,0,0,0,0,0,0,0] (fun _=>0)))),(cl,KE (.str whS wt))]++[])
   rw[e]
   cases o with
   | none=>rw[h1 rfl];exact .refl _
   | some x=>rw[h2 (by simp)];exact .refl _
  rcases hcls with rfl | rfl
  ·cases o with
   | none=>exact fin (Wi hw Lf it acc L cl s t wt i xs n F hk)
   | some x=>exact fin (Wh hw Lf it acc L cl s t wt i xs n F x.1 x.2 hk)
  ·cases o with
   | none=>exact fin (Wg hw Lf it acc L cl s t wt i xs n F hk)
   | some x=>exact fin (Wf hw Lf it acc L cl s t wt i xs n F x.1 x.2 hk)
 | cons k rem ih =>
  intro i hd xs n F o eb h1 h2 hs
  rw[List.length_cons] at hs
  have heb:eb=true:=by
   cases o with
   | none=>exact h1 rfl
   | some x=>exact h2 (by simp)
  have hlt:i<s.cps.toList.length:=by
   rcases Nat.lt_or_ge i s.cps.toList.length with h | h
   ·exact h
   ·rw[List.drop_eq_nil_of_le h] at hd;cases hd
  have hk:s.cps[i]?=some k:=by
   rw[List.drop_eq_getElem_cons hlt] at hd
   rw[Array.getElem?_eq_getElem (by simpa using hlt)]
   injection hd with h _
   rw[←h]
   simp
  have hd':s.cps.toList.drop (i+1)=rem:=by rw[←List.drop_drop,hd];rfl
  have skip:isW k=true→∀ F u,OK w (Ye w.params Lf c it acc L cl s t wt (OWL w.params acc L cl wt eb xs (((k::rem).filter fun k=>!isW k).map fun k=>mkS [k])) (i+1) xs n F (some (k,u))):=fun hw' F u=>by
   have:=ih (i+1) hd' xs n F (some (k,u)) eb (fun h=>by cases h) (fun _=>heb) (by omega)
   rw[List.filter_cons,hw']
   exact this
  have app:isW k=false→∀ F u v n,OK w (Ye w.params Lf c it acc L cl s t wt (OWL w.params acc L cl wt eb xs (((k::rem).filter fun k=>!isW k).map fun k=>mkS [k])) (i+1) (xs.push (.str (mkS [k]) v)) n F (some (k,u))):=fun hw' F u v n=>by
   have g:=ih (i+1) hd' (xs.push (.str (mkS [k]) v)) n F (some (k,u)) eb (fun h=>by cases h) (fun _=>heb) (by rw[Array.size_push];omega)
   rw[List.filter_cons,hw']
   refine g.conseq [] rfl (fun _ e=>e) (fun _ e=>e) (by rw[List.append_nil];exact .refl _) fun sz tk l'=>⟨shl l' v,[],rfl,ZS l' v 0 (by decide),ZS l' v 1 (by decide),rfl,?_⟩
   rw[List.append_nil,List.append_nil]
   show List.Perm (([(acc,Z0 (xs.push (.str (mkS [k]) v)++svA _ (fun i=>l' (i+20))) (l' 2)),(L,Ja w.params (l' 3) (wo eb l')),_]:Led)++[]) (([(acc,Z0 (xs++svA (mkS [k]::_) (fun i=>shl l' v (i+20))) (shl l' v 2)),(L,Ja w.params (shl l' v 3) (wo eb (shl l' v))),_]:Led)++[])
   have ew:wo eb (shl l' v)=wo eb l':=by
    cases eb with
    | true=>show some (shl l' v 5,shl l' v 4)=_;rw[ZS l' v 5 (by decide),ZS l' v 4 (by decide)];rfl
    | false=>rfl
   rw[Qp,ZS l' v 2 (by decide),ZS l' v 3 (by decide),ew]
  have hxs:xs.size<sizeLine:=Nat.lt_of_le_of_lt (show xs.size≤1000 by omega) (by decide)
  unfold isW at skip app
  cases hc1:Zh whS (mkS [k]) with
  | true =>
   have sk:=skip (by rw[hc1];rfl)
   rcases hcls with rfl | rfl <;> cases o with
   | none=>first | exact NM hw Lf it acc L cl s t wt _ i xs n F k hk hc1 sk | exact NK hw Lf it acc L cl s t wt _ i xs n F k hk hc1 sk
   | some x=>first | exact NL hw Lf it acc L cl s t wt _ i xs n F x.1 x.2 k hk hc1 sk | exact NJ hw Lf it acc L cl s t wt _ i xs n F x.1 x.2 k hk hc1 sk
  | false =>
   rw[hc1,Bool.false_or] at skip app
   by_cases ha:8192≤k
   ·have h2':(!decide ((mkS [k]).cps.toList<(mkS [8192]).cps.toList))=true:=by rw[Ul];simp;omega
    by_cases hb:k≤8202
    ·have h3:(!decide ((mkS [8202]).cps.toList<(mkS [k]).cps.toList))=true:=by rw[Ul];simp;omega
     have sk:=skip (by simp[ha,hb])
     rcases hcls with rfl | rfl <;> cases o with
     | none=>first | exact We hw Lf it acc L cl s t wt _ i xs n F k hk hc1 h2' h3 sk | exact Wb hw Lf it acc L cl s t wt _ i xs n F k hk hc1 h2' h3 sk
     | some x=>first | exact Wc hw Lf it acc L cl s t wt _ i xs n F x.1 x.2 k hk hc1 h2' h3 sk | exact Wa hw Lf it acc L cl s t wt _ i xs n F x.1 x.2 k hk hc1 h2' h3 sk
    ·have h3:(!decide ((mkS [8202]).cps.toList<(mkS [k]).cps.toList))=false:=by rw[Ul];simp;omega
     have sk:=app (by simp[ha,hb])
     rcases hcls with rfl | rfl <;> cases o with
     | none=>first | exact NQ hw Lf it acc L cl s t wt _ i xs n F k hk hc1 h2' h3 hxs sk | exact NO hw Lf it acc L cl s t wt _ i xs n F k hk hc1 h2' h3 hxs sk
     | some x=>first | exact NP hw Lf it acc L cl s t wt _ i xs n F x.1 x.2 k hk hc1 h2' h3 hxs sk | exact NN hw Lf it acc L cl s t wt _ i xs n F x.1 x.2 k hk hc1 h2' h3 hxs sk
   ·have h2':(!decide ((mkS [k]).cps.toList<(mkS [8192]).cps.toList))=false:=by rw[Ul];simp;omega
    have sk:=app (by simp[ha])
    rcases hcls with rfl | rfl <;> cases o with
    | none=>first | exact NI hw Lf it acc L cl s t wt _ i xs n F k hk hc1 h2' hxs sk | exact NG hw Lf it acc L cl s t wt _ i xs n F k hk hc1 h2' hxs sk
    | some x=>first | exact NH hw Lf it acc L cl s t wt _ i xs n F x.1 x.2 k hk hc1 h2' hxs sk | exact NF hw Lf it acc L cl s t wt _ i xs n F x.1 x.2 k hk hc1 h2' hxs sk
end
noncomputable def Vi (P:Params)(Lf:Nat)(c:String)(it acc L cl:Nat)(s:Str)(t wt:Nat)(eb:Bool)(rs:List Str):FItem:={ Ye P Lf c it acc L cl s t wt (OWL P acc L cl wt eb #[] rs) 0 #[] 0 0 none with c:=.compStart (wE P) 0 (.ref it) (.ref acc) (wEnv P Lf L cl) }
noncomputable def Jp (P:Params)(X:Fr)(s:Str)(r:Bool):FItem where
 c:=.call (.ref 799) ⟨[.str s 0],[]⟩
 B:=nrm (shD P X)
 pre:=[]
 out:=fun _ _ l=>⟨.ok (.ret (.bool r)),[],l 0,l 1,id,[]⟩
section
variable{b b2:Bool}{w:World}(hw:Wd b b2 w)(X:Fr)(s:Str)
include b b2 w hw X s
theorem wh_ta0(hc:(if s.cps.all (·<128)=true then "str_ascii_iterator" else "str_iterator")="str_ascii_iterator")(h:∀ Lf it acc L cl t wt,OK w (Vi w.params Lf "str_ascii_iterator" it acc L cl s t wt false [])):OK w (Jp w.params X s true):=by
 refine Z1 hw.w0 _ fun c B p sz tk g he=>?_
 obtain ⟨bs,rfl,hb⟩:=Z3 he
 obtain ⟨v1,rfl,e1⟩:=Z4 hb
 obtain ⟨u1,rfl⟩:=Zk e1
 refine ⟨102,.item [] (YU s "str_ascii_iterator") (fun l0=>.item [] (Vi w.params sz "str_ascii_iterator" (sz+2) (sz+3) (sz+4) (sz+1) s (l0 0) (tk+1) false []) (fun l1=>.fin [])),(dg 31 0x121254f12137f2221220012010201101200),[],0,fun ls=>(fun l0 l1=>fl [l1 0+1,l1 1]) (ls 0) (ls 1),?_,fun ls=>?_⟩
 ·exact ⟨(fun x hx=>(nomatch hx)),YF hc,fun l0=>⟨(fun x hx=>(nomatch hx)),h _ _ _ _ _ _ _,fun l1=>(fun x hx=>(nomatch hx))⟩⟩
 ·cases b <;> kernel_rfl
theorem wh_fa0(rs:List Str)(hrs:(rs.length != 0)=true)(hc:(if s.cps.all (·<128)=true then "str_ascii_iterator" else "str_iterator")="str_ascii_iterator")(h:∀ Lf it acc L cl t wt,OK w (Vi w.params Lf "str_ascii_iterator" it acc L cl s t wt false rs)):OK w (Jp w.params X s false):=by
 refine Z1 hw.w0 _ fun c B p sz tk g he=>?_
 obtain ⟨bs,rfl,hb⟩:=Z3 he
 obtain ⟨v1,rfl,e1⟩:=Z4 hb
 obtain ⟨u1,rfl⟩:=Zk e1
 refine ⟨91,.item [] (YU s "str_ascii_iterator") (fun l0=>.item [] (Vi w.params sz "str_ascii_iterator" (sz+2) (sz+3) (sz+4) (sz+1) s (l0 0) (tk+1) false rs) (fun l1=>.fin [Yq (sz+3) (l1 0) (#[]++svA rs fun i=>l1 (i+20)) #[] (l1 2) 0])),(dg 23 0x1121220012010201101200),[],0,fun ls=>(fun l0 l1=>fl [l1 0+1,l1 1]) (ls 0) (ls 1),?_,fun ls=>?_⟩
 ·exact ⟨(fun x hx=>(nomatch hx)),YF hc,fun l0=>⟨(fun x hx=>(nomatch hx)),h _ _ _ _ _ _ _,fun l1=>(AllV.all ⟨ZT (by rw[Array.size_append,Z6];simpa using hrs),trivial⟩)⟩⟩
 ·cases b <;> kernel_rfl
theorem wh_ta1(hc:(if s.cps.all (·<128)=true then "str_ascii_iterator" else "str_iterator")="str_ascii_iterator")(h:∀ Lf it acc L cl t wt,OK w (Vi w.params Lf "str_ascii_iterator" it acc L cl s t wt true [])):OK w (Jp w.params X s true):=by
 refine Z1 hw.w0 _ fun c B p sz tk g he=>?_
 obtain ⟨bs,rfl,hb⟩:=Z3 he
 obtain ⟨v1,rfl,e1⟩:=Z4 hb
 obtain ⟨u1,rfl⟩:=Zk e1
 refine ⟨106,.item [] (YU s "str_ascii_iterator") (fun l0=>.item [] (Vi w.params sz "str_ascii_iterator" (sz+2) (sz+3) (sz+4) (sz+1) s (l0 0) (tk+1) true []) (fun l1=>.fin [])),(dg 33 0x121254f12137f222121220012010201101200),[],0,fun ls=>(fun l0 l1=>fl [l1 0+1,l1 1]) (ls 0) (ls 1),?_,fun ls=>?_⟩
 ·exact ⟨(fun x hx=>(nomatch hx)),YF hc,fun l0=>⟨(fun x hx=>(nomatch hx)),h _ _ _ _ _ _ _,fun l1=>(fun x hx=>(nomatch hx))⟩⟩
 ·cases b <;> kernel_rfl
theorem wh_fa1(rs:List Str)(hrs:(rs.length != 0)=true)(hc:(if s.cps.all (·<128)=true then "str_ascii_iterator" else "str_iterator")="str_ascii_iterator")(h:∀ Lf it acc L cl t wt,OK w (Vi w.params Lf "str_ascii_iterator" it acc L cl s t wt true rs)):OK w (Jp w.params X s false):=by
 refine Z1 hw.w0 _ fun c B p sz tk g he=>?_
 obtain ⟨bs,rfl,hb⟩:=Z3 he
 obtain ⟨v1,rfl,e1⟩:=Z4 hb
 obtain ⟨u1,rfl⟩:=Zk e1
 refine ⟨95,.item [] (YU s "str_ascii_iterator") (fun l0=>.item [] (Vi w.params sz "str_ascii_iterator" (sz+2) (sz+3) (sz+4) (sz+1) s (l0 0) (tk+1) true rs) (fun l1=>.fin [Yq (sz+3) (l1 0) (#[]++svA rs fun i=>l1 (i+20)) #[] (l1 2) 0])),(dg 25 0x112121220012010201101200),[],0,fun ls=>(fun l0 l1=>fl [l1 0+1,l1 1]) (ls 0) (ls 1),?_,fun ls=>?_⟩
 ·exact ⟨(fun x hx=>(nomatch hx)),YF hc,fun l0=>⟨(fun x hx=>(nomatch hx)),h _ _ _ _ _ _ _,fun l1=>(AllV.all ⟨ZT (by rw[Array.size_append,Z6];simpa using hrs),trivial⟩)⟩⟩
 ·cases b <;> kernel_rfl
theorem wh_tw0(hc:(if s.cps.all (·<128)=true then "str_ascii_iterator" else "str_iterator")="str_iterator")(h:∀ Lf it acc L cl t wt,OK w (Vi w.params Lf "str_iterator" it acc L cl s t wt false [])):OK w (Jp w.params X s true):=by
 refine Z1 hw.w0 _ fun c B p sz tk g he=>?_
 obtain ⟨bs,rfl,hb⟩:=Z3 he
 obtain ⟨v1,rfl,e1⟩:=Z4 hb
 obtain ⟨u1,rfl⟩:=Zk e1
 refine ⟨102,.item [] (YU s "str_iterator") (fun l0=>.item [] (Vi w.params sz "str_iterator" (sz+2) (sz+3) (sz+4) (sz+1) s (l0 0) (tk+1) false []) (fun l1=>.fin [])),(dg 31 0x121254f12137f2221220012010201101200),[],0,fun ls=>(fun l0 l1=>fl [l1 0+1,l1 1]) (ls 0) (ls 1),?_,fun ls=>?_⟩
 ·exact ⟨(fun x hx=>(nomatch hx)),YF hc,fun l0=>⟨(fun x hx=>(nomatch hx)),h _ _ _ _ _ _ _,fun l1=>(fun x hx=>(nomatch hx))⟩⟩
 ·cases b <;> kernel_rfl
theorem wh_fw0(rs:List Str)(hrs:(rs.length != 0)=true)(hc:(if s.cps.all (·<128)=true then "str_ascii_iterator" else "str_iterator")="str_iterator")(h:∀ Lf it acc L cl t wt,OK w (Vi w.params Lf "str_iterator" it acc L cl s t wt false rs)):OK w (Jp w.params X s false):=by
 refine Z1 hw.w0 _ fun c B p sz tk g he=>?_
 obtain ⟨bs,rfl,hb⟩:=Z3 he
 obtain ⟨v1,rfl,e1⟩:=Z4 hb
 obtain ⟨u1,rfl⟩:=Zk e1
 refine ⟨91,.item [] (YU s "str_iterator") (fun l0=>.item [] (Vi w.params sz "str_iterator" (sz+2) (sz+3) (sz+4) (sz+1) s (l0 0) (tk+1) false rs) (fun l1=>.fin [Yq (sz+3) (l1 0) (#[]++svA rs fun i=>l1 (i+20)) #[] (l1 2) 0])),(dg 23 0x1121220012010201101200),[],0,fun ls=>(fun l0 l1=>fl [l1 0+1,l1 1]) (ls 0) (ls 1),?_,fun ls=>?_⟩
 ·exact ⟨(fun x hx=>(nomatch hx)),YF hc,fun l0=>⟨(fun x hx=>(nomatch hx)),h _ _ _ _ _ _ _,fun l1=>(AllV.all ⟨ZT (by rw[Array.size_append,Z6];simpa using hrs),trivial⟩)⟩⟩
 ·cases b <;> kernel_rfl
theorem wh_tw1(hc:(if s.cps.all (·<128)=true then "str_ascii_iterator" else "str_iterator")="str_iterator")(h:∀ Lf it acc L cl t wt,OK w (Vi w.params Lf "str_iterator" it acc L cl s t wt true [])):OK w (Jp w.params X s true):=by
 refine Z1 hw.w0 _ fun c B p sz tk g he=>?_
 obtain ⟨bs,rfl,hb⟩:=Z3 he
 obtain ⟨v1,rfl,e1⟩:=Z4 hb
 obtain ⟨u1,rfl⟩:=Zk e1
 refine ⟨106,.item [] (YU s "str_iterator") (fun l0=>.item [] (Vi w.params sz "str_iterator" (sz+2) (sz+3) (sz+4) (sz+1) s (l0 0) (tk+1) true []) (fun l1=>.fin [])),(dg 33 0x121254f12137f222121220012010201101200),[],0,fun ls=>(fun l0 l1=>fl [l1 0+1,l1 1]) (ls 0) (ls 1),?_,fun ls=>?_⟩
 ·exact ⟨(fun x hx=>(nomatch hx)),YF hc,fun l0=>⟨(fun x hx=>(nomatch hx)),h _ _ _ _ _ _ _,fun l1=>(fun x hx=>(nomatch hx))⟩⟩
 ·cases b <;> kernel_rfl
theorem wh_fw1(rs:List Str)(hrs:(rs.length != 0)=true)(hc:(if s.cps.all (·<128)=true then "str_ascii_iterator" else "str_iterator")="str_iterator")(h:∀ Lf it acc L cl t wt,OK w (Vi w.params Lf "str_iterator" it acc L cl s t wt true rs)):OK w (Jp w.params X s false):=by
 refine Z1 hw.w0 _ fun c B p sz tk g he=>?_
 obtain ⟨bs,rfl,hb⟩:=Z3 he
 obtain ⟨v1,rfl,e1⟩:=Z4 hb
 obtain ⟨u1,rfl⟩:=Zk e1
 refine ⟨95,.item [] (YU s "str_iterator") (fun l0=>.item [] (Vi w.params sz "str_iterator" (sz+2) (sz+3) (sz+4) (sz+1) s (l0 0) (tk+1) true rs) (fun l1=>.fin [Yq (sz+3) (l1 0) (#[]++svA rs fun i=>l1 (i+20)) #[] (l1 2) 0])),(dg 25 0x112121220012010201101200),[],0,fun ls=>(fun l0 l1=>fl [l1 0+1,l1 1]) (ls 0) (ls 1),?_,fun ls=>?_⟩
 ·exact ⟨(fun x hx=>(nomatch hx)),YF hc,fun l0=>⟨(fun x hx=>(nomatch hx)),h _ _ _ _ _ _ _,fun l1=>(AllV.all ⟨ZT (by rw[Array.size_append,Z6];simpa using hrs),trivial⟩)⟩⟩
 ·cases b <;> kernel_rfl
end
end
section
open PySem PySem.Builtin PySem.Builtin.Str PySem.W
noncomputable def JB (c:Nat):List Nat→Nat→Nat→List Nat
 | [],_,_=>[]
 | a::L,i,lim=>if a=c∧0<lim then i::JB c L (i+1) (lim-1) else JB c L (i+1) lim
noncomputable def spl (c:Nat):List Nat→Nat→List Nat→List (List Nat)
 | [],_,acc=>[acc]
 | a::L,lim,acc=>if a=c∧0<lim then acc::spl c L (lim-1) [] else spl c L lim (acc++[a])
theorem JT(x:Str):mkS x.cps.toList=x:=rfl
theorem Yp(l:List Nat):(mkS l).cps.toList=l:=rfl
theorem Ux{L:List Nat}{i a:Nat}(h:L[i]?=some a):L.drop i=a::L.drop (i+1):=by
 obtain ⟨hlt,e⟩:=List.getElem?_eq_some_iff.mp h
 rw[List.drop_eq_getElem_cons hlt,e]
theorem VH(x:Str)(c lim:Nat):∀(m cur:Nat)(st:Array Nat × Nat),st.2≤cur→cur+m=x.length+1 →
  (forIn (List.range' cur m) st (StrLaws.occBody x ⟨#[c]⟩ x.length lim)).run.fst.toList=st.1.toList++JB c (x.cps.toList.drop cur) cur (lim-st.1.size)
 | 0,cur,st,_,h2=>by
  have:x.cps.toList.drop cur=[]:=List.drop_eq_nil_of_le (by simp[Str.length] at h2;simp;omega)
  rw[this]
  simp[JB]
 | m+1,cur,st,h1,h2=>by
  rw[List.range'_succ,List.forIn_cons]
  unfold StrLaws.occBody
  split
  ·rename_i hc
   have hg:=(StrLaws.subAt_one x c cur).mp ⟨hc.1.2,hc.2⟩
   have hs:st.1.size<lim:=hc.1.1.1
   rw[Ux hg]
   refine (VH x c lim m (cur+1) (st.1.push cur,cur+1) (Nat.le_refl _) (by omega)).trans ?_
   rw[show JB c (c::x.cps.toList.drop (cur+1)) cur (lim-st.1.size)=cur::JB c (x.cps.toList.drop (cur+1)) (cur+1) (lim-st.1.size-1) from if_pos ⟨rfl,by omega⟩,Array.toList_push,Array.size_push,List.append_assoc]
   rw[show lim-(st.1.size+1)=lim-st.1.size-1 by omega]
   rfl
  ·rename_i hc
   refine (VH x c lim m (cur+1) st (by omega) (by omega)).trans ?_
   cases hg:x.cps.toList[cur]? with
   | none =>
    rw[List.drop_eq_nil_of_le (List.getElem?_eq_none_iff.mp hg),List.drop_eq_nil_of_le (Nat.le_succ_of_le (List.getElem?_eq_none_iff.mp hg))]
    simp[JB]
   | some a =>
    rw[Ux hg]
    conv=>rhs;unfold JB
    rw[if_neg]
    rintro ⟨rfl,hl⟩
    have:=(StrLaws.subAt_one x a cur).mpr hg
    exact hc ⟨⟨⟨by omega,h1⟩,this.1⟩,this.2⟩
theorem J0(x:Str)(c lim:Nat):occurrences x (mkS [c]) 0 x.length lim=JB c x.cps.toList 0 lim:=by
 rw[StrLaws.occ_eq]
 exact (VH x c lim (x.length+1-0) 0 (#[],0) (Nat.le_refl _) (by omega)).trans (by simp)
theorem Jk(x:Str)(c:Nat):∀(rem:List Nat)(j a lim:Nat),x.cps.toList.drop j=rem→a≤j→j≤x.length→StrLaws.partsFrom x 1 a (JB c rem j lim)=(spl c rem lim ((x.cps.toList.drop a).take (j-a))).map mkS
 | [],j,a,lim,h,h1,h2=>by
  have:x.length≤j:=by
   have:=List.drop_eq_nil_iff.mp h
   simpa [Str.length] using this
  have e:j=x.length:=by omega
  subst e
  show [strSub x a x.length]=[mkS _]
  rw[←StrLaws.strSub_toList,JT]
 | b::rem,j,a,lim,h,h1,h2=>by
  have hlt:j<x.cps.toList.length:=by
   rcases Nat.lt_or_ge j x.cps.toList.length with h1 | h1
   ·exact h1
   ·rw[List.drop_eq_nil_of_le h1] at h;cases h
  have hd:x.cps.toList.drop (j+1)=rem:=by rw[←List.drop_drop,h];rfl
  have hj:j+1≤x.length:=by simp at hlt;simp[Str.length];omega
  unfold JB spl
  by_cases hc:b=c∧0<lim
  ·rw[if_pos hc,if_pos hc]
   show strSub x a j::StrLaws.partsFrom x 1 (j+1) _=mkS _::_
   rw[Jk x c rem (j+1) (j+1) (lim-1) hd (Nat.le_refl _) hj,Nat.sub_self,List.take_zero,←StrLaws.strSub_toList x a j,JT]
  ·rw[if_neg hc,if_neg hc,Jk x c rem (j+1) a lim hd (by omega) hj]
   congr 2
   have e:(x.cps.toList.drop a).drop (j-a)=b::rem:=by rw[List.drop_drop,show a+(j-a)=j by omega];exact h
   have e2:(x.cps.toList.drop a)[j-a]?=some b:=by
    have:((x.cps.toList.drop a).drop (j-a))[0]?=some b:=by rw[e];rfl
    rwa [List.getElem?_drop] at this
   rw[show j+1-a=(j-a)+1 by omega,List.take_add_one,e2]
   rfl
theorem WO(x:Str)(c lim:Nat):partsBetween x (occurrences x (mkS [c]) 0 x.length lim) 1=(spl c x.cps.toList lim []).map mkS:=by
 rw[StrLaws.partsBetween_eq,J0]
 exact (Jk x c x.cps.toList 0 0 lim rfl (Nat.le_refl _) (Nat.zero_le _)).trans (by rw[Nat.sub_zero,List.take_zero])
theorem QP(c:Nat):∀(L:List Nat)(lim:Nat)(acc:List Nat),c∉L→spl c L lim acc=[acc++L]
 | [],lim,acc,_=>by simp[spl]
 | a::L,lim,acc,h=>by
  unfold spl
  rw[if_neg (fun hc=>h (by rw[hc.1];exact List.mem_cons_self)),QP c L lim _ (fun hm=>h (List.mem_cons_of_mem _ hm)),List.append_assoc]
  rfl
theorem Ke(c:Nat):∀(L:List Nat)(acc:List Nat),spl c L 0 acc=[acc++L]
 | [],acc=>by simp[spl]
 | a::L,acc=>by
  unfold spl
  rw[if_neg (fun hc=>absurd hc.2 (by omega)),Ke c L _,List.append_assoc]
  rfl
theorem Qe(c:Nat):∀(a r:List Nat)(lim:Nat)(acc:List Nat),c∉a→spl c (a++c::r) (lim+1) acc=(acc++a)::spl c r lim []
 | [],r,lim,acc,_=>by
  show spl c (c::r) (lim+1) acc=_
  unfold spl
  rw[if_pos ⟨rfl,by omega⟩,List.append_nil]
  cases r <;> rfl
 | b::a,r,lim,acc,h=>by
  show spl c (b::(a++c::r)) (lim+1) acc=_
  conv=>lhs;unfold spl
  rw[if_neg (fun hc=>h (by rw[hc.1];exact List.mem_cons_self)),Qe c a r lim _ (fun hm=>h (List.mem_cons_of_mem _ hm)),List.append_assoc]
  rfl
noncomputable def Qv (sep:List Nat):List (List Nat)→List Nat
 | []=>[]
 | [x]=>x
 | x::xs=>x++sep++Qv sep xs
theorem Qa(sep x y:List Nat)(r:List (List Nat)):Qv sep (x::y::r)=x++sep++Qv sep (y::r):=rfl
theorem Kv(sep:List Nat):∀ ts:List (List Nat),Str.join (mkS sep) (ts.map mkS)=mkS (Qv sep ts)
 | []=>rfl
 | [x]=>rfl
 | x::y::r=>by
  have ih:=Kv sep (y::r)
  show mkS x++mkS sep++Str.join (mkS sep) ((y::r).map mkS)=_
  rw[ih,ZU,ZU,Qa]
theorem Kw(sep:List Nat)(ts:List (List Nat)):JH (mkS sep) (ts.map mkS)=mkS (Qv sep ts):=by
 match ts with
 | []=>exact (StrLaws.glued_eq_join _ _).trans (Kv sep [])
 | [x]=>rfl
 | x::y::r=>exact (StrLaws.glued_eq_join _ _).trans (Kv sep (x::y::r))
theorem U8(c:Nat):∀(L:List Nat)(lim:Nat)(acc:List Nat),∃ p r,spl c L lim acc=p::r
 | [],lim,acc=>⟨_,_,rfl⟩
 | a::L,lim,acc=>by
  unfold spl
  split
  ·exact ⟨_,_,rfl⟩
  ·exact U8 c L lim _
theorem J3(c:Nat):∀(L:List Nat)(lim:Nat)(acc:List Nat),Qv [c] (spl c L lim acc)=acc++L
 | [],lim,acc=>by simp[spl,Qv]
 | a::L,lim,acc=>by
  unfold spl
  split
  ·rename_i h
   obtain ⟨p,r,e⟩:=U8 c L (lim-1) []
   have ih:=J3 c L (lim-1) []
   rw[e] at ih ⊢
   rw[Qa,ih,h.1]
   simp
  ·rw[J3 c L lim _];simp
theorem Qg(c:Nat):∀(L:List Nat)(lim:Nat)(acc:List Nat),((spl c L lim acc).map (·.length)).sum+(spl c L lim acc).length=acc.length+L.length+1
 | [],lim,acc=>by simp[spl]
 | a::L,lim,acc=>by
  unfold spl
  split
  ·have ih:=Qg c L (lim-1) []
   simp only[List.map_cons,List.sum_cons,List.length_cons,List.length_nil] at ih ⊢
   omega
  ·have ih:=Qg c L lim (acc++[a])
   simp only[List.length_append,List.length_cons,List.length_nil] at ih ⊢
   omega
theorem Ut(k:Nat):∀(ts:List (List Nat))(a:Nat),(ts.map mkS).foldl (fun a (s:Str)=>a+s.length+k) a=a+(ts.map (·.length)).sum+ts.length*k
 | [],a=>by simp
 | t::ts,a=>by
  rw[List.map_cons,List.foldl_cons,Ut k ts,Zf]
  simp only[List.map_cons,List.sum_cons,List.length_cons,Nat.succ_mul]
  omega
theorem Kq{k:Nat}{ts:List (List Nat)}(h:(ts.map (·.length)).sum+ts.length*k≤100000):tooLong ((ts.map mkS).toArray.foldl (fun a (s:Str)=>a+s.length+k) 0)=false:=by
 rw[List.foldl_toArray,Ut]
 unfold tooLong
 exact decide_eq_false (Nat.not_lt.mpr (Nat.le_trans (by omega) (show 100000≤sizeLine by decide)))
theorem Jn:nlS=mkS [10]:=JY
theorem WU:nlS.length=1:=by rw[Jn];rfl
theorem N2(x:Str):¬Str.strKind x<Str.strKind (mkS [10]):=by
 have:Str.strKind (mkS [10])=1:=by decide +kernel
 rw[this]
 unfold Str.strKind
 split
 ·omega
 ·split <;> omega
theorem Qq(L:List Nat):Yr (mkS L) ((mkS L).length+1)=(spl 10 L (L.length+1) []).map mkS:=by
 unfold Yr
 rw[Jn]
 have hp:=WO (mkS L) 10 ((mkS L).length+1)
 rw[Zf,Yp] at hp
 by_cases h:(decide ((mkS L).length<(mkS [10]).length)||decide (Str.strKind (mkS L)<Str.strKind (mkS [10])))=true∨(occurrences (mkS L) (mkS [10]) 0 (mkS L).length ((mkS L).length+1)).isEmpty=true
 ·rw[if_pos h]
  have hf:10∉L:=by
   rcases h with h | h
   ·rw[Bool.or_eq_true,decide_eq_true_eq,decide_eq_true_eq] at h
    rcases h with h | h
    ·rw[Zf,Zf] at h
     have:L=[]:=List.eq_nil_of_length_eq_zero (by have h':L.length<1:=h;omega)
     rw[this];simp
    ·exact absurd h (N2 _)
   ·intro hm
    rw[J0,Yp,Zf] at h
    have key:∀(M:List Nat)(i lim:Nat),0<lim→10∈M→(JB 10 M i lim).isEmpty=false:=by
     intro M
     induction M with
     | nil=>intro i lim _ h;cases h
     | cons a M ih =>
      intro i lim hl hm
      unfold JB
      by_cases ha:a=10
      ·rw[if_pos ⟨ha,hl⟩];rfl
      ·rw[if_neg (fun hc=>ha hc.1)]
       exact ih _ _ hl (by rcases List.mem_cons.mp hm with h | h;exact absurd h.symm ha;exact h)
    rw[key L 0 _ (by omega) hm] at h
    cases h
  rw[QP 10 L _ _ hf]
  rfl
 ·rw[if_neg h,Zf]
  exact hp
theorem Z2A{w:World}(L:List Nat)(hl:L.length≤10000):OK w (Zv (mkS L) ((spl 10 L (L.length+1) []).map mkS)):=by
 have h1:=Qg 10 L (L.length+1) []
 refine QZ (Qq L) (by rw[Zf];exact Nat.le_trans hl (by decide)) ?_
 rw[List.length_map]
 refine Nat.le_trans (show _≤10001 from ?_) (by decide)
 simp only[List.length_nil] at h1
 omega
theorem Uu{w:World}(L:List Nat)(hl:L.length≤10000)(hm:10∈L):OK w (Y7 (mkS L) ((spl 10 L 2 []).map mkS)):=by
 have h1:=Qg 10 L 2 []
 have hne:L.length≠0:=fun h=>by rw[List.eq_nil_of_length_eq_zero h] at hm;cases hm
 have hp:=WO (mkS L) 10 2
 refine WQ ?_ ?_ (by rw[Jn];exact hp) (by rw[Zf];exact Nat.le_trans hl (by decide)) ?_
 ·rw[Jn,Bool.or_eq_false_iff,decide_eq_false_iff_not,decide_eq_false_iff_not,Zf]
  exact ⟨by show ¬L.length<1;omega,N2 _⟩
 ·rw[Jn,J0,Yp]
  have key:∀(M:List Nat)(i lim:Nat),0<lim→10∈M→(JB 10 M i lim).isEmpty=false:=by
   intro M
   induction M with
   | nil=>intro i lim _ h;cases h
   | cons a M ih =>
    intro i lim hl hm
    unfold JB
    by_cases ha:a=10
    ·rw[if_pos ⟨ha,hl⟩];rfl
    ·rw[if_neg (fun hc=>ha hc.1)]
     exact ih _ _ hl (by rcases List.mem_cons.mp hm with h | h;exact absurd h.symm ha;exact h)
  exact key L 0 2 (by decide) hm
 ·rw[List.length_map]
  refine Nat.le_trans (show _≤10001 from ?_) (by decide)
  simp only[List.length_nil] at h1
  omega
noncomputable abbrev spc:Nat→Bool:=Unicode.isSpace
theorem Z18{α:Type}(p:α→Bool):∀(a:List α),(∀ x∈a,p x=true)→a.takeWhile p=a
 | [],_=>rfl
 | x::a,h=>by rw[List.takeWhile_cons,if_pos (h x (.head _)),Z18 p a fun y hy=>h y (.tail _ hy)]
theorem Z17{α:Type}(p:α→Bool)(x:α)(b:List α)(hx:p x=false):∀(a:List α),(∀ y∈a,p y=true)→(a++x::b).takeWhile p=a
 | [],_=>by rw[List.nil_append,List.takeWhile_cons,if_neg (by simp[hx])]
 | y::a,h=>by rw[List.cons_append,List.takeWhile_cons,if_pos (h y (.head _)),Z17 p x b hx a fun z hz=>h z (.tail _ hz)]
theorem tw_lt{α:Type}(p:α→Bool)(x:α)(hx:p x=false):∀(a:List α),x∈a→(a.takeWhile p).length<a.length
 | y::a,h=>by
  rw[List.takeWhile_cons]
  split
  ·rename_i hy
   rcases List.mem_cons.mp h with rfl | h
   ·rw[hx] at hy;cases hy
   ·have:=tw_lt p x hx a h
    simp only[List.length_cons];omega
  ·simp
structure Firm (P:List Nat):Prop where
 h:∃ c t,P=c::t∧spc c=false
 l:∃ t d,P=t++[d]∧spc d=false
theorem Qy{w0 P:List Nat}(h0:∀ c∈w0,spc c=true)(hP:Firm P):PySem.stripped spc true true (mkS (w0++P))=mkS P:=by
 obtain ⟨c,t,e1,hc⟩:=hP.h
 obtain ⟨t',d,e2,hd⟩:=hP.l
 have lo:stripLo spc true (mkS (w0++P))=w0.length:=by
  show ((w0++P).takeWhile spc).length=_
  rw[e1,Z17 spc c t hc w0 h0]
 unfold PySem.stripped
 rw[lo]
 have hi:stripHi spc true (mkS (w0++P)) w0.length=(w0++P).length:=by
  show (mkS (w0++P)).length-(((w0++P).drop w0.length).reverse.takeWhile spc).length=_
  rw[List.drop_left,Zf,e2,List.reverse_append]
  show _-((d::t'.reverse).takeWhile spc).length=_
  rw[List.takeWhile_cons,if_neg (by simp[hd])]
  rfl
 rw[hi]
 apply Str.ext'
 apply Array.toList_inj.mp
 rw[StrLaws.strSub_toList]
 show ((w0++P).drop w0.length).take _=P
 rw[List.drop_left,List.length_append,Nat.add_sub_cancel_left,List.take_length]
theorem V0{c:List Nat}(h:∀ x∈c,spc x=true):PySem.stripped spc false true (mkS c)=Str.ofString "":=by
 rw[Y4]
 unfold PySem.stripped
 have hi:stripHi spc true (mkS c) (stripLo spc false (mkS c))=0:=by
  show (mkS c).length-((c.drop 0).reverse.takeWhile spc).length=_
  rw[List.drop_zero,Z18 spc c.reverse (fun x hx=>h x (List.mem_reverse.mp hx)),Zf,List.length_reverse,Nat.sub_self]
 rw[hi]
 apply Str.ext'
 apply Array.toList_inj.mp
 rw[StrLaws.strSub_toList,Nat.zero_sub,List.take_zero]
 rfl
theorem VA{c:List Nat}{x:Nat}(hx:x∈c)(h:spc x=false):∃ m,(PySem.stripped spc false true (mkS c)).length=m+1∧(PySem.stripped spc false true (mkS c)).length≤c.length:=by
 have hlt:=tw_lt spc x h c.reverse (List.mem_reverse.mpr hx)
 rw[List.length_reverse] at hlt
 have e:(PySem.stripped spc false true (mkS c)).length=c.length-(c.reverse.takeWhile spc).length:=by
  unfold PySem.stripped
  have hi:stripHi spc true (mkS c) (stripLo spc false (mkS c))=c.length-(c.reverse.takeWhile spc).length:=by
   show (mkS c).length-((c.drop 0).reverse.takeWhile spc).length=_
   rw[List.drop_zero,Zf]
  rw[hi]
  show (strSub (mkS c) 0 _).cps.size=_
  rw[←Array.length_toList,StrLaws.strSub_toList]
  show ((c.drop 0).take _).length=_
  rw[List.drop_zero,List.length_take,Nat.sub_zero]
  omega
 rw[e]
 exact ⟨c.length-(c.reverse.takeWhile spc).length-1,by omega,by omega⟩
theorem szl{n:Nat}(h:n≤10000):n≤sizeLine:=Nat.le_trans h (by decide)
theorem WC(c:Nat):∀(a u:List Nat)(lim:Nat)(acc:List Nat),c∉a→∃ s r,spl c (a++u) lim acc=(acc++a++s)::r
 | [],u,lim,acc,_=>by
  have key:∀(u:List Nat)(lim:Nat)(acc:List Nat),∃ s r,spl c u lim acc=(acc++s)::r:=by
   intro u
   induction u with
   | nil=>exact fun lim acc=>⟨[],[],by simp[spl]⟩
   | cons b u ih =>
    intro lim acc
    unfold spl
    split
    ·exact ⟨[],spl c u (lim-1) [],by rw[List.append_nil]⟩
    ·obtain ⟨s,r,e⟩:=ih lim (acc++[b])
     exact ⟨b::s,r,by rw[e];simp⟩
  obtain ⟨s,r,e⟩:=key u lim acc
  exact ⟨s,r,by rw[List.nil_append,e,List.append_nil]⟩
 | b::a,u,lim,acc,h=>by
  obtain ⟨s,r,e⟩:=WC c a u lim (acc++[b]) (fun hm=>h (List.mem_cons_of_mem _ hm))
  refine ⟨s,r,?_⟩
  show spl c (b::(a++u)) lim acc=_
  unfold spl
  rw[if_neg (fun hc=>h (by rw[hc.1];exact List.mem_cons_self)),e]
  simp
section
variable {b b2:Bool}{w:World}(hw:Wd b b2 w)(X:Fr){w0 P:List Nat}(h0:∀ c∈w0,spc c=true)(hl:P.length≤4000)
include hw hl
theorem sdA'{doc:Str}(hz:PySem.stripped spc true true doc=mkS P)(hn:10∉P):OK w (JD w.params X doc (mkS P) (Str.ofString "")) :=
 sd_one hw X doc (mkS P) _ rfl hz (by rw[Zf];exact szl (by omega)) (by rw[Qq,QP 10 P _ _ hn];rfl)
include h0
theorem sdA(hP:Firm P)(hn:10∉P):OK w (JD w.params X (mkS (w0++P)) (mkS P) (Str.ofString "")):=sdA' hw X hl (Qy h0 hP) hn
theorem sdB(hP:Firm P){a c r:List Nat}(e:P=a++10::(c++10::r))(ha:10∉a)(hc:10∉c)(hcw:∀ x∈c,spc x=true):OK w (JD w.params X (mkS (w0++P)) (mkS a) (mkS r)):=by
 have hs:spl 10 P (P.length+1) []=a::c::spl 10 r (P.length-1) []:=by
  have e1:P.length=a.length+c.length+r.length+2:=by rw[e];simp;omega
  conv=>lhs;rw[e]
  rw[show (a++10::(c++10::r)).length+1=(P.length-1+1)+1 by rw[←e];omega,Qe 10 a _ _ _ ha,Qe 10 c r _ _ hc]
  rfl
 have hsum:=Qg 10 r (P.length-1) []
 have hr:r.length≤P.length:=by rw[e];simp;omega
 refine sd_two hw X _ (mkS P) (mkS a) (mkS c) _ ((spl 10 r (P.length-1) []).map mkS) _ _ _ (spl 10 r (P.length-1) []).length rfl (Qy h0 hP) (by rw[Zf];exact szl (by omega)) (by rw[Qq,hs];rfl) (by rw[List.length_map]) (szl ?_) rfl (V0 hcw) rfl ?_ (by rw[Zf];exact szl (by omega)) ?_
 ·simp only[List.length_nil] at hsum;omega
 ·rw[Jn,Kw,J3];rfl
 ·rw[WU]
  refine Kq ?_
  simp only[List.length_nil] at hsum;omega
theorem sdC(hP:Firm P){a c u:List Nat}{x:Nat}(e:P=a++10::(c++u))(ha:10∉a)(hc:10∉c)(hx:x∈c)(hxs:spc x=false):OK w (JD w.params X (mkS (w0++P)) (Str.ofString "") (mkS P)):=by
 obtain ⟨s,rest,e2⟩:=WC 10 c u P.length [] hc
 have hs:spl 10 P (P.length+1) []=a::(c++s)::rest:=by
  conv=>lhs;rw[e]
  rw[show (a++10::(c++u)).length+1=P.length+1 by rw[←e],Qe 10 a _ _ _ ha,e2]
  rfl
 have hsum:=Qg 10 P (P.length+1) []
 rw[hs] at hsum
 simp only[List.length_nil,List.map_cons,List.sum_cons,List.length_cons] at hsum
 obtain ⟨m,hm1,hm2⟩:=VA (List.mem_append_left s hx) hxs
 refine sd_no hw X _ (mkS P) (mkS a) (mkS (c++s)) _ _ (rest.map mkS) _ _ rest.length m rfl (Qy h0 hP) (by rw[Zf];exact szl (by omega)) (by rw[Qq,hs];rfl) (by rw[List.length_map]) (szl (by omega)) rfl rfl hm1 (szl (Nat.le_trans hm2 (by omega))) ?_ (by rw[Zf];exact szl (by omega)) ?_
 ·have:=Kw [10] (a::(c++s)::rest)
  rw[←Jn,←hs,J3] at this
  rw[hs] at this
  exact this
 ·rw[WU]
  exact Kq (ts:=a::(c++s)::rest) (by simp only[List.map_cons,List.sum_cons,List.length_cons];omega)
end
end
section
open PySem PySem.Builtin PySem.W
section
open Sem (wp finPost)
noncomputable def itJN (P:Params)(X:Fr)(m:Bool)(sep:Str)(gn t1 t2:Nat)(q:Str)(I C co na:Nat)(nv:Array Value)(nn:Nat)(F:Nat→Nat)(g0:Array GenState)(z:Str):FItem where
 c:=.builtin "str.join" ⟨[.str sep 0,.ref gn],[]⟩
 B:=nrm (.f (ZG P 758 X.s)::shJ P X m)
 pre:=[(gn,UX g0.size t1 t2 q),(I,itO "list_iterator" (.ref na) 0),(na,Z0 nv nn),(C,gfr P F I none)]
 out:=fun _ _ l=>⟨.ok (.ret (.str z (l 2))),[(na,Z0 nv nn)],l 0,l 1,fun _=>g0.push .finished,[]⟩
 gin:=fun _=>g0.push (.fresh (gC0 P X.s I C co))
noncomputable def ND (P:Params)(X:Fr)(m:Bool)(sep:Str)(gn t1 t2:Nat)(q:Str)(I C co na:Nat)(nv:Array Value)(nn:Nat)(F:Nat→Nat)(g0:Array GenState)(z:Str):FItem where
 c:=.call (.builtin "str.join") ⟨[.str sep 0,.ref gn],[]⟩
 B:=nrm (.f (ZG P 758 X.s)::shJ P X m)
 pre:=[(gn,UX g0.size t1 t2 q),(I,itO "list_iterator" (.ref na) 0),(na,Z0 nv nn),(C,gfr P F I none)]
 out:=fun _ _ l=>⟨.ok (.ret (.str z (l 2))),[(na,Z0 nv nn)],l 0,l 1,fun _=>g0.push .finished,[]⟩
 gin:=fun _=>g0.push (.fresh (gC0 P X.s I C co))
noncomputable def VS (sep:Str)(v:Value):Sem PySem.Fin:=(match v with
 | .ref a=>do match (←load a).data with
  | .seq xs _=>pure xs.toList
  | _=>unsupported "internal:collect"
 | _=>unsupported "internal:collect") >>= fun items=>joinTail sep items
open PySem.Builtin.Str in
theorem jn_of{w:World}{X:Fr}{m:Bool}{sep:Str}{gn t1 t2:Nat}{q:Str}{I C co na:Nat}{nv:Array Value}{nn:Nat}{F:Nat→Nat}{g0:Array GenState}{z:Str}{rs:List Str}(hT:OKT w (itJX w.params X m sep gn t1 t2 q I C co na nv nn F g0 (OC g0 na nv nn #[] rs)) (jX gn))
  (hz:JH sep rs=z)(hl:z.length≤sizeLine)(hm:tooLong (rs.toArray.foldl (·+·.length+sep.length) 0)=false):OK w (itJN w.params X m sep gn t1 t2 q I C co na nv nn F g0 z):=by
 rintro ⟨c,hd,ow,B,pa⟩ p s Rr hc hh hB hg top nd own here k
 dsimp only at hh hB
 subst hh
 obtain ⟨bs,rfl,hb⟩:=Zb hc
 obtain ⟨v1,v2,rfl,e1,e2⟩:=Zj hb
 obtain ⟨t,rfl⟩:=Zk e1
 obtain rfl:=Z5 e2
 refine ZW ?_
 have e0:Yj (.builtin "str.join" ⟨[.str sep t,.ref gn],[]⟩)=(do
   let ty ←typeOf (.ref gn)
   if (ty==.type "list"||ty==.type "tuple")=true then (do
    match ←seqItems? (.ref gn) with
    | some xs=>joinTail sep xs.toList
    | none=>unsupported "internal:str.join")
   else (do
    let it ←(pyIter (.ref gn)).tryCatch fun e=>do
     if ←isInstance e (.type "TypeError") then rule "str.join.not-iterable";raiseError "TypeError" "can only join an iterable" else throw e
    let items ←collect it
    joinTail sep items)):=by
  have:Yj (.builtin "str.join" ⟨[.str sep t,.ref gn],[]⟩)=Z1x (.builtin "str.join" ⟨[.str sep t,.ref gn],[]⟩):=rfl
  rw[this,Jg]
  unfold denote
  dsimp only
  rw[PySem.F.entry_str_join]
  exact join_tree_other sep t gn
 show wp (MD w) ⟨.builtin "str.join" ⟨[.str sep t,.ref gn],[]⟩,none,ow,B,pa⟩ (Yj (.builtin "str.join" ⟨[.str sep t,.ref gn],[]⟩)) _ _ p s
 rw[e0]
 have hgn:=here (gn,UX g0.size t1 t2 q) (.head _)
 have hTy:s.TypeIs (.ref gn) "generator":=⟨_,hgn,rfl⟩
 rw[Sem.wp_bind']
 refine Sem.wp_mono _ _ _ (fun ty p' s' hx=>hx p') (fun _ _ _ e=>False.elim e) _ _ (J9 (E:=fun _ _=>False) (wpAny_typeOf (Q:=fun ty s'=>∀ p',wp (MD w) ⟨.builtin "str.join" ⟨[.str sep t,.ref gn],[]⟩,none,ow,B,pa⟩ (if (ty==.type "list"||ty==.type "tuple")=true then (do
    match ←seqItems? (.ref gn) with
    | some xs=>joinTail sep xs.toList
    | none=>unsupported "internal:str.join")
   else (do
    let it ←(pyIter (.ref gn)).tryCatch fun e=>do
     if ←isInstance e (.type "TypeError") then rule "str.join.not-iterable";raiseError "TypeError" "can only join an iterable" else throw e
    let items ←collect it
    joinTail sep items)) (finPost (MD w) ⟨.builtin "str.join" ⟨[.str sep t,.ref gn],[]⟩,none,ow,B,pa⟩ Rr) (EP (MD w) ⟨.builtin "str.join" ⟨[.str sep t,.ref gn],[]⟩,none,ow,B,pa⟩ Rr) p' s') hTy fun p'=>?_))
 rw[if_neg (by decide)]
 have hw:=hT ⟨.builtin "str.join" ⟨[.str sep t,.ref gn],[]⟩,none,ow,B,pa⟩ p' s (fun r s'=>match r with
   | .ok (.ret v)=>∀ p',wp (MD w) ⟨.builtin "str.join" ⟨[.str sep t,.ref gn],[]⟩,none,ow,B,pa⟩ (VS sep v) (finPost (MD w) ⟨.builtin "str.join" ⟨[.str sep t,.ref gn],[]⟩,none,ow,B,pa⟩ Rr) (EP (MD w) ⟨.builtin "str.join" ⟨[.str sep t,.ref gn],[]⟩,none,ow,B,pa⟩ Rr) p' s'
   | _=>False) hc rfl hB hg top nd own here (fun l h' L=>?_)
 ·unfold jX at hw
  have e1:K9=pyIter:=Fast.te8711993805878244202.symm
  have e2:KO=runValue:=Fast.te12194477576918160588.symm
  rw[e1,e2] at hw
  simp only[←R.bindR_eq] at hw
  rw[Sem.wp_bind] at hw
  rw[Sem.wp_bind',Sem.wp_tryCatch]
  refine Sem.wp_mono _ _ _ (fun it p' s' hx=>?_) (fun e p' s' he=>False.elim he) _ _ hw
  rw[Sem.wp_bind] at hx
  unfold collect
  rw[Q1,Sem.wp_bind']
  exact Sem.wp_mono _ _ _ (fun v p' s' hy=>hy p') (fun e p' s' he=>False.elim he) _ _ hx
 ·show ∀ p',wp (MD w) ⟨.builtin "str.join" ⟨[.str sep t,.ref gn],[]⟩,none,ow,B,pa⟩ (VS sep (.ref (l 4))) _ _ p' _
  intro p'
  have hlist:=L.here _ (List.mem_append_left _ (.head _))
  unfold VS
  rw[Sem.wp_bind',Sem.wp_bind']
  show wp _ _ (Sem.load (l 4) _ Sem.pure) _ _ p' _
  rw[Sem.wp_load]
  refine ⟨_,hlist,?_⟩
  rw[Sem.wp_pure]
  show wp _ _ (Sem.pure _) _ _ p' _
  rw[Sem.wp_pure]
  have ex:(#[]++svA rs (fun i=>l (i+20))).toList=svL rs (fun i=>l (i+20)):=by simp[svA]
  show wp _ _ (joinTail sep (#[]++svA rs (fun i=>l (i+20))).toList) _ _ p' _
  rw[ex]
  obtain ⟨ls,l1,l2,l3,l4⟩:=YR rs fun i=>l (i+20)
  rw[l1]
  have gv:Gives (joinTail sep (strValues ls)) (joinMade sep ls):=by
   have g0:=gives_joinTail sep ls (by rw[l2];exact hm)
   cases ls with
   | nil=>exact g0
   | cons p r=>cases r with
    | nil=>exact g0
    | cons q r'=>exact g0
  have key:∀ t k h'',h''=h'→Rr (.ok (.ret (.str z t))) ⟨h'',g0.push .finished,s.drawn,k,s.os⟩:=fun t tk h'' e=>by
   subst e
   have:=k (fun i=>match i with | 0=>l 0 | 1=>tk | _=>t) h'' (by
    obtain ⟨f1,f2,f3,f4,f5,f6⟩:=L
    refine ⟨f1,fun q hq=>f2 q (by
     simp only[List.mem_append] at hq ⊢
     rcases hq with hq | hq
     ·cases hq with
      | head=>exact .inl (.tail _ (.head _))
      | tail _ h=>cases h
     ·cases hq),?_,fun q hq=>f4 q (by
     rcases List.mem_append.mp hq with hq | hq
     ·cases hq with
      | head=>exact List.mem_append_left _ (.tail _ (.head _))
      | tail _ h=>cases h
     ·cases hq),f5,f6⟩
    show ([na]:List Addr).Nodup
    simp)
   exact this
  have hA:=gv PG w ⟨none,frameCount B,none,none,unitsOf B⟩ Rr ⟨h',g0.push .finished,s.drawn,l 1,s.os⟩ (by
   match rs,ls,l2,l3,l4 with
   | [],[],_,_,_ =>
    refine ⟨?_,?_⟩
    ·show (JH sep []).length≤_;rw[hz];exact hl
    ·show Rr (.ok (.ret (.str (JH sep []) _))) _
     rw[hz]
     exact key _ _ _ rfl
   | [x],ls,l2,l3,l4 =>
    rw[l4 x rfl]
    show Rr (.ok (.ret (.str (JH sep [x]) _))) _
    rw[hz]
    exact key _ _ _ rfl
   | x::y::rs,[],_,l3,_=>cases l3
   | x::y::rs,[_],_,l3,_=>cases l3
   | x::y::rs,p::q::ls,l2,_,_ =>
    have e:glued sep ((p::q::ls).map (·.1))=JH sep (x::y::rs):=by rw[l2];rfl
    refine ⟨?_,?_⟩
    ·rw[e,hz];exact hl
    ·rw[e,hz];exact key _ _ _ rfl)
  have hIn:Ctx.In ⟨.builtin "str.join" ⟨[.str sep t,.ref gn],[]⟩,none,ow,B,pa⟩ (Around.in1 ⟨none,frameCount B,none,none,unitsOf B⟩):=by
   have hb:Ctx.Below ⟨.builtin "str.join" ⟨[.str sep t,.ref gn],[]⟩,none,ow,B,pa⟩ ⟨none,frameCount B,none,none,unitsOf B⟩:=⟨rfl,Nat.le_refl _,(fun _ h=>nomatch h),(fun _ h=>nomatch h),Nat.le_refl _⟩
   have:=hb.in
   rw[show (Around.under ⟨none,frameCount B,none,none,unitsOf B⟩ (.builtin "str.join" ⟨[.str sep t,.ref gn],[]⟩))=Around.in1 ⟨none,frameCount B,none,none,unitsOf B⟩ from Around.under_plainId PySem.F.slot_str_join.plain _] at this
   exact this
  refine Sem.wp_mono _ _ _ (fun fin p'' s'' h''=>?_) (fun _ _ _ e=>e) _ _ (hA ⟨.builtin "str.join" ⟨[.str sep t,.ref gn],[]⟩,none,ow,B,pa⟩ p' hIn)
  cases fin with
  | done f=>exact h''
  | again c'=>exact ⟨h''.1,h''.2 _ p'' rfl ⟨rfl,Nat.le_refl _,(fun _ h=>nomatch h),(fun _ h=>nomatch h),Nat.le_refl _⟩⟩
end
noncomputable def cdO (o:Option Nat):Obj:=match o with
 | none=>⟨.none,none,.fields #[],#[]⟩
 | some co=>⟨.none,none,.fields #[rawInt 742,rawInt 20,.ref co],#[]⟩
noncomputable def gQ (P:Params)(J:Nat):Str:=(ZG P 758 J).qual++Str.ofString "<genexpr>"
noncomputable def VO (P:Params)(X:Fr)(m:Bool)(na:Nat)(nv:Array Value)(nn:Nat)(o:Option Nat)(z:Str):FItem where
 c:=.call (.ref 758) ⟨[.ref na],[]⟩
 B:=nrm (shJ P X m)
 pre:=[(na,Z0 nv nn),(753,cdO o)]
 out:=fun _ _ l=>⟨.ok (.ret (.str z (l 2))),[(na,Z0 nv nn),(753,cdO (some (l 3)))],l 0,l 1,fun g=>g.push .finished,[]⟩
section
variable{b b2:Bool}{w:World}(hw:Wd b b2 w)(X:Fr)(gn t1 t2:Nat)(q:Str)(I C co na:Nat)(nv:Array Value)(nn:Nat)(F:Nat→Nat)(g0:Array GenState)
include b b2 w hw X gn t1 t2 q I C co na nv nn F g0
theorem jx_1(rs:List Str)(h:OK w (Z2n w.params X true gn t1 t2 q I C co na nv nn F g0 (OC g0 na nv nn #[] rs)))(sep:Str):OKT w (itJX w.params X true sep gn t1 t2 q I C co na nv nn F g0 (OC g0 na nv nn #[] rs)) (jX gn):=by
 refine ZL hw.w0 _ (jX gn) (ZC) fun c B p sz tk g he=>?_
 obtain ⟨bs,rfl,hb⟩:=Zb he
 obtain ⟨v1,v2,rfl,e1,e2⟩:=Zj hb
 obtain ⟨u1,rfl⟩:=Zk e1
 obtain rfl:=Z5 e2
 refine ⟨60,.item [] (Z2n w.params X true gn t1 t2 q I C co na nv nn F g0 (OC g0 na nv nn #[] rs)) (fun l0=>.fin []),(dg 11 0x153f1211),[0,0],0,fun ls=>ls 0,?_,fun ls=>?_⟩
 ·exact ⟨(fun x hx=>(nomatch hx)),h,fun l0=>(fun x hx=>(nomatch hx))⟩
 ·cases b <;> kernel_rfl
theorem jk_1(sep z:Str)(h:OK w (itJN w.params X true sep gn t1 t2 q I C co na nv nn F g0 z)):OK w (ND w.params X true sep gn t1 t2 q I C co na nv nn F g0 z):=by
 refine Z2 hw.w0 _ (fun sz tk ls=>itJN w.params X true sep gn t1 t2 q I C co na nv nn F g0 z) (fun _ _ _ _ _ _ _ _=>rfl) (fun _ _ _=>rfl) (fun _ _ _=>rfl) (fun c B p sz tk g he=>?_) (fun sz tk ls=>h)
 obtain ⟨bs,rfl,hb⟩:=Z3 he
 obtain ⟨v1,v2,rfl,e1,e2⟩:=Zj hb
 obtain ⟨u1,rfl⟩:=Zk e1
 obtain rfl:=Z5 e2
 refine ⟨51,.fin [],[0,37],[0,0,0,0],0,?_,fun ls=>?_⟩
 ·exact (fun x hx=>(nomatch hx))
 ·kernel_rfl
end
theorem jf_n1 {b b2:Bool}{w:World}(hw:Wd b b2 w)(X:Fr)(na:Nat)(nv:Array Value)(nn:Nat)(z:Str)(h:∀ J gn t1 t2 q I C co F g0,OK w (ND w.params { X with s:=J } true (mkS [32]) gn t1 t2 q I C co na nv nn F g0 z)):OK w (VO w.params X true na nv nn none z):=by
 refine Z1 hw.w0 _ fun c B p sz tk g he=>?_
 obtain ⟨bs,rfl,hb⟩:=Z3 he
 obtain ⟨v1,rfl,e1⟩:=Z4 hb
 obtain rfl:=Z5 e1
 refine ⟨107,.newG [] (.item [] (ND w.params { g:=X.g,n:=X.n,s:=sz,t:=X.t,p:=X.p,w:=X.w } true (mkS [32]) (sz+6) (tk+8) (tk+9) (gQ w.params sz) (sz+1) (sz+5) (sz+4) na nv nn (fl [tk+7]) g z) (fun l0=>.fin [])),(dg 28 0x5400010076740012bf22221100100),[0,4],0,fun ls=>(fun l0=>fl [l0 0,l0 1,l0 2,sz+4]) (ls 0),?_,fun ls=>?_⟩
 ·exact ⟨(fun x hx=>(nomatch hx)),⟨(fun x hx=>(nomatch hx)),h _ _ _ _ _ _ _ _ _ _,fun l0=>(fun x hx=>(nomatch hx))⟩⟩
 ·cases b <;> kernel_rfl
theorem jf_s1 {b b2:Bool}{w:World}(hw:Wd b b2 w)(X:Fr)(na:Nat)(nv:Array Value)(nn:Nat)(z:Str)(co:Nat)(h:∀ J gn t1 t2 q I C co F g0,OK w (ND w.params { X with s:=J } true (mkS [32]) gn t1 t2 q I C co na nv nn F g0 z)):OK w (VO w.params X true na nv nn (some co) z):=by
 refine Z1 hw.w0 _ fun c B p sz tk g he=>?_
 obtain ⟨bs,rfl,hb⟩:=Z3 he
 obtain ⟨v1,rfl,e1⟩:=Z4 hb
 obtain rfl:=Z5 e1
 refine ⟨96,.newG [] (.item [] (ND w.params { g:=X.g,n:=X.n,s:=sz,t:=X.t,p:=X.p,w:=X.w } true (mkS [32]) (sz+3) (tk+3) (tk+4) (gQ w.params sz) (sz+1) (sz+2) co na nv nn (fl [tk+2]) g z) (fun l0=>.fin [])),(dg 25 0x2100010040012bf22221100100),[0,1],0,fun ls=>(fun l0=>fl [l0 0,l0 1,l0 2,co]) (ls 0),?_,fun ls=>?_⟩
 ·exact ⟨(fun x hx=>(nomatch hx)),⟨(fun x hx=>(nomatch hx)),h _ _ _ _ _ _ _ _ _ _,fun l0=>(fun x hx=>(nomatch hx))⟩⟩
 ·cases b <;> kernel_rfl
section
variable{b b2:Bool}{w:World}(hw:Wd b b2 w)(X:Fr)(gn t1 t2:Nat)(q:Str)(I C co na:Nat)(nv:Array Value)(nn:Nat)(F:Nat→Nat)(g0:Array GenState)
include b b2 w hw X gn t1 t2 q I C co na nv nn F g0
theorem jx_0(rs:List Str)(h:OK w (Z2n w.params X false gn t1 t2 q I C co na nv nn F g0 (OC g0 na nv nn #[] rs)))(sep:Str):OKT w (itJX w.params X false sep gn t1 t2 q I C co na nv nn F g0 (OC g0 na nv nn #[] rs)) (jX gn):=by
 refine ZL hw.w0 _ (jX gn) (ZC) fun c B p sz tk g he=>?_
 obtain ⟨bs,rfl,hb⟩:=Zb he
 obtain ⟨v1,v2,rfl,e1,e2⟩:=Zj hb
 obtain ⟨u1,rfl⟩:=Zk e1
 obtain rfl:=Z5 e2
 refine ⟨60,.item [] (Z2n w.params X false gn t1 t2 q I C co na nv nn F g0 (OC g0 na nv nn #[] rs)) (fun l0=>.fin []),(dg 11 0x153f1211),[0,0],0,fun ls=>ls 0,?_,fun ls=>?_⟩
 ·exact ⟨(fun x hx=>(nomatch hx)),h,fun l0=>(fun x hx=>(nomatch hx))⟩
 ·cases b <;> kernel_rfl
theorem jk_0(sep z:Str)(h:OK w (itJN w.params X false sep gn t1 t2 q I C co na nv nn F g0 z)):OK w (ND w.params X false sep gn t1 t2 q I C co na nv nn F g0 z):=by
 refine Z2 hw.w0 _ (fun sz tk ls=>itJN w.params X false sep gn t1 t2 q I C co na nv nn F g0 z) (fun _ _ _ _ _ _ _ _=>rfl) (fun _ _ _=>rfl) (fun _ _ _=>rfl) (fun c B p sz tk g he=>?_) (fun sz tk ls=>h)
 obtain ⟨bs,rfl,hb⟩:=Z3 he
 obtain ⟨v1,v2,rfl,e1,e2⟩:=Zj hb
 obtain ⟨u1,rfl⟩:=Zk e1
 obtain rfl:=Z5 e2
 refine ⟨51,.fin [],[0,37],[0,0,0,0],0,?_,fun ls=>?_⟩
 ·exact (fun x hx=>(nomatch hx))
 ·kernel_rfl
end
theorem jf_n0 {b b2:Bool}{w:World}(hw:Wd b b2 w)(X:Fr)(na:Nat)(nv:Array Value)(nn:Nat)(z:Str)(h:∀ J gn t1 t2 q I C co F g0,OK w (ND w.params { X with s:=J } false (mkS [32]) gn t1 t2 q I C co na nv nn F g0 z)):OK w (VO w.params X false na nv nn none z):=by
 refine Z1 hw.w0 _ fun c B p sz tk g he=>?_
 obtain ⟨bs,rfl,hb⟩:=Z3 he
 obtain ⟨v1,rfl,e1⟩:=Z4 hb
 obtain rfl:=Z5 e1
 refine ⟨107,.newG [] (.item [] (ND w.params { g:=X.g,n:=X.n,s:=sz,t:=X.t,p:=X.p,w:=X.w } false (mkS [32]) (sz+6) (tk+8) (tk+9) (gQ w.params sz) (sz+1) (sz+5) (sz+4) na nv nn (fl [tk+7]) g z) (fun l0=>.fin [])),(dg 28 0x5400010076740012bf22221100100),[0,4],0,fun ls=>(fun l0=>fl [l0 0,l0 1,l0 2,sz+4]) (ls 0),?_,fun ls=>?_⟩
 ·exact ⟨(fun x hx=>(nomatch hx)),⟨(fun x hx=>(nomatch hx)),h _ _ _ _ _ _ _ _ _ _,fun l0=>(fun x hx=>(nomatch hx))⟩⟩
 ·cases b <;> kernel_rfl
theorem jf_s0 {b b2:Bool}{w:World}(hw:Wd b b2 w)(X:Fr)(na:Nat)(nv:Array Value)(nn:Nat)(z:Str)(co:Nat)(h:∀ J gn t1 t2 q I C co F g0,OK w (ND w.params { X with s:=J } false (mkS [32]) gn t1 t2 q I C co na nv nn F g0 z)):OK w (VO w.params X false na nv nn (some co) z):=by
 refine Z1 hw.w0 _ fun c B p sz tk g he=>?_
 obtain ⟨bs,rfl,hb⟩:=Z3 he
 obtain ⟨v1,rfl,e1⟩:=Z4 hb
 obtain rfl:=Z5 e1
 refine ⟨96,.newG [] (.item [] (ND w.params { g:=X.g,n:=X.n,s:=sz,t:=X.t,p:=X.p,w:=X.w } false (mkS [32]) (sz+3) (tk+3) (tk+4) (gQ w.params sz) (sz+1) (sz+2) co na nv nn (fl [tk+2]) g z) (fun l0=>.fin [])),(dg 25 0x2100010040012bf22221100100),[0,1],0,fun ls=>(fun l0=>fl [l0 0,l0 1,l0 2,co]) (ls 0),?_,fun ls=>?_⟩
 ·exact ⟨(fun x hx=>(nomatch hx)),⟨(fun x hx=>(nomatch hx)),h _ _ _ _ _ _ _ _ _ _,fun l0=>(fun x hx=>(nomatch hx))⟩⟩
 ·cases b <;> kernel_rfl
end
section
open PySem PySem.Builtin PySem.Builtin.Str PySem.W
theorem Z2U{c:Nat}(h:bare c=true):c<128:=by
 unfold bare at h
 rw[Bool.or_eq_true] at h
 rcases h with h | h
 ·rw[Bool.and_eq_true,decide_eq_true_eq] at h
  rcases Nat.lt_or_ge c 128 with h1 | h1
  ·exact h1
  ·exfalso
   obtain ⟨h2,h3⟩:=h
   have:∀ k,k<128→(Zr.getD (6+(1+(k+128) / 32)) 0).testBit ((k+128)%32)=false:=by decide +kernel
   have:=this (c-128) (by omega)
   rw[show c-128+128=c by omega] at this
   rw[this] at h3;cases h3
 ·unfold Sre.isWord Sre.isDigit at h
  simp only[Bool.or_eq_true,Bool.and_eq_true,decide_eq_true_eq,beq_iff_eq] at h
  omega
theorem Jw{c:Nat}(h:bare c=true):VP c=false∧c≠10∧c≠39∧c≠34∧c≠92∧spc c=false:=by
 have key:∀ c,c<128→bare c=true→(VP c=false∧c≠10∧c≠39∧c≠34∧c≠92∧spc c=false):=by decide +kernel
 exact key c (Z2U h) h
theorem UE:spc 39=false:=by decide +kernel
noncomputable def YJ (s:List Nat):List Nat:=s.flatMap fun c=>if c=39 then [39,34,39,34,39] else [c]
theorem Yc(c:Nat)(s:List Nat):YJ (c::s)=(if c=39 then [39,34,39,34,39] else [c])++YJ s:=List.flatMap_cons
theorem Ki(a c:List Nat):YJ (a++c)=YJ a++YJ c:=List.flatMap_append
theorem Jj:∀ {s:List Nat},39∉s→YJ s=s
 | [],_=>rfl
 | c::s,h=>by
  rw[Yc,if_neg (fun e=>h (by rw[e];exact List.mem_cons_self)),Jj (fun hm=>h (List.mem_cons_of_mem _ hm))]
  rfl
theorem Kh(s:List Nat):(YJ s).length≤5*s.length:=by
 induction s with
 | nil=>exact Nat.le_refl _
 | cons c s ih =>
  rw[Yc,List.length_append,List.length_cons]
  split
  ·show 5+_≤_;omega
  ·show 1+_≤_;omega
theorem QV{s:List Nat}{x:Nat}(h1:x≠39)(h2:x≠34):x∈YJ s↔x∈s:=by
 induction s with
 | nil=>exact Iff.rfl
 | cons c s ih =>
  rw[Yc,List.mem_append,ih,List.mem_cons]
  split
  ·rename_i hc
   subst hc
   simp[h1,h2]
  ·simp
noncomputable def Zm (s:List Nat):List Nat:=if s=[] then [39,39] else if s.all bare=true then s else 39::(YJ s++[39])
theorem VB:∀(L:List Nat)(lim:Nat)(acc:List Nat),L.length≤lim→Qv [39,34,39,34,39] (spl 39 L lim acc)=acc++YJ L
 | [],lim,acc,_=>by simp[spl,Qv,YJ]
 | a::L,lim,acc,h=>by
  rw[List.length_cons] at h
  unfold spl
  split
  ·rename_i hc
   obtain ⟨p,r,e⟩:=U8 39 L (lim-1) []
   have ih:=VB L (lim-1) [] (by omega)
   rw[e] at ih ⊢
   rw[Qa,ih,Yc,if_pos hc.1]
   simp
  ·rename_i hc
   have ha:a≠39:=fun e=>hc ⟨e,by omega⟩
   rw[VB L lim _ (by omega),Yc,if_neg ha];simp
theorem Jt(text:Array Nat)(lim:Nat):∀(fuel i:Nat),lim<fuel+i→ZV text lim fuel i=none→∀ j,i≤j→j<lim→bare (text.getD j 0)=true
 | 0,i,hf,_,j,h1,h2=>by omega
 | fuel+1,i,hf,h,j,h1,h2=>by
  unfold ZV at h
  split at h
  ·omega
  ·split at h
   ·rename_i hb
    rcases Nat.lt_or_ge i j with h3 | h3
    ·exact Jt text lim fuel (i+1) (by omega) h j h3 h2
    ·rw[show j=i by omega];exact hb
   ·cases h
theorem JV(s:List Nat):ZV (mkS s).cps (mkS s).cps.size ((mkS s).cps.size+1) 0=none↔s.all bare=true:=by
 constructor
 ·intro h
  rw[List.all_eq_true]
  intro x hx
  obtain ⟨j,hj⟩:=List.getElem?_of_mem hx
  have:=Jt _ _ _ 0 (by omega) h j (Nat.zero_le _) (by
   obtain ⟨hlt,_⟩:=List.getElem?_eq_some_iff.mp hj
   exact hlt)
  have e:(mkS s).cps.getD j 0=x:=by
   show s.toArray.getD j 0=x
   rw[Array.getD_eq_getD_getElem?,List.getElem?_toArray,hj];rfl
  rwa [e] at this
 ·intro h
  cases hf:ZV (mkS s).cps (mkS s).cps.size ((mkS s).cps.size+1) 0 with
  | none=>rfl
  | some j =>
   obtain ⟨_,h2,h3⟩:=Js _ _ _ _ _ hf
   have h2':j<s.length:=h2
   rw[List.all_eq_true] at h
   have e:(mkS s).cps.getD j 0=s[j]:=by
    show s.toArray.getD j 0=_
    rw[Array.getD_eq_getD_getElem?,List.getElem?_toArray,List.getElem?_eq_getElem h2'];rfl
   rw[e,h _ (List.getElem_mem h2')] at h3
   cases h3
section
variable {b b2:Bool}{w:World}(hw:Wd b b2 w)(X:Fr)(m:Bool)
include hw
theorem Z1g(s:List Nat)(hl:s.length≤1000)(u a c:Nat)(h1:a≠0)(h2:c≠0)(h3:a≠c):OK w (W4 (mkS s) (mkS [39]) (mkS [39,34,39,34,39]) (mkS (YJ s)) u a c ((JB 39 s 0 (s.length+1)).isEmpty||((mkS [39]).length==0&&(mkS [39,34,39,34,39]).length==0))):=by
 have hoc:∀(L:List Nat)(i lim:Nat),(JB 39 L i lim).length≤L.length:=by
  intro L
  induction L with
  | nil=>exact fun _ _=>Nat.le_refl _
  | cons x L ih =>
   intro i lim
   unfold JB
   split
   ·simp only[List.length_cons];have:=ih (i+1) (lim-1);omega
   ·have:=ih (i+1) lim;simp only[List.length_cons];omega
 have eo:occurrences (mkS s) (mkS [39]) 0 (mkS s).length ((mkS s).length+1)=JB 39 s 0 (s.length+1):=by
  rw[J0,Yp,Zf]
 refine ok_rep h1 h2 h3 (by decide +kernel) (by rw[eo]) ?_ ?_ ?_
 ·rw[eo,Zf,Zf]
  have:=hoc s 0 (s.length+1)
  unfold tooLong
  refine decide_eq_false (Nat.not_lt.mpr (szl ?_))
  show _+_*5≤_
  omega
 ·have hp:=WO (mkS s) 39 (s.length+1)
  rw[Yp] at hp
  split
  ·rename_i he
   have he':(JB 39 s 0 (s.length+1)).isEmpty=true:=by
    rw[Bool.or_eq_true] at he
    rcases he with he | he
    ·exact he
    ·exact absurd he (by decide)
   have hf:39∉s:=by
    have key:∀(M:List Nat)(i lim:Nat),0<lim→39∈M→(JB 39 M i lim).isEmpty=false:=by
     intro M
     induction M with
     | nil=>intro i lim _ h;cases h
     | cons a M ih =>
      intro i lim hl hm
      unfold JB
      by_cases ha:a=39
      ·rw[if_pos ⟨ha,hl⟩];rfl
      ·rw[if_neg (fun hc=>ha hc.1)]
       exact ih _ _ hl (by rcases List.mem_cons.mp hm with h | h;exact absurd h.symm ha;exact h)
    intro hm
    rw[key s 0 _ (by omega) hm] at he'
    cases he'
   rw[Jj hf]
  ·rw[StrLaws.glued_eq_join,show (mkS [39]).length=1 from rfl,show (mkS s).length+1=s.length+1 by rw[Zf],hp,Kv,VB s _ [] (by omega)]
   rfl
 ·rw[Zf]
  have:=Kh s
  exact szl (by omega)
theorem qt_all(I C co:Nat)(s:List Nat)(hl:s.length≤1000):OK w (Kx w.params X m I C co (mkS s) (mkS (Zm s))):=by
 unfold Zm
 by_cases h0:s=[]
 ·subst h0
  rw[if_pos rfl]
  cases m with
  | true=>exact Z1Y hw X I C co
  | false=>exact Z1Z hw X I C co
 ·rw[if_neg h0]
  have hpos:0<s.length:=by
   rcases Nat.eq_zero_or_pos s.length with h | h
   ·exact absurd (List.eq_nil_of_length_eq_zero h) h0
   ·exact h
  have hn:(mkS s).length=s.length-1+1:=by rw[Zf];omega
  have hsz:(mkS s).length≤sizeLine:=by rw[Zf];exact szl (by omega)
  have hp:0<(mkS s).length:=by rw[Zf];exact hpos
  by_cases hb:s.all bare=true
  ·rw[if_pos hb]
   have hf:=(JV s).mpr hb
   cases m with
   | true=>exact Z0b hw X I C co (mkS s) _ hn hsz fun t=>Z0P hw _ I C co (mkS s) hp hsz hf
   | false=>exact Z0c hw X I C co (mkS s) _ hn hsz fun t=>Z0Q hw _ I C co (mkS s) hp hsz hf
  ·rw[if_neg hb]
   have hf:ZV (mkS s).cps (mkS s).cps.size ((mkS s).cps.size+1) 0≠none:=fun h=>hb ((JV s).mp h)
   have e:mkS (39::(YJ s++[39]))=qS (mkS (YJ s)):=by
    unfold qS
    rw[ZU,ZU]
    rfl
   rw[e]
   have hrl:=Kh s
   have l1:(mkS [39]++mkS (YJ s)).length≤sizeLine:=by rw[ZU,Zf];exact szl (by simp;omega)
   have l2:(qS (mkS (YJ s))).length≤sizeLine:=by rw[←e,Zf];exact szl (by simp;omega)
   cases m with
   | true=>exact WJ hw X I C co (mkS s) (mkS (YJ s)) _ _ _ _ _ _ hn hsz (fun t=>Z0N hw _ I C co (mkS s) hp hsz hf) (fun u a c h1 h2 h3=>Z1g hw s hl u a c h1 h2 h3) rfl rfl rfl rfl l1 l2
   | false=>exact WK hw X I C co (mkS s) (mkS (YJ s)) _ _ _ _ _ _ hn hsz (fun t=>Z0O hw _ I C co (mkS s) hp hsz hf) (fun u a c h1 h2 h3=>Z1g hw s hl u a c h1 h2 h3) rfl rfl rfl rfl l1 l2
noncomputable def Yv (row:List (List Nat)):List Nat:=Qv [32] (row.map Zm)
omit hw in
theorem UJ(s:List Nat):(Zm s).length≤5*s.length+2:=by
 unfold Zm
 have:=Kh s
 split
 ·simp
 ·split
  ·omega
  ·simp;omega
omit hw in
theorem Vh(sep:List Nat):∀ ts:List (List Nat),(Qv sep ts).length≤(ts.map (·.length)).sum+ts.length*sep.length
 | []=>by simp[Qv]
 | [x]=>by simp[Qv]
 | x::y::r=>by
  have ih:=Vh sep (y::r)
  rw[Qa]
  simp only[List.length_append,List.map_cons,List.sum_cons,List.length_cons,Nat.succ_mul] at ih ⊢
  omega
noncomputable def wt (row:List (List Nat)):Nat:=(row.map fun s=>5*s.length+3).sum
omit hw in
theorem QU(row:List (List Nat)):(Yv row).length≤wt row∧((row.map Zm).map (·.length)).sum+(row.map Zm).length≤wt row:=by
 have h2:((row.map Zm).map (·.length)).sum+(row.map Zm).length≤wt row:=by
  induction row with
  | nil=>exact Nat.le_refl _
  | cons s row ih =>
   have:=UJ s
   unfold wt at ih ⊢
   simp only[List.map_cons,List.sum_cons,List.length_cons] at ih ⊢
   omega
 refine ⟨Nat.le_trans (Vh _ _) ?_,h2⟩
 simpa using h2
omit hw in
theorem Z14{row:List (List Nat)}{s:List Nat}(h:s∈row):5*s.length+3≤wt row:=by
 unfold wt
 induction row with
 | nil=>cases h
 | cons x row ih =>
  simp only[List.map_cons,List.sum_cons]
  rcases List.mem_cons.mp h with rfl | h
  ·omega
  ·have:=ih h;omega
omit hw in
theorem VW(row:List (List Nat)):3*row.length≤wt row:=by
 unfold wt
 induction row with
 | nil=>exact Nat.le_refl _
 | cons x row ih=>simp only[List.map_cons,List.sum_cons,List.length_cons];omega
omit hw in
theorem NW{ts:List Str}{f:Nat→Nat}{i:Nat}{s:Str}(h:ts[i]?=some s):∃ t,(svA ts f)[i]?=some (.str s t):=by
 have key:∀(ts:List Str)(f:Nat→Nat)(i:Nat),ts[i]?=some s→∃ t,(svL ts f)[i]?=some (.str s t):=by
  intro ts
  induction ts with
  | nil=>intro f i h;simp at h
  | cons x ts ih =>
   intro f i h
   cases i with
   | zero=>simp at h;subst h;exact ⟨_,rfl⟩
   | succ i=>exact ih _ i (by simpa using h)
 obtain ⟨t,ht⟩:=key ts f i h
 exact ⟨t,by unfold svA;rw[List.getElem?_toArray];exact ht⟩
theorem jf_all(na:Nat)(row:List (List Nat))(hne:row≠[])(hwt:wt row≤3000)(tf:Nat→Nat)(nn:Nat)(o:Option Nat):OK w (VO w.params X m na (svA (row.map mkS) tf) nn o (mkS (Yv row))):=by
 obtain ⟨s0,row',rfl⟩:∃ s r,row=s::r:=by
  cases row with
  | nil=>exact absurd rfl hne
  | cons s r=>exact ⟨s,r,rfl⟩
 have hlen:=VW (s0::row')
 have hr:=QU (s0::row')
 have hq:∀(Y:Fr)(I C co:Nat),∀ x∈((mkS s0,mkS (Zm s0))::row'.map fun s=>(mkS s,mkS (Zm s))),OK w (Kx w.params Y m I C co x.1 x.2):=fun Y I C co x hx=>by
  rw[←List.map_cons (f:=fun s=>(mkS s,mkS (Zm s)))] at hx
  obtain ⟨s,hs,rfl⟩:=List.mem_map.mp hx
  exact qt_all hw Y m I C co s (by have:=Z14 hs;omega)
 have hn:∀(j:Nat)(x:Str × Str),((mkS s0,mkS (Zm s0))::row'.map fun s=>(mkS s,mkS (Zm s)))[j]?=some x→∃ t,(svA ((s0::row').map mkS) tf)[j]?=some (Value.str x.1 t):=fun j x hx=>by
  rw[←List.map_cons (f:=fun s=>(mkS s,mkS (Zm s))),List.getElem?_map] at hx
  cases hj:(s0::row')[j]? with
  | none=>rw[hj] at hx;cases hx
  | some s =>
   rw[hj] at hx
   cases hx
   exact NW (by rw[List.getElem?_map,hj];rfl)
 have hrs:(((mkS s0,mkS (Zm s0))::row'.map fun s=>(mkS s,mkS (Zm s))).map (·.2))=(((s0::row').map Zm).map mkS):=by
  simp
 have hjn:∀(Y:Fr)(gn t1 t2:Nat)(q:Str)(I C co:Nat)(F:Nat→Nat)(g0:Array GenState),OK w (itJN w.params Y m (mkS [32]) gn t1 t2 q I C co na (svA ((s0::row').map mkS) tf) nn F g0 (mkS (Yv (s0::row')))):=fun Y gn t1 t2 q I C co F g0=>by
  have hcl:=cl_all hw Y m gn t1 t2 q I C co na (svA ((s0::row').map mkS) tf) nn g0 (mkS s0,mkS (Zm s0)) (row'.map fun s=>(mkS s,mkS (Zm s))) (hq Y I C co) hn (by rw[Z6,List.length_map,List.length_map];rfl) (by rw[List.length_map];simp only[List.length_cons] at hlen;omega) F
  rw[hrs] at hcl
  refine jn_of (rs:=((s0::row').map Zm).map mkS) ?_ (Kw [32] _) (by rw[Zf];exact szl (by have:=hr.1;unfold Yv at this;omega)) ?_
  ·cases m with
   | true=>exact jx_1 hw Y gn t1 t2 q I C co na _ nn F g0 _ hcl (mkS [32])
   | false=>exact jx_0 hw Y gn t1 t2 q I C co na _ nn F g0 _ hcl (mkS [32])
  ·exact Kq (k:=1) (by have:=hr.2;omega)
 cases m with
 | true =>
  cases o with
  | none=>exact jf_n1 hw X na _ nn _ fun J gn t1 t2 q I C co F g0=>jk_1 hw _ gn t1 t2 q I C co na _ nn F g0 _ _ (hjn _ gn t1 t2 q I C co F g0)
  | some c=>exact jf_s1 hw X na _ nn _ c fun J gn t1 t2 q I C co F g0=>jk_1 hw _ gn t1 t2 q I C co na _ nn F g0 _ _ (hjn _ gn t1 t2 q I C co F g0)
 | false =>
  cases o with
  | none=>exact jf_n0 hw X na _ nn _ fun J gn t1 t2 q I C co F g0=>jk_0 hw _ gn t1 t2 q I C co na _ nn F g0 _ _ (hjn _ gn t1 t2 q I C co F g0)
  | some c=>exact jf_s0 hw X na _ nn _ c fun J gn t1 t2 q I C co F g0=>jk_0 hw _ gn t1 t2 q I C co na _ nn F g0 _ _ (hjn _ gn t1 t2 q I C co F g0)
end
end
section
open PySem PySem.W
section
variable {b b2:Bool}{w:World}(hw:Wd b b2 w)(X:Fr)(D:Nat→Dt)(r:Bool)(a lex ld sio sd pb fs:Nat)(T S:Nat→Nat)(buf:Str)(hbuf:buf.length≤sizeLine)
include hw hbuf
theorem nxe_ok{rem:List Nat}(ho:ZI rem .sp [] false=some .err)(pos:Nat)(hd:buf.cps.toList.drop pos=rem)(hp:pos≤buf.length)(t3 sT ln lt tt:Nat) :
  OK w (Z0I w.params X D r lex ld sio sd pb fs T S buf pos t3 (stF false sT) ln lt tt):=by
 refine nxe hw X D r lex ld sio sd pb fs T S buf pos t3 lt tt ln _ fun z d=>gte hw _ _ r lex ld sio sd pb fs T S buf pos t3 lt tt ln _ fun z' d'=>rte hw _ _ r lex ld sio sd pb fs T S buf pos t3 lt tt ln _ fun L F=>?_
 have h:=Z2a hw { X with n:=z,g:=z' } (Z0W (Z0V D d) d') r (fL { X with n:=z,g:=z' } (Z0W (Z0V D d) d') r) L lex ld sio sd pb fs T S buf hbuf rem _ ho (fun _=>rfl) pos hd hp F t3 sT ln lt tt
 refine h.conseq [] rfl (fun _ e=>e) (fun _ e=>e) ?_ fun sz tk l=>⟨l,[],rfl,rfl,rfl,rfl,?_⟩
 ·show List.Perm (_++[]) ((_++_)++[])
  rw[List.append_nil,List.append_nil]
  exact .refl _
 ·exact .refl _
theorem lx_bad:∀ {rem:List Nat}{fin:Bool}{res:Option (List (List Nat))},Lex rem fin res→res=none→∀(xs:Array Value)(n pos:Nat),buf.cps.toList.drop pos=rem→pos≤buf.length→xs.size+rem.length<sizeLine →
  ∀(t3 sT ln lt tt:Nat),OK w (itLX w.params X D r a xs n lex ld sio sd pb fs T S buf pos t3 (stF fin sT) ln lt tt (OLE X D)):=by
 intro rem fin res h
 induction h with
 | fin=>intro e;cases e
 | eof ho=>intro e;cases e
 | err ho =>
  intro _ xs n pos hd hp hs t3 sT ln lt tt
  have he:=lx_err (a:=a) (xs:=xs) (n:=n) (txe hw X D r a lex ld sio sd pb fs T S buf pos t3 lt tt ln _ (nxe_ok hw X D r lex ld sio sd pb fs T S buf hbuf ho pos hd hp t3 sT ln lt tt)) rfl (fun _ _ l=>⟨.ref (l 2),rfl⟩)
  refine he.conseq [] rfl (fun _ e=>e) (fun _ e=>e) ?_ fun sz tk l=>⟨l,[(a,Z0 xs n)],rfl,rfl,rfl,rfl,?_⟩
  ·show List.Perm _ (_++[])
   rw[List.append_nil]
   exact .refl _
  ·show List.Perm ((((a,Z0 xs n)::_)++[])++[]) ((_++[])++[(a,Z0 xs n)])
   rw[List.append_nil,List.append_nil,List.append_nil]
   exact List.perm_append_comm (l₁:=[(a,Z0 xs n)])
 | @tok rem tok nc rest qd fin' ts' ho hne hl ih =>
  intro hts xs n pos hd hp hs t3 sT ln lt tt
  cases ts' with
  | some ts'=>cases hts
  | none =>
   have hrest:rest.length<rem.length∧buf.cps.toList.drop (buf.length-rest.length)=rest:=by
    obtain ⟨k,h1,h2,h3⟩:=KX rem .sp [] false ho
    have hk:k≠0:=fun e=>by
     have:=h3 e
     subst this
     unfold ZI at ho
     simp only[and_self,if_true] at ho
     cases ho
     rcases hne with h | h
     ·exact h rfl
     ·cases h
    have hl1:rem.length=buf.length-pos:=by rw[←hd,List.length_drop];rfl
    have hl2:rest.length=rem.length-k:=by rw[h2,List.length_drop]
    refine ⟨by omega,?_⟩
    have e:buf.length-rest.length=pos+k:=by omega
    rw[e,←List.drop_drop,hd,h2]
   have hT:=Z19 hw X (rR X D r) a lex ld sio sd pb fs T S buf pos t3 lt tt ln (buf.length-rest.length) (stF false sT) (mkS tok) (stF fin') (nx_ok hw X lex ld sio sd pb fs T S buf hbuf ho hne pos hd hp t3 sT ln lt tt)
   have key:=WX (a:=a) (xs:=xs) (n:=n) (O:=OLE X D) hT rfl (fun sz tk l=>⟨_,rfl,rfl⟩) (by omega) fun sz tk l v hv=>by
    cases hv
    have g:=ih rfl (xs.push (.str (mkS tok) (l 2))) (n+1) (buf.length-rest.length) hrest.2 (by omega) (by rw[Array.size_push];omega) (l 5) (l 6) (l 7) (l 3) (l 4)
    refine g.conseq [] rfl (fun _ e=>e) (fun _ e=>e) ?_ fun sz tk l'=>⟨l',[],rfl,rfl,rfl,rfl,?_⟩
    ·show List.Perm _ (_++[])
     rw[List.append_nil]
     exact .refl _
    ·exact .refl _
   refine key.conseq [] rfl (fun _ e=>e) (fun _ e=>e) ?_ fun sz tk l=>⟨l,[],rfl,rfl,rfl,rfl,?_⟩
   ·show List.Perm _ (_++[])
    rw[List.append_nil]
    exact .refl _
   ·exact .refl _
end
theorem OA_nil(X:Fr)(D:Nat→Dt)(a:Nat)(ts:List (List Nat)):OA X D a #[] ts=OLX X D a (ts.map mkS):=by
 funext l
 unfold OA OLX
 simp
section
variable {b b2:Bool}{w:World}(hw:Wd b b2 w)(X:Fr)(D:Nat→Dt)(r:Bool)(s:Str)(hs:s.length<sizeLine)
include hw hs
theorem K6{ts:List (List Nat)}(h:Lex s.cps.toList false (some ts)):OK w (UU w.params X D r s (ts.map mkS)):=by
 refine td_ok hw X D r s _ fun d z=>sp_ok hw _ _ r s _ fun d' z' lex ld sio sd pb fs T S t3 sT lt tt=>ls_ok hw _ _ r lex ld sio sd pb fs T S s 0 t3 lt tt 1 _ _ fun a n=>li_c hw _ _ r a n lex ld sio sd pb fs T S s 0 t3 lt tt 1 _ _ fun n=>li_b hw _ _ r a n lex ld sio sd pb fs T S s 0 t3 lt tt 1 _ _ fun n=>?_
 rw[←OA_nil]
 exact lx_all hw _ _ r a lex ld sio sd pb fs T S s (Nat.le_of_lt hs) h ts rfl #[] n 0 rfl (Nat.zero_le _) (by simpa [Str.length] using hs) t3 sT 1 lt tt
theorem NS(h:Lex s.cps.toList false none):OK w (VL w.params X D r s):=by
 refine tde hw X D r s fun L t0 u=>tfe hw X D r L t0 u s fun d z=>spe hw _ _ r s fun d' z' lex ld sio sd pb fs T S t3 sT lt tt=>lse hw _ _ r lex ld sio sd pb fs T S s 0 t3 lt tt 1 _ fun a n=>li_c hw _ _ r a n lex ld sio sd pb fs T S s 0 t3 lt tt 1 _ _ fun n=>li_b hw _ _ r a n lex ld sio sd pb fs T S s 0 t3 lt tt 1 _ _ fun n=>?_
 exact lx_bad hw _ _ r a lex ld sio sd pb fs T S s (Nat.le_of_lt hs) h rfl #[] n 0 rfl (Nat.zero_le _) (by simpa [Str.length] using hs) t3 sT 1 lt tt
end
end
section
open PySem PySem.Builtin PySem.Builtin.Str PySem.W
theorem Vy{c:Nat}{cs:List Nat}(h:VP c=true):ZI (c::cs) .sp [] false=ZI cs .sp [] false:=by
 conv=>lhs;unfold ZI
 rw[if_pos ⟨rfl,rfl⟩,if_pos h]
theorem KW{c:Nat}{cs:List Nat}(h:VP c=false)(h1:c≠39)(h2:c≠34)(h3:c≠92):ZI (c::cs) .sp [] false=ZI cs .a [c] false:=by
 conv=>lhs;unfold ZI
 rw[if_pos ⟨rfl,rfl⟩,if_neg (by simp[h]),if_neg h1,if_neg (by omega)]
theorem Ji{cs:List Nat}:ZI (39::cs) .sp [] false=ZI cs .q [] false:=by
 conv=>lhs;unfold ZI
 rw[if_pos ⟨rfl,rfl⟩,if_neg (by decide),if_pos rfl]
theorem scan_a{c:Nat}{cs tok:List Nat}{qd:Bool}(h:VP c=false)(h1:c≠39)(h2:c≠34)(h3:c≠92)(ht:tok≠[]):ZI (c::cs) .a tok qd=ZI cs .a (tok++[c]) qd:=by
 conv=>lhs;unfold ZI
 rw[if_neg (by simp[h]),if_neg h1,if_neg h2,if_neg h3,if_neg ht]
theorem Z1O{cs tok:List Nat}{qd:Bool}:ZI (39::cs) .a tok qd=ZI cs .q tok qd:=by
 conv=>lhs;unfold ZI
 rw[if_neg (by decide),if_pos rfl]
theorem Z1P{cs tok:List Nat}{qd:Bool}:ZI (34::cs) .a tok qd=ZI cs .d tok qd:=by
 conv=>lhs;unfold ZI
 rw[if_neg (by decide),if_neg (by decide),if_pos rfl]
theorem scan_q{c:Nat}{cs tok:List Nat}{qd:Bool}(h:c≠39):ZI (c::cs) .q tok qd=ZI cs .q (tok++[c]) true:=by
 conv=>lhs;unfold ZI
 rw[if_neg h]
theorem Vz{cs tok:List Nat}{qd:Bool}:ZI (39::cs) .q tok qd=ZI cs .a tok true:=by
 conv=>lhs;unfold ZI
 rw[if_pos rfl]
theorem scan_d{c:Nat}{cs tok:List Nat}{qd:Bool}(h:c≠34)(h1:c≠92)(h2:c≠10):ZI (c::cs) .d tok qd=ZI cs .d (tok++[c]) true:=by
 conv=>lhs;unfold ZI
 rw[if_neg h,if_neg (by omega)]
theorem Z1N{cs tok:List Nat}{qd:Bool}:ZI (34::cs) .d tok qd=ZI cs .a tok true:=by
 conv=>lhs;unfold ZI
 rw[if_pos rfl]
theorem QT:∀(s rest tok:List Nat)(qd:Bool),∃ qd',ZI (YJ s++rest) .q tok qd=ZI rest .q (tok++s) qd'
 | [],rest,tok,qd=>⟨qd,by rw[List.append_nil];rfl⟩
 | c::s,rest,tok,qd=>by
  rw[Yc]
  by_cases hc:c=39
  ·subst hc
   rw[if_pos rfl]
   show ∃ qd',ZI (39::34::39::34::39::(YJ s++rest)) .q tok qd=_
   rw[Vz,Z1P,scan_d (by decide) (by decide) (by decide),Z1N,Z1O]
   obtain ⟨qd',e⟩:=QT s rest (tok++[39]) true
   exact ⟨qd',by rw[e,List.append_assoc];rfl⟩
  ·rw[if_neg hc]
   show ∃ qd',ZI (c::(YJ s++rest)) .q tok qd=_
   rw[scan_q hc]
   obtain ⟨qd',e⟩:=QT s rest (tok++[c]) true
   exact ⟨qd',by rw[e,List.append_assoc];rfl⟩
theorem KY:∀(s rest tok:List Nat)(qd:Bool),tok≠[]→(∀ c∈s,bare c=true)→ZI (s++rest) .a tok qd=ZI rest .a (tok++s) qd
 | [],rest,tok,qd,_,_=>by rw[List.append_nil];rfl
 | c::s,rest,tok,qd,ht,h=>by
  obtain ⟨h1,_,h2,h3,h4,_⟩:=Jw (h c (.head _))
  show ZI (c::(s++rest)) .a tok qd=_
  rw[scan_a h1 h2 h3 h4 ht,KY s rest _ qd (by simp) (fun x hx=>h x (.tail _ hx)),List.append_assoc]
  rfl
theorem JS(s rest:List Nat):∃ qd,ZI (Zm s++rest) .sp [] false=ZI rest .a s qd∧(s≠[]∨qd=true):=by
 unfold Zm
 by_cases h0:s=[]
 ·subst h0
  rw[if_pos rfl]
  exact ⟨true,by show ZI (39::39::rest) .sp [] false=_;rw[Ji,Vz],.inr rfl⟩
 ·rw[if_neg h0]
  by_cases hb:s.all bare=true
  ·rw[if_pos hb]
   rw[List.all_eq_true] at hb
   cases s with
   | nil=>exact absurd rfl h0
   | cons c s =>
    obtain ⟨h1,_,h2,h3,h4,_⟩:=Jw (hb c (.head _))
    refine ⟨false,?_,.inl h0⟩
    show ZI (c::(s++rest)) .sp [] false=_
    rw[KW h1 h2 h3 h4,KY s rest [c] false (by simp) fun x hx=>hb x (.tail _ hx)]
    rfl
  ·rw[if_neg hb]
   obtain ⟨qd',e⟩:=QT s (39::rest) [] false
   refine ⟨true,?_,.inr rfl⟩
   show ZI (39::((YJ s++[39])++rest)) .sp [] false=_
   rw[Ji,List.append_assoc]
   show ZI (YJ s++39::rest) .q [] false=_
   rw[e,Vz]
   rfl
theorem Qs{c:Nat}{rem:List Nat}{res:Option (List (List Nat))}(h:VP c=true)(hl:Lex rem false res):Lex (c::rem) false res:=by
 cases hl with
 | eof ho=>exact .eof (by rw[Vy h];exact ho)
 | tok ho ht hl=>exact .tok (by rw[Vy h];exact ho) ht hl
 | err ho=>exact .err (by rw[Vy h];exact ho)
theorem Ub{c:Nat}{cs tok:List Nat}{qd:Bool}(h:VP c=true)(ht:tok≠[]∨qd=true):ZI (c::cs) .a tok qd=some (.brk tok qd false [c] cs):=by
 conv=>lhs;unfold ZI
 rw[if_pos h,if_neg]
 rintro ⟨h1,h2⟩
 rcases ht with h | h
 ·exact h h1
 ·rw[h2] at h;cases h
theorem J1{s:List Nat}{c:Nat}{rem:List Nat}{res:Option (List (List Nat))}(h:VP c=true)(hl:Lex rem false res):Lex (Zm s++c::rem) false (res.map (s::·)):=by
 obtain ⟨qd,e,ht⟩:=JS s (c::rem)
 exact .tok (by rw[e,Ub h ht]) ht hl
theorem Z0E(s:List Nat):Lex (Zm s) false (some [s]):=by
 obtain ⟨qd,e,ht⟩:=JS s []
 rw[List.append_nil] at e
 have:Lex (Zm s) false ((some []).map (s::·)):=.tok (by rw[e];rfl) ht .fin
 exact this
theorem N0:Lex [] false (some []):=.eof (nc:=[]) (rest:=[]) (by unfold ZI;rw[if_pos ⟨rfl,rfl⟩])
theorem WZ:∀ {row:List (List Nat)}{c:Nat}{rem:List Nat}{ts:List (List Nat)},row≠[]→VP c=true→Lex rem false (some ts)→Lex (Yv row++c::rem) false (some (row++ts))
 | [s],c,rem,ts,_,h,hl=>J1 h hl
 | s::s'::row,c,rem,ts,_,h,hl=>by
  have ih:=WZ (row:=s'::row) (by simp) h hl
  have e:Yv (s::s'::row)++c::rem=Zm s++32::(Yv (s'::row)++c::rem):=by
   show (Zm s++[32]++Yv (s'::row))++c::rem=_
   simp
  rw[e]
  exact J1 rfl ih
theorem J2:∀ {row:List (List Nat)},row≠[]→Lex (Yv row) false (some row)
 | [s],_=>Z0E s
 | s::s'::row,_=>by
  have ih:=J2 (row:=s'::row) (by simp)
  have e:Yv (s::s'::row)=Zm s++32::Yv (s'::row):=by
   show (Zm s++[32]++Yv (s'::row))=_
   simp
  rw[e]
  exact J1 rfl ih
theorem Ks{c d:Nat}{rem:List Nat}{ts:List (List Nat)}(h:VP c=false)(h1:c≠39)(h2:c≠34)(h3:c≠92)(hd:VP d=true)(hl:Lex rem false (some ts)):Lex (c::d::rem) false (some ([c]::ts)):=by
 have:Lex (c::d::rem) false ((some ts).map ([c]::·)):=.tok (tok:=[c]) (qd:=false) (by rw[KW h h1 h2 h3,Ub hd (.inl (by simp))]) (.inl (by simp)) hl
 exact this
structure GapOK (g:List Nat × List (List Nat)):Prop where
 lex:∀ rem ts,Lex rem false (some ts)→∃ r,g.1++rem=10::r∧Lex r false (some (g.2++ts))
 sgl:g.1=[10]∨∃ f z,g.1=10::(f++10::z)∧10∉f∧(∀ x∈f,spc x=true)∧(∀ x∈z,spc x=true)∧z.length≤1
 len:g.1.length≤5
 tl:g.2.length≤2
theorem gap_ok(n:Nat)(h:n%16<3):GapOK (Qj n):=by
 have h3:n%16=0∨n%16=1∨n%16=2:=by omega
 rcases h3 with h | h | h
 ·have e:Qj n=([10,10],[]):=by unfold Qj;rw[if_pos h]
  rw[e]
  exact ⟨fun rem ts hl=>⟨_,rfl,Qs rfl hl⟩,.inr ⟨[],[],rfl,by simp,by simp,by simp,by simp⟩,by decide,by decide⟩
 ·have h6:n / 16%6<6:=Nat.mod_lt _ (by decide)
  have e:Qj n=(10::(W0 (n / 16%6)).1++[10],(W0 (n / 16%6)).2):=by unfold Qj;rw[if_neg (by omega),if_neg (by omega)]
  rw[e]
  generalize hd:n / 16%6=d at h6
  match d,h6,hd with
  | 0,_,hd=>exact ⟨fun rem ts hl=>⟨_,rfl,Qs rfl (Qs rfl hl)⟩,.inr ⟨[32],[],rfl,by decide,by decide +kernel,by simp,by simp⟩,by decide,by decide⟩
  | 1,_,hd=>exact ⟨fun rem ts hl=>⟨_,rfl,Qs rfl (Qs rfl hl)⟩,.inr ⟨[9],[],rfl,by decide,by decide +kernel,by simp,by simp⟩,by decide,by decide⟩
  | 2,_,hd=>exact ⟨fun rem ts hl=>⟨_,rfl,Ks rfl (by decide) (by decide) (by decide) rfl hl⟩,.inr ⟨[160],[],rfl,by decide,by decide +kernel,by simp,by simp⟩,by decide,by decide⟩
  | 3,_,hd=>exact ⟨fun rem ts hl=>⟨_,rfl,Ks rfl (by decide) (by decide) (by decide) rfl (Ks rfl (by decide) (by decide) (by decide) rfl hl)⟩,.inr ⟨[11,32,12],[],rfl,by decide,by decide +kernel,by simp,by simp⟩,by decide,by decide⟩
  | 4,_,hd=>exact ⟨fun rem ts hl=>⟨_,rfl,Qs rfl (Qs rfl hl)⟩,.inr ⟨[],[10],rfl,by simp,by simp,by decide +kernel,by simp⟩,by decide,by decide⟩
  | 5,_,hd=>exact ⟨fun rem ts hl=>⟨_,rfl,Qs rfl (Qs rfl hl)⟩,.inr ⟨[13],[],rfl,by decide,by decide +kernel,by simp,by simp⟩,by decide,by decide⟩
 ·have e:Qj n=([10],[]):=by unfold Qj;rw[if_neg (by omega),if_pos h]
  rw[e]
  exact ⟨fun rem ts hl=>⟨_,rfl,hl⟩,.inl rfl,by decide,by decide⟩
noncomputable abbrev YY:=List (List Nat)
noncomputable abbrev Vs:=List Nat × List (List Nat)
noncomputable def pg:List YY→List Vs→List Nat
 | [],_=>[]
 | r::rs,gs=>match gs with
  | []=>Yv r
  | g::gs=>Yv r++g.1++pg rs gs
noncomputable def pw:List YY→List Vs→List (List Nat)
 | [],_=>[]
 | r::rs,gs=>match gs with
  | []=>r
  | g::gs=>r++g.2++pw rs gs
theorem Un:∀(rs:List YY)(gs:List Vs)(r:YY),rs.length=gs.length→(∀ x∈r::rs,x≠[])→(∀ g∈gs,GapOK g)→Lex (pg (r::rs) gs) false (some (pw (r::rs) gs))
 | [],[],r,_,hr,_=>J2 (hr r (.head _))
 | r'::rs,g::gs,r,hl,hr,hg=>by
  have ih:=Un rs gs r' (by simpa using hl) (fun x hx=>hr x (.tail _ hx)) (fun x hx=>hg x (.tail _ hx))
  obtain ⟨t,e,ht⟩:=(hg g (.head _)).lex _ _ ih
  show Lex (Yv r++g.1++pg (r'::rs) gs) false (some (r++g.2++pw (r'::rs) gs))
  rw[List.append_assoc,e,List.append_assoc]
  exact WZ (hr r (.head _)) rfl ht
theorem Z0D(s:List Nat):Lex (39::YJ s) false none:=by
 obtain ⟨qd',e⟩:=QT s [] [] false
 rw[List.append_nil] at e
 exact .err (by rw[Ji,e];rfl)
theorem Vg:∀(row:List (List Nat))(s:List Nat),Lex ((row.flatMap fun x=>Zm x++[32])++39::YJ s) false none
 | [],s=>Z0D s
 | x::row,s=>by
  have ih:=Vg row s
  have e:((x::row).flatMap fun x=>Zm x++[32])++39::YJ s=Zm x++32::((row.flatMap fun x=>Zm x++[32])++39::YJ s):=by
   rw[List.flatMap_cons];simp
  rw[e]
  exact J1 (res:=none) rfl ih
end
section
open PySem PySem.Builtin PySem.W
section
set_option backward.match.sparseCases false
noncomputable def bE (P:Params):PySem.Expr:=match sAt (Y0 P 818) 1 with
 | .For _ _ (.Assign _ e _::_) _ _=>e
 | _=>default
noncomputable def bEnv (P:Params)(Lf L:Nat):Env:={ scope:=Z2P (Vx (bE P)),locals:=L,globals:=(ZG P 818 Lf).globals,cells:=[],qual:=(ZG P 818 Lf).qual,func:=none,code:=(ZG P 818 Lf).code,frame:=some Lf,builtins:=(ZG P 818 Lf).builtins }
noncomputable def VT (P:Params)(F:Nat)(o:Option (Str × Nat)):Obj:=match o with
 | none=>Vp [] 0
 | some x=>Vp [en P "word" F (.str x.1 x.2)] 1
noncomputable def KK (P:Params)(Lf it la acc L:Nat)(ws:Array Value)(wn:Nat)(O:(Nat→Nat)→FOut)(i:Nat)(xs:Array Value)(n F:Nat)(o:Option (Str × Nat)):FItem where
 c:=.compLoop (bE P) 0 (.ref it) (.ref acc) (bEnv P Lf L)
 B:=fun B=>B
 pre:=[(it,itO "list_iterator" (.ref la) i),(la,Z0 ws wn),(acc,Z0 xs n),(L,VT P F o)]
 out:=fun _ _ l=>O l
section
variable{b b2:Bool}{w:World}(hw:Wd b b2 w)(Lf it la acc L:Nat)(ws:Array Value)(wn:Nat)(O:(Nat→Nat)→FOut)(i:Nat)(xs:Array Value)(n F:Nat)
include b b2 w hw Lf it la acc L ws wn O i xs n F
theorem bl_no0(s:Str)(t:Nat)(hx:ws[i]?=some (.str s t))(h1:Zh s (mkS [10])=false)(next:∀ F u,OK w (KK w.params Lf it la acc L ws wn O (i+1) xs n F (some (s,u)))):OK w (KK w.params Lf it la acc L ws wn O i xs n F none):=by
 refine Z2 hw.w0 _ (fun sz tk ls=>(fun l0=>KK w.params Lf it la acc L ws wn O (i+1) xs n tk (some (s,t))) (ls 0)) (fun _ _ _ _ _ _ _ _=>rfl) (fun _ _ _=>rfl) (fun _ _ _=>rfl) (fun c B p sz tk g he=>?_) (fun sz tk ls=>next _ _)
 obtain rfl:=Zg he
 refine ⟨66,.item [] (ZX it la ws wn i (Value.str s t)) (fun l0=>.fin [Zc s (mkS [10]) false]),(dg 9 0x14340001),[0,0,0,0],0,?_,fun ls=>?_⟩
 ·exact ⟨(fun x hx=>(nomatch hx)),ZE hx,fun l0=>(AllV.all ⟨Z8 h1,trivial⟩)⟩
 ·kernel_rfl
theorem Z2S(s:Str)(t:Nat)(hx:ws[i]?=some (.str s t))(h1:Zh s (mkS [10])=true)(hs:xs.size<sizeLine)(next:∀ F u v n,OK w (KK w.params Lf it la acc L ws wn O (i+1) (xs.push (.str s v)) n F (some (s,u)))):OK w (KK w.params Lf it la acc L ws wn O i xs n F none):=by
 refine Z2 hw.w0 _ (fun sz tk ls=>(fun l0 l1=>KK w.params Lf it la acc L ws wn O (i+1) (xs.push (Value.str s (l1 0))) (n+1) tk (some (s,t))) (ls 0) (ls 1)) (fun _ _ _ _ _ _ _ _=>rfl) (fun _ _ _=>rfl) (fun _ _ _=>rfl) (fun c B p sz tk g he=>?_) (fun sz tk ls=>next _ _ _ _)
 obtain rfl:=Zg he
 refine ⟨69,.item [] (ZX it la ws wn i (Value.str s t)) (fun l0=>.item [Zc s (mkS [10]) true] (YO acc xs n s) (fun l1=>.fin [])),(dg 12 0x20414340001),[1,1,0,0],0,?_,fun ls=>?_⟩
 ·exact ⟨(fun x hx=>(nomatch hx)),ZE hx,fun l0=>⟨(AllV.all ⟨Z8 h1,trivial⟩),Yo hs,fun l1=>(fun x hx=>(nomatch hx))⟩⟩
 ·kernel_rfl
theorem bl_no1(s0:Str)(u0:Nat)(s:Str)(t:Nat)(hx:ws[i]?=some (.str s t))(h1:Zh s (mkS [10])=false)(next:∀ F u,OK w (KK w.params Lf it la acc L ws wn O (i+1) xs n F (some (s,u)))):OK w (KK w.params Lf it la acc L ws wn O i xs n F (some (s0,u0))):=by
 refine Z2 hw.w0 _ (fun sz tk ls=>(fun l0=>KK w.params Lf it la acc L ws wn O (i+1) xs n F (some (s,t))) (ls 0)) (fun _ _ _ _ _ _ _ _=>rfl) (fun _ _ _=>rfl) (fun _ _ _=>rfl) (fun c B p sz tk g he=>?_) (fun sz tk ls=>next _ _)
 obtain rfl:=Zg he
 refine ⟨66,.item [] (ZX it la ws wn i (Value.str s t)) (fun l0=>.fin [Zc s (mkS [10]) false]),(dg 9 0x14340001),[0,0,0,0],0,?_,fun ls=>?_⟩
 ·exact ⟨(fun x hx=>(nomatch hx)),ZE hx,fun l0=>(AllV.all ⟨Z8 h1,trivial⟩)⟩
 ·kernel_rfl
theorem Z2R(s0:Str)(u0:Nat)(s:Str)(t:Nat)(hx:ws[i]?=some (.str s t))(h1:Zh s (mkS [10])=true)(hs:xs.size<sizeLine)(next:∀ F u v n,OK w (KK w.params Lf it la acc L ws wn O (i+1) (xs.push (.str s v)) n F (some (s,u)))):OK w (KK w.params Lf it la acc L ws wn O i xs n F (some (s0,u0))):=by
 refine Z2 hw.w0 _ (fun sz tk ls=>(fun l0 l1=>KK w.params Lf it la acc L ws wn O (i+1) (xs.push (Value.str s (l1 0))) (n+1) F (some (s,t))) (ls 0) (ls 1)) (fun _ _ _ _ _ _ _ _=>rfl) (fun _ _ _=>rfl) (fun _ _ _=>rfl) (fun c B p sz tk g he=>?_) (fun sz tk ls=>next _ _ _ _)
 obtain rfl:=Zg he
 refine ⟨69,.item [] (ZX it la ws wn i (Value.str s t)) (fun l0=>.item [Zc s (mkS [10]) true] (YO acc xs n s) (fun l1=>.fin [])),(dg 12 0x20414340001),[1,1,0,0],0,?_,fun ls=>?_⟩
 ·exact ⟨(fun x hx=>(nomatch hx)),ZE hx,fun l0=>⟨(AllV.all ⟨Z8 h1,trivial⟩),Yo hs,fun l1=>(fun x hx=>(nomatch hx))⟩⟩
 ·kernel_rfl
end
theorem Z2T{b b2:Bool}{w:World}(hw:Wd b b2 w)(Lf it la acc L:Nat)(ws:Array Value)(wn:Nat)(i:Nat)(xs:Array Value)(n F:Nat)(s0:Str)(u0:Nat)(hx:ws.size≤i):OK w (KK w.params Lf it la acc L ws wn (fun l=>⟨.ok .next,[(la,Z0 ws wn),(acc,Z0 xs n),(L,VT w.params F (some (s0,u0)))],l 0,l 1,id,[]⟩) i xs n F (some (s0,u0))):=by
 refine Z1 hw.w0 _ fun c B p sz tk g he=>?_
 obtain rfl:=Zg he
 refine ⟨55,.item [] (K4 it la ws wn i) (fun l0=>.fin []),[1,0,0,0,1],[3,3,3],0,fun ls=>(fun l0=>fl [sz+2,tk]) (ls 0),?_,fun ls=>?_⟩
 ·exact ⟨(fun x hx=>(nomatch hx)),Jm hx,fun l0=>(fun x hx=>(nomatch hx))⟩
 ·kernel_rfl
end
end
section
open PySem PySem.W
section
open Sem (wp finPost)
theorem Desc.ontoH{K:List (Nat × Obj)}{M:Model}{pre rest:Led}{it'':FItem}{s s':Shared}{sz tk:Nat}{out:Nat→Nat→(Nat→Nat)→FOut}{Γ:Ctx}{p:Pos}{Rr:Result→Shared→Prop}
  {G:Array GenState}(D2:Desc ⟨K,s.heap,pre.map (·.1),G,s.drawn,s.os⟩ (it''.all++rest) sz tk s')(h0:it''.Valid M K)(ho:∀ l,(out s.heap.objs.size s.toks l).r=(it''.out s'.heap.objs.size s'.toks l).r∧(out s.heap.objs.size s.toks l).all=(it''.out s'.heap.objs.size s'.toks l).all∧(out s.heap.objs.size s.toks l).sz=(it''.out s'.heap.objs.size s'.toks l).sz∧(out s.heap.objs.size s.toks l).tk=(it''.out s'.heap.objs.size s'.toks l).tk)
  (hc:it''.er Γ.code=it''.c)(hh:Γ.handled=none)(hB:it''.B Γ.below=Γ.below)(hg:it''.gin G=G)(hgc:∀ l,(out s.heap.objs.size s.toks l).g s.gens=(it''.out s'.heap.objs.size s'.toks l).g G)
  (k:∀ l h',Left0 pre (out s.heap.objs.size s.toks l).all (out s.heap.objs.size s.toks l).sz s.heap h'→Rr (out s.heap.objs.size s.toks l).r ⟨h',(out s.heap.objs.size s.toks l).g s.gens,s.drawn,(out s.heap.objs.size s.toks l).tk,s.os⟩) :
  wpCode M Γ Rr p s':=by
 have nd2:=D2.nodup
 rw[List.map_append,List.nodup_append] at nd2
 have eg:s'.gens=G:=D2.gens
 have ed:s'.drawn=s.drawn:=D2.drawn
 have eo:s'.os=s.os:=D2.os
 refine h0 Γ p s' Rr hc hh hB (by rw[eg];exact hg) D2.top nd2.1 (fun q hq=>D2.own q (List.mem_append_left _ hq)) (fun q hq=>D2.here q (List.mem_append_left _ hq)) fun l h2 L=>?_
 obtain ⟨o1,o2,o3,o4⟩:=ho l
 have key:=k l h2 (by
  obtain ⟨f1,f2,f3,f4,f5,f6⟩:=L
  rw[←o2] at f2 f3 f4
  rw[←o3] at f5 f6
  have le:s.heap.objs.size≤s'.heap.objs.size:=by rw[D2.size];exact D2.old
  refine ⟨fun a x hx hn=>f1 a x (D2.frame a x hx hn) fun hm=>?_,f2,f3,fun q hq=>?_,f5,Nat.le_trans le f6⟩
  ·obtain ⟨q,hq,e⟩:=List.mem_map.mp hm
   rcases D2.base q (List.mem_append_left _ hq) with hb | hb
   ·exact hn (e▸hb)
   ·exact absurd (Heap.lt_size hx) (Nat.not_lt.mpr (e▸hb))
  ·rcases f4 q hq with hb | hb
   ·obtain ⟨r,hr,e⟩:=List.mem_map.mp hb
    rw[←e]
    exact D2.base r (List.mem_append_left _ hr)
   ·exact .inr (Nat.le_trans le hb))
 rw[hgc,o1,o4] at key
 rw[eg,ed,eo]
 exact key
theorem Jb{C:Cfg}{w:World}(W:World0 C w)(it:FItem)(γ:Array GenState→Array GenState)(it':Nat→Nat→(Nat→Nat→Nat)→FItem)
  (hout:∀ sz tk sz' tk' a b ls l,(it.out sz tk l).r=((it' a b ls).out sz' tk' l).r∧(it.out sz tk l).all=((it' a b ls).out sz' tk' l).all∧(it.out sz tk l).sz=((it' a b ls).out sz' tk' l).sz∧(it.out sz tk l).tk=((it' a b ls).out sz' tk' l).tk)(hog:∀ sz tk sz' tk' a b ls l g,(it.out sz tk l).g g=((it' a b ls).out sz' tk' l).g (γ g))(hB:∀ a b ls,it.B=(it' a b ls).B)(hgi:∀ a b ls g,(it' a b ls).gin (γ g)=γ g)
  (h:∀(c:Code)(B:Stk)(p:Pos)(sz tk:Nat)(g:Array GenState),it.er c=it.c→ThC C w it (it' sz tk) (Yj c) c B p sz tk g (γ g))
  (h':∀ a b ls,(it' a b ls).Valid (model C.prog w) C.top)(her:∀ a b ls,(it' a b ls).er=erC:=by exact fun _ _ _=>rfl):it.Valid (model C.prog w) C.top:=by
 rintro ⟨c,hd,ow,B,pa⟩ p s Rr hc hh hBB hg top nd own here k
 dsimp only at hc hh hBB
 obtain ⟨n,pl,hs,js,kx,ok,chk⟩:=h c B p s.heap.objs.size s.toks s.gens hc
 delta ChkT at chk
 rw[hBB,hg] at chk
 subst hh
 refine ZW ?_
 refine Yn W.hP W.hids n pl ⟨C.top,s.heap,it.all.map (·.1),s.gens,s.drawn,s.os⟩ c B p (Yj c) it.pre it.preS s.heap.objs.size s.toks hs [] rfl ok (fun ls=>?_) ow pa s Rr (Desc.start top nd own here) (fun ls=>?_)
 ·exact (Prod.mk.inj (Prod.mk.inj (Prod.mk.inj (Prod.mk.inj (chk ls)).2).2).2).2
 ·obtain ⟨e1,r1⟩:=Prod.mk.inj (chk ls)
  obtain ⟨e2,r2⟩:=Prod.mk.inj r1
  obtain ⟨e3,r3⟩:=Prod.mk.inj r2
  obtain ⟨e4,e5⟩:=Prod.mk.inj r3
  have hb:=hB s.heap.objs.size s.toks ls
  have hgg:=hgi s.heap.objs.size s.toks ls s.gens
  have hog0:=fun sz tk sz' tk' l g=>hog sz tk sz' tk' s.heap.objs.size s.toks ls l g
  have h0:=h' s.heap.objs.size s.toks ls
  have her':=her s.heap.objs.size s.toks ls
  have ho0:=fun sz tk sz' tk' l=>hout sz tk sz' tk' s.heap.objs.size s.toks ls l
  generalize it' s.heap.objs.size s.toks ls=it'' at e1 e2 e3 e4 hb h0 ho0 hgg her' hog0
  have hS':=(List.take_append_drop kx it''.preS).symm
  generalize it''.preS.drop kx=S' at hS' e3
  generalize it''.preS.take kx=ex' at hS' e2
  rw[hgg] at e4
  generalize go0 C n pl ls c B p (Yj c) it.pre it.preS s.heap.objs.size s.toks hs [] s.gens=R at e1 e2 e3 e4 e5 ⊢
  obtain ⟨⟨kd,c₁,p₁,led₁,sz₁,tk₁,hs₁,pits₁,ob₁⟩,S₁,g₁⟩:=R
  dsimp only at e1 e2 e3 e4 e5 ⊢
  subst e4
  obtain ⟨rest,pm⟩:=fst?_perm e2
  have pm2:(led₁++S₁).Perm (it''.all++rest):=by
   rw[FItem.all,hS',←e3]
   exact Q2 pm
  cases kd with
  | done f=>cases e1
  | raise e'=>cases e1
  | pause _=>cases e1
  | fail _=>cases e1
  | pauseT c' =>
   have e:erC c'=it''.c:=Option.some.inj e1
   intro s' D
   have D2:Desc ⟨C.top,s.heap,it.all.map (·.1),γ s.gens,s.drawn,s.os⟩ (it''.all++rest) sz₁ tk₁ s':=Desc.perm D pm2
   exact Desc.ontoH (out:=it.out) D2 h0 (fun l=>ho0 _ _ _ _ l) (by rw[her'];exact e) rfl (by rw[←hb];exact hBB) hgg (fun l=>hog0 _ _ _ _ l _) k
end
end
section
open PySem PySem.Builtin PySem.W
noncomputable def pgf (P:Params)(F:Nat→Nat)(ra ga pa:Nat)(o:Option (Int × Nat)):Obj:=match o with
 | none=>frX ⟨#[en P "rows" (F 0) (.ref ra),en P "gaps" (F 1) (.ref ga),en P "pages" (F 2) (.ref pa)],3⟩ #[]
 | some x=>frX ⟨#[en P "rows" (F 0) (.ref ra),en P "gaps" (F 1) (.ref ga),en P "pages" (F 2) (.ref pa),en P "k" (F 3) (.int x.1 x.2)],4⟩ #[]
noncomputable def VE:Nat→Array GenState→Array GenState
 | 0=>fun g=>g
 | n+1=>fun g=>VE n (g.push .finished)
noncomputable def J4 (P:Params)(X:Fr)(E S:Led)(it ra ga:Nat)(xs:Array Value)(xn:Nat)(ys:Array Value)(yn:Nat)(O:(Nat→Nat)→FOut)(n:Nat)(k left:Int)(pa:Nat)(ps:Array Value)(pn co:Nat)(F:Nat→Nat)(o:Option (Int × Nat)):FItem where
 c:=Qk (sAt (Y0 P 794) 1) (.ref it) (ZG P 794 X.p)
 B:=nrm [.f (ZG P 794 X.p),.f (ZG P 823 X.w),.b "claim.caller"]
 pre:=[(it,riO k left (-1)),(X.p,pgf P F ra ga pa o),(ra,Z0 xs xn),(ga,Z0 ys yn),(pa,Z0 ps pn),(753,cdO (some co))]++E
 out:=fun _ _ l=>{ O l with g:=VE n }
 preS:=S
noncomputable def pgE (la:Nat)(ws:Array Value)(wn gt:Nat)(g:Str)(gtok gl:Nat):Led:=[(la,Z0 ws wn),(gt,Y5 [.str g gtok,.ref gl] 0)]
section
variable{b b2:Bool}{w:World}(hw:Wd b b2 w)(X:Fr)(S:Led)(it ra ga:Nat)(xs:Array Value)(xn:Nat)(ys:Array Value)(yn:Nat)
include b b2 w hw X S it ra ga xs xn ys yn
theorem Z0q(O:(Nat→Nat)→FOut)(n:Nat)(k left:Int)(pa:Nat)(ps:Array Value)(pn co:Nat)(F:Nat→Nat)(la:Nat)(ws:Array Value)(wn gt:Nat)(gs:Str)(gtok gl:Nat)(z zg zz p0:Str)(pt:Nat)(b1 c1 b3 c3:Bool)
  (hleft:0<left)(hra:Y6 xs k (.ref la))(hga:Y6 ys k (.ref gt))(hp:Y6 ps 0 (.str p0 pt))(hj:OK w (VO w.params X true la ws wn (some co) z))(h1:z++gs=zg)(hb1:(z.length==0)=b1)(hc1:(gs.length==0)=c1)(h1l:zg.length≤sizeLine)(h3:zg++p0=zz)(hb3:(zg.length==0)=b3)(hc3:(p0.length==0)=c3)(h3l:zz.length≤sizeLine)(hps:1+ps.size≤sizeLine)
  (next:∀ pa' pt' co' F' u,OK w (J4 w.params X (pgE la ws wn gt gs gtok gl) S it ra ga xs xn ys yn O n (k+-1) (left-1) pa' (#[Value.str zz pt']++ps) 0 co' F' (some (k,u)))) :
  OK w (J4 w.params X (pgE la ws wn gt gs gtok gl) S it ra ga xs xn ys yn O (n+1) k left pa ps pn co F none):=by
 refine Jb hw.w0 _ (fun g=>g.push PySem.GenState.finished) (fun sz tk ls=>(fun l0 l1 l2=>J4 w.params X (pgE la ws wn gt gs gtok gl) S it ra ga xs xn ys yn O n (k+-1) (left-1) (l1 0+1) (#[Value.str zz (sel b3 (YI [Value.str zg (sel b1 (YI [Value.str z (l1 2),Value.str gs gtok] 1) (sel c1 (YI [Value.str z (l1 2),Value.str gs gtok] 0) (l1 1+1))),Value.str p0 pt] 1) (sel c3 (YI [Value.str zg (sel b1 (YI [Value.str z (l1 2),Value.str gs gtok] 1) (sel c1 (YI [Value.str z (l1 2),Value.str gs gtok] 0) (l1 1+1))),Value.str p0 pt] 0) (l1 1+1+Bool.rec ((fun _=>sel c1 0 1) ()) ((fun _=>0) ()) b1+1)))]++ps) 0 (l1 3) (fl [F 0,F 1,F 2,tk+1]) (some (k,tk))) (ls 0) (ls 1) (ls 2)) (fun _ _ _ _ _ _ _ _=>⟨rfl,rfl,rfl,rfl⟩) (fun _ _ _ _ _ _ _ _ _=>rfl) (fun _ _ _=>rfl) (fun _ _ _ _=>rfl) (fun c B p sz tk g he=>?_) (fun sz tk ls=>next _ _ _ _ _)
 change _=_ at he
 delta J4 at he
 dsimp only at he
 replace he:=Zd he
 subst he
 refine ⟨130,.item [] ((Zw it k left (-1) (k+-1) (left-1)).fr S) (fun l0=>.item [Ze ra xs xn k (Value.ref la)] ((VO w.params X true la ws wn (some co) z).fr S) (fun l1=>.item [Ze ga ys yn k (Value.ref gt),QF z gs zg b1 c1,Ze pa ps pn 0 (Value.str p0 pt),QF zg p0 zz b3 c3] ((VV (l1 0) pa #[Value.str zz (sel b3 (YI [Value.str zg (sel b1 (YI [Value.str z (l1 2),Value.str gs gtok] 1) (sel c1 (YI [Value.str z (l1 2),Value.str gs gtok] 0) (l1 1+1))),Value.str p0 pt] 1) (sel c3 (YI [Value.str zg (sel b1 (YI [Value.str z (l1 2),Value.str gs gtok] 1) (sel c1 (YI [Value.str z (l1 2),Value.str gs gtok] 0) (l1 1+1))),Value.str p0 pt] 0) (l1 1+1+Bool.rec ((fun _=>sel c1 0 1) ()) ((fun _=>0) ()) b1+1)))] ps 0 pn).fr S) (fun l2=>.fin []))),(dg 50 0x676001815161777412832f82888516664456002133322012001),[5,5,5,5,0,3,2,2],0,?_,fun ls=>?_⟩
 ·exact ⟨(fun x hx=>(nomatch hx)),(Zp hleft rfl rfl).fr S,fun l0=>⟨(AllV.all ⟨Z7 hra,trivial⟩),hj.fr S,fun l1=>⟨(AllV.all ⟨Z7 hga,YV h1 hb1 hc1 h1l,Z7 hp,YV h3 hb3 hc3 h3l,trivial⟩),(QA (by exact hps)).fr S,fun l2=>(fun x hx=>(nomatch hx))⟩⟩⟩
 ·kernel_rfl
theorem Z25(k left:Int)(pa:Nat)(ps:Array Value)(pn co:Nat)(F:Nat→Nat)(hleft:left≤0) :
  OK w (J4 w.params X [] S it ra ga xs xn ys yn (fun l=>⟨.ok .next,[(X.p,pgf w.params F ra ga pa none),(ra,Z0 xs xn),(ga,Z0 ys yn),(pa,Z0 ps pn),(753,cdO (some co))],l 0,l 1,id,S⟩) 0 k left pa ps pn co F none):=by
 refine Z1 hw.w0 _ fun c B p sz tk g he=>?_
 change _=_ at he
 delta J4 at he
 dsimp only at he
 replace he:=Zd he
 subst he
 refine ⟨56,.item [] ((K3 it k left (-1)).fr S) (fun l0=>.fin []),[1,0,0,1,1],[3,3,3,3,3],0,fun ls=>(fun l0=>fl [sz+2,tk]) (ls 0),?_,fun ls=>?_⟩
 ·exact ⟨(fun x hx=>(nomatch hx)),(Jl hleft).fr S,fun l0=>(fun x hx=>(nomatch hx))⟩
 ·kernel_rfl
theorem Z0p(O:(Nat→Nat)→FOut)(n:Nat)(k left:Int)(pa:Nat)(ps:Array Value)(pn co:Nat)(F:Nat→Nat)(k0:Int)(u0:Nat)(la:Nat)(ws:Array Value)(wn gt:Nat)(gs:Str)(gtok gl:Nat)(z zg zz p0:Str)(pt:Nat)(b1 c1 b3 c3:Bool)
  (hleft:0<left)(hra:Y6 xs k (.ref la))(hga:Y6 ys k (.ref gt))(hp:Y6 ps 0 (.str p0 pt))(hj:OK w (VO w.params X true la ws wn (some co) z))(h1:z++gs=zg)(hb1:(z.length==0)=b1)(hc1:(gs.length==0)=c1)(h1l:zg.length≤sizeLine)(h3:zg++p0=zz)(hb3:(zg.length==0)=b3)(hc3:(p0.length==0)=c3)(h3l:zz.length≤sizeLine)(hps:1+ps.size≤sizeLine)
  (next:∀ pa' pt' co' F' u,OK w (J4 w.params X (pgE la ws wn gt gs gtok gl) S it ra ga xs xn ys yn O n (k+-1) (left-1) pa' (#[Value.str zz pt']++ps) 0 co' F' (some (k,u)))) :
  OK w (J4 w.params X (pgE la ws wn gt gs gtok gl) S it ra ga xs xn ys yn O (n+1) k left pa ps pn co F (some (k0,u0))):=by
 refine Jb hw.w0 _ (fun g=>g.push PySem.GenState.finished) (fun sz tk ls=>(fun l0 l1 l2=>J4 w.params X (pgE la ws wn gt gs gtok gl) S it ra ga xs xn ys yn O n (k+-1) (left-1) (l1 0+1) (#[Value.str zz (sel b3 (YI [Value.str zg (sel b1 (YI [Value.str z (l1 2),Value.str gs gtok] 1) (sel c1 (YI [Value.str z (l1 2),Value.str gs gtok] 0) (l1 1+1))),Value.str p0 pt] 1) (sel c3 (YI [Value.str zg (sel b1 (YI [Value.str z (l1 2),Value.str gs gtok] 1) (sel c1 (YI [Value.str z (l1 2),Value.str gs gtok] 0) (l1 1+1))),Value.str p0 pt] 0) (l1 1+1+Bool.rec ((fun _=>sel c1 0 1) ()) ((fun _=>0) ()) b1+1)))]++ps) 0 (l1 3) (fl [F 0,F 1,F 2,F 3]) (some (k,tk))) (ls 0) (ls 1) (ls 2)) (fun _ _ _ _ _ _ _ _=>⟨rfl,rfl,rfl,rfl⟩) (fun _ _ _ _ _ _ _ _ _=>rfl) (fun _ _ _=>rfl) (fun _ _ _ _=>rfl) (fun c B p sz tk g he=>?_) (fun sz tk ls=>next _ _ _ _ _)
 change _=_ at he
 delta J4 at he
 dsimp only at he
 replace he:=Zd he
 subst he
 refine ⟨130,.item [] ((Zw it k left (-1) (k+-1) (left-1)).fr S) (fun l0=>.item [Ze ra xs xn k (Value.ref la)] ((VO w.params X true la ws wn (some co) z).fr S) (fun l1=>.item [Ze ga ys yn k (Value.ref gt),QF z gs zg b1 c1,Ze pa ps pn 0 (Value.str p0 pt),QF zg p0 zz b3 c3] ((VV (l1 0) pa #[Value.str zz (sel b3 (YI [Value.str zg (sel b1 (YI [Value.str z (l1 2),Value.str gs gtok] 1) (sel c1 (YI [Value.str z (l1 2),Value.str gs gtok] 0) (l1 1+1))),Value.str p0 pt] 1) (sel c3 (YI [Value.str zg (sel b1 (YI [Value.str z (l1 2),Value.str gs gtok] 1) (sel c1 (YI [Value.str z (l1 2),Value.str gs gtok] 0) (l1 1+1))),Value.str p0 pt] 0) (l1 1+1+Bool.rec ((fun _=>sel c1 0 1) ()) ((fun _=>0) ()) b1+1)))] ps 0 pn).fr S) (fun l2=>.fin []))),(dg 50 0x676001815161777412832f82888516664456002133322012001),[5,5,5,5,0,3,2,2],0,?_,fun ls=>?_⟩
 ·exact ⟨(fun x hx=>(nomatch hx)),(Zp hleft rfl rfl).fr S,fun l0=>⟨(AllV.all ⟨Z7 hra,trivial⟩),hj.fr S,fun l1=>⟨(AllV.all ⟨Z7 hga,YV h1 hb1 hc1 h1l,Z7 hp,YV h3 hb3 hc3 h3l,trivial⟩),(QA (by exact hps)).fr S,fun l2=>(fun x hx=>(nomatch hx))⟩⟩⟩
 ·kernel_rfl
theorem Z24(k left:Int)(pa:Nat)(ps:Array Value)(pn co:Nat)(F:Nat→Nat)(k0:Int)(u0:Nat)(hleft:left≤0) :
  OK w (J4 w.params X [] S it ra ga xs xn ys yn (fun l=>⟨.ok .next,[(X.p,pgf w.params F ra ga pa (some (k0,u0))),(ra,Z0 xs xn),(ga,Z0 ys yn),(pa,Z0 ps pn),(753,cdO (some co))],l 0,l 1,id,S⟩) 0 k left pa ps pn co F (some (k0,u0))):=by
 refine Z1 hw.w0 _ fun c B p sz tk g he=>?_
 change _=_ at he
 delta J4 at he
 dsimp only at he
 replace he:=Zd he
 subst he
 refine ⟨56,.item [] ((K3 it k left (-1)).fr S) (fun l0=>.fin []),[1,0,0,1,1],[3,3,3,3,3],0,fun ls=>(fun l0=>fl [sz+2,tk]) (ls 0),?_,fun ls=>?_⟩
 ·exact ⟨(fun x hx=>(nomatch hx)),(Jl hleft).fr S,fun l0=>(fun x hx=>(nomatch hx))⟩
 ·kernel_rfl
end
end
section
open PySem PySem.Builtin PySem.Builtin.Str PySem.W
noncomputable def OBL (P:Params)(la acc L:Nat)(ws:Array Value)(wn:Nat)(z:Str)(xs:Array Value)(rs:List Str):(Nat→Nat)→FOut:=fun l =>
 ⟨.ok .next,[(la,Z0 ws wn),(acc,Z0 (xs++svA rs (fun i=>l (i+20))) (l 2)),(L,VT P (l 3) (some (z,l 4)))],l 0,l 1,id,[]⟩
noncomputable def Qb (P:Params)(Lf it la acc L:Nat)(ws:Array Value)(wn:Nat)(z:Str)(rs:List Str):FItem:={ KK P Lf it la acc L ws wn (OBL P la acc L ws wn z #[] rs) 0 #[] 0 0 none with c:=.compStart (bE P) 0 (.ref it) (.ref acc) (bEnv P Lf L) }
noncomputable def dfr (P:Params)(F:Nat→Nat)(ra ga pa rd:Nat)(o:Option (Int × Nat × Nat)):Obj:=match o with
 | none=>frX ⟨#[en P "rows" (F 0) (.ref ra),en P "gaps" (F 1) (.ref ga),en P "pages" (F 2) (.ref pa),en P "read" (F 3) (.ref rd)],4⟩ #[]
 | some x=>frX ⟨#[en P "rows" (F 0) (.ref ra),en P "gaps" (F 1) (.ref ga),en P "pages" (F 2) (.ref pa),en P "read" (F 3) (.ref rd),en P "k" (F 4) (.int x.1 x.2.1),en P "broken" (F 5) (.ref x.2.2)],6⟩ #[]
noncomputable def YP (P:Params)(X:Fr)(E S:Led)(it ra ga pa rd:Nat)(xs:Array Value)(xn:Nat)(ys:Array Value)(yn:Nat)(ps:Array Value)(pn:Nat)(O:(Nat→Nat)→FOut)(k:Nat)(left:Int)(rs:Array Value)(rn:Nat)(F:Nat→Nat)(o:Option (Int × Nat × Nat)):FItem where
 c:=Qk (sAt (Y0 P 818) 1) (.ref it) (ZG P 818 X.p)
 B:=nrm [.f (ZG P 818 X.p),.f (ZG P 823 X.w),.b "claim.caller"]
 pre:=[(it,riO (Int.ofNat k) left 1),(X.p,dfr P F ra ga pa rd o),(ra,Z0 xs xn),(ga,Z0 ys yn),(pa,Z0 ps pn),(rd,Z0 rs rn)]++E
 out:=fun _ _ l=>O l
 preS:=S
noncomputable def JI (P:Params)(X:Fr)(E S:Led)(it ra ga pa rd:Nat)(xs:Array Value)(xn:Nat)(ys:Array Value)(yn:Nat)(ps:Array Value)(pn:Nat)(O:(Nat→Nat)→FOut)(k:Nat)(left:Int)(rs:Array Value)(la:Nat)(r:Str)(F:Nat→Nat)(ta tt rn u ba:Nat):FItem :=
 YP P X E ((ta,Y5 [.ref la,.str r tt] 0)::S) it ra ga pa rd xs xn ys yn ps pn O (k+1) (left-1) (rs.push (.ref ta)) rn F (some (Int.ofNat k,u,ba))
noncomputable def dE (la:Nat)(ws:Array Value)(wn gt:Nat)(g:Str)(gtok gl:Nat):Led:=[(la,Z0 ws wn),(gt,Y5 [.str g gtok,.ref gl] 0)]
noncomputable def ODt (S:Led)(rd:Nat)(rs:Array Value)(rn:Nat)(q0 q2:Str):(Nat→Nat)→FOut:=fun l =>
 ⟨.ok (.ret (.ref (l 2))),[(l 2,Y5 [.ref rd,.str q0 (l 3),.str q2 (l 4),.str (Str.ofString "No closing quotation") (l 5)] 0),(rd,Z0 rs rn)],l 0,l 1,id,S⟩
theorem Z2O {b b2:Bool}{w:World}(hw:Wd b b2 w)(X:Fr)(S:Led)(it ra ga pa rd:Nat)(xs:Array Value)(xn:Nat)(ys:Array Value)(yn:Nat)(ps:Array Value)(pn:Nat)(k:Nat)(left:Int)(rs:Array Value)(rn:Nat)(F:Nat→Nat)(la:Nat)(ws:Array Value)(wn:Nat)(z:Str)(n:Nat)(hleft:0<left)(hra:Y6 xs (Int.ofNat k) (.ref la))(hlen:ys.size=n)(hn:n<2 ^ 62)(O:(Nat→Nat)→FOut)(hb:∀ it acc L,OK w (Qb w.params X.p it la acc L ws wn z []))(hk:k=n)(hs:rs.size<sizeLine)
  (next:∀ F ta tt rn u ba,OK w (JI w.params X [(la,Z0 ws wn)] S it ra ga pa rd xs xn ys yn ps pn O k left rs la (mkS []) F ta tt rn u ba)):OK w (YP w.params X [(la,Z0 ws wn)] S it ra ga pa rd xs xn ys yn ps pn O k left rs rn F none):=by
 refine Z2 hw.w0 _ (fun sz tk ls=>(fun l0 l1 l2=>JI w.params X [(la,Z0 ws wn)] S it ra ga pa rd xs xn ys yn ps pn O k left rs la (mkS []) (fl [F 0,F 1,F 2,F 3,tk+1,l1 1]) (l1 0+1) (l1 1+3) (rn+1) tk (sz+1)) (ls 0) (ls 1) (ls 2)) (fun _ _ _ _ _ _ _ _=>rfl) (fun _ _ _=>rfl) (fun _ _ _=>rfl) (fun c B p sz tk g he=>?_) (fun sz tk ls=>next _ _ _ _ _ _)
 change _=_ at he
 delta YP at he
 dsimp only at he
 replace he:=Zd he
 subst he
 refine ⟨159,.item [] ((Zw it (Int.ofNat k) left 1 (Int.ofNat k+1) (left-1)).fr S) (fun l0=>.item [Ze ra xs xn (Int.ofNat k) (Value.ref la)] ((Qb w.params X.p sz la (sz+1) (sz+2) ws wn z []).fr S) (fun l1=>.item [Zu ga ys yn n,Z13 (Int.ofNat k) (Int.ofNat n) true,Ze ra xs xn (Int.ofNat k) (Value.ref la)] ((Q7 rd rs rn (l1 0+1)).fr S) (fun l2=>.fin []))),(dg 65 0xa06177766aaaa61716006131354f13137f323135233450182012bf7277213332212001),[6,6,6,6,6,0,2,0],1,?_,fun ls=>?_⟩
 ·exact ⟨(fun x hx=>(nomatch hx)),(Zp hleft rfl rfl).fr S,fun l0=>⟨(AllV.all ⟨Z7 hra,trivial⟩),(hb _ _ _).fr S,fun l1=>⟨(AllV.all ⟨Zn hlen hn,Vd (by rw[hk];exact beq_self_eq_true _),Z7 hra,trivial⟩),(YK hs).fr S,fun l2=>(fun x hx=>(nomatch hx))⟩⟩⟩
 ·cases b <;> kernel_rfl
theorem d_gap0 {b b2:Bool}{w:World}(hw:Wd b b2 w)(X:Fr)(S:Led)(it ra ga pa rd:Nat)(xs:Array Value)(xn:Nat)(ys:Array Value)(yn:Nat)(ps:Array Value)(pn:Nat)(k:Nat)(left:Int)(rs:Array Value)(rn:Nat)(F:Nat→Nat)(la:Nat)(ws:Array Value)(wn:Nat)(z:Str)(n:Nat)(hleft:0<left)(hra:Y6 xs (Int.ofNat k) (.ref la))(hlen:ys.size=n)(hn:n<2 ^ 62)(gt:Nat)(gs:Str)(gtok gl:Nat)(O:(Nat→Nat)→FOut)(p0 p1 p2 pg zz:Str)(pt:Nat)(b1 c1:Bool)(hb:∀ it acc L,OK w (Qb w.params X.p it la acc L ws wn z []))(hk:k<n)(hs:rs.size<sizeLine)(hga:Y6 ys (Int.ofNat k) (.ref gt))(hg:eqS gs (mkS [10])=false)(hsp:OK w (Y7 gs [p0,p1,p2]))(hpa:Y6 ps (Int.ofNat (k+1)) (.str pg pt))(hz:p2++pg=zz)(hb1:(p2.length==0)=b1)(hc1:(pg.length==0)=c1)(hzl:zz.length≤sizeLine)
  (next:∀ F ta tt rn u ba,OK w (JI w.params X (dE la ws wn gt gs gtok gl) S it ra ga pa rd xs xn ys yn ps pn O k left rs la zz F ta tt rn u ba)):OK w (YP w.params X (dE la ws wn gt gs gtok gl) S it ra ga pa rd xs xn ys yn ps pn O k left rs rn F none):=by
 refine Z2 hw.w0 _ (fun sz tk ls=>(fun l0 l1 l2 l3=>JI w.params X (dE la ws wn gt gs gtok gl) S it ra ga pa rd xs xn ys yn ps pn O k left rs la zz (fl [F 0,F 1,F 2,F 3,tk+1,l1 1]) (l1 0+3) (sel b1 (YI [Value.str p2 (l2 (0+1+1+20)),Value.str pg pt] 1) (sel c1 (YI [Value.str p2 (l2 (0+1+1+20)),Value.str pg pt] 0) (l2 0+3))) (rn+1) tk (sz+1)) (ls 0) (ls 1) (ls 2) (ls 3)) (fun _ _ _ _ _ _ _ _=>rfl) (fun _ _ _=>rfl) (fun _ _ _=>rfl) (fun c B p sz tk g he=>?_) (fun sz tk ls=>next _ _ _ _ _ _)
 change _=_ at he
 delta YP at he
 dsimp only at he
 replace he:=Zd he
 subst he
 refine ⟨262,.item [] ((Zw it (Int.ofNat k) left 1 (Int.ofNat k+1) (left-1)).fr S) (fun l0=>.item [Ze ra xs xn (Int.ofNat k) (Value.ref la)] ((Qb w.params X.p sz la (sz+1) (sz+2) ws wn z []).fr S) (fun l1=>.item [Zu ga ys yn n,Z13 (Int.ofNat k) (Int.ofNat n) false,Ze ga ys yn (Int.ofNat k) (Value.ref gt),Jy gs (mkS [10]) true,Ze ra xs xn (Int.ofNat k) (Value.ref la),Ze ga ys yn (Int.ofNat k) (Value.ref gt)] ((Y7 gs [p0,p1,p2]).fr S) (fun l2=>.item [YX (Int.ofNat k) 1 (Int.ofNat (k+1)),Ze pa ps pn (Int.ofNat (k+1)) (Value.str pg pt),QF p2 pg zz b1 c1] ((Q7 rd rs rn (l1 0+3)).fr S) (fun l3=>.fin [])))),(dg 129 0xc01a1bbb1882161211102c32fc2ccc81999777188877bbbb712c32fc2ccc8199977141454f14137f4241461716006131354f13137f323135233450182012bf7277213332212001),[8,8,8,8,8,0,4,6,0],1,?_,fun ls=>?_⟩
 ·exact ⟨(fun x hx=>(nomatch hx)),(Zp hleft rfl rfl).fr S,fun l0=>⟨(AllV.all ⟨Z7 hra,trivial⟩),(hb _ _ _).fr S,fun l1=>⟨(AllV.all ⟨Zn hlen hn,Vd (beq_eq_false_iff_ne.mpr (by simp only[Int.ofNat_eq_natCast];omega)),Z7 hga,QY (by rw[hg];rfl),Z7 hra,Z7 hga,trivial⟩),hsp.fr S,fun l2=>⟨(AllV.all ⟨Ym rfl,Z7 hpa,YV hz hb1 hc1 hzl,trivial⟩),(YK hs).fr S,fun l3=>(fun x hx=>(nomatch hx))⟩⟩⟩⟩
 ·cases b <;> kernel_rfl
theorem Z2M {b b2:Bool}{w:World}(hw:Wd b b2 w)(X:Fr)(S:Led)(it ra ga pa rd:Nat)(xs:Array Value)(xn:Nat)(ys:Array Value)(yn:Nat)(ps:Array Value)(pn:Nat)(k:Nat)(left:Int)(rs:Array Value)(rn:Nat)(F:Nat→Nat)(la:Nat)(ws:Array Value)(wn:Nat)(z:Str)(n:Nat)(hleft:0<left)(hra:Y6 xs (Int.ofNat k) (.ref la))(hlen:ys.size=n)(hn:n<2 ^ 62)(bw:Str)(brs:List Str)(r0 r1 r2:Str)(rr:List Str)(q0 q1 q2 pg:Str)(pt:Nat)(hb:∀ it acc L,OK w (Qb w.params X.p it la acc L ws wn z (bw::brs)))(hsp:OK w (Zv bw (r0::r1::r2::rr)))(hrl:(r0::r1::r2::rr).length<2 ^ 62)(hwh:OK w (Jp w.params X r1 true))(hpa:Y6 ps (Int.ofNat k) (.str pg pt))(hsp2:OK w (Y7 pg [q0,q1,q2])):OK w (YP w.params X [(la,Z0 ws wn)] S it ra ga pa rd xs xn ys yn ps pn (ODt S rd rs rn q0 q2) k left rs rn F none):=by
 refine Z1 hw.w0 _ fun c B p sz tk g he=>?_
 change _=_ at he
 delta YP at he
 dsimp only at he
 replace he:=Zd he
 subst he
 refine ⟨240,.item [] ((Zw it (Int.ofNat k) left 1 (Int.ofNat k+1) (left-1)).fr S) (fun l0=>.item [Ze ra xs xn (Int.ofNat k) (Value.ref la)] ((Qb w.params X.p sz la (sz+1) (sz+2) ws wn z (bw::brs)).fr S) (fun l1=>.item [Yq (sz+1) (l1 0) (#[]++svA (bw::brs) fun i=>l1 (i+20)) #[] (l1 2) 0,Yq (sz+1) (l1 0+1) (#[]++svA (bw::brs) fun i=>l1 (i+20)) #[] (l1 2) 0,QO (sz+1) (l1 0+2) (#[]++svA (bw::brs) fun i=>l1 (i+20)) #[] (l1 2) 0,Ze (sz+1) (#[]++svA (bw::brs) fun i=>l1 (i+20)) (l1 2) 0 (Value.str bw (l1 20))] ((Zv bw (r0::r1::r2::rr)).fr S) (fun l2=>.item [Zu (l1 0+3) (svA (r0::r1::r2::rr) fun i=>l2 (i+20)) 0 (r0::r1::r2::rr).length,NA (Int.ofNat (r0::r1::r2::rr).length) 2 true,Ze (l1 0+3) (svA (r0::r1::r2::rr) fun i=>l2 (i+20)) 0 1 (Value.str r1 (l2 21))] ((Jp w.params X r1 true).fr S) (fun l3=>.item [Ze pa ps pn (Int.ofNat k) (Value.str pg pt)] ((Y7 pg [q0,q1,q2]).fr S) (fun l4=>.fin []))))),(dg 100 0x1612111a1612111aa9a0b1ccc99000111190101900890415558041515703141460213135233450182012bf7277213332212001),[0,13],0,fun ls=>(fun l0 l1 l2 l3 l4=>fl [l3 0+2,l4 0+4,l3 0+1,l4 (0+20),l4 (0+1+1+20),l4 0+3]) (ls 0) (ls 1) (ls 2) (ls 3) (ls 4),?_,fun ls=>?_⟩
 ·exact ⟨(fun x hx=>(nomatch hx)),(Zp hleft rfl rfl).fr S,fun l0=>⟨(AllV.all ⟨Z7 hra,trivial⟩),(hb _ _ _).fr S,fun l1=>⟨(AllV.all ⟨ZT (by rw[Array.size_append,Z6];simp),ZT (by rw[Array.size_append,Z6];simp),Q3 (by rw[Array.size_append,Z6];simp),Z7 (.inl ⟨0,rfl,by decide,by simp[svA,svL]⟩),trivial⟩),hsp.fr S,fun l2=>⟨(AllV.all ⟨Zn (Z6 _ _) hrl,JF (decide_eq_true (by simp only[Int.ofNat_eq_natCast,List.length_cons];omega)),Z7 (.inl ⟨1,rfl,by decide,by simp[svA,svL]⟩),trivial⟩),hwh.fr S,fun l3=>⟨(AllV.all ⟨Z7 hpa,trivial⟩),hsp2.fr S,fun l4=>(fun x hx=>(nomatch hx))⟩⟩⟩⟩⟩
 ·cases b <;> kernel_rfl
theorem Z2N {b b2:Bool}{w:World}(hw:Wd b b2 w)(X:Fr)(S:Led)(it ra ga pa rd:Nat)(xs:Array Value)(xn:Nat)(ys:Array Value)(yn:Nat)(ps:Array Value)(pn:Nat)(k:Nat)(left:Int)(rs:Array Value)(rn:Nat)(F:Nat→Nat)(k0:Int)(u0 b0:Nat)(la:Nat)(ws:Array Value)(wn:Nat)(z:Str)(n:Nat)(hleft:0<left)(hra:Y6 xs (Int.ofNat k) (.ref la))(hlen:ys.size=n)(hn:n<2 ^ 62)(O:(Nat→Nat)→FOut)(hb:∀ it acc L,OK w (Qb w.params X.p it la acc L ws wn z []))(hk:k=n)(hs:rs.size<sizeLine)
  (next:∀ F ta tt rn u ba,OK w (JI w.params X [(la,Z0 ws wn)] S it ra ga pa rd xs xn ys yn ps pn O k left rs la (mkS []) F ta tt rn u ba)):OK w (YP w.params X [(la,Z0 ws wn)] S it ra ga pa rd xs xn ys yn ps pn O k left rs rn F (some (k0,u0,b0))):=by
 refine Z2 hw.w0 _ (fun sz tk ls=>(fun l0 l1 l2=>JI w.params X [(la,Z0 ws wn)] S it ra ga pa rd xs xn ys yn ps pn O k left rs la (mkS []) (fl [F 0,F 1,F 2,F 3,F 4,F 5]) (l1 0+1) (l1 1+3) (rn+1) tk (sz+1)) (ls 0) (ls 1) (ls 2)) (fun _ _ _ _ _ _ _ _=>rfl) (fun _ _ _=>rfl) (fun _ _ _=>rfl) (fun c B p sz tk g he=>?_) (fun sz tk ls=>next _ _ _ _ _ _)
 change _=_ at he
 delta YP at he
 dsimp only at he
 replace he:=Zd he
 subst he
 refine ⟨159,.item [] ((Zw it (Int.ofNat k) left 1 (Int.ofNat k+1) (left-1)).fr S) (fun l0=>.item [Ze ra xs xn (Int.ofNat k) (Value.ref la)] ((Qb w.params X.p sz la (sz+1) (sz+2) ws wn z []).fr S) (fun l1=>.item [Zu ga ys yn n,Z13 (Int.ofNat k) (Int.ofNat n) true,Ze ra xs xn (Int.ofNat k) (Value.ref la)] ((Q7 rd rs rn (l1 0+1)).fr S) (fun l2=>.fin []))),(dg 65 0xa06177766aaaa61716006131354f13137f323135233450182012bf7277213332212001),[6,6,6,6,6,0,2,0],1,?_,fun ls=>?_⟩
 ·exact ⟨(fun x hx=>(nomatch hx)),(Zp hleft rfl rfl).fr S,fun l0=>⟨(AllV.all ⟨Z7 hra,trivial⟩),(hb _ _ _).fr S,fun l1=>⟨(AllV.all ⟨Zn hlen hn,Vd (by rw[hk];exact beq_self_eq_true _),Z7 hra,trivial⟩),(YK hs).fr S,fun l2=>(fun x hx=>(nomatch hx))⟩⟩⟩
 ·cases b <;> kernel_rfl
theorem d_gap1 {b b2:Bool}{w:World}(hw:Wd b b2 w)(X:Fr)(S:Led)(it ra ga pa rd:Nat)(xs:Array Value)(xn:Nat)(ys:Array Value)(yn:Nat)(ps:Array Value)(pn:Nat)(k:Nat)(left:Int)(rs:Array Value)(rn:Nat)(F:Nat→Nat)(k0:Int)(u0 b0:Nat)(la:Nat)(ws:Array Value)(wn:Nat)(z:Str)(n:Nat)(hleft:0<left)(hra:Y6 xs (Int.ofNat k) (.ref la))(hlen:ys.size=n)(hn:n<2 ^ 62)(gt:Nat)(gs:Str)(gtok gl:Nat)(O:(Nat→Nat)→FOut)(p0 p1 p2 pg zz:Str)(pt:Nat)(b1 c1:Bool)(hb:∀ it acc L,OK w (Qb w.params X.p it la acc L ws wn z []))(hk:k<n)(hs:rs.size<sizeLine)(hga:Y6 ys (Int.ofNat k) (.ref gt))(hg:eqS gs (mkS [10])=false)(hsp:OK w (Y7 gs [p0,p1,p2]))(hpa:Y6 ps (Int.ofNat (k+1)) (.str pg pt))(hz:p2++pg=zz)(hb1:(p2.length==0)=b1)(hc1:(pg.length==0)=c1)(hzl:zz.length≤sizeLine)
  (next:∀ F ta tt rn u ba,OK w (JI w.params X (dE la ws wn gt gs gtok gl) S it ra ga pa rd xs xn ys yn ps pn O k left rs la zz F ta tt rn u ba)):OK w (YP w.params X (dE la ws wn gt gs gtok gl) S it ra ga pa rd xs xn ys yn ps pn O k left rs rn F (some (k0,u0,b0))):=by
 refine Z2 hw.w0 _ (fun sz tk ls=>(fun l0 l1 l2 l3=>JI w.params X (dE la ws wn gt gs gtok gl) S it ra ga pa rd xs xn ys yn ps pn O k left rs la zz (fl [F 0,F 1,F 2,F 3,F 4,F 5]) (l1 0+3) (sel b1 (YI [Value.str p2 (l2 (0+1+1+20)),Value.str pg pt] 1) (sel c1 (YI [Value.str p2 (l2 (0+1+1+20)),Value.str pg pt] 0) (l2 0+3))) (rn+1) tk (sz+1)) (ls 0) (ls 1) (ls 2) (ls 3)) (fun _ _ _ _ _ _ _ _=>rfl) (fun _ _ _=>rfl) (fun _ _ _=>rfl) (fun c B p sz tk g he=>?_) (fun sz tk ls=>next _ _ _ _ _ _)
 change _=_ at he
 delta YP at he
 dsimp only at he
 replace he:=Zd he
 subst he
 refine ⟨262,.item [] ((Zw it (Int.ofNat k) left 1 (Int.ofNat k+1) (left-1)).fr S) (fun l0=>.item [Ze ra xs xn (Int.ofNat k) (Value.ref la)] ((Qb w.params X.p sz la (sz+1) (sz+2) ws wn z []).fr S) (fun l1=>.item [Zu ga ys yn n,Z13 (Int.ofNat k) (Int.ofNat n) false,Ze ga ys yn (Int.ofNat k) (Value.ref gt),Jy gs (mkS [10]) true,Ze ra xs xn (Int.ofNat k) (Value.ref la),Ze ga ys yn (Int.ofNat k) (Value.ref gt)] ((Y7 gs [p0,p1,p2]).fr S) (fun l2=>.item [YX (Int.ofNat k) 1 (Int.ofNat (k+1)),Ze pa ps pn (Int.ofNat (k+1)) (Value.str pg pt),QF p2 pg zz b1 c1] ((Q7 rd rs rn (l1 0+3)).fr S) (fun l3=>.fin [])))),(dg 129 0xc01a1bbb1882161211102c32fc2ccc81999777188877bbbb712c32fc2ccc8199977141454f14137f4241461716006131354f13137f323135233450182012bf7277213332212001),[8,8,8,8,8,0,4,6,0],1,?_,fun ls=>?_⟩
 ·exact ⟨(fun x hx=>(nomatch hx)),(Zp hleft rfl rfl).fr S,fun l0=>⟨(AllV.all ⟨Z7 hra,trivial⟩),(hb _ _ _).fr S,fun l1=>⟨(AllV.all ⟨Zn hlen hn,Vd (beq_eq_false_iff_ne.mpr (by simp only[Int.ofNat_eq_natCast];omega)),Z7 hga,QY (by rw[hg];rfl),Z7 hra,Z7 hga,trivial⟩),hsp.fr S,fun l2=>⟨(AllV.all ⟨Ym rfl,Z7 hpa,YV hz hb1 hc1 hzl,trivial⟩),(YK hs).fr S,fun l3=>(fun x hx=>(nomatch hx))⟩⟩⟩⟩
 ·cases b <;> kernel_rfl
theorem Z2L {b b2:Bool}{w:World}(hw:Wd b b2 w)(X:Fr)(S:Led)(it ra ga pa rd:Nat)(xs:Array Value)(xn:Nat)(ys:Array Value)(yn:Nat)(ps:Array Value)(pn:Nat)(k:Nat)(left:Int)(rs:Array Value)(rn:Nat)(F:Nat→Nat)(k0:Int)(u0 b0:Nat)(la:Nat)(ws:Array Value)(wn:Nat)(z:Str)(n:Nat)(hleft:0<left)(hra:Y6 xs (Int.ofNat k) (.ref la))(hlen:ys.size=n)(hn:n<2 ^ 62)(bw:Str)(brs:List Str)(r0 r1 r2:Str)(rr:List Str)(q0 q1 q2 pg:Str)(pt:Nat)(hb:∀ it acc L,OK w (Qb w.params X.p it la acc L ws wn z (bw::brs)))(hsp:OK w (Zv bw (r0::r1::r2::rr)))(hrl:(r0::r1::r2::rr).length<2 ^ 62)(hwh:OK w (Jp w.params X r1 true))(hpa:Y6 ps (Int.ofNat k) (.str pg pt))(hsp2:OK w (Y7 pg [q0,q1,q2])):OK w (YP w.params X [(la,Z0 ws wn)] S it ra ga pa rd xs xn ys yn ps pn (ODt S rd rs rn q0 q2) k left rs rn F (some (k0,u0,b0))):=by
 refine Z1 hw.w0 _ fun c B p sz tk g he=>?_
 change _=_ at he
 delta YP at he
 dsimp only at he
 replace he:=Zd he
 subst he
 refine ⟨240,.item [] ((Zw it (Int.ofNat k) left 1 (Int.ofNat k+1) (left-1)).fr S) (fun l0=>.item [Ze ra xs xn (Int.ofNat k) (Value.ref la)] ((Qb w.params X.p sz la (sz+1) (sz+2) ws wn z (bw::brs)).fr S) (fun l1=>.item [Yq (sz+1) (l1 0) (#[]++svA (bw::brs) fun i=>l1 (i+20)) #[] (l1 2) 0,Yq (sz+1) (l1 0+1) (#[]++svA (bw::brs) fun i=>l1 (i+20)) #[] (l1 2) 0,QO (sz+1) (l1 0+2) (#[]++svA (bw::brs) fun i=>l1 (i+20)) #[] (l1 2) 0,Ze (sz+1) (#[]++svA (bw::brs) fun i=>l1 (i+20)) (l1 2) 0 (Value.str bw (l1 20))] ((Zv bw (r0::r1::r2::rr)).fr S) (fun l2=>.item [Zu (l1 0+3) (svA (r0::r1::r2::rr) fun i=>l2 (i+20)) 0 (r0::r1::r2::rr).length,NA (Int.ofNat (r0::r1::r2::rr).length) 2 true,Ze (l1 0+3) (svA (r0::r1::r2::rr) fun i=>l2 (i+20)) 0 1 (Value.str r1 (l2 21))] ((Jp w.params X r1 true).fr S) (fun l3=>.item [Ze pa ps pn (Int.ofNat k) (Value.str pg pt)] ((Y7 pg [q0,q1,q2]).fr S) (fun l4=>.fin []))))),(dg 100 0x1612111a1612111aa9a0b1ccc99000111190101900890415558041515703141460213135233450182012bf7277213332212001),[0,13],0,fun ls=>(fun l0 l1 l2 l3 l4=>fl [l3 0+2,l4 0+4,l3 0+1,l4 (0+20),l4 (0+1+1+20),l4 0+3]) (ls 0) (ls 1) (ls 2) (ls 3) (ls 4),?_,fun ls=>?_⟩
 ·exact ⟨(fun x hx=>(nomatch hx)),(Zp hleft rfl rfl).fr S,fun l0=>⟨(AllV.all ⟨Z7 hra,trivial⟩),(hb _ _ _).fr S,fun l1=>⟨(AllV.all ⟨ZT (by rw[Array.size_append,Z6];simp),ZT (by rw[Array.size_append,Z6];simp),Q3 (by rw[Array.size_append,Z6];simp),Z7 (.inl ⟨0,rfl,by decide,by simp[svA,svL]⟩),trivial⟩),hsp.fr S,fun l2=>⟨(AllV.all ⟨Zn (Z6 _ _) hrl,JF (decide_eq_true (by simp only[Int.ofNat_eq_natCast,List.length_cons];omega)),Z7 (.inl ⟨1,rfl,by decide,by simp[svA,svL]⟩),trivial⟩),hwh.fr S,fun l3=>⟨(AllV.all ⟨Z7 hpa,trivial⟩),hsp2.fr S,fun l4=>(fun x hx=>(nomatch hx))⟩⟩⟩⟩⟩
 ·cases b <;> kernel_rfl
theorem d_end1{b b2:Bool}{w:World}(hw:Wd b b2 w)(X:Fr)(S:Led)(it ra ga pa rd:Nat)(xs:Array Value)(xn:Nat)(ys:Array Value)(yn:Nat)(ps:Array Value)(pn:Nat)(k:Nat)(left:Int)(rs:Array Value)(rn:Nat)(F:Nat→Nat)(k0:Int)(u0 b0:Nat)(hleft:left≤0):OK w (YP w.params X [] S it ra ga pa rd xs xn ys yn ps pn (fun l=>⟨.ok .next,[(X.p,dfr w.params F ra ga pa rd (some (k0,u0,b0))),(rd,Z0 rs rn)],l 0,l 1,id,S⟩) k left rs rn F (some (k0,u0,b0))):=by
 refine Z1 hw.w0 _ fun c B p sz tk g he=>?_
 change _=_ at he
 delta YP at he
 dsimp only at he
 replace he:=Zd he
 subst he
 refine ⟨56,.item [] ((K3 it (Int.ofNat k) left 1).fr S) (fun l0=>.fin []),[1,0,0,1,1],[3,6],0,fun ls=>(fun l0=>fl [sz+2,tk]) (ls 0),?_,fun ls=>?_⟩
 ·exact ⟨(fun x hx=>(nomatch hx)),(Jl hleft).fr S,fun l0=>(fun x hx=>(nomatch hx))⟩
 ·kernel_rfl
end
section
open PySem PySem.Builtin PySem.W
section
set_option backward.match.sparseCases false
noncomputable def elsOf (s:Stmt):List Stmt:=match s with
 | .If _ _ e _=>e
 | _=>[]
noncomputable def Z2Q (s:Stmt):List Stmt:=match s with
 | .For _ _ b _ _=>b
 | _=>[]
noncomputable def inFor (P:Params):Stmt:=sAt (elsOf (sAt (elsOf (sAt (Z2Q (sAt (Y0 P 818) 1)) 1)) 0)) 3
noncomputable def ifr (P:Params)(F:Nat→Nat)(ra ga pa rd:Nat)(k:Int)(kt ba qa wa:Nat)(o:Option (Int × Nat)):Obj:=match o with
 | none=>frX ⟨#[en P "rows" (F 0) (.ref ra),en P "gaps" (F 1) (.ref ga),en P "pages" (F 2) (.ref pa),en P "read" (F 3) (.ref rd),en P "k" (F 4) (.int k kt),en P "broken" (F 5) (.ref ba),en P "pieces" (F 6) (.ref qa),en P "words" (F 7) (.ref wa)],8⟩ #[]
 | some x=>frX ⟨#[en P "rows" (F 0) (.ref ra),en P "gaps" (F 1) (.ref ga),en P "pages" (F 2) (.ref pa),en P "read" (F 3) (.ref rd),en P "k" (F 4) (.int k kt),en P "broken" (F 5) (.ref ba),en P "pieces" (F 6) (.ref qa),en P "words" (F 7) (.ref wa),en P "j" (F 8) (.int x.1 x.2)],9⟩ #[]
noncomputable def Ky (P:Params)(X:Fr)(E S:Led)(it ra ga pa rd:Nat)(xs:Array Value)(xn:Nat)(ys:Array Value)(yn:Nat)(ps:Array Value)(pn:Nat)(rs:Array Value)(rn:Nat)(k:Int)(kt ba qa:Nat)(O:(Nat→Nat)→FOut)(j:Nat)(left:Int)(wa:Nat)(ws:Array Value)(wn:Nat)(F:Nat→Nat)(o:Option (Int × Nat)):FItem where
 c:=Qk (inFor P) (.ref it) (ZG P 818 X.p)
 B:=fun B=>B
 pre:=[(it,riO (Int.ofNat j) left 1),(X.p,ifr P F ra ga pa rd k kt ba qa wa o),(ra,Z0 xs xn),(ga,Z0 ys yn),(pa,Z0 ps pn),(rd,Z0 rs rn),(wa,Z0 ws wn)]++E
 out:=fun _ _ l=>O l
 preS:=S
noncomputable def iE (gt:Nat)(g:Str)(gtok gl:Nat)(gs:Array Value)(gn lr:Nat)(vs:Array Value)(vn:Nat):Led:=[(gt,Y5 [.str g gtok,.ref gl] 0),(gl,Z0 gs gn),(lr,Z0 vs vn)]
section
variable{b b2:Bool}{w:World}(hw:Wd b b2 w)(X:Fr)(S:Led)(it ra ga pa rd:Nat)(xs:Array Value)(xn:Nat)(ys:Array Value)(yn:Nat)(ps:Array Value)(pn:Nat)(rs:Array Value)(rn:Nat)(k:Int)(kt ba qa:Nat)
include b b2 w hw X S it ra ga pa rd xs xn ys yn ps pn rs rn k kt ba qa
theorem Z0Y(O:(Nat→Nat)→FOut)(j:Nat)(left:Int)(wa:Nat)(ws:Array Value)(wn:Nat)(F:Nat→Nat)(gt:Nat)(gx:Str)(gtok gl:Nat)(gs:Array Value)(gn lr:Nat)(vs:Array Value)(vn:Nat)(hleft:0<left)(hga:Y6 ys (Int.ofNat j) (.ref gt))(hra:Y6 xs (Int.ofNat (j+1)) (.ref lr))(h1:ws.size+gs.size≤sizeLine)(h2:(ws++gs).size+vs.size≤sizeLine)
  (next:∀ wa' wn' F u,OK w (Ky w.params X (iE gt gx gtok gl gs gn lr vs vn) S it ra ga pa rd xs xn ys yn ps pn rs rn k kt ba qa O (j+1) (left-1) wa' (ws++gs++vs) wn' F (some (Int.ofNat j,u)))):OK w (Ky w.params X (iE gt gx gtok gl gs gn lr vs vn) S it ra ga pa rd xs xn ys yn ps pn rs rn k kt ba qa O j left wa ws wn F none):=by
 refine Z2 hw.w0 _ (fun sz tk ls=>(fun l0 l1 l2=>Ky w.params X (iE gt gx gtok gl gs gn lr vs vn) S it ra ga pa rd xs xn ys yn ps pn rs rn k kt ba qa O (j+1) (left-1) (sz+1) (ws++gs++vs) 0 (fl [F 0,F 1,F 2,F 3,F 4,F 5,F 6,F 7,tk+1]) (some (Int.ofNat j,tk))) (ls 0) (ls 1) (ls 2)) (fun _ _ _ _ _ _ _ _=>rfl) (fun _ _ _=>rfl) (fun _ _ _=>rfl) (fun c B p sz tk g he=>?_) (fun sz tk ls=>next _ _ _ _)
 change _=_ at he
 delta Ky at he
 dsimp only at he
 replace he:=Zd he
 subst he
 refine ⟨118,.item [] ((Zw it (Int.ofNat j) left 1 (Int.ofNat j+1) (left-1)).fr S) (fun l0=>.item [Ze ga ys yn (Int.ofNat j) (Value.ref gt)] ((VV wa gl ws gs wn gn).fr S) (fun l1=>.item [YX (Int.ofNat j) 1 (Int.ofNat (j+1)),Ze ra xs xn (Int.ofNat (j+1)) (Value.ref lr)] ((VV sz lr (ws++gs) vs 0 vn).fr S) (fun l2=>.fin []))),(dg 44 0x679001b1516661557607972832f828883144422212001),[5,5,5,5,5,5,0,4,3,1],0,?_,fun ls=>?_⟩
 ·exact ⟨(fun x hx=>(nomatch hx)),(Zp hleft rfl rfl).fr S,fun l0=>⟨(AllV.all ⟨Z7 hga,trivial⟩),(QA h1).fr S,fun l1=>⟨(AllV.all ⟨Ym rfl,Z7 hra,trivial⟩),(QA h2).fr S,fun l2=>(fun x hx=>(nomatch hx))⟩⟩⟩
 ·kernel_rfl
theorem Z0X(O:(Nat→Nat)→FOut)(j:Nat)(left:Int)(wa:Nat)(ws:Array Value)(wn:Nat)(F:Nat→Nat)(j0:Int)(u0:Nat)(gt:Nat)(gx:Str)(gtok gl:Nat)(gs:Array Value)(gn lr:Nat)(vs:Array Value)(vn:Nat)(hleft:0<left)(hga:Y6 ys (Int.ofNat j) (.ref gt))(hra:Y6 xs (Int.ofNat (j+1)) (.ref lr))(h1:ws.size+gs.size≤sizeLine)(h2:(ws++gs).size+vs.size≤sizeLine)
  (next:∀ wa' wn' F u,OK w (Ky w.params X (iE gt gx gtok gl gs gn lr vs vn) S it ra ga pa rd xs xn ys yn ps pn rs rn k kt ba qa O (j+1) (left-1) wa' (ws++gs++vs) wn' F (some (Int.ofNat j,u)))):OK w (Ky w.params X (iE gt gx gtok gl gs gn lr vs vn) S it ra ga pa rd xs xn ys yn ps pn rs rn k kt ba qa O j left wa ws wn F (some (j0,u0))):=by
 refine Z2 hw.w0 _ (fun sz tk ls=>(fun l0 l1 l2=>Ky w.params X (iE gt gx gtok gl gs gn lr vs vn) S it ra ga pa rd xs xn ys yn ps pn rs rn k kt ba qa O (j+1) (left-1) (sz+1) (ws++gs++vs) 0 (fl [F 0,F 1,F 2,F 3,F 4,F 5,F 6,F 7,F 8]) (some (Int.ofNat j,tk))) (ls 0) (ls 1) (ls 2)) (fun _ _ _ _ _ _ _ _=>rfl) (fun _ _ _=>rfl) (fun _ _ _=>rfl) (fun c B p sz tk g he=>?_) (fun sz tk ls=>next _ _ _ _)
 change _=_ at he
 delta Ky at he
 dsimp only at he
 replace he:=Zd he
 subst he
 refine ⟨118,.item [] ((Zw it (Int.ofNat j) left 1 (Int.ofNat j+1) (left-1)).fr S) (fun l0=>.item [Ze ga ys yn (Int.ofNat j) (Value.ref gt)] ((VV wa gl ws gs wn gn).fr S) (fun l1=>.item [YX (Int.ofNat j) 1 (Int.ofNat (j+1)),Ze ra xs xn (Int.ofNat (j+1)) (Value.ref lr)] ((VV sz lr (ws++gs) vs 0 vn).fr S) (fun l2=>.fin []))),(dg 44 0x679001b1516661557607972832f828883144422212001),[5,5,5,5,5,5,0,4,3,1],0,?_,fun ls=>?_⟩
 ·exact ⟨(fun x hx=>(nomatch hx)),(Zp hleft rfl rfl).fr S,fun l0=>⟨(AllV.all ⟨Z7 hga,trivial⟩),(QA h1).fr S,fun l1=>⟨(AllV.all ⟨Ym rfl,Z7 hra,trivial⟩),(QA h2).fr S,fun l2=>(fun x hx=>(nomatch hx))⟩⟩⟩
 ·kernel_rfl
theorem Z2F(j:Nat)(left:Int)(wa:Nat)(ws:Array Value)(wn:Nat)(F:Nat→Nat)(hleft:left≤0):OK w (Ky w.params X [] S it ra ga pa rd xs xn ys yn ps pn rs rn k kt ba qa (fun l=>⟨.ok .next,[(X.p,ifr w.params F ra ga pa rd k kt ba qa wa none),(ra,Z0 xs xn),(ga,Z0 ys yn),(pa,Z0 ps pn),(rd,Z0 rs rn),(wa,Z0 ws wn)],l 0,l 1,id,S⟩) j left wa ws wn F none):=by
 refine Z1 hw.w0 _ fun c B p sz tk g he=>?_
 change _=_ at he
 delta Ky at he
 dsimp only at he
 replace he:=Zd he
 subst he
 refine ⟨56,.item [] ((K3 it (Int.ofNat j) left 1).fr S) (fun l0=>.fin []),[1,0,0,1,1],[3,3,3,3,3,3],0,fun ls=>(fun l0=>fl [sz+2,tk]) (ls 0),?_,fun ls=>?_⟩
 ·exact ⟨(fun x hx=>(nomatch hx)),(Jl hleft).fr S,fun l0=>(fun x hx=>(nomatch hx))⟩
 ·kernel_rfl
theorem Z2E(j:Nat)(left:Int)(wa:Nat)(ws:Array Value)(wn:Nat)(F:Nat→Nat)(j0:Int)(u0:Nat)(hleft:left≤0):OK w (Ky w.params X [] S it ra ga pa rd xs xn ys yn ps pn rs rn k kt ba qa (fun l=>⟨.ok .next,[(X.p,ifr w.params F ra ga pa rd k kt ba qa wa (some (j0,u0))),(ra,Z0 xs xn),(ga,Z0 ys yn),(pa,Z0 ps pn),(rd,Z0 rs rn),(wa,Z0 ws wn)],l 0,l 1,id,S⟩) j left wa ws wn F (some (j0,u0))):=by
 refine Z1 hw.w0 _ fun c B p sz tk g he=>?_
 change _=_ at he
 delta Ky at he
 dsimp only at he
 replace he:=Zd he
 subst he
 refine ⟨56,.item [] ((K3 it (Int.ofNat j) left 1).fr S) (fun l0=>.fin []),[1,0,0,1,1],[3,3,3,3,3,3],0,fun ls=>(fun l0=>fl [sz+2,tk]) (ls 0),?_,fun ls=>?_⟩
 ·exact ⟨(fun x hx=>(nomatch hx)),(Jl hleft).fr S,fun l0=>(fun x hx=>(nomatch hx))⟩
 ·kernel_rfl
end
end
noncomputable def ijo (eb:Bool)(j:Int)(u:Nat):Option (Int × Nat):=match eb with
 | true=>some (j,u)
 | false=>none
noncomputable def OI (P:Params)(X:Fr)(S:Led)(ra ga pa rd:Nat)(xs:Array Value)(xn:Nat)(ys:Array Value)(yn:Nat)(ps:Array Value)(pn:Nat)(rs:Array Value)(rn:Nat)(k:Int)(kt ba qa:Nat)(eb:Bool)(jl:Int)(words:List Str):(Nat→Nat)→FOut:=fun l =>
 ⟨.ok .next,[(X.p,ifr P (fun i=>l (i+10)) ra ga pa rd k kt ba qa (l 2) (ijo eb jl (l 5))),(ra,Z0 xs xn),(ga,Z0 ys yn),(pa,Z0 ps pn),(rd,Z0 rs rn),(l 2,Z0 (svA words (fun i=>l (i+20))) (l 3))],l 0,l 1,id,S⟩
noncomputable def YC (P:Params)(X:Fr)(E S:Led)(it ra ga pa rd:Nat)(xs:Array Value)(xn:Nat)(ys:Array Value)(yn:Nat)(ps:Array Value)(pn:Nat)(rs:Array Value)(rn:Nat)(k n:Nat)(eb:Bool)(jl:Int)(words:List Str)(la:Nat)(ws:Array Value)(wn:Nat)(kt ba qa:Nat)(F:Nat→Nat):FItem :=
 Ky P X E S it ra ga pa rd xs xn ys yn ps pn rs rn (Int.ofNat k) kt ba qa (OI P X S ra ga pa rd xs xn ys yn ps pn rs rn (Int.ofNat k) kt ba qa eb jl words) k (Int.ofNat n-Int.ofNat k) la ws wn F none
noncomputable def ODw (S:Led)(rd:Nat)(rs:Array Value)(rn:Nat)(pg:Str)(words:List Str):(Nat→Nat)→FOut:=fun l =>
 ⟨.ok (.ret (.ref (l 2))),[(l 2,Y5 [.ref rd,.str (mkS []) (l 3),.str pg (l 4),.ref (l 5)] 0),(rd,Z0 rs rn),(l 5,Z0 (svA words (fun i=>l (i+20))) (l 6))],l 0,l 1,id,S⟩
theorem Z2K {b b2:Bool}{w:World}(hw:Wd b b2 w)(X:Fr)(S:Led)(it ra ga pa rd:Nat)(xs:Array Value)(xn:Nat)(ys:Array Value)(yn:Nat)(ps:Array Value)(pn:Nat)(k:Nat)(left:Int)(rs:Array Value)(rn:Nat)(F:Nat→Nat)(la:Nat)(ws:Array Value)(wn:Nat)(z:Str)(n:Nat)(jl:Int)(words:List Str)(hleft:0<left)(hra:Y6 xs (Int.ofNat k) (.ref la))(hlen:ys.size=n)(hn:n<2 ^ 62)(pg:Str)(pt:Nat)(hpa:Y6 ps (Int.ofNat k) (.str pg pt))(hs:Builtin.Range.small (Int.ofNat k) (Int.ofNat n) 1=true)(hr:Builtin.Range.rangeSize (Int.ofNat k) (Int.ofNat n) 1=Int.ofNat n-Int.ofNat k)(bw:Str)(brs pcs:List Str)(hsp:OK w (Zv bw pcs))(hpl:pcs.length≤2)(hb:∀ it acc L,OK w (Qb w.params X.p it la acc L ws wn z (bw::brs)))(hi:∀ it kt ba qa F,OK w (YC w.params X [] S it ra ga pa rd xs xn ys yn ps pn rs rn k n false jl words la ws wn kt ba qa F)):OK w (YP w.params X [(la,Z0 ws wn)] S it ra ga pa rd xs xn ys yn ps pn (ODw S rd rs rn pg words) k left rs rn F none):=by
 refine Z1 hw.w0 _ fun c B p sz tk g he=>?_
 change _=_ at he
 delta YP at he
 dsimp only at he
 replace he:=Zd he
 subst he
 refine ⟨243,.item [] ((Zw it (Int.ofNat k) left 1 (Int.ofNat k+1) (left-1)).fr S) (fun l0=>.item [Ze ra xs xn (Int.ofNat k) (Value.ref la)] ((Qb w.params X.p sz la (sz+1) (sz+2) ws wn z (bw::brs)).fr S) (fun l1=>.item [Yq (sz+1) (l1 0) (#[]++svA (bw::brs) fun i=>l1 (i+20)) #[] (l1 2) 0,Yq (sz+1) (l1 0+1) (#[]++svA (bw::brs) fun i=>l1 (i+20)) #[] (l1 2) 0,QO (sz+1) (l1 0+2) (#[]++svA (bw::brs) fun i=>l1 (i+20)) #[] (l1 2) 0,Ze (sz+1) (#[]++svA (bw::brs) fun i=>l1 (i+20)) (l1 2) 0 (Value.str bw (l1 20))] ((Zv bw pcs).fr S) (fun l2=>.item [Zu (l1 0+3) (svA pcs fun i=>l2 (i+20)) 0 pcs.length,NA (Int.ofNat pcs.length) 2 false,Ze ra xs xn (Int.ofNat k) (Value.ref la),Zu ga ys yn n] ((Y3 (l1 0+4) (Int.ofNat k) (Int.ofNat n) 1 tk (l2 0+6) (l2 0+7) (Int.ofNat n-Int.ofNat k)).fr S) (fun l3=>.item [] (YC w.params X [] S (l1 0+5) ra ga pa rd xs xn ys yn ps pn rs rn k n false jl words la ws wn tk (sz+1) (l1 0+3) (fl [F 0,F 1,F 2,F 3,tk+1,l1 1,l2 0,l2 0+4])) (fun l4=>.fin [Ze pa ps pn (Int.ofNat k) (Value.str pg pt)]))))),(dg 113 0x1314441115999990010011113f121133f212a19009008991aaa99101900890415558041515703141460213135233450182012bf7277213332212001),[0,4,4],0,fun ls=>(fun l0 l1 l2 l3 l4=>flT [l4 0+1,l4 1+1,l4 0,l4 1,pt,l4 2,l4 3,0,0,0,0,0,0,0,0,0,0,0,0,0] (fun i=>l4 (i+20))) (ls 0) (ls 1) (ls 2) (ls 3) (ls 4),?_,fun ls=>?_⟩
 ·exact ⟨(fun x hx=>(nomatch hx)),(Zp hleft rfl rfl).fr S,fun l0=>⟨(AllV.all ⟨Z7 hra,trivial⟩),(hb _ _ _).fr S,fun l1=>⟨(AllV.all ⟨ZT (by rw[Array.size_append,Z6];simp),ZT (by rw[Array.size_append,Z6];simp),Q3 (by rw[Array.size_append,Z6];simp),Z7 (.inl ⟨0,rfl,by decide,by simp[svA,svL]⟩),trivial⟩),hsp.fr S,fun l2=>⟨(AllV.all ⟨Zn (Z6 _ _) (Nat.lt_of_le_of_lt hpl (by decide)),JF (decide_eq_false (by simp only[Int.ofNat_eq_natCast];omega)),Z7 hra,Zn hlen hn,trivial⟩),(ZJ hs hr).fr S,fun l3=>⟨(fun x hx=>(nomatch hx)),hi _ _ _ _ _,fun l4=>(AllV.all ⟨Z7 hpa,trivial⟩)⟩⟩⟩⟩⟩
 ·cases b <;> kernel_rfl
theorem Z2J {b b2:Bool}{w:World}(hw:Wd b b2 w)(X:Fr)(S:Led)(it ra ga pa rd:Nat)(xs:Array Value)(xn:Nat)(ys:Array Value)(yn:Nat)(ps:Array Value)(pn:Nat)(k:Nat)(left:Int)(rs:Array Value)(rn:Nat)(F:Nat→Nat)(la:Nat)(ws:Array Value)(wn:Nat)(z:Str)(n:Nat)(jl:Int)(words:List Str)(hleft:0<left)(hra:Y6 xs (Int.ofNat k) (.ref la))(hlen:ys.size=n)(hn:n<2 ^ 62)(pg:Str)(pt:Nat)(hpa:Y6 ps (Int.ofNat k) (.str pg pt))(hs:Builtin.Range.small (Int.ofNat k) (Int.ofNat n) 1=true)(hr:Builtin.Range.rangeSize (Int.ofNat k) (Int.ofNat n) 1=Int.ofNat n-Int.ofNat k)(bw:Str)(brs pcs:List Str)(hsp:OK w (Zv bw pcs))(hpl:pcs.length≤2)(hb:∀ it acc L,OK w (Qb w.params X.p it la acc L ws wn z (bw::brs)))(hi:∀ it kt ba qa F,OK w (YC w.params X [] S it ra ga pa rd xs xn ys yn ps pn rs rn k n true jl words la ws wn kt ba qa F)):OK w (YP w.params X [(la,Z0 ws wn)] S it ra ga pa rd xs xn ys yn ps pn (ODw S rd rs rn pg words) k left rs rn F none):=by
 refine Z1 hw.w0 _ fun c B p sz tk g he=>?_
 change _=_ at he
 delta YP at he
 dsimp only at he
 replace he:=Zd he
 subst he
 refine ⟨243,.item [] ((Zw it (Int.ofNat k) left 1 (Int.ofNat k+1) (left-1)).fr S) (fun l0=>.item [Ze ra xs xn (Int.ofNat k) (Value.ref la)] ((Qb w.params X.p sz la (sz+1) (sz+2) ws wn z (bw::brs)).fr S) (fun l1=>.item [Yq (sz+1) (l1 0) (#[]++svA (bw::brs) fun i=>l1 (i+20)) #[] (l1 2) 0,Yq (sz+1) (l1 0+1) (#[]++svA (bw::brs) fun i=>l1 (i+20)) #[] (l1 2) 0,QO (sz+1) (l1 0+2) (#[]++svA (bw::brs) fun i=>l1 (i+20)) #[] (l1 2) 0,Ze (sz+1) (#[]++svA (bw::brs) fun i=>l1 (i+20)) (l1 2) 0 (Value.str bw (l1 20))] ((Zv bw pcs).fr S) (fun l2=>.item [Zu (l1 0+3) (svA pcs fun i=>l2 (i+20)) 0 pcs.length,NA (Int.ofNat pcs.length) 2 false,Ze ra xs xn (Int.ofNat k) (Value.ref la),Zu ga ys yn n] ((Y3 (l1 0+4) (Int.ofNat k) (Int.ofNat n) 1 tk (l2 0+6) (l2 0+7) (Int.ofNat n-Int.ofNat k)).fr S) (fun l3=>.item [] (YC w.params X [] S (l1 0+5) ra ga pa rd xs xn ys yn ps pn rs rn k n true jl words la ws wn tk (sz+1) (l1 0+3) (fl [F 0,F 1,F 2,F 3,tk+1,l1 1,l2 0,l2 0+4])) (fun l4=>.fin [Ze pa ps pn (Int.ofNat k) (Value.str pg pt)]))))),(dg 113 0x1314441115999990010011113f121133f212a19009008991aaa99101900890415558041515703141460213135233450182012bf7277213332212001),[0,4,4],0,fun ls=>(fun l0 l1 l2 l3 l4=>flT [l4 0+1,l4 1+1,l4 0,l4 1,pt,l4 2,l4 3,0,0,0,0,0,0,0,0,0,0,0,0,0] (fun i=>l4 (i+20))) (ls 0) (ls 1) (ls 2) (ls 3) (ls 4),?_,fun ls=>?_⟩
 ·exact ⟨(fun x hx=>(nomatch hx)),(Zp hleft rfl rfl).fr S,fun l0=>⟨(AllV.all ⟨Z7 hra,trivial⟩),(hb _ _ _).fr S,fun l1=>⟨(AllV.all ⟨ZT (by rw[Array.size_append,Z6];simp),ZT (by rw[Array.size_append,Z6];simp),Q3 (by rw[Array.size_append,Z6];simp),Z7 (.inl ⟨0,rfl,by decide,by simp[svA,svL]⟩),trivial⟩),hsp.fr S,fun l2=>⟨(AllV.all ⟨Zn (Z6 _ _) (Nat.lt_of_le_of_lt hpl (by decide)),JF (decide_eq_false (by simp only[Int.ofNat_eq_natCast];omega)),Z7 hra,Zn hlen hn,trivial⟩),(ZJ hs hr).fr S,fun l3=>⟨(fun x hx=>(nomatch hx)),hi _ _ _ _ _,fun l4=>(AllV.all ⟨Z7 hpa,trivial⟩)⟩⟩⟩⟩⟩
 ·cases b <;> kernel_rfl
theorem Z2I {b b2:Bool}{w:World}(hw:Wd b b2 w)(X:Fr)(S:Led)(it ra ga pa rd:Nat)(xs:Array Value)(xn:Nat)(ys:Array Value)(yn:Nat)(ps:Array Value)(pn:Nat)(k:Nat)(left:Int)(rs:Array Value)(rn:Nat)(F:Nat→Nat)(k0:Int)(u0 b0:Nat)(la:Nat)(ws:Array Value)(wn:Nat)(z:Str)(n:Nat)(jl:Int)(words:List Str)(hleft:0<left)(hra:Y6 xs (Int.ofNat k) (.ref la))(hlen:ys.size=n)(hn:n<2 ^ 62)(pg:Str)(pt:Nat)(hpa:Y6 ps (Int.ofNat k) (.str pg pt))(hs:Builtin.Range.small (Int.ofNat k) (Int.ofNat n) 1=true)(hr:Builtin.Range.rangeSize (Int.ofNat k) (Int.ofNat n) 1=Int.ofNat n-Int.ofNat k)(bw:Str)(brs pcs:List Str)(hsp:OK w (Zv bw pcs))(hpl:pcs.length≤2)(hb:∀ it acc L,OK w (Qb w.params X.p it la acc L ws wn z (bw::brs)))(hi:∀ it kt ba qa F,OK w (YC w.params X [] S it ra ga pa rd xs xn ys yn ps pn rs rn k n false jl words la ws wn kt ba qa F)):OK w (YP w.params X [(la,Z0 ws wn)] S it ra ga pa rd xs xn ys yn ps pn (ODw S rd rs rn pg words) k left rs rn F (some (k0,u0,b0))):=by
 refine Z1 hw.w0 _ fun c B p sz tk g he=>?_
 change _=_ at he
 delta YP at he
 dsimp only at he
 replace he:=Zd he
 subst he
 refine ⟨243,.item [] ((Zw it (Int.ofNat k) left 1 (Int.ofNat k+1) (left-1)).fr S) (fun l0=>.item [Ze ra xs xn (Int.ofNat k) (Value.ref la)] ((Qb w.params X.p sz la (sz+1) (sz+2) ws wn z (bw::brs)).fr S) (fun l1=>.item [Yq (sz+1) (l1 0) (#[]++svA (bw::brs) fun i=>l1 (i+20)) #[] (l1 2) 0,Yq (sz+1) (l1 0+1) (#[]++svA (bw::brs) fun i=>l1 (i+20)) #[] (l1 2) 0,QO (sz+1) (l1 0+2) (#[]++svA (bw::brs) fun i=>l1 (i+20)) #[] (l1 2) 0,Ze (sz+1) (#[]++svA (bw::brs) fun i=>l1 (i+20)) (l1 2) 0 (Value.str bw (l1 20))] ((Zv bw pcs).fr S) (fun l2=>.item [Zu (l1 0+3) (svA pcs fun i=>l2 (i+20)) 0 pcs.length,NA (Int.ofNat pcs.length) 2 false,Ze ra xs xn (Int.ofNat k) (Value.ref la),Zu ga ys yn n] ((Y3 (l1 0+4) (Int.ofNat k) (Int.ofNat n) 1 tk (l2 0+6) (l2 0+7) (Int.ofNat n-Int.ofNat k)).fr S) (fun l3=>.item [] (YC w.params X [] S (l1 0+5) ra ga pa rd xs xn ys yn ps pn rs rn k n false jl words la ws wn tk (sz+1) (l1 0+3) (fl [F 0,F 1,F 2,F 3,F 4,F 5,l2 0,l2 0+4])) (fun l4=>.fin [Ze pa ps pn (Int.ofNat k) (Value.str pg pt)]))))),(dg 113 0x1314441115999990010011113f121133f212a19009008991aaa99101900890415558041515703141460213135233450182012bf7277213332212001),[0,4,4],0,fun ls=>(fun l0 l1 l2 l3 l4=>flT [l4 0+1,l4 1+1,l4 0,l4 1,pt,l4 2,l4 3,0,0,0,0,0,0,0,0,0,0,0,0,0] (fun i=>l4 (i+20))) (ls 0) (ls 1) (ls 2) (ls 3) (ls 4),?_,fun ls=>?_⟩
 ·exact ⟨(fun x hx=>(nomatch hx)),(Zp hleft rfl rfl).fr S,fun l0=>⟨(AllV.all ⟨Z7 hra,trivial⟩),(hb _ _ _).fr S,fun l1=>⟨(AllV.all ⟨ZT (by rw[Array.size_append,Z6];simp),ZT (by rw[Array.size_append,Z6];simp),Q3 (by rw[Array.size_append,Z6];simp),Z7 (.inl ⟨0,rfl,by decide,by simp[svA,svL]⟩),trivial⟩),hsp.fr S,fun l2=>⟨(AllV.all ⟨Zn (Z6 _ _) (Nat.lt_of_le_of_lt hpl (by decide)),JF (decide_eq_false (by simp only[Int.ofNat_eq_natCast];omega)),Z7 hra,Zn hlen hn,trivial⟩),(ZJ hs hr).fr S,fun l3=>⟨(fun x hx=>(nomatch hx)),hi _ _ _ _ _,fun l4=>(AllV.all ⟨Z7 hpa,trivial⟩)⟩⟩⟩⟩⟩
 ·cases b <;> kernel_rfl
theorem Z2H {b b2:Bool}{w:World}(hw:Wd b b2 w)(X:Fr)(S:Led)(it ra ga pa rd:Nat)(xs:Array Value)(xn:Nat)(ys:Array Value)(yn:Nat)(ps:Array Value)(pn:Nat)(k:Nat)(left:Int)(rs:Array Value)(rn:Nat)(F:Nat→Nat)(k0:Int)(u0 b0:Nat)(la:Nat)(ws:Array Value)(wn:Nat)(z:Str)(n:Nat)(jl:Int)(words:List Str)(hleft:0<left)(hra:Y6 xs (Int.ofNat k) (.ref la))(hlen:ys.size=n)(hn:n<2 ^ 62)(pg:Str)(pt:Nat)(hpa:Y6 ps (Int.ofNat k) (.str pg pt))(hs:Builtin.Range.small (Int.ofNat k) (Int.ofNat n) 1=true)(hr:Builtin.Range.rangeSize (Int.ofNat k) (Int.ofNat n) 1=Int.ofNat n-Int.ofNat k)(bw:Str)(brs pcs:List Str)(hsp:OK w (Zv bw pcs))(hpl:pcs.length≤2)(hb:∀ it acc L,OK w (Qb w.params X.p it la acc L ws wn z (bw::brs)))(hi:∀ it kt ba qa F,OK w (YC w.params X [] S it ra ga pa rd xs xn ys yn ps pn rs rn k n true jl words la ws wn kt ba qa F)):OK w (YP w.params X [(la,Z0 ws wn)] S it ra ga pa rd xs xn ys yn ps pn (ODw S rd rs rn pg words) k left rs rn F (some (k0,u0,b0))):=by
 refine Z1 hw.w0 _ fun c B p sz tk g he=>?_
 change _=_ at he
 delta YP at he
 dsimp only at he
 replace he:=Zd he
 subst he
 refine ⟨243,.item [] ((Zw it (Int.ofNat k) left 1 (Int.ofNat k+1) (left-1)).fr S) (fun l0=>.item [Ze ra xs xn (Int.ofNat k) (Value.ref la)] ((Qb w.params X.p sz la (sz+1) (sz+2) ws wn z (bw::brs)).fr S) (fun l1=>.item [Yq (sz+1) (l1 0) (#[]++svA (bw::brs) fun i=>l1 (i+20)) #[] (l1 2) 0,Yq (sz+1) (l1 0+1) (#[]++svA (bw::brs) fun i=>l1 (i+20)) #[] (l1 2) 0,QO (sz+1) (l1 0+2) (#[]++svA (bw::brs) fun i=>l1 (i+20)) #[] (l1 2) 0,Ze (sz+1) (#[]++svA (bw::brs) fun i=>l1 (i+20)) (l1 2) 0 (Value.str bw (l1 20))] ((Zv bw pcs).fr S) (fun l2=>.item [Zu (l1 0+3) (svA pcs fun i=>l2 (i+20)) 0 pcs.length,NA (Int.ofNat pcs.length) 2 false,Ze ra xs xn (Int.ofNat k) (Value.ref la),Zu ga ys yn n] ((Y3 (l1 0+4) (Int.ofNat k) (Int.ofNat n) 1 tk (l2 0+6) (l2 0+7) (Int.ofNat n-Int.ofNat k)).fr S) (fun l3=>.item [] (YC w.params X [] S (l1 0+5) ra ga pa rd xs xn ys yn ps pn rs rn k n true jl words la ws wn tk (sz+1) (l1 0+3) (fl [F 0,F 1,F 2,F 3,F 4,F 5,l2 0,l2 0+4])) (fun l4=>.fin [Ze pa ps pn (Int.ofNat k) (Value.str pg pt)]))))),(dg 113 0x1314441115999990010011113f121133f212a19009008991aaa99101900890415558041515703141460213135233450182012bf7277213332212001),[0,4,4],0,fun ls=>(fun l0 l1 l2 l3 l4=>flT [l4 0+1,l4 1+1,l4 0,l4 1,pt,l4 2,l4 3,0,0,0,0,0,0,0,0,0,0,0,0,0] (fun i=>l4 (i+20))) (ls 0) (ls 1) (ls 2) (ls 3) (ls 4),?_,fun ls=>?_⟩
 ·exact ⟨(fun x hx=>(nomatch hx)),(Zp hleft rfl rfl).fr S,fun l0=>⟨(AllV.all ⟨Z7 hra,trivial⟩),(hb _ _ _).fr S,fun l1=>⟨(AllV.all ⟨ZT (by rw[Array.size_append,Z6];simp),ZT (by rw[Array.size_append,Z6];simp),Q3 (by rw[Array.size_append,Z6];simp),Z7 (.inl ⟨0,rfl,by decide,by simp[svA,svL]⟩),trivial⟩),hsp.fr S,fun l2=>⟨(AllV.all ⟨Zn (Z6 _ _) (Nat.lt_of_le_of_lt hpl (by decide)),JF (decide_eq_false (by simp only[Int.ofNat_eq_natCast];omega)),Z7 hra,Zn hlen hn,trivial⟩),(ZJ hs hr).fr S,fun l3=>⟨(fun x hx=>(nomatch hx)),hi _ _ _ _ _,fun l4=>(AllV.all ⟨Z7 hpa,trivial⟩)⟩⟩⟩⟩⟩
 ·cases b <;> kernel_rfl
theorem Nu {b b2:Bool}{w:World}(hw:Wd b b2 w)(X:Fr)(S:Led)(it ra ga pa rd:Nat)(xs:Array Value)(xn:Nat)(ys:Array Value)(yn:Nat)(ps:Array Value)(pn:Nat)(k:Nat)(left:Int)(rs:Array Value)(rn:Nat)(F:Nat→Nat)(la:Nat)(ws:Array Value)(wn:Nat)(z:Str)(n:Nat)(jl:Int)(words:List Str)(hleft:0<left)(hra:Y6 xs (Int.ofNat k) (.ref la))(hlen:ys.size=n)(hn:n<2 ^ 62)(pg:Str)(pt:Nat)(hpa:Y6 ps (Int.ofNat k) (.str pg pt))(hs:Builtin.Range.small (Int.ofNat k) (Int.ofNat n) 1=true)(hr:Builtin.Range.rangeSize (Int.ofNat k) (Int.ofNat n) 1=Int.ofNat n-Int.ofNat k)(bw:Str)(brs:List Str)(r0 r1 r2:Str)(rr:List Str)(hsp:OK w (Zv bw (r0::r1::r2::rr)))(hrl:(r0::r1::r2::rr).length<2 ^ 62)(hwh:OK w (Jp w.params X r1 false))(hb:∀ it acc L,OK w (Qb w.params X.p it la acc L ws wn z (bw::brs)))(hi:∀ it kt ba qa F,OK w (YC w.params X [] S it ra ga pa rd xs xn ys yn ps pn rs rn k n false jl words la ws wn kt ba qa F)):OK w (YP w.params X [(la,Z0 ws wn)] S it ra ga pa rd xs xn ys yn ps pn (ODw S rd rs rn pg words) k left rs rn F none):=by
 refine Z1 hw.w0 _ fun c B p sz tk g he=>?_
 change _=_ at he
 delta YP at he
 dsimp only at he
 replace he:=Zd he
 subst he
 refine ⟨258,.item [] ((Zw it (Int.ofNat k) left 1 (Int.ofNat k+1) (left-1)).fr S) (fun l0=>.item [Ze ra xs xn (Int.ofNat k) (Value.ref la)] ((Qb w.params X.p sz la (sz+1) (sz+2) ws wn z (bw::brs)).fr S) (fun l1=>.item [Yq (sz+1) (l1 0) (#[]++svA (bw::brs) fun i=>l1 (i+20)) #[] (l1 2) 0,Yq (sz+1) (l1 0+1) (#[]++svA (bw::brs) fun i=>l1 (i+20)) #[] (l1 2) 0,QO (sz+1) (l1 0+2) (#[]++svA (bw::brs) fun i=>l1 (i+20)) #[] (l1 2) 0,Ze (sz+1) (#[]++svA (bw::brs) fun i=>l1 (i+20)) (l1 2) 0 (Value.str bw (l1 20))] ((Zv bw (r0::r1::r2::rr)).fr S) (fun l2=>.item [Zu (l1 0+3) (svA (r0::r1::r2::rr) fun i=>l2 (i+20)) 0 (r0::r1::r2::rr).length,NA (Int.ofNat (r0::r1::r2::rr).length) 2 true,Ze (l1 0+3) (svA (r0::r1::r2::rr) fun i=>l2 (i+20)) 0 1 (Value.str r1 (l2 21))] ((Jp w.params X r1 false).fr S) (fun l3=>.item [Ze ra xs xn (Int.ofNat k) (Value.ref la),Zu ga ys yn n] ((Y3 (l3 0) (Int.ofNat k) (Int.ofNat n) 1 tk (l3 1+2) (l3 1+3) (Int.ofNat n-Int.ofNat k)).fr S) (fun l4=>.item [] (YC w.params X [] S (l3 0+1) ra ga pa rd xs xn ys yn ps pn rs rn k n false jl words la ws wn tk (sz+1) (l1 0+3) (fl [F 0,F 1,F 2,F 3,tk+1,l1 1,l2 0,l3 1])) (fun l5=>.fin [Ze pa ps pn (Int.ofNat k) (Value.str pg pt)])))))),(dg 122 0x1314441115999990010011113f121133f212a19009008991aaa99000111190101900890415558041515703141460213135233450182012bf7277213332212001),[0,4,4],0,fun ls=>(fun l0 l1 l2 l3 l4 l5=>flT [l5 0+1,l5 1+1,l5 0,l5 1,pt,l5 2,l5 3,0,0,0,0,0,0,0,0,0,0,0,0,0] (fun i=>l5 (i+20))) (ls 0) (ls 1) (ls 2) (ls 3) (ls 4) (ls 5),?_,fun ls=>?_⟩
 ·exact ⟨(fun x hx=>(nomatch hx)),(Zp hleft rfl rfl).fr S,fun l0=>⟨(AllV.all ⟨Z7 hra,trivial⟩),(hb _ _ _).fr S,fun l1=>⟨(AllV.all ⟨ZT (by rw[Array.size_append,Z6];simp),ZT (by rw[Array.size_append,Z6];simp),Q3 (by rw[Array.size_append,Z6];simp),Z7 (.inl ⟨0,rfl,by decide,by simp[svA,svL]⟩),trivial⟩),hsp.fr S,fun l2=>⟨(AllV.all ⟨Zn (Z6 _ _) hrl,JF (decide_eq_true (by simp only[Int.ofNat_eq_natCast,List.length_cons];omega)),Z7 (.inl ⟨1,rfl,by decide,by simp[svA,svL]⟩),trivial⟩),hwh.fr S,fun l3=>⟨(AllV.all ⟨Z7 hra,Zn hlen hn,trivial⟩),(ZJ hs hr).fr S,fun l4=>⟨(fun x hx=>(nomatch hx)),hi _ _ _ _ _,fun l5=>(AllV.all ⟨Z7 hpa,trivial⟩)⟩⟩⟩⟩⟩⟩
 ·cases b <;> kernel_rfl
theorem Nt {b b2:Bool}{w:World}(hw:Wd b b2 w)(X:Fr)(S:Led)(it ra ga pa rd:Nat)(xs:Array Value)(xn:Nat)(ys:Array Value)(yn:Nat)(ps:Array Value)(pn:Nat)(k:Nat)(left:Int)(rs:Array Value)(rn:Nat)(F:Nat→Nat)(la:Nat)(ws:Array Value)(wn:Nat)(z:Str)(n:Nat)(jl:Int)(words:List Str)(hleft:0<left)(hra:Y6 xs (Int.ofNat k) (.ref la))(hlen:ys.size=n)(hn:n<2 ^ 62)(pg:Str)(pt:Nat)(hpa:Y6 ps (Int.ofNat k) (.str pg pt))(hs:Builtin.Range.small (Int.ofNat k) (Int.ofNat n) 1=true)(hr:Builtin.Range.rangeSize (Int.ofNat k) (Int.ofNat n) 1=Int.ofNat n-Int.ofNat k)(bw:Str)(brs:List Str)(r0 r1 r2:Str)(rr:List Str)(hsp:OK w (Zv bw (r0::r1::r2::rr)))(hrl:(r0::r1::r2::rr).length<2 ^ 62)(hwh:OK w (Jp w.params X r1 false))(hb:∀ it acc L,OK w (Qb w.params X.p it la acc L ws wn z (bw::brs)))(hi:∀ it kt ba qa F,OK w (YC w.params X [] S it ra ga pa rd xs xn ys yn ps pn rs rn k n true jl words la ws wn kt ba qa F)):OK w (YP w.params X [(la,Z0 ws wn)] S it ra ga pa rd xs xn ys yn ps pn (ODw S rd rs rn pg words) k left rs rn F none):=by
 refine Z1 hw.w0 _ fun c B p sz tk g he=>?_
 change _=_ at he
 delta YP at he
 dsimp only at he
 replace he:=Zd he
 subst he
 refine ⟨258,.item [] ((Zw it (Int.ofNat k) left 1 (Int.ofNat k+1) (left-1)).fr S) (fun l0=>.item [Ze ra xs xn (Int.ofNat k) (Value.ref la)] ((Qb w.params X.p sz la (sz+1) (sz+2) ws wn z (bw::brs)).fr S) (fun l1=>.item [Yq (sz+1) (l1 0) (#[]++svA (bw::brs) fun i=>l1 (i+20)) #[] (l1 2) 0,Yq (sz+1) (l1 0+1) (#[]++svA (bw::brs) fun i=>l1 (i+20)) #[] (l1 2) 0,QO (sz+1) (l1 0+2) (#[]++svA (bw::brs) fun i=>l1 (i+20)) #[] (l1 2) 0,Ze (sz+1) (#[]++svA (bw::brs) fun i=>l1 (i+20)) (l1 2) 0 (Value.str bw (l1 20))] ((Zv bw (r0::r1::r2::rr)).fr S) (fun l2=>.item [Zu (l1 0+3) (svA (r0::r1::r2::rr) fun i=>l2 (i+20)) 0 (r0::r1::r2::rr).length,NA (Int.ofNat (r0::r1::r2::rr).length) 2 true,Ze (l1 0+3) (svA (r0::r1::r2::rr) fun i=>l2 (i+20)) 0 1 (Value.str r1 (l2 21))] ((Jp w.params X r1 false).fr S) (fun l3=>.item [Ze ra xs xn (Int.ofNat k) (Value.ref la),Zu ga ys yn n] ((Y3 (l3 0) (Int.ofNat k) (Int.ofNat n) 1 tk (l3 1+2) (l3 1+3) (Int.ofNat n-Int.ofNat k)).fr S) (fun l4=>.item [] (YC w.params X [] S (l3 0+1) ra ga pa rd xs xn ys yn ps pn rs rn k n true jl words la ws wn tk (sz+1) (l1 0+3) (fl [F 0,F 1,F 2,F 3,tk+1,l1 1,l2 0,l3 1])) (fun l5=>.fin [Ze pa ps pn (Int.ofNat k) (Value.str pg pt)])))))),(dg 122 0x1314441115999990010011113f121133f212a19009008991aaa99000111190101900890415558041515703141460213135233450182012bf7277213332212001),[0,4,4],0,fun ls=>(fun l0 l1 l2 l3 l4 l5=>flT [l5 0+1,l5 1+1,l5 0,l5 1,pt,l5 2,l5 3,0,0,0,0,0,0,0,0,0,0,0,0,0] (fun i=>l5 (i+20))) (ls 0) (ls 1) (ls 2) (ls 3) (ls 4) (ls 5),?_,fun ls=>?_⟩
 ·exact ⟨(fun x hx=>(nomatch hx)),(Zp hleft rfl rfl).fr S,fun l0=>⟨(AllV.all ⟨Z7 hra,trivial⟩),(hb _ _ _).fr S,fun l1=>⟨(AllV.all ⟨ZT (by rw[Array.size_append,Z6];simp),ZT (by rw[Array.size_append,Z6];simp),Q3 (by rw[Array.size_append,Z6];simp),Z7 (.inl ⟨0,rfl,by decide,by simp[svA,svL]⟩),trivial⟩),hsp.fr S,fun l2=>⟨(AllV.all ⟨Zn (Z6 _ _) hrl,JF (decide_eq_true (by simp only[Int.ofNat_eq_natCast,List.length_cons];omega)),Z7 (.inl ⟨1,rfl,by decide,by simp[svA,svL]⟩),trivial⟩),hwh.fr S,fun l3=>⟨(AllV.all ⟨Z7 hra,Zn hlen hn,trivial⟩),(ZJ hs hr).fr S,fun l4=>⟨(fun x hx=>(nomatch hx)),hi _ _ _ _ _,fun l5=>(AllV.all ⟨Z7 hpa,trivial⟩)⟩⟩⟩⟩⟩⟩
 ·cases b <;> kernel_rfl
theorem Nr {b b2:Bool}{w:World}(hw:Wd b b2 w)(X:Fr)(S:Led)(it ra ga pa rd:Nat)(xs:Array Value)(xn:Nat)(ys:Array Value)(yn:Nat)(ps:Array Value)(pn:Nat)(k:Nat)(left:Int)(rs:Array Value)(rn:Nat)(F:Nat→Nat)(k0:Int)(u0 b0:Nat)(la:Nat)(ws:Array Value)(wn:Nat)(z:Str)(n:Nat)(jl:Int)(words:List Str)(hleft:0<left)(hra:Y6 xs (Int.ofNat k) (.ref la))(hlen:ys.size=n)(hn:n<2 ^ 62)(pg:Str)(pt:Nat)(hpa:Y6 ps (Int.ofNat k) (.str pg pt))(hs:Builtin.Range.small (Int.ofNat k) (Int.ofNat n) 1=true)(hr:Builtin.Range.rangeSize (Int.ofNat k) (Int.ofNat n) 1=Int.ofNat n-Int.ofNat k)(bw:Str)(brs:List Str)(r0 r1 r2:Str)(rr:List Str)(hsp:OK w (Zv bw (r0::r1::r2::rr)))(hrl:(r0::r1::r2::rr).length<2 ^ 62)(hwh:OK w (Jp w.params X r1 false))(hb:∀ it acc L,OK w (Qb w.params X.p it la acc L ws wn z (bw::brs)))(hi:∀ it kt ba qa F,OK w (YC w.params X [] S it ra ga pa rd xs xn ys yn ps pn rs rn k n false jl words la ws wn kt ba qa F)):OK w (YP w.params X [(la,Z0 ws wn)] S it ra ga pa rd xs xn ys yn ps pn (ODw S rd rs rn pg words) k left rs rn F (some (k0,u0,b0))):=by
 refine Z1 hw.w0 _ fun c B p sz tk g he=>?_
 change _=_ at he
 delta YP at he
 dsimp only at he
 replace he:=Zd he
 subst he
 refine ⟨258,.item [] ((Zw it (Int.ofNat k) left 1 (Int.ofNat k+1) (left-1)).fr S) (fun l0=>.item [Ze ra xs xn (Int.ofNat k) (Value.ref la)] ((Qb w.params X.p sz la (sz+1) (sz+2) ws wn z (bw::brs)).fr S) (fun l1=>.item [Yq (sz+1) (l1 0) (#[]++svA (bw::brs) fun i=>l1 (i+20)) #[] (l1 2) 0,Yq (sz+1) (l1 0+1) (#[]++svA (bw::brs) fun i=>l1 (i+20)) #[] (l1 2) 0,QO (sz+1) (l1 0+2) (#[]++svA (bw::brs) fun i=>l1 (i+20)) #[] (l1 2) 0,Ze (sz+1) (#[]++svA (bw::brs) fun i=>l1 (i+20)) (l1 2) 0 (Value.str bw (l1 20))] ((Zv bw (r0::r1::r2::rr)).fr S) (fun l2=>.item [Zu (l1 0+3) (svA (r0::r1::r2::rr) fun i=>l2 (i+20)) 0 (r0::r1::r2::rr).length,NA (Int.ofNat (r0::r1::r2::rr).length) 2 true,Ze (l1 0+3) (svA (r0::r1::r2::rr) fun i=>l2 (i+20)) 0 1 (Value.str r1 (l2 21))] ((Jp w.params X r1 false).fr S) (fun l3=>.item [Ze ra xs xn (Int.ofNat k) (Value.ref la),Zu ga ys yn n] ((Y3 (l3 0) (Int.ofNat k) (Int.ofNat n) 1 tk (l3 1+2) (l3 1+3) (Int.ofNat n-Int.ofNat k)).fr S) (fun l4=>.item [] (YC w.params X [] S (l3 0+1) ra ga pa rd xs xn ys yn ps pn rs rn k n false jl words la ws wn tk (sz+1) (l1 0+3) (fl [F 0,F 1,F 2,F 3,F 4,F 5,l2 0,l3 1])) (fun l5=>.fin [Ze pa ps pn (Int.ofNat k) (Value.str pg pt)])))))),(dg 122 0x1314441115999990010011113f121133f212a19009008991aaa99000111190101900890415558041515703141460213135233450182012bf7277213332212001),[0,4,4],0,fun ls=>(fun l0 l1 l2 l3 l4 l5=>flT [l5 0+1,l5 1+1,l5 0,l5 1,pt,l5 2,l5 3,0,0,0,0,0,0,0,0,0,0,0,0,0] (fun i=>l5 (i+20))) (ls 0) (ls 1) (ls 2) (ls 3) (ls 4) (ls 5),?_,fun ls=>?_⟩
 ·exact ⟨(fun x hx=>(nomatch hx)),(Zp hleft rfl rfl).fr S,fun l0=>⟨(AllV.all ⟨Z7 hra,trivial⟩),(hb _ _ _).fr S,fun l1=>⟨(AllV.all ⟨ZT (by rw[Array.size_append,Z6];simp),ZT (by rw[Array.size_append,Z6];simp),Q3 (by rw[Array.size_append,Z6];simp),Z7 (.inl ⟨0,rfl,by decide,by simp[svA,svL]⟩),trivial⟩),hsp.fr S,fun l2=>⟨(AllV.all ⟨Zn (Z6 _ _) hrl,JF (decide_eq_true (by simp only[Int.ofNat_eq_natCast,List.length_cons];omega)),Z7 (.inl ⟨1,rfl,by decide,by simp[svA,svL]⟩),trivial⟩),hwh.fr S,fun l3=>⟨(AllV.all ⟨Z7 hra,Zn hlen hn,trivial⟩),(ZJ hs hr).fr S,fun l4=>⟨(fun x hx=>(nomatch hx)),hi _ _ _ _ _,fun l5=>(AllV.all ⟨Z7 hpa,trivial⟩)⟩⟩⟩⟩⟩⟩
 ·cases b <;> kernel_rfl
theorem Nq {b b2:Bool}{w:World}(hw:Wd b b2 w)(X:Fr)(S:Led)(it ra ga pa rd:Nat)(xs:Array Value)(xn:Nat)(ys:Array Value)(yn:Nat)(ps:Array Value)(pn:Nat)(k:Nat)(left:Int)(rs:Array Value)(rn:Nat)(F:Nat→Nat)(k0:Int)(u0 b0:Nat)(la:Nat)(ws:Array Value)(wn:Nat)(z:Str)(n:Nat)(jl:Int)(words:List Str)(hleft:0<left)(hra:Y6 xs (Int.ofNat k) (.ref la))(hlen:ys.size=n)(hn:n<2 ^ 62)(pg:Str)(pt:Nat)(hpa:Y6 ps (Int.ofNat k) (.str pg pt))(hs:Builtin.Range.small (Int.ofNat k) (Int.ofNat n) 1=true)(hr:Builtin.Range.rangeSize (Int.ofNat k) (Int.ofNat n) 1=Int.ofNat n-Int.ofNat k)(bw:Str)(brs:List Str)(r0 r1 r2:Str)(rr:List Str)(hsp:OK w (Zv bw (r0::r1::r2::rr)))(hrl:(r0::r1::r2::rr).length<2 ^ 62)(hwh:OK w (Jp w.params X r1 false))(hb:∀ it acc L,OK w (Qb w.params X.p it la acc L ws wn z (bw::brs)))(hi:∀ it kt ba qa F,OK w (YC w.params X [] S it ra ga pa rd xs xn ys yn ps pn rs rn k n true jl words la ws wn kt ba qa F)):OK w (YP w.params X [(la,Z0 ws wn)] S it ra ga pa rd xs xn ys yn ps pn (ODw S rd rs rn pg words) k left rs rn F (some (k0,u0,b0))):=by
 refine Z1 hw.w0 _ fun c B p sz tk g he=>?_
 change _=_ at he
 delta YP at he
 dsimp only at he
 replace he:=Zd he
 subst he
 refine ⟨258,.item [] ((Zw it (Int.ofNat k) left 1 (Int.ofNat k+1) (left-1)).fr S) (fun l0=>.item [Ze ra xs xn (Int.ofNat k) (Value.ref la)] ((Qb w.params X.p sz la (sz+1) (sz+2) ws wn z (bw::brs)).fr S) (fun l1=>.item [Yq (sz+1) (l1 0) (#[]++svA (bw::brs) fun i=>l1 (i+20)) #[] (l1 2) 0,Yq (sz+1) (l1 0+1) (#[]++svA (bw::brs) fun i=>l1 (i+20)) #[] (l1 2) 0,QO (sz+1) (l1 0+2) (#[]++svA (bw::brs) fun i=>l1 (i+20)) #[] (l1 2) 0,Ze (sz+1) (#[]++svA (bw::brs) fun i=>l1 (i+20)) (l1 2) 0 (Value.str bw (l1 20))] ((Zv bw (r0::r1::r2::rr)).fr S) (fun l2=>.item [Zu (l1 0+3) (svA (r0::r1::r2::rr) fun i=>l2 (i+20)) 0 (r0::r1::r2::rr).length,NA (Int.ofNat (r0::r1::r2::rr).length) 2 true,Ze (l1 0+3) (svA (r0::r1::r2::rr) fun i=>l2 (i+20)) 0 1 (Value.str r1 (l2 21))] ((Jp w.params X r1 false).fr S) (fun l3=>.item [Ze ra xs xn (Int.ofNat k) (Value.ref la),Zu ga ys yn n] ((Y3 (l3 0) (Int.ofNat k) (Int.ofNat n) 1 tk (l3 1+2) (l3 1+3) (Int.ofNat n-Int.ofNat k)).fr S) (fun l4=>.item [] (YC w.params X [] S (l3 0+1) ra ga pa rd xs xn ys yn ps pn rs rn k n true jl words la ws wn tk (sz+1) (l1 0+3) (fl [F 0,F 1,F 2,F 3,F 4,F 5,l2 0,l3 1])) (fun l5=>.fin [Ze pa ps pn (Int.ofNat k) (Value.str pg pt)])))))),(dg 122 0x1314441115999990010011113f121133f212a19009008991aaa99000111190101900890415558041515703141460213135233450182012bf7277213332212001),[0,4,4],0,fun ls=>(fun l0 l1 l2 l3 l4 l5=>flT [l5 0+1,l5 1+1,l5 0,l5 1,pt,l5 2,l5 3,0,0,0,0,0,0,0,0,0,0,0,0,0] (fun i=>l5 (i+20))) (ls 0) (ls 1) (ls 2) (ls 3) (ls 4) (ls 5),?_,fun ls=>?_⟩
 ·exact ⟨(fun x hx=>(nomatch hx)),(Zp hleft rfl rfl).fr S,fun l0=>⟨(AllV.all ⟨Z7 hra,trivial⟩),(hb _ _ _).fr S,fun l1=>⟨(AllV.all ⟨ZT (by rw[Array.size_append,Z6];simp),ZT (by rw[Array.size_append,Z6];simp),Q3 (by rw[Array.size_append,Z6];simp),Z7 (.inl ⟨0,rfl,by decide,by simp[svA,svL]⟩),trivial⟩),hsp.fr S,fun l2=>⟨(AllV.all ⟨Zn (Z6 _ _) hrl,JF (decide_eq_true (by simp only[Int.ofNat_eq_natCast,List.length_cons];omega)),Z7 (.inl ⟨1,rfl,by decide,by simp[svA,svL]⟩),trivial⟩),hwh.fr S,fun l3=>⟨(AllV.all ⟨Z7 hra,Zn hlen hn,trivial⟩),(ZJ hs hr).fr S,fun l4=>⟨(fun x hx=>(nomatch hx)),hi _ _ _ _ _,fun l5=>(AllV.all ⟨Z7 hpa,trivial⟩)⟩⟩⟩⟩⟩⟩
 ·cases b <;> kernel_rfl
theorem d_nl01 {b b2:Bool}{w:World}(hw:Wd b b2 w)(X:Fr)(S:Led)(it ra ga pa rd:Nat)(xs:Array Value)(xn:Nat)(ys:Array Value)(yn:Nat)(ps:Array Value)(pn:Nat)(k:Nat)(left:Int)(rs:Array Value)(rn:Nat)(F:Nat→Nat)(la:Nat)(ws:Array Value)(wn:Nat)(z:Str)(n:Nat)(jl:Int)(words:List Str)(hleft:0<left)(hra:Y6 xs (Int.ofNat k) (.ref la))(hlen:ys.size=n)(hn:n<2 ^ 62)(pg:Str)(pt:Nat)(hpa:Y6 ps (Int.ofNat k) (.str pg pt))(hs:Builtin.Range.small (Int.ofNat k) (Int.ofNat n) 1=true)(hr:Builtin.Range.rangeSize (Int.ofNat k) (Int.ofNat n) 1=Int.ofNat n-Int.ofNat k)(gt:Nat)(gs0:Str)(gtok gl:Nat)(hk:k<n)(hga:Y6 ys (Int.ofNat k) (.ref gt))(hg:eqS gs0 (mkS [10])=true)(hb:∀ it acc L,OK w (Qb w.params X.p it la acc L ws wn z []))(hi:∀ it kt ba qa F,OK w (YC w.params X [(gt,Y5 [.str gs0 gtok,.ref gl] 0)] S it ra ga pa rd xs xn ys yn ps pn rs rn k n true jl words la ws wn kt ba qa F)):OK w (YP w.params X (dE la ws wn gt gs0 gtok gl) S it ra ga pa rd xs xn ys yn ps pn (ODw S rd rs rn pg words) k left rs rn F none):=by
 refine Z1 hw.w0 _ fun c B p sz tk g he=>?_
 change _=_ at he
 delta YP at he
 dsimp only at he
 replace he:=Zd he
 subst he
 refine ⟨315,.item [] ((Zw it (Int.ofNat k) left 1 (Int.ofNat k+1) (left-1)).fr S) (fun l0=>.item [Ze ra xs xn (Int.ofNat k) (Value.ref la)] ((Qb w.params X.p sz la (sz+1) (sz+2) ws wn z []).fr S) (fun l1=>.item [Zu ga ys yn n,Z13 (Int.ofNat k) (Int.ofNat n) false,Ze ga ys yn (Int.ofNat k) (Value.ref gt),Jy gs0 (mkS [10]) false,Ze ra xs xn (Int.ofNat k) (Value.ref la),Zu ga ys yn n] ((Y3 (l1 0+4) (Int.ofNat k) (Int.ofNat n) 1 tk (l1 1+11) (l1 1+12) (Int.ofNat n-Int.ofNat k)).fr S) (fun l2=>.item [] (YC w.params X [(gt,Y5 [Value.str gs0 gtok,Value.ref gl] 0)] S (l1 0+5) ra ga pa rd xs xn ys yn ps pn rs rn k n true jl words la ws wn tk (sz+1) (l1 0+3) (fl [F 0,F 1,F 2,F 3,tk+1,l1 1,l1 1+5,l1 1+9])) (fun l3=>.fin [Ze pa ps pn (Int.ofNat k) (Value.str pg pt)])))),(dg 160 0x13144411185999990010011113f121133f212a19009008991aaa9992129f1217290089151554f15136f52515712c32fc2ccc8199977141454f14137f4241461716006131354f13137f323135233450182012bf7277213332212001),[0,4,4],0,fun ls=>(fun l0 l1 l2 l3=>flT [l3 0+1,l3 1+1,l3 0,l3 1,pt,l3 2,l3 3,0,0,0,0,0,0,0,0,0,0,0,0,0] (fun i=>l3 (i+20))) (ls 0) (ls 1) (ls 2) (ls 3),?_,fun ls=>?_⟩
 ·exact ⟨(fun x hx=>(nomatch hx)),(Zp hleft rfl rfl).fr S,fun l0=>⟨(AllV.all ⟨Z7 hra,trivial⟩),(hb _ _ _).fr S,fun l1=>⟨(AllV.all ⟨Zn hlen hn,Vd (beq_eq_false_iff_ne.mpr (by simp only[Int.ofNat_eq_natCast];omega)),Z7 hga,QY (by rw[hg];rfl),Z7 hra,Zn hlen hn,trivial⟩),(ZJ hs hr).fr S,fun l2=>⟨(fun x hx=>(nomatch hx)),hi _ _ _ _ _,fun l3=>(AllV.all ⟨Z7 hpa,trivial⟩)⟩⟩⟩⟩
 ·cases b <;> kernel_rfl
theorem d_nl11 {b b2:Bool}{w:World}(hw:Wd b b2 w)(X:Fr)(S:Led)(it ra ga pa rd:Nat)(xs:Array Value)(xn:Nat)(ys:Array Value)(yn:Nat)(ps:Array Value)(pn:Nat)(k:Nat)(left:Int)(rs:Array Value)(rn:Nat)(F:Nat→Nat)(k0:Int)(u0 b0:Nat)(la:Nat)(ws:Array Value)(wn:Nat)(z:Str)(n:Nat)(jl:Int)(words:List Str)(hleft:0<left)(hra:Y6 xs (Int.ofNat k) (.ref la))(hlen:ys.size=n)(hn:n<2 ^ 62)(pg:Str)(pt:Nat)(hpa:Y6 ps (Int.ofNat k) (.str pg pt))(hs:Builtin.Range.small (Int.ofNat k) (Int.ofNat n) 1=true)(hr:Builtin.Range.rangeSize (Int.ofNat k) (Int.ofNat n) 1=Int.ofNat n-Int.ofNat k)(gt:Nat)(gs0:Str)(gtok gl:Nat)(hk:k<n)(hga:Y6 ys (Int.ofNat k) (.ref gt))(hg:eqS gs0 (mkS [10])=true)(hb:∀ it acc L,OK w (Qb w.params X.p it la acc L ws wn z []))(hi:∀ it kt ba qa F,OK w (YC w.params X [(gt,Y5 [.str gs0 gtok,.ref gl] 0)] S it ra ga pa rd xs xn ys yn ps pn rs rn k n true jl words la ws wn kt ba qa F)):OK w (YP w.params X (dE la ws wn gt gs0 gtok gl) S it ra ga pa rd xs xn ys yn ps pn (ODw S rd rs rn pg words) k left rs rn F (some (k0,u0,b0))):=by
 refine Z1 hw.w0 _ fun c B p sz tk g he=>?_
 change _=_ at he
 delta YP at he
 dsimp only at he
 replace he:=Zd he
 subst he
 refine ⟨315,.item [] ((Zw it (Int.ofNat k) left 1 (Int.ofNat k+1) (left-1)).fr S) (fun l0=>.item [Ze ra xs xn (Int.ofNat k) (Value.ref la)] ((Qb w.params X.p sz la (sz+1) (sz+2) ws wn z []).fr S) (fun l1=>.item [Zu ga ys yn n,Z13 (Int.ofNat k) (Int.ofNat n) false,Ze ga ys yn (Int.ofNat k) (Value.ref gt),Jy gs0 (mkS [10]) false,Ze ra xs xn (Int.ofNat k) (Value.ref la),Zu ga ys yn n] ((Y3 (l1 0+4) (Int.ofNat k) (Int.ofNat n) 1 tk (l1 1+11) (l1 1+12) (Int.ofNat n-Int.ofNat k)).fr S) (fun l2=>.item [] (YC w.params X [(gt,Y5 [Value.str gs0 gtok,Value.ref gl] 0)] S (l1 0+5) ra ga pa rd xs xn ys yn ps pn rs rn k n true jl words la ws wn tk (sz+1) (l1 0+3) (fl [F 0,F 1,F 2,F 3,F 4,F 5,l1 1+5,l1 1+9])) (fun l3=>.fin [Ze pa ps pn (Int.ofNat k) (Value.str pg pt)])))),(dg 160 0x13144411185999990010011113f121133f212a19009008991aaa9992129f1217290089151554f15136f52515712c32fc2ccc8199977141454f14137f4241461716006131354f13137f323135233450182012bf7277213332212001),[0,4,4],0,fun ls=>(fun l0 l1 l2 l3=>flT [l3 0+1,l3 1+1,l3 0,l3 1,pt,l3 2,l3 3,0,0,0,0,0,0,0,0,0,0,0,0,0] (fun i=>l3 (i+20))) (ls 0) (ls 1) (ls 2) (ls 3),?_,fun ls=>?_⟩
 ·exact ⟨(fun x hx=>(nomatch hx)),(Zp hleft rfl rfl).fr S,fun l0=>⟨(AllV.all ⟨Z7 hra,trivial⟩),(hb _ _ _).fr S,fun l1=>⟨(AllV.all ⟨Zn hlen hn,Vd (beq_eq_false_iff_ne.mpr (by simp only[Int.ofNat_eq_natCast];omega)),Z7 hga,QY (by rw[hg];rfl),Z7 hra,Zn hlen hn,trivial⟩),(ZJ hs hr).fr S,fun l2=>⟨(fun x hx=>(nomatch hx)),hi _ _ _ _ _,fun l3=>(AllV.all ⟨Z7 hpa,trivial⟩)⟩⟩⟩⟩
 ·cases b <;> kernel_rfl
noncomputable def pgo (eb:Bool)(u:Nat):Option (Int × Nat):=match eb with
 | true=>some (0,u)
 | false=>none
noncomputable def OPg (P:Params)(X:Fr)(E S:Led)(ra ga:Nat)(xs:Array Value)(xn:Nat)(ys:Array Value)(yn:Nat)(eb:Bool)(pages:List Str):(Nat→Nat)→FOut:=fun l =>
 ⟨.ok .next,[(X.p,pgf P (fun i=>l (i+10)) ra ga (l 3) (pgo eb (l 6))),(ra,Z0 xs xn),(ga,Z0 ys yn),(l 3,Z0 (svA pages (fun i=>l (i+20))) (l 4)),(753,cdO (some (l 5)))]++E,l 0,l 1,id,S⟩
theorem WN{P:Params}{F G:Nat→Nat}(h:∀ i,i<4→F i=G i)(ra ga pa:Nat)(o:Option (Int × Nat)):pgf P F ra ga pa o=pgf P G ra ga pa o:=by
 cases o <;> (unfold pgf;dsimp only;rw[h 0 (by decide),h 1 (by decide),h 2 (by decide)]) <;> (try rw[h 3 (by decide)])
noncomputable def itPF (P:Params)(X:Fr)(S:Led)(ra ga:Nat)(xs:Array Value)(xn:Nat)(ys:Array Value)(yn la:Nat)(ws:Array Value)(wn n:Nat)(pages:List Str):FItem where
 c:=.call (.ref 794) ⟨[.ref ra,.ref ga],[]⟩
 B:=nrm [.f (ZG P 823 X.w),.b "claim.caller"]
 pre:=[(ra,Z0 xs xn),(ga,Z0 ys yn),(753,cdO none),(la,Z0 ws wn)]
 out:=fun _ _ l=>⟨.ok (.ret (.ref (l 3))),[(ra,Z0 xs xn),(ga,Z0 ys yn),(l 3,Z0 (svA pages (fun i=>l (i+20))) (l 4)),(753,cdO (some (l 5))),(la,Z0 ws wn)],l 0,l 1,VE (n+1),S⟩
 preS:=S
section
variable{b b2:Bool}{w:World}(hw:Wd b b2 w)(X:Fr)(S:Led)(ra ga:Nat)(xs:Array Value)(xn:Nat)(ys:Array Value)(yn la:Nat)(ws:Array Value)(wn n:Nat)(z:Str)(pages:List Str)(hra:Y6 xs (Int.negSucc 0) (.ref la))(hlen:ys.size=n)(hn:n<2 ^ 62)(hs:Builtin.Range.small (Int.ofNat n-1) (-1) (-1)=true)(hr:Builtin.Range.rangeSize (Int.ofNat n-1) (-1) (-1)=Int.ofNat n)
include b b2 w hw X S ra ga xs xn ys yn la ws wn n z pages hra hlen hn hs hr
theorem pf_0
  (hj:∀ p,OK w (VO w.params { X with p:=p } false la ws wn none z))(h:∀ p it pa pt co F,OK w (J4 w.params { X with p:=p } [(la,Z0 ws wn)] S it ra ga xs xn ys yn (OPg w.params { X with p:=p } [(la,Z0 ws wn)] S ra ga xs xn ys yn false pages) n (Int.ofNat n-1) (Int.ofNat n) pa (svA [z] pt) 0 co F none)):OK w (itPF w.params X S ra ga xs xn ys yn la ws wn n pages):=by
 refine Z1 hw.w0 _ fun c B p sz tk g he=>?_
 obtain ⟨bs,rfl,hb⟩:=Z3 he
 obtain ⟨v1,v2,rfl,e1,e2⟩:=Zj hb
 obtain rfl:=Z5 e1
 obtain rfl:=Z5 e2
 refine ⟨148,.item [Ze ra xs xn (Int.negSucc 0) (Value.ref la)] ((VO w.params { g:=X.g,n:=X.n,s:=X.s,t:=X.t,p:=sz,w:=X.w } false la ws wn none z).fr S) (fun l0=>.item [Zu ga ys yn n,Z2X (Int.ofNat n) 1 (Int.ofNat n-1)] ((Y3 (l0 0+1) (Int.ofNat n-1) (-1) (-1) (l0 1+4) (l0 1+6) (l0 1+8) (Int.ofNat n)).fr S) (fun l1=>.item [] (J4 w.params { g:=X.g,n:=X.n,s:=X.s,t:=X.t,p:=sz,w:=X.w } [(la,Z0 ws wn)] S (l0 0+2) ra ga xs xn ys yn (OPg w.params { g:=X.g,n:=X.n,s:=X.s,t:=X.t,p:=sz,w:=X.w } [(la,Z0 ws wn)] S ra ga xs xn ys yn false pages) n (Int.ofNat n-1) (Int.ofNat n) (l0 0) (svA [z] (fl [l0 2])) 0 (l0 3) (fl [tk,tk+1,l0 1]) none) (fun l2=>.fin []))),(dg 59 0x11214440010011113f121133f21219f219f2151400003434001122219f21010010100),[1,1,1,1,1],0,fun ls=>ls 2,?_,fun ls=>?_⟩
 ·exact ⟨(AllV.all ⟨Z7 hra,trivial⟩),(hj _).fr S,fun l0=>⟨(AllV.all ⟨Zn hlen hn,Z1i rfl,trivial⟩),(ZJ hs hr).fr S,fun l1=>⟨(fun x hx=>(nomatch hx)),h _ _ _ _ _ _,fun l2=>(fun x hx=>(nomatch hx))⟩⟩⟩
 ·cases b <;> kernel_rfl
theorem pf_1
  (hj:∀ p,OK w (VO w.params { X with p:=p } false la ws wn none z))(h:∀ p it pa pt co F,OK w (J4 w.params { X with p:=p } [(la,Z0 ws wn)] S it ra ga xs xn ys yn (OPg w.params { X with p:=p } [(la,Z0 ws wn)] S ra ga xs xn ys yn true pages) n (Int.ofNat n-1) (Int.ofNat n) pa (svA [z] pt) 0 co F none)):OK w (itPF w.params X S ra ga xs xn ys yn la ws wn n pages):=by
 refine Z1 hw.w0 _ fun c B p sz tk g he=>?_
 obtain ⟨bs,rfl,hb⟩:=Z3 he
 obtain ⟨v1,v2,rfl,e1,e2⟩:=Zj hb
 obtain rfl:=Z5 e1
 obtain rfl:=Z5 e2
 refine ⟨148,.item [Ze ra xs xn (Int.negSucc 0) (Value.ref la)] ((VO w.params { g:=X.g,n:=X.n,s:=X.s,t:=X.t,p:=sz,w:=X.w } false la ws wn none z).fr S) (fun l0=>.item [Zu ga ys yn n,Z2X (Int.ofNat n) 1 (Int.ofNat n-1)] ((Y3 (l0 0+1) (Int.ofNat n-1) (-1) (-1) (l0 1+4) (l0 1+6) (l0 1+8) (Int.ofNat n)).fr S) (fun l1=>.item [] (J4 w.params { g:=X.g,n:=X.n,s:=X.s,t:=X.t,p:=sz,w:=X.w } [(la,Z0 ws wn)] S (l0 0+2) ra ga xs xn ys yn (OPg w.params { g:=X.g,n:=X.n,s:=X.s,t:=X.t,p:=sz,w:=X.w } [(la,Z0 ws wn)] S ra ga xs xn ys yn true pages) n (Int.ofNat n-1) (Int.ofNat n) (l0 0) (svA [z] (fl [l0 2])) 0 (l0 3) (fl [tk,tk+1,l0 1]) none) (fun l2=>.fin []))),(dg 59 0x11214440010011113f121133f21219f219f2151400003434001122219f21010010100),[1,1,1,1,1],0,fun ls=>ls 2,?_,fun ls=>?_⟩
 ·exact ⟨(AllV.all ⟨Z7 hra,trivial⟩),(hj _).fr S,fun l0=>⟨(AllV.all ⟨Zn hlen hn,Z1i rfl,trivial⟩),(ZJ hs hr).fr S,fun l1=>⟨(fun x hx=>(nomatch hx)),h _ _ _ _ _ _,fun l2=>(fun x hx=>(nomatch hx))⟩⟩⟩
 ·cases b <;> kernel_rfl
end
theorem VG{α:Type}:∀(l:List α)(k:Nat)(x:α),l[k]?=some x→l.Perm (x::l.eraseIdx k)
 | y::l,0,x,h=>by cases h;exact .refl _
 | y::l,k+1,x,h=>((VG l k x h).cons y).trans (.swap ..)
theorem Ue{R:List RWd}{k:Nat}{d:RWd}(h:R[k]?=some d):(rwS R).Perm (d.led::rwS (R.eraseIdx k)):=(VG R k d h).map RWd.led
theorem Us{G:List GP}{k:Nat}{d:GP}(h:G[k]?=some d):(gpS G).Perm (d.led++gpS (G.eraseIdx k)):=(VG G k d h).flatMap_right GP.led
theorem Kf{R:List RWd}{k:Nat}{d:RWd}(h:R[k]?=some d):(rwA R)[k]?=some (.ref d.la):=by
 unfold rwA
 simp[h]
theorem VQ{G:List GP}{k:Nat}{d:GP}(h:G[k]?=some d):(gpA G)[k]?=some (.ref d.ta):=by
 unfold gpA
 simp[h]
theorem Wy(v:Str)(t:Nat)(ts:List Str)(f:Nat→Nat):#[Value.str v t]++svA ts f=svA (v::ts) (fun i=>match i with | 0=>t | i+1=>f i):=by
 apply Array.ext'
 simp[svA,svL]
section
variable {b b2:Bool}{w:World}(hw:Wd b b2 w)(X:Fr)(S0:Led)(it ra ga xn yn:Nat)(R:List RWd)(Gs:List GP)(zs page:Nat→Str)(eb:Bool)
include hw
theorem pg_all(hRG:R.length=Gs.length+1)(hG:Gs.length≤1000)(heb:eb=decide (0<Gs.length))
  (hj:∀ i d,R[i]?=some d→∀ co,OK w (VO w.params X true d.la (svA d.ts d.tf) d.n (some co) (zs i)))
  (hp:∀ i d,Gs[i]?=some d→page i=zs i++d.g++page (i+1))(hz:∀ i d,Gs[i]?=some d→(zs i++d.g).length≤sizeLine∧(page i).length≤sizeLine) :
  ∀ k,k≤Gs.length→∀(pa:Nat)(f:Nat→Nat)(pn co:Nat)(F:Nat→Nat)(o:Option (Int × Nat)),((o=none∧k=Gs.length)∨∃ u,o=some (Int.ofNat k,u)∧k<Gs.length) →
  OK w (J4 w.params X [] (rwS R++(gpS Gs++S0)) it ra ga (rwA R) xn (gpA Gs) yn (OPg w.params X [] (rwS R++(gpS Gs++S0)) ra ga (rwA R) xn (gpA Gs) yn eb ((List.range' 0 (Gs.length+1)).map page)) k (Int.ofNat k-1) (Int.ofNat k) pa (svA ((List.range' k (Gs.length+1-k)).map page) f) pn co F o):=by
 intro k
 induction k with
 | zero =>
  intro hk pa f pn co F o ho
  have fin:∀(o':Option (Int × Nat))(u:Nat),pgo eb u=o'→OK w (J4 w.params X [] (rwS R++(gpS Gs++S0)) it ra ga (rwA R) xn (gpA Gs) yn (fun l=>⟨.ok .next,[(X.p,pgf w.params F ra ga pa o'),(ra,Z0 (rwA R) xn),(ga,Z0 (gpA Gs) yn),(pa,Z0 (svA ((List.range' 0 (Gs.length+1-0)).map page) f) pn),(753,cdO (some co))],l 0,l 1,id,rwS R++(gpS Gs++S0)⟩) 0 (Int.ofNat 0-1) (Int.ofNat 0) pa (svA ((List.range' 0 (Gs.length+1-0)).map page) f) pn co F o') →
    OK w (J4 w.params X [] (rwS R++(gpS Gs++S0)) it ra ga (rwA R) xn (gpA Gs) yn (OPg w.params X [] (rwS R++(gpS Gs++S0)) ra ga (rwA R) xn (gpA Gs) yn eb ((List.range' 0 (Gs.length+1)).map page)) 0 (Int.ofNat 0-1) (Int.ofNat 0) pa (svA ((List.range' 0 (Gs.length+1-0)).map page) f) pn co F o'):=fun o' u ho' h=>by
   refine h.conseq [] rfl (fun _ e=>e) (fun _ e=>e) (by rw[List.append_nil];exact .refl _) fun sz tk l=>?_
   refine ⟨flT [l 0,l 1,0,pa,pn,co,u,0,0,0,F 0,F 1,F 2,F 3,0,0,0,0,0,0] f,[],rfl,rfl,rfl,rfl,?_⟩
   rw[List.append_nil,List.append_nil]
   subst ho'
   have e:pgf w.params (fun i=>flT [l 0,l 1,0,pa,pn,co,u,0,0,0,F 0,F 1,F 2,F 3,0,0,0,0,0,0] f (i+10)) ra ga pa (pgo eb u)=pgf w.params F ra ga pa (pgo eb u):=WN (fun i hi=>by
    match i,hi with
    | 0,_=>rfl
    | 1,_=>rfl
    | 2,_=>rfl
    | 3,_=>rfl) _ _ _ _
   show List.Perm ([(X.p,pgf w.params F ra ga pa _),_,_,_,_]++_) (((X.p,pgf w.params (fun i=>flT [l 0,l 1,0,pa,pn,co,u,0,0,0,F 0,F 1,F 2,F 3,0,0,0,0,0,0] f (i+10)) ra ga pa (pgo eb u))::_)++_)
   rw[e]
   exact .refl _
  rcases ho with ⟨rfl,h0⟩ | ⟨u,rfl,h0⟩
  ·exact fin none 0 (by rw[heb,←h0];rfl) (Z25 hw X _ it ra ga _ xn _ yn _ _ pa _ pn co F (by simp))
  ·exact fin (some (Int.ofNat 0,u)) u (by rw[heb,decide_eq_true h0];rfl) (Z24 hw X _ it ra ga _ xn _ yn _ _ pa _ pn co F _ u (by simp))
 | succ k ih =>
  intro hk pa f pn co F o ho
  have hkR:k<R.length:=by rw[hRG];exact Nat.lt_succ_of_lt hk
  have hkG:k<Gs.length:=hk
  have hR:R[k]?=some R[k]:=List.getElem?_eq_getElem hkR
  have hGk:Gs[k]?=some Gs[k]:=List.getElem?_eq_getElem hkG
  generalize R[k]=d at hR
  generalize Gs[k]=e at hGk
  have ek:(Int.ofNat (k+1)-1:Int)=Int.ofNat k:=Int.add_sub_cancel (Int.ofNat k) 1
  have ek2:(Int.ofNat k+-1:Int)=Int.ofNat k-1:=rfl
  have el:(Int.ofNat (k+1)-1:Int)=Int.ofNat k:=ek
  have er:List.range' (k+1) (Gs.length+1-(k+1))=List.range' (k+1) (Gs.length-k):=by rw[show Gs.length+1-(k+1)=Gs.length-k from nb5]
  have er2:List.range' k (Gs.length+1-k)=k::List.range' (k+1) (Gs.length-k):=by
   rw[show Gs.length+1-k=(Gs.length-k)+1 from nb4 (Nat.le_of_lt hk),List.range'_succ]
  obtain ⟨r2,hr2⟩:∃ r2,List.range' (k+1) (Gs.length-k)=(k+1)::r2:=by
   rw[show Gs.length-k=(Gs.length-k-1)+1 from nb1 hk,List.range'_succ]
   exact ⟨_,rfl⟩
  let S':Led:=(e.la,Z0 (svA e.ts e.tf) e.n)::(rwS (R.eraseIdx k)++(gpS (Gs.eraseIdx k)++S0))
  have hS:(rwS R++(gpS Gs++S0)).Perm (pgE d.la (svA d.ts d.tf) d.n e.ta e.g e.tok e.la++S'):=by
   refine ((Ue hR).append ((Us hGk).append_right S0)).trans ?_
   show List.Perm ((d.led::rwS (R.eraseIdx k))++(((e.ta,Y5 [.str e.g e.tok,.ref e.la] 0)::(e.la,Z0 (svA e.ts e.tf) e.n)::gpS (Gs.eraseIdx k))++S0)) (d.led::(e.ta,Y5 [.str e.g e.tok,.ref e.la] 0)::(e.la,Z0 (svA e.ts e.tf) e.n)::(rwS (R.eraseIdx k)++(gpS (Gs.eraseIdx k)++S0)))
   refine List.Perm.cons _ ?_
   refine List.perm_middle.trans (.cons _ ?_)
   exact List.perm_middle.trans (.cons _ (.refl _))
  have conv:∀ {k' left':Int}{n' pa':Nat}{ps':Array Value}{pn' co':Nat}{F':Nat→Nat}{o':Option (Int × Nat)}{O:(Nat→Nat)→FOut}{E1 S1 E2 S2:Led},(E1++S1).Perm (E2++S2)→OK w (J4 w.params X E1 S1 it ra ga (rwA R) xn (gpA Gs) yn O n' k' left' pa' ps' pn' co' F' o')→OK w (J4 w.params X E2 S2 it ra ga (rwA R) xn (gpA Gs) yn O n' k' left' pa' ps' pn' co' F' o'):=fun hP h=>by
   refine h.conseq [] rfl (fun _ e=>e) (fun _ e=>e) ?_ fun sz tk l=>⟨l,[],rfl,rfl,rfl,rfl,?_⟩
   ·rw[List.append_nil]
    show List.Perm ((_++_)++_) ((_++_)++_)
    rw[List.append_assoc,List.append_assoc]
    exact .append_left _ hP.symm
   ·rw[List.append_nil,List.append_nil];exact .refl _
  refine conv (E1:=pgE d.la (svA d.ts d.tf) d.n e.ta e.g e.tok e.la) (S1:=S') (by simpa using hS.symm) ?_
  have hps:(svA ((List.range' (k+1) (Gs.length+1-(k+1))).map page) f).size=Gs.length-k:=by rw[Z6,List.length_map,List.length_range'];exact nb5
  have hget:Y6 (svA ((List.range' (k+1) (Gs.length+1-(k+1))).map page) f) 0 (.str (page (k+1)) (f 0)):=.inl ⟨0,rfl,by decide,by rw[er,hr2];rfl⟩
  have next:∀ pa' pt' co' F' u,OK w (J4 w.params X (pgE d.la (svA d.ts d.tf) d.n e.ta e.g e.tok e.la) S' it ra ga (rwA R) xn (gpA Gs) yn (OPg w.params X [] (rwS R++(gpS Gs++S0)) ra ga (rwA R) xn (gpA Gs) yn eb ((List.range' 0 (Gs.length+1)).map page)) k (Int.ofNat k+-1) (Int.ofNat (k+1)-1) pa' (#[.str (page k) pt']++svA ((List.range' (k+1) (Gs.length+1-(k+1))).map page) f) 0 co' F' (some (Int.ofNat k,u))):=fun pa' pt' co' F' u=>by
   refine conv (E1:=[]) (S1:=rwS R++(gpS Gs++S0)) (by simpa using hS) ?_
   rw[Wy,er,←List.map_cons,←er2,ek2,ek]
   exact ih (by omega) pa' _ 0 co' F' _ (.inr ⟨u,rfl,by omega⟩)
  have h1:=hz k e hGk
  have hh:∀ o,(OK w (J4 w.params X (pgE d.la (svA d.ts d.tf) d.n e.ta e.g e.tok e.la) S' it ra ga (rwA R) xn (gpA Gs) yn (OPg w.params X [] (rwS R++(gpS Gs++S0)) ra ga (rwA R) xn (gpA Gs) yn eb ((List.range' 0 (Gs.length+1)).map page)) (k+1) (Int.ofNat k) (Int.ofNat (k+1)) pa (svA ((List.range' (k+1) (Gs.length+1-(k+1))).map page) f) pn co F o)):=fun o=>by
   have hleft:(0:Int)<Int.ofNat (k+1):=Int.ofNat_lt.mpr (Nat.succ_pos k)
   have hra:Y6 (rwA R) (Int.ofNat k) (.ref d.la):=.inl ⟨k,rfl,Nat.lt_of_le_of_lt (Nat.le_trans (Nat.le_of_lt hk) hG) (by decide),Kf hR⟩
   have hga:Y6 (gpA Gs) (Int.ofNat k) (.ref e.ta):=.inl ⟨k,rfl,Nat.lt_of_le_of_lt (Nat.le_trans (Nat.le_of_lt hk) hG) (by decide),VQ hGk⟩
   have hsz:1+(svA ((List.range' (k+1) (Gs.length+1-(k+1))).map page) f).size≤sizeLine:=by rw[hps];exact Nat.le_trans (show 1+(Gs.length-k)≤1001 by omega) (by decide)
   cases o with
   | none=>exact Z0q hw X S' it ra ga (rwA R) xn (gpA Gs) yn _ k (Int.ofNat k) (Int.ofNat (k+1)) pa _ pn co F d.la _ d.n e.ta e.g e.tok e.la (zs k) (zs k++e.g) (page k) (page (k+1)) (f 0) _ _ _ _ hleft hra hga hget (hj k d hR co) rfl rfl rfl h1.1 (hp k e hGk).symm rfl rfl h1.2 hsz next
   | some o=>exact Z0p hw X S' it ra ga (rwA R) xn (gpA Gs) yn _ k (Int.ofNat k) (Int.ofNat (k+1)) pa _ pn co F o.1 o.2 d.la _ d.n e.ta e.g e.tok e.la (zs k) (zs k++e.g) (page k) (page (k+1)) (f 0) _ _ _ _ hleft hra hga hget (hj k d hR co) rfl rfl rfl h1.1 (hp k e hGk).symm rfl rfl h1.2 hsz next
  rw[ek]
  exact hh o
end
end
section
open PySem PySem.Builtin PySem.Builtin.Str PySem.W
theorem Ww:∀(ts:List Str)(f:Nat→Nat)(i:Nat)(s:Str),ts[i]?=some s→(svL ts f)[i]?=some (.str s (f i))
 | s::ts,f,0,x,h=>by cases h;rfl
 | s::ts,f,i+1,x,h=>by
  show (svL ts _)[i]?=_
  exact Ww ts (fun i=>f (i+1)) i x h
theorem Vv{ts:List Str}{f:Nat→Nat}{i:Nat}{s:Str}(h:ts[i]?=some s):(svA ts f)[i]?=some (.str s (f i)):=by
 unfold svA
 rw[List.getElem?_toArray]
 exact Ww ts f i s h
section
variable {b b2:Bool}{w:World}(hw:Wd b b2 w)(Lf it la acc L:Nat)(ts:List Str)(tf:Nat→Nat)(wn:Nat)
include hw
theorem bl_all(z:Str):∀(rem:List Str)(i:Nat),ts.drop i=rem→∀(xs:Array Value)(n F:Nat)(o:Option (Str × Nat)),(o=none→rem≠[])→(∀ x,o=some x→rem=[]→x.1=z)→(rem≠[]→rem.getLast?=some z)→xs.size+rem.length≤1000 →
  OK w (KK w.params Lf it la acc L (svA ts tf) wn (OBL w.params la acc L (svA ts tf) wn z xs (rem.filter fun s=>Zh s (mkS [10]))) i xs n F o):=by
 intro rem
 induction rem with
 | nil =>
  intro i hd xs n F o h1 h2 h3 hs
  have hk:(svA ts tf).size≤i:=by rw[Z6];exact List.drop_eq_nil_iff.mp hd
  cases o with
  | none=>exact absurd rfl (h1 rfl)
  | some x =>
   obtain ⟨x,u⟩:=x
   obtain rfl:=h2 _ rfl rfl
   refine (Z2T hw Lf it la acc L (svA ts tf) wn i xs n F x u hk).conseq [] rfl (fun _ e=>e) (fun _ e=>e) (by rw[List.append_nil];exact .refl _) fun sz tk l=>?_
   refine ⟨flT [l 0,l 1,n,F,u,0,0,0,0,0,0,0,0,0,0,0,0,0,0,0] (fun _=>0),[],rfl,rfl,rfl,rfl,?_⟩
   rw[List.append_nil,List.append_nil]
   have e:xs++svA [] (fun i=>flT [l 0,l 1,n,F,u,0,0,0,0,0,0,0,0,0,0,0,0,0,0,0] (fun _=>0) (i+20))=xs:=by simp[svA,svL]
   show List.Perm ([(la,Z0 (svA ts tf) wn),(acc,Z0 xs n),(L,VT w.params F (some (x,u)))]++[]) ([(la,Z0 (svA ts tf) wn),(acc,Z0 (xs++svA [] (fun i=>flT [l 0,l 1,n,F,u,0,0,0,0,0,0,0,0,0,0,0,0,0,0,0] (fun _=>0) (i+20))) n),(L,VT w.params F (some (x,u)))]++[])
   rw[e]
 | cons s rem ih =>
  intro i hd xs n F o h1 h2 h3 hs
  rw[List.length_cons] at hs
  have hlt:i<ts.length:=by
   rcases Nat.lt_or_ge i ts.length with h | h
   ·exact h
   ·rw[List.drop_eq_nil_of_le h] at hd;cases hd
  have hd':ts.drop (i+1)=rem:=by rw[←List.drop_drop,hd];rfl
  have hx:(svA ts tf)[i]?=some (.str s (tf i)):=by
   have e0:ts[i]?=some s:=by
    rw[List.drop_eq_getElem_cons hlt] at hd
    injection hd with h _
    rw[List.getElem?_eq_getElem hlt,h]
   exact Vv e0
  have hl:rem≠[]→rem.getLast?=some z:=fun hr=>by
   have:=h3 (by simp)
   rwa [List.getLast?_cons,List.getLast?_eq_some_getLast hr,Option.getD_some,←List.getLast?_eq_some_getLast hr] at this
  have hl2:rem=[]→s=z:=fun hr=>by
   have:=h3 (by simp)
   subst hr
   simpa using this
  cases hc:Zh s (mkS [10]) with
  | false =>
   have next:∀ F u,OK w (KK w.params Lf it la acc L (svA ts tf) wn (OBL w.params la acc L (svA ts tf) wn z xs ((s::rem).filter fun s=>Zh s (mkS [10]))) (i+1) xs n F (some (s,u))):=fun F u=>by
    rw[List.filter_cons,hc]
    exact ih (i+1) hd' xs n F _ (fun h=>by cases h) (fun x hx hr=>by cases hx;exact hl2 hr) hl (by omega)
   cases o with
   | none=>exact bl_no0 hw Lf it la acc L (svA ts tf) wn _ i xs n F s (tf i) hx hc next
   | some x=>exact bl_no1 hw Lf it la acc L (svA ts tf) wn _ i xs n F x.1 x.2 s (tf i) hx hc next
  | true =>
   have hxs:xs.size<sizeLine:=Nat.lt_of_le_of_lt (show xs.size≤1000 by omega) (by decide)
   have next:∀ F u v n,OK w (KK w.params Lf it la acc L (svA ts tf) wn (OBL w.params la acc L (svA ts tf) wn z xs ((s::rem).filter fun s=>Zh s (mkS [10]))) (i+1) (xs.push (Value.str s v)) n F (some (s,u))):=fun F u v n=>by
    have g:=ih (i+1) hd' (xs.push (.str s v)) n F (some (s,u)) (fun h=>by cases h) (fun x hx hr=>by cases hx;exact hl2 hr) hl (by rw[Array.size_push];omega)
    rw[List.filter_cons,hc]
    refine g.conseq [] rfl (fun _ e=>e) (fun _ e=>e) (by rw[List.append_nil];exact .refl _) fun sz tk l'=>⟨shl l' v,[],rfl,ZS l' v 0 (by decide),ZS l' v 1 (by decide),rfl,?_⟩
    rw[List.append_nil,List.append_nil]
    show List.Perm (([(la,Z0 (svA ts tf) wn),(acc,Z0 (xs.push (.str s v)++svA _ (fun i=>l' (i+20))) (l' 2)),(L,VT w.params (l' 3) (some (z,l' 4)))]:Led)++[]) (([(la,Z0 (svA ts tf) wn),(acc,Z0 (xs++svA (s::_) (fun i=>shl l' v (i+20))) (shl l' v 2)),(L,VT w.params (shl l' v 3) (some (z,shl l' v 4)))]:Led)++[])
    rw[Qp,ZS l' v 2 (by decide),ZS l' v 3 (by decide),ZS l' v 4 (by decide)]
   cases o with
   | none=>exact Z2S hw Lf it la acc L (svA ts tf) wn _ i xs n F s (tf i) hx hc hxs next
   | some x=>exact Z2R hw Lf it la acc L (svA ts tf) wn _ i xs n F x.1 x.2 s (tf i) hx hc hxs next
end
theorem bs_ok{b b2:Bool}{w:World}(hw:Wd b b2 w)(it la acc L:Nat)(ts:List Str)(z:Str)(tf:Nat→Nat)(wn Lf:Nat)(hz:ts.getLast?=some z)(hl:ts.length≤1000):OK w (Qb w.params Lf it la acc L (svA ts tf) wn z (ts.filter fun s=>Zh s (mkS [10]))):=by
 have hne:ts≠[]:=fun h=>by rw[h] at hz;cases hz
 exact QD (it:=KK w.params Lf it la acc L (svA ts tf) wn (OBL w.params la acc L (svA ts tf) wn z #[] (ts.filter fun s=>Zh s (mkS [10]))) 0 #[] 0 0 none)
  (bl_all hw Lf it la acc L ts tf wn z ts 0 rfl #[] 0 0 none (fun _=>hne) (fun _ h=>by cases h) (fun _=>hz) (by simpa using hl))
  rfl rfl (by kernel_rfl) (List.Mem.head _) rfl (KV it)
theorem NE{b b2:Bool}{w:World}(hw:Wd b b2 w)(c:String)(hcls:c="str_ascii_iterator"∨c="str_iterator")(it acc L cl:Nat)(s:Str)(t wt Lf:Nat)(hl:s.cps.toList.length≤1000):OK w (Vi w.params Lf c it acc L cl s t wt (!s.cps.toList.isEmpty) ((s.cps.toList.filter fun k=>!isW k).map fun k=>mkS [k])):=by
 have h:=wl_all hw Lf it acc L cl s t wt c hcls s.cps.toList 0 rfl #[] 0 0 none (!s.cps.toList.isEmpty) (fun _=>rfl) (fun h=>absurd rfl h) (by simpa using hl)
 refine QD (it:=Ye w.params Lf c it acc L cl s t wt (OWL w.params acc L cl wt (!s.cps.toList.isEmpty) #[] ((s.cps.toList.filter fun k=>!isW k).map fun k=>mkS [k])) 0 #[] 0 0 none) h
  rfl rfl (by kernel_rfl) (List.Mem.head _) rfl ?_
 rcases hcls with rfl | rfl
 ·exact UH it
 ·exact Z02 it
theorem wh_ok{b b2:Bool}{w:World}(hw:Wd b b2 w)(X:Fr)(s:Str)(hl:s.cps.toList.length≤1000):OK w (Jp w.params X s (s.cps.toList.all isW)):=by
 have hall:s.cps.toList.all isW=(s.cps.toList.filter fun k=>!isW k).isEmpty:=by
  induction s.cps.toList with
  | nil=>rfl
  | cons k ks ih=>cases hk:isW k <;> simp_all
 cases hr:s.cps.toList.all isW with
 | true =>
  have e0:(s.cps.toList.filter fun k=>!isW k)=[]:=by rw[hall] at hr;exact List.isEmpty_iff.mp hr
  by_cases ha:(if s.cps.all (·<128)=true then "str_ascii_iterator" else "str_iterator")="str_ascii_iterator"
  ·have h:=fun Lf it acc L cl t wt=>NE hw "str_ascii_iterator" (.inl rfl) it acc L cl s t wt Lf hl
   rw[e0] at h
   cases he0:s.cps.toList.isEmpty <;> rw[he0] at h
   ·exact wh_ta1 hw X s ha h
   ·exact wh_ta0 hw X s ha h
  ·have ha:(if s.cps.all (·<128)=true then "str_ascii_iterator" else "str_iterator")="str_iterator":=by
    split at ha
    ·exact absurd rfl ha
    ·next hh=>rw[if_neg hh]
   have h:=fun Lf it acc L cl t wt=>NE hw "str_iterator" (.inr rfl) it acc L cl s t wt Lf hl
   rw[e0] at h
   cases he0:s.cps.toList.isEmpty <;> rw[he0] at h
   ·exact wh_tw1 hw X s ha h
   ·exact wh_tw0 hw X s ha h
 | false =>
  have e0:((((s.cps.toList.filter fun k=>!isW k).map fun k=>mkS [k]).length != 0)=true):=by
   rw[hall] at hr
   cases hh:(s.cps.toList.filter fun k=>!isW k) with
   | nil=>rw[hh] at hr;cases hr
   | cons a as=>rfl
  by_cases ha:(if s.cps.all (·<128)=true then "str_ascii_iterator" else "str_iterator")="str_ascii_iterator"
  ·have h:=fun Lf it acc L cl t wt=>NE hw "str_ascii_iterator" (.inl rfl) it acc L cl s t wt Lf hl
   cases he0:s.cps.toList.isEmpty <;> rw[he0] at h
   ·exact wh_fa1 hw X s _ e0 ha h
   ·exact wh_fa0 hw X s _ e0 ha h
  ·have ha:(if s.cps.all (·<128)=true then "str_ascii_iterator" else "str_iterator")="str_iterator":=by
    split at ha
    ·exact absurd rfl ha
    ·next hh=>rw[if_neg hh]
   have h:=fun Lf it acc L cl t wt=>NE hw "str_iterator" (.inr rfl) it acc L cl s t wt Lf hl
   cases he0:s.cps.toList.isEmpty <;> rw[he0] at h
   ·exact wh_fw1 hw X s _ e0 ha h
   ·exact wh_fw0 hw X s _ e0 ha h
end
section
open PySem PySem.Builtin PySem.W
theorem Wx:∀(a c:List Str)(f g:Nat→Nat),∃ h,svL a f++svL c g=svL (a++c) h
 | [],c,f,g=>⟨g,rfl⟩
 | s::a,c,f,g=>by
  obtain ⟨h,e⟩:=Wx a c (fun i=>f (i+1)) g
  refine ⟨fun i=>match i with | 0=>f 0 | i+1=>h i,?_⟩
  show _::(svL a _++svL c g)=_::svL (a++c) _
  rw[e]
theorem Wz(a c:List Str)(f g:Nat→Nat):∃ h,svA a f++svA c g=svA (a++c) h:=by
 obtain ⟨h,e⟩:=Wx a c f g
 refine ⟨h,?_⟩
 apply Array.ext'
 simpa [svA] using e
noncomputable def YG:List (List Str)→List (List Str)→List Str
 | r::rs,g::gs=>g++r++YG rs gs
 | _,_=>[]
section
variable {b b2:Bool}{w:World}(hw:Wd b b2 w)(X:Fr)(S0:Led)(it ra ga pa rd xn yn:Nat)(R:List RWd)(Gs:List GP)(ps:Array Value)(pn:Nat)(rs:Array Value)(rn:Nat)(k:Nat)(kt ba qa:Nat)
include hw
theorem di_all(hRG:R.length=Gs.length+1)(hG:Gs.length≤1000)(R':List RWd)(hR':∀(j:Nat)(d:RWd),k≤j→R[j+1]?=some d→R'[j]?=some d) :
  ∀(d j:Nat),j+d=Gs.length→k≤j→∀(wa:Nat)(ts:List Str)(tf:Nat→Nat)(wn:Nat)(F:Nat→Nat)(o:Option (Int × Nat))(eb:Bool),(o=none→eb=decide (0<d))→(∀ x,o=some x→eb=true∧(d=0→x.1=Int.ofNat Gs.length-1)) →
  (ts++YG ((R.drop (j+1)).map RWd.ts) ((Gs.drop j).map GP.ts)).length≤1000 →
  OK w (Ky w.params X [] (rwS R'++(gpS Gs++S0)) it ra ga pa rd (rwA R) xn (gpA Gs) yn ps pn rs rn (Int.ofNat k) kt ba qa (OI w.params X (rwS R'++(gpS Gs++S0)) ra ga pa rd (rwA R) xn (gpA Gs) yn ps pn rs rn (Int.ofNat k) kt ba qa eb (Int.ofNat Gs.length-1) (ts++YG ((R.drop (j+1)).map RWd.ts) ((Gs.drop j).map GP.ts))) j (Int.ofNat d) wa (svA ts tf) wn F o):=by
 intro d
 induction d with
 | zero =>
  intro j hj hk wa ts tf wn F o eb h1 h2 hl
  have ew:YG ((R.drop (j+1)).map RWd.ts) ((Gs.drop j).map GP.ts)=[]:=by
   rw[List.drop_eq_nil_of_le (show R.length≤j+1 by omega)]
   rfl
  rw[ew,List.append_nil]
  have fin:∀(o':Option (Int × Nat))(u:Nat),ijo eb (Int.ofNat Gs.length-1) u=o' →
    OK w (Ky w.params X [] (rwS R'++(gpS Gs++S0)) it ra ga pa rd (rwA R) xn (gpA Gs) yn ps pn rs rn (Int.ofNat k) kt ba qa (fun l=>⟨.ok .next,[(X.p,ifr w.params F ra ga pa rd (Int.ofNat k) kt ba qa wa o'),(ra,Z0 (rwA R) xn),(ga,Z0 (gpA Gs) yn),(pa,Z0 ps pn),(rd,Z0 rs rn),(wa,Z0 (svA ts tf) wn)],l 0,l 1,id,rwS R'++(gpS Gs++S0)⟩) j (Int.ofNat 0) wa (svA ts tf) wn F o') →
    OK w (Ky w.params X [] (rwS R'++(gpS Gs++S0)) it ra ga pa rd (rwA R) xn (gpA Gs) yn ps pn rs rn (Int.ofNat k) kt ba qa (OI w.params X (rwS R'++(gpS Gs++S0)) ra ga pa rd (rwA R) xn (gpA Gs) yn ps pn rs rn (Int.ofNat k) kt ba qa eb (Int.ofNat Gs.length-1) ts) j (Int.ofNat 0) wa (svA ts tf) wn F o'):=fun o' u ho' h=>by
   refine h.conseq [] rfl (fun _ e=>e) (fun _ e=>e) (by rw[List.append_nil];exact .refl _) fun sz tk l=>?_
   refine ⟨flT [l 0,l 1,wa,wn,0,u,0,0,0,0,F 0,F 1,F 2,F 3,F 4,F 5,F 6,F 7,F 8,0] tf,[],rfl,rfl,rfl,rfl,?_⟩
   rw[List.append_nil,List.append_nil]
   subst ho'
   have e:ifr w.params (fun i=>flT [l 0,l 1,wa,wn,0,u,0,0,0,0,F 0,F 1,F 2,F 3,F 4,F 5,F 6,F 7,F 8,0] tf (i+10)) ra ga pa rd (Int.ofNat k) kt ba qa wa (ijo eb (Int.ofNat Gs.length-1) u)=ifr w.params F ra ga pa rd (Int.ofNat k) kt ba qa wa (ijo eb (Int.ofNat Gs.length-1) u):=by
    cases eb <;> rfl
   show List.Perm ([(X.p,ifr w.params F ra ga pa rd _ kt ba qa wa _),_,_,_,_,_]++_) (((X.p,ifr w.params (fun i=>flT [l 0,l 1,wa,wn,0,u,0,0,0,0,F 0,F 1,F 2,F 3,F 4,F 5,F 6,F 7,F 8,0] tf (i+10)) ra ga pa rd (Int.ofNat k) kt ba qa wa (ijo eb (Int.ofNat Gs.length-1) u))::_)++_)
   rw[e]
   exact .refl _
  cases o with
  | none=>exact fin none 0 (by rw[h1 rfl];rfl) (Z2F hw X _ it ra ga pa rd _ xn _ yn ps pn rs rn (Int.ofNat k) kt ba qa j _ wa _ wn F (by simp))
  | some x =>
   obtain ⟨x,u⟩:=x
   obtain ⟨he,hx⟩:=h2 _ rfl
   refine fin (some (x,u)) u ?_ (Z2E hw X _ it ra ga pa rd _ xn _ yn ps pn rs rn (Int.ofNat k) kt ba qa j _ wa _ wn F x u (by simp))
   rw[he]
   show some (_,u)=some (x,u)
   rw[←hx rfl]
 | succ d ih =>
  intro j hj hk wa ts tf wn F o eb h1 h2 hl
  have heb:eb=true:=by
   cases o with
   | none=>rw[h1 rfl];simp
   | some x=>exact (h2 x rfl).1
  have hjG:j<Gs.length:=by omega
  have hjR:j+1<R.length:=by omega
  have hR:R[j+1]?=some R[j+1]:=List.getElem?_eq_getElem hjR
  have hGj:Gs[j]?=some Gs[j]:=List.getElem?_eq_getElem hjG
  have dR:R.drop (j+1)=R[j+1]::R.drop (j+1+1):=List.drop_eq_getElem_cons hjR
  have dG:Gs.drop j=Gs[j]::Gs.drop (j+1):=List.drop_eq_getElem_cons hjG
  generalize R[j+1]=r at hR dR
  generalize Gs[j]=e at hGj dG
  rw[dR,dG,List.map_cons,List.map_cons] at hl ⊢
  have ew:YG (r.ts::(R.drop (j+1+1)).map RWd.ts) (e.ts::(Gs.drop (j+1)).map GP.ts)=e.ts++r.ts++YG ((R.drop (j+1+1)).map RWd.ts) ((Gs.drop (j+1)).map GP.ts):=rfl
  rw[ew] at hl ⊢
  have hr':=hR' j r hk hR
  let S':Led:=rwS (R'.eraseIdx j)++(gpS (Gs.eraseIdx j)++S0)
  have hS:(rwS R'++(gpS Gs++S0)).Perm (iE e.ta e.g e.tok e.la (svA e.ts e.tf) e.n r.la (svA r.ts r.tf) r.n++S'):=by
   refine ((Ue hr').append ((Us hGj).append_right S0)).trans ?_
   show List.Perm ((r.led::rwS (R'.eraseIdx j))++(((e.ta,Y5 [.str e.g e.tok,.ref e.la] 0)::(e.la,Z0 (svA e.ts e.tf) e.n)::gpS (Gs.eraseIdx j))++S0)) ((e.ta,Y5 [.str e.g e.tok,.ref e.la] 0)::(e.la,Z0 (svA e.ts e.tf) e.n)::r.led::(rwS (R'.eraseIdx j)++(gpS (Gs.eraseIdx j)++S0)))
   refine (List.Perm.cons _ (List.perm_middle.trans (.cons _ List.perm_middle))).trans ?_
   exact (List.Perm.swap _ _ _).trans (.cons _ (List.Perm.swap _ _ _))
  have conv:∀ {j':Nat}{left':Int}{wa':Nat}{ws':Array Value}{wn':Nat}{F':Nat→Nat}{o':Option (Int × Nat)}{O:(Nat→Nat)→FOut}{E1 S1 E2 S2:Led},(E1++S1).Perm (E2++S2)→OK w (Ky w.params X E1 S1 it ra ga pa rd (rwA R) xn (gpA Gs) yn ps pn rs rn (Int.ofNat k) kt ba qa O j' left' wa' ws' wn' F' o')→OK w (Ky w.params X E2 S2 it ra ga pa rd (rwA R) xn (gpA Gs) yn ps pn rs rn (Int.ofNat k) kt ba qa O j' left' wa' ws' wn' F' o'):=fun hP h=>by
   refine h.conseq [] rfl (fun _ e=>e) (fun _ e=>e) ?_ fun sz tk l=>⟨l,[],rfl,rfl,rfl,rfl,?_⟩
   ·rw[List.append_nil]
    show List.Perm ((_++_)++_) ((_++_)++_)
    rw[List.append_assoc,List.append_assoc]
    exact .append_left _ hP.symm
   ·rw[List.append_nil,List.append_nil];exact .refl _
  refine conv (E1:=iE e.ta e.g e.tok e.la (svA e.ts e.tf) e.n r.la (svA r.ts r.tf) r.n) (S1:=S') (by simpa using hS.symm) ?_
  obtain ⟨h',eh⟩:=Wz ts e.ts tf e.tf
  obtain ⟨h'',eh2⟩:=Wz (ts++e.ts) r.ts h' r.tf
  simp only[List.length_append] at hl
  have ed:(Int.ofNat (d+1)-1:Int)=Int.ofNat d:=Int.add_sub_cancel (Int.ofNat d) 1
  have next:∀ wa' wn' F' u,OK w (Ky w.params X (iE e.ta e.g e.tok e.la (svA e.ts e.tf) e.n r.la (svA r.ts r.tf) r.n) S' it ra ga pa rd (rwA R) xn (gpA Gs) yn ps pn rs rn (Int.ofNat k) kt ba qa (OI w.params X (rwS R'++(gpS Gs++S0)) ra ga pa rd (rwA R) xn (gpA Gs) yn ps pn rs rn (Int.ofNat k) kt ba qa eb (Int.ofNat Gs.length-1) (ts++(e.ts++r.ts++YG ((R.drop (j+1+1)).map RWd.ts) ((Gs.drop (j+1)).map GP.ts)))) (j+1) (Int.ofNat (d+1)-1) wa' (svA ts tf++svA e.ts e.tf++svA r.ts r.tf) wn' F' (some (Int.ofNat j,u))):=fun wa' wn' F' u=>by
   refine conv (E1:=[]) (S1:=rwS R'++(gpS Gs++S0)) (by simpa using hS) ?_
   rw[eh,eh2,ed]
   have g:=ih (j+1) (by omega) (by omega) wa' (ts++e.ts++r.ts) h'' wn' F' (some (Int.ofNat j,u)) eb (fun h=>by cases h) (fun x hx=>by cases hx;exact ⟨heb,fun h0=>by simp only[Int.ofNat_eq_natCast];omega⟩) (by simp only[List.length_append];omega)
   have ea:ts++(e.ts++r.ts++YG ((R.drop (j+1+1)).map RWd.ts) ((Gs.drop (j+1)).map GP.ts))=ts++e.ts++r.ts++YG ((R.drop (j+1+1)).map RWd.ts) ((Gs.drop (j+1)).map GP.ts):=by simp only[List.append_assoc]
   rw[ea]
   exact g
  have hleft:(0:Int)<Int.ofNat (d+1):=Int.ofNat_lt.mpr (Nat.succ_pos d)
  have hga:Y6 (gpA Gs) (Int.ofNat j) (.ref e.ta):=.inl ⟨j,rfl,Nat.lt_of_le_of_lt (show j≤1000 by omega) (by decide),VQ hGj⟩
  have hra:Y6 (rwA R) (Int.ofNat (j+1)) (.ref r.la):=.inl ⟨j+1,rfl,Nat.lt_of_le_of_lt (show j+1≤1001 by omega) (by decide),Kf hR⟩
  have hs1:(svA ts tf).size+(svA e.ts e.tf).size≤sizeLine:=by rw[Z6,Z6];exact Nat.le_trans (show ts.length+e.ts.length≤1000 by omega) (by decide)
  have hs2:(svA ts tf++svA e.ts e.tf).size+(svA r.ts r.tf).size≤sizeLine:=by rw[Array.size_append,Z6,Z6,Z6];exact Nat.le_trans (show ts.length+e.ts.length+r.ts.length≤1000 by omega) (by decide)
  cases o with
  | none=>exact Z0Y hw X S' it ra ga pa rd _ xn _ yn ps pn rs rn (Int.ofNat k) kt ba qa _ j _ wa _ wn F e.ta e.g e.tok e.la _ e.n r.la _ r.n hleft hga hra hs1 hs2 next
  | some x=>exact Z0X hw X S' it ra ga pa rd _ xn _ yn ps pn rs rn (Int.ofNat k) kt ba qa _ j _ wa _ wn F x.1 x.2 e.ta e.g e.tok e.la _ e.n r.la _ r.n hleft hga hra hs1 hs2 next
end
structure DR where
 ta:Nat
 la:Nat
 r:Str
 tt:Nat
noncomputable def DR.led (d:DR):Addr × Obj:=(d.ta,Y5 [.ref d.la,.str d.r d.tt] 0)
noncomputable def ZQ (ds:List (Nat × Str))(l:Nat→Nat):List DR:=match ds with
 | []=>[]
 | d::ds=>⟨hdN l 0,d.1,d.2,hdN l 1⟩::ZQ ds (tlN l)
noncomputable def drA (ds:List DR):Array Value:=(ds.map fun d=>Value.ref d.ta).toArray
noncomputable def drS (ds:List DR):Led:=ds.map DR.led
noncomputable def Z2C (tl:Option (List Str))(l:Nat→Nat):Value:=match tl with
 | none=>.str (Str.ofString "No closing quotation") (l 5)
 | some _=>.ref (l 5)
noncomputable def Z0T (tl:Option (List Str))(l:Nat→Nat):Led:=match tl with
 | none=>[]
 | some ws=>[(l 5,Z0 (svA ws (fun i=>l (2*i+20))) (l 6))]
noncomputable def ODU (rd:Nat)(rs:Array Value)(S:Led)(ds:List (Nat × Str))(q0 q2:Str)(tl:Option (List Str)):(Nat→Nat)→FOut:=fun l =>
 ⟨.ok (.ret (.ref (l 2))),[(l 2,Y5 [.ref rd,.str q0 (l 3),.str q2 (l 4),Z2C tl l] 0),(rd,Z0 (rs++drA (ZQ ds (fun i=>l (2*i+21)))) (l 7))],l 0,l 1,id,Z0T tl l++drS (ZQ ds (fun i=>l (2*i+21)))++S⟩
noncomputable def Z1m (P:Params)(X:Fr)(S:Led)(ra ga pa:Nat)(xs:Array Value)(xn:Nat)(ys:Array Value)(yn:Nat)(ps:Array Value)(pn:Nat)(O:Nat→(Nat→Nat)→FOut):FItem where
 c:=.call (.ref 818) ⟨[.ref ra,.ref ga,.ref pa],[]⟩
 B:=nrm [.f (ZG P 823 X.w),.b "claim.caller"]
 pre:=[(ra,Z0 xs xn),(ga,Z0 ys yn),(pa,Z0 ps pn)]
 out:=fun sz _ l=>O sz l
 preS:=S
noncomputable def Na (P:Params)(X:Fr)(S:Led)(it ra ga pa rd:Nat)(xs:Array Value)(xn:Nat)(ys:Array Value)(yn:Nat)(ps:Array Value)(pn m:Nat)(F:Nat→Nat)(O:(Nat→Nat)→FOut):FItem :=
 YP P X [] S it ra ga pa rd xs xn ys yn ps pn O 0 (Int.ofNat m) #[] 0 F none
theorem du_ret{b b2:Bool}{w:World}(hw:Wd b b2 w)(X:Fr)(S S':Led)(ra ga pa:Nat)(xs:Array Value)(xn:Nat)(ys:Array Value)(yn:Nat)(ps:Array Value)(pn m:Nat)(ds:List (Nat × Str))(q0 q2:Str)(tl:Option (List Str))(hlen:xs.size=m)(hm:m<2 ^ 62)(hs:Builtin.Range.small 0 (Int.ofNat m) 1=true)(hr:Builtin.Range.rangeSize 0 (Int.ofNat m) 1=Int.ofNat m)
  (h:∀ p it F,OK w (Na w.params { X with p:=p } S it ra ga pa (p+1) xs xn ys yn ps pn m F (ODU (p+1) #[] S' ds q0 q2 tl))):OK w (Z1m w.params X S ra ga pa xs xn ys yn ps pn (fun sz=>ODU (sz+1) #[] S' ds q0 q2 tl)):=by
 refine Z1 hw.w0 _ fun c B p sz tk g he=>?_
 obtain ⟨bs,rfl,hb⟩:=Z3 he
 obtain ⟨v1,v2,v3,rfl,e1,e2,e3⟩:=Y1 hb
 obtain rfl:=Z5 e1
 obtain rfl:=Z5 e2
 obtain rfl:=Z5 e3
 refine ⟨118,.item [Zu ra xs xn m] ((Y3 (sz+2) 0 (Int.ofNat m) 1 (tk+6) (tk+5) (tk+7) (Int.ofNat m)).fr S) (fun l0=>.item [] (Na w.params { g:=X.g,n:=X.n,s:=X.s,t:=X.t,p:=sz,w:=X.w } S (sz+3) ra ga pa (sz+1) xs xn ys yn ps pn m (fl [tk,tk+1,tk+2,tk+3]) (ODU (sz+1) #[] S' ds q0 q2 tl)) (fun l1=>.fin [])),(dg 41 0x122220010011113f121133f2122120000121001010100),[0,0],0,fun ls=>ls 1,?_,fun ls=>?_⟩
 ·exact ⟨(AllV.all ⟨Zn hlen hm,trivial⟩),(ZJ hs hr).fr S,fun l0=>⟨(fun x hx=>(nomatch hx)),h _ _ _,fun l1=>(fun x hx=>(nomatch hx))⟩⟩
 ·cases b <;> kernel_rfl
noncomputable def dSp (ds:List (Nat × Str))(S:Led)(f:Nat→Nat):Led:=drS (ZQ ds (fun i=>f (2*i+1)))++S
noncomputable def dAp (rs:Array Value)(ds:List (Nat × Str))(f:Nat→Nat):Array Value:=rs++drA (ZQ ds (fun i=>f (2*i+1)))
noncomputable def ODN (P:Params)(X:Fr)(ra ga pa rd:Nat)(rs:Array Value)(S:Led)(ds:List (Nat × Str))(k:Int):(Nat→Nat)→FOut:=fun l =>
 ⟨.ok .next,[(X.p,dfr P (fun i=>l (i+10)) ra ga pa rd (some (k,l 8,l 9))),(rd,Z0 (dAp rs ds (fun i=>l (i+20))) (l 7))],l 0,l 1,id,dSp ds S (fun i=>l (i+20))⟩
theorem Z2D{b b2:Bool}{w:World}(hw:Wd b b2 w)(X:Fr)(S S':Led)(ra ga pa:Nat)(xs:Array Value)(xn:Nat)(ys:Array Value)(yn:Nat)(ps:Array Value)(pn m:Nat)(ds:List (Nat × Str))(k:Int)(hlen:xs.size=m)(hm:m<2 ^ 62)(hs:Builtin.Range.small 0 (Int.ofNat m) 1=true)(hr:Builtin.Range.rangeSize 0 (Int.ofNat m) 1=Int.ofNat m)
  (h:∀ p it F,OK w (Na w.params { X with p:=p } S it ra ga pa (p+1) xs xn ys yn ps pn m F (ODN w.params { X with p:=p } ra ga pa (p+1) #[] S' ds k))):OK w (Z1m w.params X S ra ga pa xs xn ys yn ps pn (fun sz l=>⟨.ok (.ret (.ref (l 2))),[(l 2,Y5 [.ref (sz+1),.str (mkS []) (l 3),.str (mkS []) (l 4),.ref (l 5)] 0),(l 5,Z0 #[] 0),(sz+1,Z0 (dAp #[] ds (fun i=>l (i+20))) (l 7))],l 0,l 1,id,dSp ds S' (fun i=>l (i+20))⟩)):=by
 refine Z1 hw.w0 _ fun c B p sz tk g he=>?_
 obtain ⟨bs,rfl,hb⟩:=Z3 he
 obtain ⟨v1,v2,v3,rfl,e1,e2,e3⟩:=Y1 hb
 obtain rfl:=Z5 e1
 obtain rfl:=Z5 e2
 obtain rfl:=Z5 e3
 refine ⟨127,.item [Zu ra xs xn m] ((Y3 (sz+2) 0 (Int.ofNat m) 1 (tk+6) (tk+5) (tk+7) (Int.ofNat m)).fr S) (fun l0=>.item [] (Na w.params { g:=X.g,n:=X.n,s:=X.s,t:=X.t,p:=sz,w:=X.w } S (sz+3) ra ga pa (sz+1) xs xn ys yn ps pn m (fl [tk,tk+1,tk+2,tk+3]) (ODN w.params { g:=X.g,n:=X.n,s:=X.s,t:=X.t,p:=sz,w:=X.w } ra ga pa (sz+1) #[] S' ds k)) (fun l1=>.fin [])),(dg 42 0x1122220010011113f121133f2122120000121001010100),[0,0,1],0,fun ls=>(fun l0 l1=>flT [l1 0+2,l1 1+2,l1 0+1,l1 1,l1 1+1,l1 0,0,l1 7,0,0,0,0,0,0,0,0,0,0,0,0] (fun i=>l1 (i+20))) (ls 0) (ls 1),?_,fun ls=>?_⟩
 ·exact ⟨(AllV.all ⟨Zn hlen hm,trivial⟩),(ZJ hs hr).fr S,fun l0=>⟨(fun x hx=>(nomatch hx)),h _ _ _,fun l1=>(fun x hx=>(nomatch hx))⟩⟩
 ·cases b <;> kernel_rfl
end
section
open PySem PySem.Builtin PySem.Builtin.Str PySem.W
theorem Z0w {w:World}{it it':FItem}{rd:Nat}{rs:Array Value}{S:Led}{q0 q2:Str}{tl:Option (List Str)}{d:DR}{ds:List (Nat × Str)}(h:OK w it)(e:it'={ it with out:=fun _ _ l=>ODU rd rs S ((d.la,d.r)::ds) q0 q2 tl l })
  (ho:it.out=fun _ _ l=>ODU rd (rs.push (.ref d.ta)) (d.led::S) ds q0 q2 tl l):OK w it':=by
 subst e
 refine h.conseq [] rfl (fun _ e=>e) (fun _ e=>e) (by rw[List.append_nil]) fun sz tk l=>?_
 rw[ho]
 generalize hE:(UQ (fun i=>match i with | 0=>d.ta | 1=>d.tt | i+2=>0) (fun i=>l (2*i+21)))=E
 generalize hL:lay l (fun i=>l (2*i+20)) E=L
 have lo:∀ j,j<20→L j=l j:=fun j hj=>by rw[←hL];exact YB _ _ _ j hj
 have le:(fun i=>L (2*i+20))=fun i=>l (2*i+20):=by rw[←hL];exact UR _ _ _
 have lo':(fun i=>L (2*i+21))=E:=by rw[←hL];exact Z0G _ _ _
 have ev:Z2C tl L=Z2C tl l:=by cases tl <;> (unfold Z2C;dsimp only;rw[lo 5 (by decide)])
 have ee:Z0T tl L=Z0T tl l:=by cases tl <;> (unfold Z0T;dsimp only) <;> rw[le,lo 5 (by decide),lo 6 (by decide)]
 refine ⟨L,[],?_,lo 0 (by decide),lo 1 (by decide),rfl,?_⟩
 ·show Except.ok _=Except.ok _;rw[lo 2 (by decide)]
 ·rw[List.append_nil,List.append_nil]
  have er':ZQ ((d.la,d.r)::ds) (fun i=>L (2*i+21))=d::ZQ ds (fun i=>l (2*i+21)):=by
   rw[lo',←hE]
   show DR.mk (hdN _ 0) d.la d.r (hdN _ 1)::ZQ ds (tlN _)=_
   rw[JU,JM]
  have ea:∀ ds,rs++drA (d::ds)=rs.push (.ref d.ta)++drA ds:=fun ds=>by
   apply Array.ext'
   simp[drA]
  show List.Perm (([(l 2,Y5 [.ref rd,.str q0 (l 3),.str q2 (l 4),Z2C tl l] 0),(rd,Z0 (rs.push (.ref d.ta)++drA (ZQ ds (fun i=>l (2*i+21)))) (l 7))]:Led)++(Z0T tl l++drS (ZQ ds (fun i=>l (2*i+21)))++(d.led::S)))
   (([(L 2,Y5 [.ref rd,.str q0 (L 3),.str q2 (L 4),Z2C tl L] 0),(rd,Z0 (rs++drA (ZQ ((d.la,d.r)::ds) (fun i=>L (2*i+21)))) (L 7))]:Led)++(Z0T tl L++drS (ZQ ((d.la,d.r)::ds) (fun i=>L (2*i+21)))++S))
  rw[er',ea,ev,ee,lo 2 (by decide),lo 3 (by decide),lo 4 (by decide),lo 7 (by decide)]
  refine .append_left _ ?_
  rw[List.append_assoc,List.append_assoc]
  refine .append_left _ ?_
  show List.Perm (drS _++(d.led::S)) (d.led::(drS _++S))
  exact List.perm_middle
theorem Z0x {w:World}{P:Params}{X:Fr}{it it':FItem}{ra ga pa rd:Nat}{rs:Array Value}{S:Led}{k:Int}{d:DR}{ds:List (Nat × Str)}(h:OK w it)(e:it'={ it with out:=fun _ _ l=>ODN P X ra ga pa rd rs S ((d.la,d.r)::ds) k l })
  (ho:it.out=fun _ _ l=>ODN P X ra ga pa rd (rs.push (.ref d.ta)) (d.led::S) ds k l):OK w it':=by
 subst e
 refine h.conseq [] rfl (fun _ e=>e) (fun _ e=>e) (by rw[List.append_nil]) fun sz tk l=>?_
 rw[ho]
 generalize hE:(UQ (fun i=>match i with | 0=>d.ta | 1=>d.tt | i+2=>0) (fun i=>l (2*i+21)))=E
 generalize hL:lay l (fun i=>l (2*i+20)) E=L
 have lo:∀ j,j<20→L j=l j:=fun j hj=>by rw[←hL];exact YB _ _ _ j hj
 have lo':(fun i=>L (2*i+21))=E:=by rw[←hL];exact Z0G _ _ _
 refine ⟨L,[],rfl,lo 0 (by decide),lo 1 (by decide),rfl,?_⟩
 rw[List.append_nil,List.append_nil]
 have er':ZQ ((d.la,d.r)::ds) (fun i=>L (2*i+21))=d::ZQ ds (fun i=>l (2*i+21)):=by
  rw[lo',←hE]
  show DR.mk (hdN _ 0) d.la d.r (hdN _ 1)::ZQ ds (tlN _)=_
  rw[JU,JM]
 have ea:∀ ds,rs++drA (d::ds)=rs.push (.ref d.ta)++drA ds:=fun ds=>by
  apply Array.ext'
  simp[drA]
 show List.Perm (([(X.p,dfr P (fun i=>l (i+10)) ra ga pa rd (some (k,l 8,l 9))),(rd,Z0 (rs.push (.ref d.ta)++drA (ZQ ds (fun i=>l (2*i+21)))) (l 7))]:Led)++(drS (ZQ ds (fun i=>l (2*i+21)))++(d.led::S)))
  (([(X.p,dfr P (fun i=>L (i+10)) ra ga pa rd (some (k,L 8,L 9))),(rd,Z0 (rs++drA (ZQ ((d.la,d.r)::ds) (fun i=>L (2*i+21)))) (L 7))]:Led)++(drS (ZQ ((d.la,d.r)::ds) (fun i=>L (2*i+21)))++S))
 have ef:dfr P (fun i=>L (i+10)) ra ga pa rd (some (k,L 8,L 9))=dfr P (fun i=>l (i+10)) ra ga pa rd (some (k,l 8,l 9)):=by
  unfold dfr
  dsimp only
  rw[lo 8 (by decide),lo 9 (by decide),lo 10 (by decide),lo 11 (by decide),lo 12 (by decide),lo 13 (by decide),lo 14 (by decide),lo 15 (by decide)]
 rw[er',ea,ef,lo 7 (by decide)]
 refine .append_left _ ?_
 show List.Perm (drS _++(d.led::S)) (d.led::(drS _++S))
 exact List.perm_middle
noncomputable def nlF (row:List Str):List Str:=row.filter fun s=>Zh s (mkS [10])
inductive DueR (w:World)(rows:List (List Str))(gaps:List (Str × List Str))(pages:List Str)(e:Bool):Nat→List Str→Str→Str→Option (List Str)→Prop
 | stop {k:Nat}:e=true→k=rows.length→DueR w rows gaps pages e k [] (mkS []) (mkS []) (some [])
 | last {k:Nat}{row:List Str}{rs:List Str}{q0 q2:Str}{tl:Option (List Str)}:k=gaps.length→rows[k]?=some row→nlF row=[]→DueR w rows gaps pages e (k+1) rs q0 q2 tl→DueR w rows gaps pages e k (mkS []::rs) q0 q2 tl
 | gap {k:Nat}{row:List Str}{g:Str}{gt:List Str}{p0 p1 p2 pg zz:Str}{rs:List Str}{q0 q2:Str}{tl:Option (List Str)}:k<gaps.length→rows[k]?=some row→nlF row=[]→gaps[k]?=some (g,gt)→eqS g (mkS [10])=false→OK w (Y7 g [p0,p1,p2])→pages[k+1]?=some pg→p2++pg=zz→zz.length≤sizeLine→DueR w rows gaps pages e (k+1) rs q0 q2 tl→DueR w rows gaps pages e k (zz::rs) q0 q2 tl
 | torn {k:Nat}{row:List Str}{bw:Str}{brs:List Str}{r0 r1 r2:Str}{rr:List Str}{pg q0 q1 q2:Str}:e=false→k≤gaps.length→rows[k]?=some row→nlF row=bw::brs→OK w (Zv bw (r0::r1::r2::rr))→(r0::r1::r2::rr).length≤1000→r1.cps.toList.all isW=true→r1.cps.toList.length≤1000→pages[k]?=some pg→OK w (Y7 pg [q0,q1,q2])→DueR w rows gaps pages e k [] q0 q2 none
 | two {k:Nat}{row:List Str}{bw:Str}{brs pcs:List Str}{pg:Str}:e=false→k≤gaps.length→rows[k]?=some row→nlF row=bw::brs→OK w (Zv bw pcs)→pcs.length≤2→pages[k]?=some pg→DueR w rows gaps pages e k [] (mkS []) pg (some (row++YG (rows.drop (k+1)) ((gaps.drop k).map (·.2))))
 | three {k:Nat}{row:List Str}{bw:Str}{brs:List Str}{r0 r1 r2:Str}{rr:List Str}{pg:Str}:e=false→k≤gaps.length→rows[k]?=some row→nlF row=bw::brs→OK w (Zv bw (r0::r1::r2::rr))→(r0::r1::r2::rr).length≤1000→r1.cps.toList.all isW=false→r1.cps.toList.length≤1000→pages[k]?=some pg→DueR w rows gaps pages e k [] (mkS []) pg (some (row++YG (rows.drop (k+1)) ((gaps.drop k).map (·.2))))
 | nl {k:Nat}{row:List Str}{g:Str}{gt:List Str}{pg:Str}:e=false→k<gaps.length→rows[k]?=some row→nlF row=[]→gaps[k]?=some (g,gt)→eqS g (mkS [10])=true→pages[k]?=some pg→DueR w rows gaps pages e k [] (mkS []) pg (some (row++YG (rows.drop (k+1)) ((gaps.drop k).map (·.2))))
noncomputable def dsZ (R:List RWd)(rests:List Str):List (Nat × Str):=R.zipWith (fun d r=>(d.la,r)) rests
theorem Wk{α:Type}:∀(R:List α)(k m:Nat),m≤k→R.take m=(R.eraseIdx k).take m
 | [],_,_,_=>by simp
 | a::R,k,0,_=>by simp
 | a::R,k+1,m+1,h=>by
  rw[List.eraseIdx_cons_succ,List.take_succ_cons,List.take_succ_cons,Wk R k m (by omega)]
theorem Ud{R:List RWd}{k m:Nat}(hm:m≤k):∃ T,(rwS (R.eraseIdx k)).Perm (rwS (R.take m)++T):=by
 refine ⟨rwS ((R.eraseIdx k).drop m),?_⟩
 have e:R.take m=(R.eraseIdx k).take m:=Wk R k m hm
 rw[e]
 unfold rwS
 rw[←List.map_append,List.take_append_drop]
theorem Z1q{α:Type}:∀(R:List α)(k j:Nat),k≤j→(R.eraseIdx k)[j]?=R[j+1]?
 | [],_,_,_=>by simp
 | a::R,0,j,_=>by simp
 | a::R,k+1,j+1,h=>by
  rw[List.eraseIdx_cons_succ,List.getElem?_cons_succ,List.getElem?_cons_succ,Z1q R k j (by omega)]
theorem ZY{k n:Nat}(h:k≤n):Builtin.Range.rangeSize (Int.ofNat k) (Int.ofNat n) 1=Int.ofNat n-Int.ofNat k:=by
 unfold Builtin.Range.rangeSize
 rw[if_pos (by decide)]
 simp only[Int.ofNat_eq_natCast]
 by_cases h2:(k:Int)<n
 ·rw[if_pos h2];omega
 ·rw[if_neg h2];omega
noncomputable def ODE (e:Bool)(P:Params)(X:Fr)(ra ga pa rd:Nat)(rs:Array Value)(S:Led)(ds:List (Nat × Str))(q0 q2:Str)(tl:Option (List Str))(kl:Int):(Nat→Nat)→FOut:=match e with
 | false=>ODU rd rs S ds q0 q2 tl
 | true=>ODN P X ra ga pa rd rs S ds kl
theorem Z0y {w:World}{P:Params}{X:Fr}{it it':FItem}{ra ga pa rd:Nat}{rs:Array Value}{S:Led}{q0 q2:Str}{tl:Option (List Str)}{kl:Int}{d:DR}{ds:List (Nat × Str)}(e:Bool)(h:OK w it)(h1:it'={ it with out:=fun _ _ l=>ODE e P X ra ga pa rd rs S ((d.la,d.r)::ds) q0 q2 tl kl l })
  (ho:it.out=fun _ _ l=>ODE e P X ra ga pa rd (rs.push (.ref d.ta)) (d.led::S) ds q0 q2 tl kl l):OK w it':=by
 cases e with
 | false=>exact Z0w h h1 ho
 | true=>exact Z0x h h1 ho
noncomputable def OSub (O1 O2:(Nat→Nat)→FOut):Prop:=∀ l,∃ l' rest,(O2 l').r=(O1 l).r∧(O2 l').sz=(O1 l).sz∧(O2 l').tk=(O1 l).tk∧(O2 l').g=(O1 l).g∧(O1 l).all.Perm ((O2 l').all++rest)
theorem OSub.refl(O:(Nat→Nat)→FOut):OSub O O:=fun l=>⟨l,[],rfl,rfl,rfl,rfl,.of_eq (List.append_nil _).symm⟩
section
variable {b b2:Bool}{w:World}(hw:Wd b b2 w)(X:Fr)(it ra ga pa rd xn yn:Nat)(R:List RWd)(Gs:List GP)(pages:List Str)(pt:Nat→Nat)(pn:Nat)
include hw
theorem YT{E1 S1 E2 S2:Led}{xs ys ps:Array Value}{rs':Array Value}{rn:Nat}{F:Nat→Nat}{o:Option (Int × Nat × Nat)}{k:Nat}{left:Int}{O1 O2:(Nat→Nat)→FOut}(h1:(E1++S1).Perm (E2++S2))
  (h2:OSub O1 O2)
  (h:OK w (YP w.params X E1 S1 it ra ga pa rd xs xn ys yn ps pn O1 k left rs' rn F o)):OK w (YP w.params X E2 S2 it ra ga pa rd xs xn ys yn ps pn O2 k left rs' rn F o):=by
 refine h.conseq [] rfl (fun _ e=>e) (fun _ e=>e) ?_ fun sz tk l=>?_
 ·rw[List.append_nil]
  show List.Perm ((_++_)++_) ((_++_)++_)
  rw[List.append_assoc,List.append_assoc]
  exact .append_left _ h1.symm
 ·obtain ⟨l',rest,a1,a2,a3,a4,a5⟩:=h2 l
  refine ⟨l',rest,a1,a2,a3,a4,?_⟩
  rw[List.append_nil]
  exact a5
omit hw in
theorem Uk(e:Bool){P:Params}{rs:Array Value}{S1 S2 rest:Led}{ds:List (Nat × Str)}{q0 q2:Str}{tl:Option (List Str)}{kl:Int}(h:S1.Perm (S2++rest)):OSub (ODE e P X ra ga pa rd rs S1 ds q0 q2 tl kl) (ODE e P X ra ga pa rd rs S2 ds q0 q2 tl kl):=by
 intro l
 refine ⟨l,rest,?_,?_,?_,?_,?_⟩ <;> cases e
 all_goals first | rfl | skip
 ·show List.Perm (_++(Z0T tl l++drS (ZQ ds (fun i=>l (2*i+21)))++S1)) ((_++(Z0T tl l++drS (ZQ ds (fun i=>l (2*i+21)))++S2))++rest)
  refine ((List.Perm.append_left _ h).append_left _).trans ?_
  simp only[List.append_assoc]
  exact .refl _
 ·show List.Perm (_++(drS (ZQ ds (fun i=>l (2*i+21)))++S1)) ((_++(drS (ZQ ds (fun i=>l (2*i+21)))++S2))++rest)
  refine ((List.Perm.append_left _ h).append_left _).trans ?_
  simp only[List.append_assoc]
  exact .refl _
end
theorem ZM{k n:Nat}(h:k≤n)(hn:n≤100000):Builtin.Range.small (Int.ofNat k) (Int.ofNat n) 1=true:=by
 have hs:=ZY h
 unfold Builtin.Range.small
 rw[hs]
 simp only[Int.ofNat_eq_natCast,Bool.and_eq_true,decide_eq_true_eq]
 simp[Builtin.Range.rangeFitsLong]
 omega
section
variable {b b2:Bool}{w:World}(hw:Wd b b2 w)(X:Fr)(it ra ga pa rd xn yn:Nat)(R:List RWd)(Gs:List GP)(pages:List Str)(pt:Nat→Nat)(pn:Nat)
include hw
theorem dl_all(hRG:R.length=Gs.length+1)(hG:Gs.length≤900)(hRt:∀ d∈R,d.ts≠[]∧d.ts.length≤1000)
  (hW:∀ k d,R[k]?=some d→(d.ts++YG ((R.drop (k+1)).map RWd.ts) ((Gs.drop k).map GP.ts)).length≤1000){e:Bool}{k:Nat}{rests:List Str}{q0 q2:Str}{tl:Option (List Str)}
  (h:DueR w (R.map RWd.ts) (Gs.map fun g=>(g.g,g.ts)) pages e k rests q0 q2 tl) :
  ∀(S0:Led)(rs:Array Value)(rn:Nat)(F:Nat→Nat)(o:Option (Int × Nat × Nat)),k≤R.length→(o=none→k=0)→(∀ x,o=some x→x.1=Int.ofNat k-1)→rs.size=k →
  OK w (YP w.params X [] (rwS R++(gpS Gs++S0)) it ra ga pa rd (rwA R) xn (gpA Gs) yn (svA pages pt) pn (ODE e w.params X ra ga pa rd rs (rwS (R.take (k+rests.length))++S0) (dsZ (R.drop k) rests) q0 q2 tl (Int.ofNat R.length-1)) k (Int.ofNat (R.length-k)) rs rn F o):=by
 have hlen:(gpA Gs).size=Gs.length:=by simp[gpA]
 have hR1:R.length≤1000:=Nat.le_trans (Nat.le_of_eq hRG) (Nat.le_trans (Nat.succ_le_succ hG) (by decide))
 have hM:∀ {k:Nat},k<R.length→k≤1000:=fun h=>Nat.le_trans (Nat.le_of_lt h) hR1
 have hn62:Gs.length<2 ^ 62:=Nat.lt_of_le_of_lt hG (by decide)
 have hRa:∀ {k:Nat}{d:RWd},R[k]?=some d→Y6 (rwA R) (Int.ofNat k) (.ref d.la):=fun {k d} hd=>by
  have:k<R.length:=by
   rcases Nat.lt_or_ge k R.length with h | h
   ·exact h
   ·rw[List.getElem?_eq_none h] at hd;cases hd
  exact .inl ⟨k,rfl,Nat.lt_of_le_of_lt (hM this) (by decide),Kf hd⟩
 have hGa:∀ {k:Nat}{g:GP},Gs[k]?=some g→Y6 (gpA Gs) (Int.ofNat k) (.ref g.ta):=fun {k g} hd=>by
  have:k<Gs.length:=by
   rcases Nat.lt_or_ge k Gs.length with h | h
   ·exact h
   ·rw[List.getElem?_eq_none h] at hd;cases hd
  exact .inl ⟨k,rfl,Nat.lt_of_le_of_lt (Nat.le_trans (Nat.le_of_lt this) (Nat.le_trans hG (by decide:900≤1000))) (by decide),VQ hd⟩
 have hPa:∀ {k:Nat}{pg:Str},k≤1000→pages[k]?=some pg→Y6 (svA pages pt) (Int.ofNat k) (.str pg (pt k)):=fun {k pg} hk hd =>
  .inl ⟨k,rfl,Nat.lt_of_le_of_lt hk (by decide),Vv hd⟩
 have hrow:∀ {k:Nat}{row:List Str},(R.map RWd.ts)[k]?=some row→∃ d,R[k]?=some d∧d.ts=row:=fun {k row} hd=>by
  rw[List.getElem?_map] at hd
  cases hR:R[k]? with
  | none=>rw[hR] at hd;cases hd
  | some d=>rw[hR] at hd;exact ⟨d,rfl,Option.some.inj hd⟩
 have hgap:∀ {k:Nat}{g:Str}{gt:List Str},(Gs.map fun g=>(g.g,g.ts))[k]?=some (g,gt)→∃ d,Gs[k]?=some d∧d.g=g∧d.ts=gt:=fun {k g gt} hd=>by
  rw[List.getElem?_map] at hd
  cases hR:Gs[k]? with
  | none=>rw[hR] at hd;cases hd
  | some d =>
   rw[hR] at hd
   have:=Option.some.inj hd
   exact ⟨d,rfl,congrArg (·.1) this,congrArg (·.2) this⟩
 have hb:∀ {k:Nat}{d:RWd}{L:List Str},R[k]?=some d→nlF d.ts=L→∃ z,∀ it acc L',OK w (Qb w.params X.p it d.la acc L' (svA d.ts d.tf) d.n z L):=fun {k d L} hd hL=>by
  obtain ⟨h1,h2⟩:=hRt d (List.mem_of_getElem? hd)
  refine ⟨d.ts.getLast h1,fun it acc L'=>?_⟩
  have:=bs_ok hw it d.la acc L' d.ts (d.ts.getLast h1) d.tf d.n X.p (List.getLast?_eq_some_getLast h1) h2
  rw[←hL]
  exact this
 have hlt:∀ {k:Nat}{d:RWd},R[k]?=some d→k<R.length:=fun {k d} hd=>by
  rcases Nat.lt_or_ge k R.length with h | h
  ·exact h
  ·rw[List.getElem?_eq_none h] at hd;cases hd
 have hSr:∀ {k:Nat}{d:RWd}(S0:Led),R[k]?=some d→(rwS R++(gpS Gs++S0)).Perm ((d.la,Z0 (svA d.ts d.tf) d.n)::(rwS (R.eraseIdx k)++(gpS Gs++S0))):=fun {k d} S0 hd=>(Ue hd).append_right _
 have hSg:∀ {k:Nat}{d:RWd}{g:GP}(S0:Led),R[k]?=some d→Gs[k]?=some g→(rwS R++(gpS Gs++S0)).Perm ((d.la,Z0 (svA d.ts d.tf) d.n)::(g.ta,Y5 [.str g.g g.tok,.ref g.la] 0)::(rwS (R.eraseIdx k)++((g.la,Z0 (svA g.ts g.tf) g.n)::gpS (Gs.eraseIdx k)++S0))):=fun {k d g} S0 hd hg=>by
  refine (hSr S0 hd).trans (.cons _ ?_)
  refine (((Us hg).append_right S0).append_left _).trans ?_
  show List.Perm (rwS (R.eraseIdx k)++((g.ta,Y5 [.str g.g g.tok,.ref g.la] 0)::((g.la,Z0 (svA g.ts g.tf) g.n)::gpS (Gs.eraseIdx k)++S0))) _
  exact List.perm_middle
 have hi:∀ {k:Nat}{d:RWd}(S0:Led)(rs:Array Value)(rn:Nat),R[k]?=some d→∀ it kt ba qa F,OK w (YC w.params X [] (rwS (R.eraseIdx k)++(gpS Gs++S0)) it ra ga pa rd (rwA R) xn (gpA Gs) yn (svA pages pt) pn rs rn k Gs.length (decide (0<Gs.length-k)) (Int.ofNat Gs.length-1) (d.ts++YG ((R.drop (k+1)).map RWd.ts) ((Gs.drop k).map GP.ts)) d.la (svA d.ts d.tf) d.n kt ba qa F):=fun {k d} S0 rs rn hd it kt ba qa F=>by
  have hk:=hlt hd
  have:=di_all hw X S0 it ra ga pa rd xn yn R Gs (svA pages pt) pn rs rn k kt ba qa hRG (by omega) (R.eraseIdx k) (fun j x hj hx=>by rw[Z1q R k j hj];exact hx) (Gs.length-k) k (by omega) (Nat.le_refl _) d.la d.ts d.tf d.n F none (decide (0<Gs.length-k)) (fun _=>rfl) (fun _ h=>by cases h) (hW k d hd)
  unfold YC
  rw[show (Int.ofNat Gs.length-Int.ofNat k:Int)=Int.ofNat (Gs.length-k) by simp only[Int.ofNat_eq_natCast];omega]
  exact this
 have hwords:∀ {k:Nat}{d:RWd},d.ts++YG ((R.map RWd.ts).drop (k+1)) (((Gs.map fun g=>(g.g,g.ts)).drop k).map (·.2))=d.ts++YG ((R.drop (k+1)).map RWd.ts) ((Gs.drop k).map GP.ts):=fun {k d}=>by
  rw[←List.map_drop,←List.map_drop,List.map_map]
  rfl
 have odw:∀(S S0:Led)(rs:Array Value)(rn:Nat)(pg:Str)(words:List Str)(T:Led)(k:Nat),S.Perm ((rwS (R.take (k+([]:List Str).length))++S0)++T)→OSub (ODw S rd rs rn pg words) (ODE false w.params X ra ga pa rd rs (rwS (R.take (k+([]:List Str).length))++S0) (dsZ (R.drop k) []) (mkS []) pg (some words) (Int.ofNat R.length-1)):=fun S S0 rs rn pg words T k hS l=>by
  generalize hL:lay (fun j=>if j=7 then rn else l j) (fun i=>l (i+20)) (fun _=>0)=L
  have lo:∀ j,j<20→j≠7→L j=l j:=fun j hj h7=>by rw[←hL];exact (YB _ _ _ j hj).trans (if_neg h7)
  have l7:L 7=rn:=by rw[←hL];exact (YB _ _ _ 7 (by decide)).trans (if_pos rfl)
  have le:(fun i=>L (2*i+20))=fun i=>l (i+20):=by rw[←hL];exact UR _ _ _
  refine ⟨L,T,?_,lo 0 (by decide) (by decide),lo 1 (by decide) (by decide),rfl,?_⟩
  ·show Except.ok _=Except.ok _;rw[lo 2 (by decide) (by decide)]
  ·have ez:dsZ (R.drop k) []=[]:=by cases R.drop k <;> rfl
   rw[ez]
   have ex:rs++drA (ZQ [] (fun i=>L (2*i+21)))=rs:=by
    show rs++#[]=rs
    simp
   show List.Perm ([(l 2,Y5 [.ref rd,.str (mkS []) (l 3),.str pg (l 4),.ref (l 5)] 0),(rd,Z0 rs rn),(l 5,Z0 (svA words (fun i=>l (i+20))) (l 6))]++S) (([(L 2,Y5 [.ref rd,.str (mkS []) (L 3),.str pg (L 4),.ref (L 5)] 0),(rd,Z0 (rs++drA (ZQ [] (fun i=>L (2*i+21)))) (L 7))]++([(L 5,Z0 (svA words (fun i=>L (2*i+20))) (L 6))]++[]++(rwS (R.take (k+([]:List Str).length))++S0)))++T)
   rw[ex,l7,le,lo 2 (by decide) (by decide),lo 3 (by decide) (by decide),lo 4 (by decide) (by decide),lo 5 (by decide) (by decide),lo 6 (by decide) (by decide)]
   refine ((hS.append_left _).trans ?_)
   simp only[List.append_assoc,List.append_nil,List.cons_append,List.nil_append]
   exact .refl _
 have hT:∀(S0:Led)(k:Nat),∃ T,(rwS (R.eraseIdx k)++(gpS Gs++S0)).Perm ((rwS (R.take (k+([]:List Str).length))++S0)++T):=fun S0 k=>by
  obtain ⟨T,hT⟩:=Ud (R:=R) (k:=k) (m:=k+([]:List Str).length) (Nat.le_refl _)
  refine ⟨T++gpS Gs,(hT.append_right _).trans ?_⟩
  rw[List.append_assoc,List.append_assoc]
  refine .append_left _ ?_
  rw[←List.append_assoc,←List.append_assoc]
  refine ((List.perm_append_comm (l₁:=T++gpS Gs) (l₂:=S0))).trans ?_
  rw[List.append_assoc]
 have step:∀ {k:Nat}{d:RWd}{r:Str}{rs':List Str}{q0 q2:Str}{tl:Option (List Str)}(S0:Led)(rs:Array Value)(E S':Led),R[k]?=some d→rs.size=k→(rwS R++(gpS Gs++S0)).Perm (E++S') →
   (∀(S0:Led)(rs:Array Value)(rn:Nat)(F:Nat→Nat)(o:Option (Int × Nat × Nat)),k+1≤R.length→(o=none→k+1=0)→(∀ x,o=some x→x.1=Int.ofNat (k+1)-1)→rs.size=k+1 →
    OK w (YP w.params X [] (rwS R++(gpS Gs++S0)) it ra ga pa rd (rwA R) xn (gpA Gs) yn (svA pages pt) pn (ODE e w.params X ra ga pa rd rs (rwS (R.take (k+1+rs'.length))++S0) (dsZ (R.drop (k+1)) rs') q0 q2 tl (Int.ofNat R.length-1)) (k+1) (Int.ofNat (R.length-(k+1))) rs rn F o)) →
   ∀ F ta tt rn u ba,OK w (JI w.params X E S' it ra ga pa rd (rwA R) xn (gpA Gs) yn (svA pages pt) pn (ODE e w.params X ra ga pa rd rs (rwS (R.take (k+(r::rs').length))++S0) (dsZ (R.drop k) (r::rs')) q0 q2 tl (Int.ofNat R.length-1)) k (Int.ofNat (R.length-k)) rs d.la r F ta tt rn u ba):=fun {k d r rs' q0 q2 tl} S0 rs E S' hd hrs hS ih F ta tt rn u ba=>by
  have hk':=hlt hd
  have edr:R.drop k=d::R.drop (k+1):=by
   rw[List.drop_eq_getElem_cons hk']
   rw[List.getElem?_eq_getElem hk'] at hd
   rw[Option.some.inj hd]
  have ez:dsZ (R.drop k) (r::rs')=(d.la,r)::dsZ (R.drop (k+1)) rs':=by rw[edr];rfl
  have el:k+(r::rs').length=k+1+rs'.length:=(Nat.add_right_comm k rs'.length 1)
  have e1:(Int.ofNat (R.length-k)-1:Int)=Int.ofNat (R.length-(k+1)):=nb2 hk'
  have g:=ih ((ta,Y5 [.ref d.la,.str r tt] 0)::S0) (rs.push (.ref ta)) rn F (some (Int.ofNat k,u,ba)) (by omega) (fun h=>by cases h) (fun x hx=>by cases hx;simp only[Int.ofNat_eq_natCast];omega) (by rw[Array.size_push,hrs])
  have g2:=YT hw X it ra ga pa rd xn yn pn (E2:=E) (S2:=(ta,Y5 [.ref d.la,.str r tt] 0)::S') (by
   refine ((List.perm_middle.append_left _).trans List.perm_middle).trans ?_
   exact (List.Perm.cons _ hS).trans List.perm_middle.symm) (Uk X ra ga pa rd e (S2:=(ta,Y5 [.ref d.la,.str r tt] 0)::(rwS (R.take (k+1+rs'.length))++S0)) (rest:=[]) (by rw[List.append_nil];exact List.perm_middle)) g
  rw[ez,el]
  unfold JI
  rw[e1]
  exact Z0y (d:=⟨ta,d.la,r,tt⟩) e g2 rfl rfl
 induction h with
 | @stop k he hk =>
  intro S0 rs rn F o hkR ho1 ho2 hrs
  rw[List.length_map] at hk
  subst hk
  subst he
  have h0:R.length-R.length=0:=Nat.sub_self _
  cases o with
  | none=>exact absurd (ho1 rfl) (by omega)
  | some x =>
   obtain ⟨x,u,ba⟩:=x
   have hx:x=Int.ofNat R.length-1:=ho2 _ rfl
   have base:=d_end1 hw X (rwS R++(gpS Gs++S0)) it ra ga pa rd (rwA R) xn (gpA Gs) yn (svA pages pt) pn R.length (Int.ofNat (R.length-R.length)) rs rn F x u ba (by rw[h0];decide)
   refine YT hw X it ra ga pa rd xn yn pn (.refl _) (fun l=>?_) base
   refine ⟨flT [l 0,l 1,0,0,0,0,0,rn,u,ba,F 0,F 1,F 2,F 3,F 4,F 5,0,0,0,0] (fun _=>0),gpS Gs,rfl,rfl,rfl,rfl,?_⟩
   have ez:dsZ (R.drop R.length) []=[]:=by rw[List.drop_length];rfl
   rw[ez,hx]
   have ex:dAp rs [] (fun i=>flT [l 0,l 1,0,0,0,0,0,rn,u,ba,F 0,F 1,F 2,F 3,F 4,F 5,0,0,0,0] (fun _=>0) (i+20))=rs:=by
    show rs++#[]=rs
    simp
   have et:R.take (R.length+([]:List Str).length)=R:=List.take_length
   show List.Perm ([(X.p,dfr w.params F ra ga pa rd (some (Int.ofNat R.length-1,u,ba))),(rd,Z0 rs rn)]++(rwS R++(gpS Gs++S0))) (([(X.p,dfr w.params F ra ga pa rd (some (Int.ofNat R.length-1,u,ba))),(rd,Z0 (dAp rs [] (fun i=>flT [l 0,l 1,0,0,0,0,0,rn,u,ba,F 0,F 1,F 2,F 3,F 4,F 5,0,0,0,0] (fun _=>0) (i+20))) rn)]++(rwS (R.take (R.length+([]:List Str).length))++S0))++gpS Gs)
   rw[ex,et,List.append_assoc,List.append_assoc]
   exact .append_left _ (.append_left _ List.perm_append_comm)
 | @last k row rs' q0 q2 tl hk hr hnl hdu ih =>
  intro S0 rs rn F o hkR ho1 ho2 hrs
  obtain ⟨d,hd,rfl⟩:=hrow hr
  obtain ⟨z,hbz⟩:=hb hd hnl
  rw[List.length_map] at hk
  have hk':=hlt hd
  have hS:=hSr S0 hd
  have hleft:(0:Int)<Int.ofNat (R.length-k):=nb3 hk'
  have hrsz:rs.size<sizeLine:=Nat.lt_of_le_of_lt (show rs.size≤1000 from hrs▸hM hk') (by decide)
  refine YT hw X it ra ga pa rd xn yn pn (E1:=[(d.la,Z0 (svA d.ts d.tf) d.n)]) (S1:=rwS (R.eraseIdx k)++(gpS Gs++S0)) (by simpa using hS.symm) (.refl _) ?_
  have next:=step (r:=mkS []) (rs':=rs') S0 rs [(d.la,Z0 (svA d.ts d.tf) d.n)] (rwS (R.eraseIdx k)++(gpS Gs++S0)) hd hrs (by simpa using hS) ih
  cases o with
  | none=>exact Z2O hw X _ it ra ga pa rd _ xn _ yn _ pn k _ rs rn F d.la _ d.n z Gs.length hleft (hRa hd) hlen hn62 _ hbz hk hrsz next
  | some x=>exact Z2N hw X _ it ra ga pa rd _ xn _ yn _ pn k _ rs rn F x.1 x.2.1 x.2.2 d.la _ d.n z Gs.length hleft (hRa hd) hlen hn62 _ hbz hk hrsz next
 | @gap k row g gt p0 p1 p2 pg zz rs' q0 q2 tl hk hr hnl hgp hgn hsp hpg hzz hzl hdu ih =>
  intro S0 rs rn F o hkR ho1 ho2 hrs
  obtain ⟨d,hd,rfl⟩:=hrow hr
  obtain ⟨G,hG',rfl,rfl⟩:=hgap hgp
  obtain ⟨z,hbz⟩:=hb hd hnl
  rw[List.length_map] at hk
  have hk':=hlt hd
  have hS:=hSg S0 hd hG'
  have hleft:(0:Int)<Int.ofNat (R.length-k):=nb3 hk'
  have hrsz:rs.size<sizeLine:=Nat.lt_of_le_of_lt (show rs.size≤1000 from hrs▸hM hk') (by decide)
  refine YT hw X it ra ga pa rd xn yn pn (E1:=dE d.la (svA d.ts d.tf) d.n G.ta G.g G.tok G.la) (S1:=rwS (R.eraseIdx k)++((G.la,Z0 (svA G.ts G.tf) G.n)::gpS (Gs.eraseIdx k)++S0)) (by simpa [dE] using hS.symm) (.refl _) ?_
  have next:=step (r:=zz) (rs':=rs') S0 rs (dE d.la (svA d.ts d.tf) d.n G.ta G.g G.tok G.la) (rwS (R.eraseIdx k)++((G.la,Z0 (svA G.ts G.tf) G.n)::gpS (Gs.eraseIdx k)++S0)) hd hrs (by simpa [dE] using hS) ih
  cases o with
  | none=>exact d_gap0 hw X _ it ra ga pa rd _ xn _ yn _ pn k _ rs rn F d.la _ d.n z Gs.length hleft (hRa hd) hlen hn62 G.ta G.g G.tok G.la _ p0 p1 p2 pg zz _ _ _ hbz hk hrsz (hGa hG') hgn hsp (hPa (Nat.le_trans hk' hR1) hpg) hzz rfl rfl hzl next
  | some x=>exact d_gap1 hw X _ it ra ga pa rd _ xn _ yn _ pn k _ rs rn F x.1 x.2.1 x.2.2 d.la _ d.n z Gs.length hleft (hRa hd) hlen hn62 G.ta G.g G.tok G.la _ p0 p1 p2 pg zz _ _ _ hbz hk hrsz (hGa hG') hgn hsp (hPa (Nat.le_trans hk' hR1) hpg) hzz rfl rfl hzl next
 | @torn k row bw brs r0 r1 r2 rr pg q0 q1 q2 he hk hr hnl hsp hrl hw1 hl1 hpg hsp2 =>
  intro S0 rs rn F o hkR ho1 ho2 hrs
  subst he
  obtain ⟨d,hd,rfl⟩:=hrow hr
  obtain ⟨z,hbz⟩:=hb hd hnl
  rw[List.length_map] at hk
  have hk':=hlt hd
  have hS:=hSr S0 hd
  have hleft:(0:Int)<Int.ofNat (R.length-k):=nb3 hk'
  have hr62:(r0::r1::r2::rr).length<2 ^ 62:=Nat.lt_of_le_of_lt hrl (by decide)
  have hwh:OK w (Jp w.params X r1 true):=by rw[←hw1];exact wh_ok hw X r1 hl1
  have ot:OSub (ODt (rwS (R.eraseIdx k)++(gpS Gs++S0)) rd rs rn q0 q2) (ODE false w.params X ra ga pa rd rs (rwS (R.take (k+([]:List Str).length))++S0) (dsZ (R.drop k) []) q0 q2 none (Int.ofNat R.length-1)):=fun l=>by
   obtain ⟨T,hT'⟩:=hT S0 k
   generalize hL:lay (fun j=>if j=7 then rn else l j) (fun _=>0) (fun _=>0)=L
   have lo:∀ j,j<20→j≠7→L j=l j:=fun j hj h7=>by rw[←hL];exact (YB _ _ _ j hj).trans (if_neg h7)
   have l7:L 7=rn:=by rw[←hL];exact (YB _ _ _ 7 (by decide)).trans (if_pos rfl)
   refine ⟨L,T,?_,lo 0 (by decide) (by decide),lo 1 (by decide) (by decide),rfl,?_⟩
   ·show Except.ok _=Except.ok _;rw[lo 2 (by decide) (by decide)]
   ·have ez:dsZ (R.drop k) []=[]:=by cases R.drop k <;> rfl
    rw[ez]
    have ex:rs++drA (ZQ [] (fun i=>L (2*i+21)))=rs:=by
     show rs++#[]=rs
     simp
    show List.Perm ([(l 2,Y5 [.ref rd,.str q0 (l 3),.str q2 (l 4),.str (Str.ofString "No closing quotation") (l 5)] 0),(rd,Z0 rs rn)]++(rwS (R.eraseIdx k)++(gpS Gs++S0))) (([(L 2,Y5 [.ref rd,.str q0 (L 3),.str q2 (L 4),.str (Str.ofString "No closing quotation") (L 5)] 0),(rd,Z0 (rs++drA (ZQ [] (fun i=>L (2*i+21)))) (L 7))]++([]++[]++(rwS (R.take (k+([]:List Str).length))++S0)))++T)
    rw[ex,l7,lo 2 (by decide) (by decide),lo 3 (by decide) (by decide),lo 4 (by decide) (by decide),lo 5 (by decide) (by decide)]
    refine ((hT'.append_left _).trans ?_)
    simp only[List.append_assoc,List.append_nil,List.cons_append,List.nil_append]
    exact .refl _
  refine YT hw X it ra ga pa rd xn yn pn (E1:=[(d.la,Z0 (svA d.ts d.tf) d.n)]) (S1:=rwS (R.eraseIdx k)++(gpS Gs++S0)) (by simpa using hS.symm) ot ?_
  cases o with
  | none=>exact Z2M hw X _ it ra ga pa rd _ xn _ yn _ pn k _ rs rn F d.la _ d.n z Gs.length hleft (hRa hd) hlen hn62 bw brs r0 r1 r2 rr q0 q1 q2 pg _ hbz hsp hr62 hwh (hPa (hM hk') hpg) hsp2
  | some x=>exact Z2L hw X _ it ra ga pa rd _ xn _ yn _ pn k _ rs rn F x.1 x.2.1 x.2.2 d.la _ d.n z Gs.length hleft (hRa hd) hlen hn62 bw brs r0 r1 r2 rr q0 q1 q2 pg _ hbz hsp hr62 hwh (hPa (hM hk') hpg) hsp2
 | @two k row bw brs pcs pg he hk hr hnl hsp hpl hpg =>
  intro S0 rs rn F o hkR ho1 ho2 hrs
  subst he
  obtain ⟨d,hd,rfl⟩:=hrow hr
  obtain ⟨z,hbz⟩:=hb hd hnl
  rw[List.length_map] at hk
  have hk':=hlt hd
  have hS:=hSr S0 hd
  have hleft:(0:Int)<Int.ofNat (R.length-k):=nb3 hk'
  have hii:=hi S0 rs rn hd
  obtain ⟨T,hT'⟩:=hT S0 k
  have hkG:k≤Gs.length:=Nat.lt_succ_iff.mp (Nat.lt_of_lt_of_eq hk' hRG)
  rw[hwords]
  refine YT hw X it ra ga pa rd xn yn pn (E1:=[(d.la,Z0 (svA d.ts d.tf) d.n)]) (S1:=rwS (R.eraseIdx k)++(gpS Gs++S0)) (by simpa using hS.symm) (odw _ S0 rs rn pg _ T k hT') ?_
  cases hdec:decide (0<Gs.length-k) <;> rw[hdec] at hii <;> cases o with
  | none=>first | exact Z2K hw X _ it ra ga pa rd _ xn _ yn _ pn k _ rs rn F d.la _ d.n z Gs.length _ _ hleft (hRa hd) hlen hn62 pg _ (hPa (hM hk') hpg) (ZM hkG (Nat.le_trans hG (by decide))) (ZY hkG) bw brs pcs hsp hpl hbz hii | exact Z2J hw X _ it ra ga pa rd _ xn _ yn _ pn k _ rs rn F d.la _ d.n z Gs.length _ _ hleft (hRa hd) hlen hn62 pg _ (hPa (hM hk') hpg) (ZM hkG (Nat.le_trans hG (by decide))) (ZY hkG) bw brs pcs hsp hpl hbz hii
  | some x=>first | exact Z2I hw X _ it ra ga pa rd _ xn _ yn _ pn k _ rs rn F x.1 x.2.1 x.2.2 d.la _ d.n z Gs.length _ _ hleft (hRa hd) hlen hn62 pg _ (hPa (hM hk') hpg) (ZM hkG (Nat.le_trans hG (by decide))) (ZY hkG) bw brs pcs hsp hpl hbz hii | exact Z2H hw X _ it ra ga pa rd _ xn _ yn _ pn k _ rs rn F x.1 x.2.1 x.2.2 d.la _ d.n z Gs.length _ _ hleft (hRa hd) hlen hn62 pg _ (hPa (hM hk') hpg) (ZM hkG (Nat.le_trans hG (by decide))) (ZY hkG) bw brs pcs hsp hpl hbz hii
 | @three k row bw brs r0 r1 r2 rr pg he hk hr hnl hsp hrl hw1 hl1 hpg =>
  intro S0 rs rn F o hkR ho1 ho2 hrs
  subst he
  obtain ⟨d,hd,rfl⟩:=hrow hr
  obtain ⟨z,hbz⟩:=hb hd hnl
  rw[List.length_map] at hk
  have hk':=hlt hd
  have hS:=hSr S0 hd
  have hleft:(0:Int)<Int.ofNat (R.length-k):=nb3 hk'
  have hii:=hi S0 rs rn hd
  obtain ⟨T,hT'⟩:=hT S0 k
  have hkG:k≤Gs.length:=Nat.lt_succ_iff.mp (Nat.lt_of_lt_of_eq hk' hRG)
  have hr62:(r0::r1::r2::rr).length<2 ^ 62:=Nat.lt_of_le_of_lt hrl (by decide)
  have hwh:OK w (Jp w.params X r1 false):=by rw[←hw1];exact wh_ok hw X r1 hl1
  rw[hwords]
  refine YT hw X it ra ga pa rd xn yn pn (E1:=[(d.la,Z0 (svA d.ts d.tf) d.n)]) (S1:=rwS (R.eraseIdx k)++(gpS Gs++S0)) (by simpa using hS.symm) (odw _ S0 rs rn pg _ T k hT') ?_
  cases hdec:decide (0<Gs.length-k) <;> rw[hdec] at hii <;> cases o with
  | none=>first | exact Nu hw X _ it ra ga pa rd _ xn _ yn _ pn k _ rs rn F d.la _ d.n z Gs.length _ _ hleft (hRa hd) hlen hn62 pg _ (hPa (hM hk') hpg) (ZM hkG (Nat.le_trans hG (by decide))) (ZY hkG) bw brs r0 r1 r2 rr hsp hr62 hwh hbz hii | exact Nt hw X _ it ra ga pa rd _ xn _ yn _ pn k _ rs rn F d.la _ d.n z Gs.length _ _ hleft (hRa hd) hlen hn62 pg _ (hPa (hM hk') hpg) (ZM hkG (Nat.le_trans hG (by decide))) (ZY hkG) bw brs r0 r1 r2 rr hsp hr62 hwh hbz hii
  | some x=>first | exact Nr hw X _ it ra ga pa rd _ xn _ yn _ pn k _ rs rn F x.1 x.2.1 x.2.2 d.la _ d.n z Gs.length _ _ hleft (hRa hd) hlen hn62 pg _ (hPa (hM hk') hpg) (ZM hkG (Nat.le_trans hG (by decide))) (ZY hkG) bw brs r0 r1 r2 rr hsp hr62 hwh hbz hii | exact Nq hw X _ it ra ga pa rd _ xn _ yn _ pn k _ rs rn F x.1 x.2.1 x.2.2 d.la _ d.n z Gs.length _ _ hleft (hRa hd) hlen hn62 pg _ (hPa (hM hk') hpg) (ZM hkG (Nat.le_trans hG (by decide))) (ZY hkG) bw brs r0 r1 r2 rr hsp hr62 hwh hbz hii
 | @nl k row g gt pg he hk hr hnl hgp hgn hpg =>
  intro S0 rs rn F o hkR ho1 ho2 hrs
  subst he
  obtain ⟨d,hd,rfl⟩:=hrow hr
  obtain ⟨G,hG',rfl,rfl⟩:=hgap hgp
  obtain ⟨z,hbz⟩:=hb hd hnl
  rw[List.length_map] at hk
  have hk':=hlt hd
  have hS:=hSg S0 hd hG'
  have hleft:(0:Int)<Int.ofNat (R.length-k):=nb3 hk'
  obtain ⟨T,hT'⟩:=hT S0 k
  have hkG:k≤Gs.length:=Nat.lt_succ_iff.mp (Nat.lt_of_lt_of_eq hk' hRG)
  have hSx:((G.ta,Y5 [.str G.g G.tok,.ref G.la] 0)::(rwS (R.eraseIdx k)++((G.la,Z0 (svA G.ts G.tf) G.n)::gpS (Gs.eraseIdx k)++S0))).Perm (rwS (R.eraseIdx k)++(gpS Gs++S0)):=by
   refine List.Perm.trans ?_ (((Us hG').append_right S0).append_left _).symm
   exact List.perm_middle.symm
  have hii:∀ it kt ba qa F,OK w (YC w.params X [(G.ta,Y5 [.str G.g G.tok,.ref G.la] 0)] (rwS (R.eraseIdx k)++((G.la,Z0 (svA G.ts G.tf) G.n)::gpS (Gs.eraseIdx k)++S0)) it ra ga pa rd (rwA R) xn (gpA Gs) yn (svA pages pt) pn rs rn k Gs.length true (Int.ofNat Gs.length-1) (d.ts++YG ((R.drop (k+1)).map RWd.ts) ((Gs.drop k).map GP.ts)) d.la (svA d.ts d.tf) d.n kt ba qa F):=fun it kt ba qa F=>by
   have h0:=hi S0 rs rn hd it kt ba qa F
   rw[decide_eq_true (show 0<Gs.length-k by omega)] at h0
   refine h0.conseq [] rfl (fun _ e=>e) (fun _ e=>e) ?_ fun sz tk l=>⟨l,[(G.ta,Y5 [.str G.g G.tok,.ref G.la] 0)],rfl,rfl,rfl,rfl,?_⟩
   ·rw[List.append_nil]
    show List.Perm ((_++[_])++_) ((_++[])++_)
    rw[List.append_assoc,List.append_assoc]
    exact .append_left _ hSx
   ·rw[List.append_nil]
    show List.Perm (_++(rwS (R.eraseIdx k)++(gpS Gs++S0))) ((_++(rwS (R.eraseIdx k)++((G.la,Z0 (svA G.ts G.tf) G.n)::gpS (Gs.eraseIdx k)++S0)))++[_])
    rw[List.append_assoc]
    refine .append_left _ (hSx.symm.trans ?_)
    exact (List.perm_append_comm (l₁:=[_])).symm.symm
  have hTx:∃ T',(rwS (R.eraseIdx k)++((G.la,Z0 (svA G.ts G.tf) G.n)::gpS (Gs.eraseIdx k)++S0)).Perm ((rwS (R.take (k+([]:List Str).length))++S0)++T'):=by
   obtain ⟨T,hT⟩:=Ud (R:=R) (k:=k) (m:=k+([]:List Str).length) (Nat.le_refl _)
   refine ⟨T++((G.la,Z0 (svA G.ts G.tf) G.n)::gpS (Gs.eraseIdx k)),(hT.append_right _).trans ?_⟩
   rw[List.append_assoc,List.append_assoc]
   refine .append_left _ ?_
   rw[←List.append_assoc]
   exact List.perm_append_comm
  obtain ⟨T',hT2⟩:=hTx
  rw[hwords]
  refine YT hw X it ra ga pa rd xn yn pn (E1:=dE d.la (svA d.ts d.tf) d.n G.ta G.g G.tok G.la) (S1:=rwS (R.eraseIdx k)++((G.la,Z0 (svA G.ts G.tf) G.n)::gpS (Gs.eraseIdx k)++S0)) (by simpa [dE] using hS.symm) (odw _ S0 rs rn pg _ T' k hT2) ?_
  cases o with
  | none=>exact d_nl01 hw X _ it ra ga pa rd _ xn _ yn _ pn k _ rs rn F d.la _ d.n z Gs.length _ _ hleft (hRa hd) hlen hn62 pg _ (hPa (hM hk') hpg) (ZM hkG (Nat.le_trans hG (by decide))) (ZY hkG) G.ta G.g G.tok G.la hk (hGa hG') hgn hbz hii
  | some x=>exact d_nl11 hw X _ it ra ga pa rd _ xn _ yn _ pn k _ rs rn F x.1 x.2.1 x.2.2 d.la _ d.n z Gs.length _ _ hleft (hRa hd) hlen hn62 pg _ (hPa (hM hk') hpg) (ZM hkG (Nat.le_trans hG (by decide))) (ZY hkG) G.ta G.g G.tok G.la hk (hGa hG') hgn hbz hii
end
theorem Z1u:whS.cps.toList=[9,10,11,12,13,28,29,30,31,32,133,160,5760,8232,8233,8239,8287,12288]:=by decide +kernel
theorem JK{k:Nat}:∀ {l:List (Nat × Nat)},Unicode.within l k=true→∃ p∈l,p.1≤k∧k≤p.2
 | (a,b)::l,h=>by
  have h:(if k<a then false else decide (k≤b)||Unicode.within l k)=true:=h
  by_cases h1:k<a
  ·rw[if_pos h1] at h;cases h
  ·rw[if_neg h1,Bool.or_eq_true,decide_eq_true_eq] at h
   rcases h with h | h
   ·exact ⟨(a,b),.head _,Nat.le_of_not_lt h1,h⟩
   ·obtain ⟨p,hp,h2⟩:=JK h
    exact ⟨p,.tail _ hp,h2⟩
noncomputable def isWb (k:Nat):Bool:=decide (k∈[9,10,11,12,13,28,29,30,31,32,133,160,5760,8232,8233,8239,8287,12288])||(decide (8192≤k)&&decide (k≤8202))
theorem isW_b(k:Nat):isW k=isWb k:=by
 unfold isW isWb
 rw[YD,Z1u]
theorem Nb(k:Nat):isW k=spc k:=by
 rw[isW_b,Bool.eq_iff_iff]
 constructor
 ·intro h
  unfold isWb at h
  rw[Bool.or_eq_true,decide_eq_true_eq,Bool.and_eq_true,decide_eq_true_eq,decide_eq_true_eq] at h
  rcases h with h | h
  ·have key:∀ k∈[9,10,11,12,13,28,29,30,31,32,133,160,5760,8232,8233,8239,8287,12288],spc k=true:=by decide +kernel
   exact key k h
  ·have key:∀ i,i<11→spc (8192+i)=true:=by decide +kernel
   have:=key (k-8192) (by omega)
   rwa [Nat.add_sub_cancel' h.1] at this
 ·intro h
  obtain ⟨p,hp,h1,h2⟩:=JK (l:=UnicodeData.space) h
  have key:∀ p∈UnicodeData.space,∀ i,i<p.2-p.1+1→isWb (p.1+i)=true:=by decide +kernel
  have:=key p hp (k-p.1) (by omega)
  rwa [Nat.add_sub_cancel' h1] at this
theorem Firm.app {a b:List Nat}(ha:Firm a)(m:List Nat)(hb:Firm b):Firm (a++m++b):=by
 obtain ⟨c,t,e1,h1⟩:=ha.h
 obtain ⟨t',d,e2,h2⟩:=hb.l
 exact ⟨⟨c,t++m++b,by rw[e1];simp,h1⟩,⟨a++m++t',d,by rw[e2];simp,h2⟩⟩
theorem JW(s:List Nat):Firm (Zm s):=by
 unfold Zm
 split
 ·exact ⟨⟨39,[39],rfl,UE⟩,⟨[39],39,rfl,UE⟩⟩
 ·rename_i h0
  split
  ·rename_i hb
   rw[List.all_eq_true] at hb
   refine ⟨?_,⟨s.dropLast,s.getLast h0,(List.dropLast_concat_getLast h0).symm,(Jw (hb _ (List.getLast_mem h0))).2.2.2.2.2⟩⟩
   cases s with
   | nil=>exact absurd rfl h0
   | cons c s=>exact ⟨c,s,rfl,(Jw (hb c (.head _))).2.2.2.2.2⟩
  ·exact ⟨⟨39,_,rfl,UE⟩,⟨39::YJ s,39,rfl,UE⟩⟩
theorem J7:∀ {row:YY},row≠[]→Firm (Yv row)
 | [s],_=>JW s
 | s::s'::row,_=>(JW s).app [32] (J7 (row:=s'::row) (by simp))
theorem Q6:∀(rs:List YY)(gs:List Vs)(r:YY),rs.length=gs.length→(∀ x∈r::rs,x≠[])→Firm (pg (r::rs) gs)
 | [],[],r,_,h=>J7 (h r (.head _))
 | r'::rs,g::gs,r,hl,h=>(J7 (h r (.head _))).app g.1 (Q6 rs gs r' (by simpa using hl) fun x hx=>h x (.tail _ hx))
theorem Z09{s:List Nat}{x:Nat}(h:x∈s):x∈YJ s:=by
 unfold YJ
 rw[List.mem_flatMap]
 refine ⟨x,h,?_⟩
 split
 ·rename_i hx;rw[hx];simp
 ·simp
theorem QC{s:List Nat}(h:10∉s):10∉Zm s:=by
 unfold Zm
 split
 ·decide
 ·split
  ·exact h
  ·have:=mt (QV (s:=s) (x:=10) (by decide) (by decide)).mp h
   simp[this]
theorem J6:∀ {row:YY},(∀ s∈row,10∉s)→10∉Yv row
 | [],_=>by simp[Yv,Qv]
 | [s],h=>QC (h s (.head _))
 | s::s'::row,h=>by
  have h1:=QC (h s (.head _))
  have h2:=J6 (row:=s'::row) fun x hx=>h x (.tail _ hx)
  show 10∉Zm s++[32]++Yv (s'::row)
  simp[h1,h2]
theorem KC:∀ {s:List Nat},10∈s→∃ a b,s=a++10::b∧10∉a
 | c::s,h=>by
  by_cases hc:c=10
  ·exact ⟨[],s,by rw[hc];rfl,by simp⟩
  ·obtain ⟨a,b,e,ha⟩:=KC (s:=s) (by rcases List.mem_cons.mp h with h | h;exact absurd h.symm hc;exact h)
   exact ⟨c::a,b,by rw[e];rfl,by simp[ha,Ne.symm hc]⟩
theorem QK{p:List Nat→Bool}:∀ {row:YY}{bw:List Nat}{brs:YY},row.filter p=bw::brs→∃ a b,row=a++bw::b∧(∀ s∈a,p s=false)∧p bw=true
 | s::row,bw,brs,h=>by
  rw[List.filter_cons] at h
  split at h
  ·rename_i hs
   cases h
   exact ⟨[],row,rfl,by simp,hs⟩
  ·rename_i hs
   obtain ⟨a,b,e,h1,h2⟩:=QK h
   refine ⟨s::a,b,by rw[e];rfl,fun x hx=>?_,h2⟩
   rcases List.mem_cons.mp hx with rfl | hx
   ·simpa using hs
   ·exact h1 x hx
theorem Kr(row:YY):nlF (row.map mkS)=(row.filter fun s=>decide (10∈s)).map mkS:=by
 unfold nlF
 rw[List.filter_map]
 congr 2
 funext s
 exact YD (mkS s) 10
theorem Z0a{s:List Nat}(h:10∈s):Zm s=39::(YJ s++[39]):=by
 unfold Zm
 rw[if_neg (fun e=>by rw[e] at h;cases h),if_neg]
 intro hb
 rw[List.all_eq_true] at hb
 exact (Jw (hb 10 h)).2.1 rfl
theorem V1:∀(a:YY)(s:List Nat)(b:YY),∃ t,Yv (a++s::b)=(a.flatMap fun x=>Zm x++[32])++Zm s++t
 | [],s,[]=>⟨[],by show Zm s=_;simp⟩
 | [],s,s'::b=>⟨[32]++Yv (s'::b),by show Zm s++[32]++Yv (s'::b)=_;simp⟩
 | x::a,s,b=>by
  obtain ⟨t,e⟩:=V1 a s b
  refine ⟨t,?_⟩
  have:Yv (x::(a++s::b))=Zm x++[32]++Yv (a++s::b):=by
   cases h:a++s::b with
   | nil=>simp at h
   | cons y z=>rfl
  show Yv (x::(a++s::b))=_
  rw[this,e,List.flatMap_cons]
  simp
theorem UI{row:YY}{bw:List Nat}{brs:YY}(h:row.filter (fun s=>decide (10∈s))=bw::brs):∃(pre:YY)(p0 post:List Nat)(t:List Nat),bw=p0++10::post∧10∉p0∧Yv row=((pre.flatMap fun x=>Zm x++[32])++39::YJ p0)++10::(YJ post++39::t)∧10∉((pre.flatMap fun x=>Zm x++[32])++39::YJ p0):=by
 obtain ⟨a,b,e,h1,h2⟩:=QK h
 rw[decide_eq_true_eq] at h2
 obtain ⟨p0,post,e2,h3⟩:=KC h2
 obtain ⟨t,e3⟩:=V1 a bw b
 refine ⟨a,p0,post,t,e2,h3,?_,?_⟩
 ·rw[e,e3,Z0a h2,e2,Ki,Yc,if_neg (by decide)]
  simp
 ·have ha:10∉a.flatMap fun x=>Zm x++[32]:=by
   rw[List.mem_flatMap]
   rintro ⟨x,hx,hm⟩
   have:=QC (s:=x) (by have:=h1 x hx;simpa using this)
   simp[this] at hm
  have hp:=mt (QV (s:=p0) (x:=10) (by decide) (by decide)).mp h3
  simp[ha,hp]
noncomputable def Qc (rows:List YY):List (List Str):=rows.map fun r=>r.map mkS
noncomputable def Yx (gaps:List Vs):List (Str × List Str):=gaps.map fun g=>(mkS g.1,g.2.map mkS)
noncomputable def Ys (rows:List YY)(gaps:List Vs):List Str:=(List.range' 0 (gaps.length+1)).map fun i=>mkS (pg (rows.drop i) (gaps.drop i))
noncomputable def Z1a (tb:Bool)(ts:List Str):Option (List Str):=match tb with
 | true=>some ts
 | false=>none
theorem Z0S{w:World}{rows:List (List Str)}{gaps:List (Str × List Str)}{pages:List Str}{e:Bool}{k:Nat}{rs:List Str}{q0 q2:Str}{tl:Option (List Str)}(h:DueR w rows gaps pages e k rs q0 q2 tl):e=true→q0=mkS []∧q2=mkS []∧tl=some []:=by
 induction h with
 | stop he hk=>exact fun _=>⟨rfl,rfl,rfl⟩
 | last _ _ _ _ ih=>exact ih
 | gap _ _ _ _ _ _ _ _ _ _ ih=>exact ih
 | torn he=>intro h;rw[he] at h;cases h
 | two he=>intro h;rw[he] at h;cases h
 | three he=>intro h;rw[he] at h;cases h
 | nl he=>intro h;rw[he] at h;cases h
theorem UM(r r':YY)(rs:List YY)(g:Vs)(gs:List Vs):(pg (r'::rs) gs).length≤(pg (r::r'::rs) (g::gs)).length∧(Yv r).length≤(pg (r::r'::rs) (g::gs)).length:=by
 show _≤(Yv r++g.1++pg (r'::rs) gs).length∧_≤(Yv r++g.1++pg (r'::rs) gs).length
 simp only[List.length_append]
 omega
theorem Z23(rs:List YY)(gs:List Vs)(r:YY):∃ t,pg (r::rs) gs=Yv r++t:=by
 cases gs with
 | nil=>exact ⟨[],by rw[List.append_nil];rfl⟩
 | cons g gs=>exact ⟨g.1++pg rs gs,by show Yv r++g.1++_=_;rw[List.append_assoc]⟩
theorem spc10:spc 10=true:=by decide +kernel
theorem Nl{s:List Nat}(h:s≠[]):eqS (mkS s) (Str.ofString "")=false:=by
 rw[Y4]
 show (s==[])=false
 cases s with
 | nil=>exact absurd rfl h
 | cons c s=>rfl
theorem Nj{s:List Nat}(h:Firm s):s≠[]:=by
 obtain ⟨c,t,e,_⟩:=h.h
 rw[e];simp
section
variable {b b2:Bool}{w:World}(hw:Wd b b2 w)(rows:List YY)(gaps:List Vs)
include hw
theorem Z0s(n:Nat)(w0:List Nat)(h0:w0=[]):Peel w (n+1) (mkS w0) [] (Str.ofString "") (Str.ofString "") true []:=by
 subst h0
 refine .list (fun X=>?_) fun X D r=>?_
 ·have:=sdA' hw X (P:=[]) (by simp) (doc:=mkS []) (by decide +kernel) (by simp)
  rw[show (mkS []:Str)=Str.ofString "" from Y4.symm] at this ⊢
  exact this
 ·have:=K6 hw X D r (Str.ofString "") (by decide +kernel) (ts:=[]) (by rw[Y4];exact N0)
  exact this
omit hw in
theorem Z1s:∀(rs:List YY)(gs:List Vs)(r:YY),rs.length=gs.length→r.map mkS++YG (rs.map fun x=>x.map mkS) (gs.map fun g=>g.2.map mkS)=(pw (r::rs) gs).map mkS
 | [],[],r,_=>by show _++[]=_;rw[List.append_nil];rfl
 | r'::rs,g::gs,r,hl=>by
  have ih:=Z1s rs gs r' (by simpa using hl)
  show r.map mkS++(g.2.map mkS++r'.map mkS++YG (rs.map fun x=>x.map mkS) (gs.map fun g=>g.2.map mkS))=(r++g.2++pw (r'::rs) gs).map mkS
  rw[List.append_assoc (g.2.map mkS),ih]
  simp
omit hw in
theorem at_k{r:YY}{rs:List YY}{gs:List Vs}{k:Nat}(hlen:rows.length=gaps.length+1)(hR:rows.drop k=r::rs)(hG:gaps.drop k=gs) :
  k≤gaps.length∧(Qc rows)[k]?=some (r.map mkS)∧(Qc rows).drop (k+1)=(rs.map fun x=>x.map mkS)∧((Yx gaps).drop k).map (·.2)=(gs.map fun g=>g.2.map mkS)∧(Ys rows gaps)[k]?=some (mkS (pg (r::rs) gs))∧rows.drop (k+1)=rs:=by
 have hk:k<rows.length:=by
  rcases Nat.lt_or_ge k rows.length with h | h
  ·exact h
  ·rw[List.drop_eq_nil_of_le h] at hR;cases hR
 have hg:rows[k]?=some r:=by
  have:(rows.drop k)[0]?=some r:=by rw[hR];rfl
  rwa [List.getElem?_drop] at this
 have hd:rows.drop (k+1)=rs:=by rw[←List.drop_drop,hR];rfl
 refine ⟨by omega,?_,?_,?_,?_,hd⟩
 ·unfold Qc;rw[List.getElem?_map,hg];rfl
 ·unfold Qc;rw[←List.map_drop,hd]
 ·unfold Yx;rw[←List.map_drop,hG,List.map_map];rfl
 ·unfold Ys
  rw[List.getElem?_map,List.getElem?_range' (by omega)]
  show some (mkS (pg (rows.drop (0+1*k)) (gaps.drop (0+1*k))))=_
  rw[show 0+1*k=k by omega,hR,hG]
theorem U6(hlen:rows.length=gaps.length+1)(rs:List YY)(gs:List Vs)(r:YY)(k:Nat)(w0:List Nat)(hl:rs.length=gs.length)(hR:rows.drop k=r::rs)(hG:gaps.drop k=gs)(h0:∀ c∈w0,spc c=true)
  (hr:∀ x∈r::rs,x≠[]∧∀ s∈x,s.length≤900)(hg:∀ g∈gs,GapOK g)(hp:(pg (r::rs) gs).length≤3000)(n:Nat)
  (hb:(∃ bw brs,r.filter (fun s=>decide (10∈s))=bw::brs)∨(r.filter (fun s=>decide (10∈s))=[]∧∃ t gs',gs=([10],t)::gs')) :
  ∃ f r' tb ts,Peel w (n+1) (mkS (w0++pg (r::rs) gs)) [] f r' tb ts∧DueR w (Qc rows) (Yx gaps) (Ys rows gaps) false k [] f r' (Z1a tb ts):=by
 obtain ⟨hk,hrow,hrd,hgd,hpg,_⟩:=at_k rows gaps hlen hR hG
 have firmP:=Q6 rs gs r hl fun x hx=>(hr x hx).1
 have hk':k≤(Yx gaps).length:=by unfold Yx;rw[List.length_map];exact hk
 have lexP:=Un rs gs r hl (fun x hx=>(hr x hx).1) hg
 have hwords:r.map mkS++YG ((Qc rows).drop (k+1)) (((Yx gaps).drop k).map (·.2))=(pw (r::rs) gs).map mkS:=by
  rw[hrd,hgd];exact Z1s rs gs r hl
 have toldP:∀ X D q,OK w (UU w.params X D q (mkS (pg (r::rs) gs)) ((pw (r::rs) gs).map mkS)):=fun X D q=>K6 hw X D q _ (by rw[Zf];exact Nat.lt_of_le_of_lt hp (by decide)) (by rw[Yp];exact lexP)
 have noLine:∀ {a c u:List Nat}{x:Nat},pg (r::rs) gs=a++10::(c++u)→10∉a→10∉c→x∈c→spc x=false→Peel w (n+1) (mkS (w0++pg (r::rs) gs)) [] (Str.ofString "") (mkS (pg (r::rs) gs)) true ((pw (r::rs) gs).map mkS):=fun e ha hc hx hxs =>
  .list (fun X=>sdC hw X h0 (by omega) firmP e ha hc hx hxs) toldP
 obtain ⟨tP,eP⟩:=Z23 rs gs r
 rcases hb with ⟨bw,brs,hb⟩ | ⟨hb,tl,gs',hgs⟩
 ·obtain ⟨pre,p0,post,t,e1,e2,e3,e4⟩:=UI hb
  have hbl:bw.length≤900:=by
   have:bw∈r.filter (fun s=>decide (10∈s)):=by rw[hb];exact .head _
   exact (hr r (.head _)).2 bw (List.mem_filter.mp this).1
  have hnl:nlF (r.map mkS)=mkS bw::brs.map mkS:=by rw[Kr,hb];rfl
  have hsp:=Z2A (w:=w) bw (by omega)
  have es:spl 10 bw (bw.length+1) []=p0::spl 10 post bw.length []:=by
   conv=>lhs;rw[e1]
   rw[show (p0++10::post).length+1=bw.length+1 by rw[←e1],Qe 10 p0 post _ _ e2]
   rfl
  have hsum:=Qg 10 bw (bw.length+1) []
  rw[es] at hsp hsum
  simp only[List.length_nil,List.map_cons,List.sum_cons,List.length_cons] at hsum
  generalize hA:(pre.flatMap fun x=>Zm x++[32])++39::YJ p0=A at e3 e4
  have eP2:pg (r::rs) gs=A++10::(YJ post++39::(t++tP)):=by rw[eP,e3];simp
  by_cases hpost:10∈post
  ·obtain ⟨p1,p2,e5,e6⟩:=KC hpost
   have hblen:bw.length=(bw.length-1)+1:=by rw[e1];simp;omega
   obtain ⟨q,rr,eq⟩:=U8 10 p2 (bw.length-1) []
   have es2:spl 10 post bw.length []=p1::q::rr:=by
    rw[e5,hblen,Qe 10 p1 p2 _ _ e6,←eq]
    rfl
   rw[es2] at hsp hsum
   simp only[List.map_cons,List.sum_cons,List.length_cons] at hsum
   have hp1l:(mkS p1).cps.toList.length≤1000:=by rw[Yp];omega
   have hcnt:(mkS p0::mkS p1::mkS q::rr.map mkS).length≤1000:=by simp only[List.length_cons,List.length_map];omega
   have free1:=mt (QV (s:=p1) (x:=10) (by decide) (by decide)).mp e6
   cases hw1:p1.all isW with
   | true =>
    have hsp1:∀ x∈p1,spc x=true:=fun x hx=>by
     rw[List.all_eq_true] at hw1
     rw[←Nb];exact hw1 x hx
    have er:YJ p1=p1:=Jj fun hm=>by have:=hsp1 39 hm;rw[UE] at this;cases this
    have eP3:pg (r::rs) gs=A++10::(p1++10::(YJ p2++39::(t++tP))):=by
     rw[eP2,e5,Ki,er,Yc,if_neg (by decide)];simp
    have hAne:A≠[]:=by rw[←hA];simp
    refine ⟨mkS A,mkS (YJ p2++39::(t++tP)),false,[],.err (fun X=>sdB hw X h0 (by omega) firmP eP3 e4 e6 hsp1) (Nl hAne) fun X D q=>NS hw X D q _ ?_ ?_,?_⟩
    ·rw[Zf]
     have:A.length≤(pg (r::rs) gs).length:=by rw[eP3];simp
     exact Nat.lt_of_le_of_lt (show A.length≤3000 by omega) (by decide)
    ·rw[Yp,←hA];exact Vg pre p0
    ·have h2:=Uu (w:=w) (pg (r::rs) gs) (by omega) (by rw[eP3];simp)
     have e7:spl 10 (pg (r::rs) gs) 2 []=[A,p1,YJ p2++39::(t++tP)]:=by
      rw[eP3,Qe 10 A _ 1 _ e4,Qe 10 p1 _ 0 _ e6,Ke];rfl
     rw[e7] at h2
     exact .torn rfl hk' hrow hnl hsp hcnt (by rw[Yp];exact hw1) hp1l hpg h2
   | false =>
    obtain ⟨x,hx,hxw⟩:=List.all_eq_false.mp hw1
    have hxs:spc x=false:=by rw[←Nb];simpa using hxw
    have eP3:pg (r::rs) gs=A++10::(YJ p1++10::(YJ p2++39::(t++tP))):=by
     rw[eP2,e5,Ki,Yc,if_neg (by decide)];simp
    refine ⟨_,_,true,_,noLine eP3 e4 free1 (Z09 hx) hxs,?_⟩
    rw[Y4]
    show DueR w _ _ _ false k [] (mkS []) _ (some ((pw (r::rs) gs).map mkS))
    rw[←hwords]
    exact .three rfl hk' hrow hnl hsp hcnt (by rw[Yp];exact hw1) hp1l hpg
  ·have es2:spl 10 post bw.length []=[post]:=QP 10 post _ _ hpost
   rw[es2] at hsp
   have free1:=mt (QV (s:=post) (x:=10) (by decide) (by decide)).mp hpost
   have eP3:pg (r::rs) gs=A++10::((YJ post++[39])++(t++tP)):=by rw[eP2];simp
   refine ⟨_,_,true,_,noLine eP3 e4 (by simp[free1]) (x:=39) (by simp) UE,?_⟩
   rw[Y4]
   show DueR w _ _ _ false k [] (mkS []) _ (some ((pw (r::rs) gs).map mkS))
   rw[←hwords]
   exact .two rfl hk' hrow hnl hsp (by simp) hpg
 ·subst hgs
  have hfree:∀ s∈r,10∉s:=fun s hs hm=>by
   have:s∈r.filter (fun s=>decide (10∈s)):=List.mem_filter.mpr ⟨hs,by simpa using hm⟩
   rw[hb] at this;cases this
  have hnl:nlF (r.map mkS)=[]:=by rw[Kr,hb];rfl
  cases rs with
  | nil=>simp at hl
  | cons r2 rs =>
   have firm2:=Q6 rs gs' r2 (by simpa using hl) fun x hx=>(hr x (.tail _ hx)).1
   obtain ⟨c,t,ec,hc⟩:=firm2.h
   have eP3:pg (r::r2::rs) (([10],tl)::gs')=Yv r++10::([c]++t):=by
    show Yv r++[10]++pg (r2::rs) gs'=_
    rw[ec];simp
   have hgk:(Yx gaps)[k]?=some (mkS [10],tl.map mkS):=by
    have:(gaps.drop k)[0]?=some ([10],tl):=by rw[hG];rfl
    rw[List.getElem?_drop] at this
    unfold Yx
    rw[List.getElem?_map,show k=k+0 from rfl,this];rfl
   have hkl:k<(Yx gaps).length:=(List.getElem?_eq_some_iff.mp hgk).1
   refine ⟨_,_,true,_,noLine eP3 (J6 hfree) (by simp;rintro rfl;rw[spc10] at hc;cases hc) (x:=c) (by simp) hc,?_⟩
   rw[Y4]
   show DueR w _ _ _ false k [] (mkS []) _ (some ((pw (r::r2::rs) (([10],tl)::gs')).map mkS))
   rw[←hwords]
   exact .nl rfl hkl hrow hnl hgk rfl hpg
theorem Z0t(hlen:rows.length=gaps.length+1):∀(rs:List YY)(gs:List Vs)(r:YY)(k:Nat)(w0:List Nat),rs.length=gs.length→rows.drop k=r::rs→gaps.drop k=gs→(∀ c∈w0,spc c=true) →
  (∀ x∈r::rs,x≠[]∧∀ s∈x,s.length≤900)→(∀ g∈gs,GapOK g)→(pg (r::rs) gs).length≤3000 →
  ∃ vs f r' tb ts e,Peel w (rs.length+2) (mkS (w0++pg (r::rs) gs)) vs f r' tb ts∧DueR w (Qc rows) (Yx gaps) (Ys rows gaps) e k (vs.map (·.2)) f r' (Z1a tb ts)∧vs.map (·.1)=((r::rs).take vs.length).map (fun x=>x.map mkS)∧vs.length≤rs.length+1:=by
 intro rs
 induction rs with
 | nil =>
  intro gs r k w0 hl hR hG h0 hr hg hp
  obtain rfl:gs=[]:=List.eq_nil_of_length_eq_zero hl.symm
  obtain ⟨hk,hrow,hrd,hgd,hpg,_⟩:=at_k rows gaps hlen hR hG
  have hkl:k=(Yx gaps).length:=by
   have h1:=congrArg List.length hR
   unfold Yx
   simp only[List.length_drop,List.length_cons,List.length_nil,List.length_map] at h1 ⊢
   omega
  cases hb:r.filter (fun s=>decide (10∈s)) with
  | cons bw brs =>
   obtain ⟨f,r',tb,ts,h1,h2⟩:=U6 hw rows gaps hlen [] [] r k w0 hl hR hG h0 hr hg hp 1 (.inl ⟨bw,brs,hb⟩)
   exact ⟨[],f,r',tb,ts,false,h1,h2,rfl,by simp⟩
  | nil =>
   have hfree:∀ s∈r,10∉s:=fun s hs hm=>by
    have:s∈r.filter (fun s=>decide (10∈s)):=List.mem_filter.mpr ⟨hs,by simpa using hm⟩
    rw[hb] at this;cases this
   have firmP:=Q6 [] [] r rfl fun x hx=>(hr x hx).1
   have hnl:nlF (r.map mkS)=[]:=by rw[Kr,hb];rfl
   refine ⟨[(r.map mkS,mkS [])],Str.ofString "",Str.ofString "",true,[],true,?_,?_,rfl,by simp⟩
   ·rw[show (mkS []:Str)=Str.ofString "" from Y4.symm]
    refine .more (fun X=>sdA hw X h0 (by omega) firmP (J6 hfree)) (Nl (Nj firmP)) (fun X D q=>K6 hw X D q _ (by rw[Zf];exact Nat.lt_of_le_of_lt hp (by decide)) (by rw[Yp];exact J2 (hr r (.head _)).1)) ?_
    have:=Z0s hw 0 [] rfl
    rw[show (mkS []:Str)=Str.ofString "" from Y4.symm] at this
    exact this
   ·rw[Y4]
    refine .last hkl hrow hnl (.stop rfl ?_)
    unfold Qc;rw[List.length_map,hlen,hkl];unfold Yx;rw[List.length_map]
 | cons r2 rs ih =>
  intro gs r k w0 hl hR hG h0 hr hg hp
  cases gs with
  | nil=>simp at hl
  | cons g gs =>
   obtain ⟨hk,hrow,hrd,hgd,hpg,hR'⟩:=at_k rows gaps hlen hR hG
   have hG':gaps.drop (k+1)=gs:=by rw[←List.drop_drop,hG];rfl
   have hgk:(Yx gaps)[k]?=some (mkS g.1,g.2.map mkS):=by
    have:(gaps.drop k)[0]?=some g:=by rw[hG];rfl
    rw[List.getElem?_drop] at this
    unfold Yx
    rw[List.getElem?_map,show k=k+0 from rfl,this];rfl
   have hkl:k<(Yx gaps).length:=(List.getElem?_eq_some_iff.mp hgk).1
   have hgo:=hg g (.head _)
   have hstop:∀(hb:(∃ bw brs,r.filter (fun s=>decide (10∈s))=bw::brs)∨(r.filter (fun s=>decide (10∈s))=[]∧∃ t gs',g::gs=([10],t)::gs')),∃ vs f r' tb ts e,Peel w ((r2::rs).length+2) (mkS (w0++pg (r::r2::rs) (g::gs))) vs f r' tb ts∧DueR w (Qc rows) (Yx gaps) (Ys rows gaps) e k (vs.map (·.2)) f r' (Z1a tb ts)∧vs.map (·.1)=((r::r2::rs).take vs.length).map (fun x=>x.map mkS)∧vs.length≤(r2::rs).length+1:=fun hb=>by
    obtain ⟨f,r',tb,ts,h1,h2⟩:=U6 hw rows gaps hlen (r2::rs) (g::gs) r k w0 hl hR hG h0 hr hg hp _ hb
    exact ⟨[],f,r',tb,ts,false,h1,h2,rfl,by simp⟩
   cases hb:r.filter (fun s=>decide (10∈s)) with
   | cons bw brs=>exact hstop (.inl ⟨bw,brs,hb⟩)
   | nil =>
    rcases hgo.sgl with hs | ⟨f0,z,eg,hf,hfs,hzs,hzl⟩
    ·exact hstop (.inr ⟨hb,g.2,gs,by rw[←hs]⟩)
    ·have hfree:∀ s∈r,10∉s:=fun s hs hm=>by
      have:s∈r.filter (fun s=>decide (10∈s)):=List.mem_filter.mpr ⟨hs,by simpa using hm⟩
      rw[hb] at this;cases this
     have hle:=UM r r2 rs g gs
     have firmP:=Q6 (r2::rs) (g::gs) r hl fun x hx=>(hr x hx).1
     have firmR:=J7 (hr r (.head _)).1
     have hnl:nlF (r.map mkS)=[]:=by rw[Kr,hb];rfl
     obtain ⟨vs,f,r',tb,ts,e,h1,h2,h3,h4⟩:=ih gs r2 (k+1) z (by simpa using hl) hR' hG' hzs (fun x hx=>hr x (.tail _ hx)) (fun x hx=>hg x (.tail _ hx)) (by omega)
     have eP:pg (r::r2::rs) (g::gs)=Yv r++10::(f0++10::(z++pg (r2::rs) gs)):=by
      show Yv r++g.1++pg (r2::rs) gs=_
      rw[eg];simp
     obtain ⟨_,_,_,_,hpg2,_⟩:=at_k rows gaps hlen hR' hG'
     refine ⟨(r.map mkS,mkS (z++pg (r2::rs) gs))::vs,f,r',tb,ts,e,.more (fun X=>sdB hw X h0 (by omega) firmP eP (J6 hfree) hf hfs) (Nl (Nj firmR)) (fun X D q=>K6 hw X D q _ (by rw[Zf];exact Nat.lt_of_le_of_lt (show _≤3000 by omega) (by decide)) (by rw[Yp];exact J2 (hr r (.head _)).1)) h1,?_,?_,?_⟩
     ·have hgl:=hgo.len
      have hsp:=Uu (w:=w) g.1 (by omega) (by rw[eg];simp)
      have e7:spl 10 g.1 2 []=[[],f0,z]:=by
       rw[eg]
       show spl 10 ([]++10::(f0++10::z)) 2 []=_
       rw[Qe 10 [] _ 1 _ (by simp),Qe 10 f0 _ 0 _ hf,Ke];rfl
      rw[e7] at hsp
      refine .gap hkl hrow hnl hgk ?_ hsp hpg2 (ZU _ _) ?_ h2
      ·rw[eg]
       show ((10::(f0++10::z))==[10])=false
       cases f0 <;> rfl
      ·rw[Zf,List.length_append]
       exact szl (by omega)
     ·rw[List.map_cons,h3];rfl
     ·simp only[List.length_cons] at h4 ⊢;omega
end
end
section
open PySem PySem.Builtin PySem.W
noncomputable def NB (a:Addr)(xs:Array Value)(n:Nat)(x:Int):FItem:=NC a xs n (.int x 0) fun l=>.int x (l 0)
theorem WS{w:World}{a:Addr}{x:Int}{xs:Array Value}{n:Nat}(hs:xs.size<sizeLine):OK w (NB a xs n x):=by
 refine Yd (fun _ _ _=>⟨rfl,rfl⟩) fun A s R args hA he hh hG=>?_
 obtain ⟨u,u2,rfl,e1,e2⟩:=Zj he
 obtain rfl:=Z5 e1
 obtain ⟨t,rfl⟩:=Zt e2
 exact KG hs hh (fun _=>t) rfl hG
noncomputable def mE (P:Params):PySem.Expr:=match sAt (Y0 P 823) 1 with
 | .Assign _ (.Call _ (e::_) _ _) _=>e
 | _=>default
noncomputable def mEnv (P:Params)(Lf L:Nat):Env:={ scope:=Z2P (Vx (mE P)),locals:=L,globals:=(ZG P 823 Lf).globals,cells:=[],qual:=(ZG P 823 Lf).qual,func:=none,code:=(ZG P 823 Lf).code,frame:=some Lf,builtins:=(ZG P 823 Lf).builtins }
noncomputable def VI (P:Params)(F:Nat)(o:Option (Int × Nat)):Obj:=match o with
 | none=>Vp [] 0
 | some x=>Vp [en P "x" F (.int x.1 x.2)] 1
noncomputable def N7 (P:Params)(Lf it la acc L:Nat)(ws:Array Value)(wn:Nat)(O:(Nat→Nat)→FOut)(i:Nat)(xs:Array Value)(n F:Nat)(o:Option (Int × Nat)):FItem where
 c:=.compLoop (mE P) 0 (.ref it) (.ref acc) (mEnv P Lf L)
 B:=fun B=>B
 pre:=[(it,itO "list_iterator" (.ref la) i),(la,Z0 ws wn),(acc,Z0 xs n),(L,VI P F o)]
 out:=fun _ _ l=>O l
section
variable{b b2:Bool}{w:World}(hw:Wd b b2 w)(Lf it la acc L:Nat)(ws:Array Value)(wn:Nat)
include b b2 w hw Lf it la acc L ws wn
theorem Z0C(O:(Nat→Nat)→FOut)(i:Nat)(xs:Array Value)(n F:Nat)(a c:Int)(t:Nat)(hx:ws[i]?=some (.int a t))(h1:a.fmod 17793024=c)(hs:xs.size<sizeLine)(next:∀ F u v n,OK w (N7 w.params Lf it la acc L ws wn O (i+1) (xs.push (.int c v)) n F (some (a,u)))):OK w (N7 w.params Lf it la acc L ws wn O i xs n F none):=by
 refine Z2 hw.w0 _ (fun sz tk ls=>(fun l0 l1=>N7 w.params Lf it la acc L ws wn O (i+1) (xs.push (Value.int c (l1 0))) (n+1) tk (some (a,t))) (ls 0) (ls 1)) (fun _ _ _ _ _ _ _ _=>rfl) (fun _ _ _=>rfl) (fun _ _ _=>rfl) (fun c B p sz tk g he=>?_) (fun sz tk ls=>next _ _ _ _)
 obtain rfl:=Zg he
 refine ⟨67,.item [] (ZX it la ws wn i (Value.int a t)) (fun l0=>.item [Zl a 17793024 c] (NB acc xs n c) (fun l1=>.fin [])),(dg 11 0x2014340001),[1,1,0,0],0,?_,fun ls=>?_⟩
 ·exact ⟨(fun x hx=>(nomatch hx)),ZE hx,fun l0=>⟨(AllV.all ⟨Z9 (by decide) h1,trivial⟩),WS hs,fun l1=>(fun x hx=>(nomatch hx))⟩⟩
 ·kernel_rfl
theorem Z0B(O:(Nat→Nat)→FOut)(i:Nat)(xs:Array Value)(n F:Nat)(a0:Int)(u0:Nat)(a c:Int)(t:Nat)(hx:ws[i]?=some (.int a t))(h1:a.fmod 17793024=c)(hs:xs.size<sizeLine)(next:∀ F u v n,OK w (N7 w.params Lf it la acc L ws wn O (i+1) (xs.push (.int c v)) n F (some (a,u)))):OK w (N7 w.params Lf it la acc L ws wn O i xs n F (some (a0,u0))):=by
 refine Z2 hw.w0 _ (fun sz tk ls=>(fun l0 l1=>N7 w.params Lf it la acc L ws wn O (i+1) (xs.push (Value.int c (l1 0))) (n+1) F (some (a,t))) (ls 0) (ls 1)) (fun _ _ _ _ _ _ _ _=>rfl) (fun _ _ _=>rfl) (fun _ _ _=>rfl) (fun c B p sz tk g he=>?_) (fun sz tk ls=>next _ _ _ _)
 obtain rfl:=Zg he
 refine ⟨67,.item [] (ZX it la ws wn i (Value.int a t)) (fun l0=>.item [Zl a 17793024 c] (NB acc xs n c) (fun l1=>.fin [])),(dg 11 0x2014340001),[1,1,0,0],0,?_,fun ls=>?_⟩
 ·exact ⟨(fun x hx=>(nomatch hx)),ZE hx,fun l0=>⟨(AllV.all ⟨Z9 (by decide) h1,trivial⟩),WS hs,fun l1=>(fun x hx=>(nomatch hx))⟩⟩
 ·kernel_rfl
theorem Z26(i:Nat)(xs:Array Value)(n F:Nat)(a0:Int)(u0:Nat)(hx:ws.size≤i):OK w (N7 w.params Lf it la acc L ws wn (fun l=>⟨.ok .next,[(la,Z0 ws wn),(acc,Z0 xs n),(L,VI w.params F (some (a0,u0)))],l 0,l 1,id,[]⟩) i xs n F (some (a0,u0))):=by
 refine Z1 hw.w0 _ fun c B p sz tk g he=>?_
 obtain rfl:=Zg he
 refine ⟨55,.item [] (K4 it la ws wn i) (fun l0=>.fin []),[1,0,0,0,1],[3,3,3],0,fun ls=>(fun l0=>fl [sz+2,tk]) (ls 0),?_,fun ls=>?_⟩
 ·exact ⟨(fun x hx=>(nomatch hx)),Jm hx,fun l0=>(fun x hx=>(nomatch hx))⟩
 ·kernel_rfl
end
noncomputable def OML (P:Params)(la acc L:Nat)(ws:Array Value)(wn:Nat)(z:Int)(xs:Array Value)(ns:List Nat):(Nat→Nat)→FOut:=fun l =>
 ⟨.ok .next,[(la,Z0 ws wn),(acc,Z0 (xs++ivA ns (fun i=>l (i+20))) (l 2)),(L,VI P (l 3) (some (z,l 4)))],l 0,l 1,id,[]⟩
noncomputable def itMS (P:Params)(Lf it la acc L:Nat)(ws:Array Value)(wn:Nat)(z:Int)(ns:List Nat):FItem:={ N7 P Lf it la acc L ws wn (OML P la acc L ws wn z #[] ns) 0 #[] 0 0 none with c:=.compStart (mE P) 0 (.ref it) (.ref acc) (mEnv P Lf L) }
noncomputable abbrev RT3:=List (List Nat) × List (List (List Nat)) × List (List Nat × List (List Nat))
noncomputable def Q9 (R:RT3)(p:Nat)(l:Nat→Nat):List RWd:=⟨p+1,R.1.map mkS,fun i=>l (2*i+20),l 4⟩::YW R.2.1 (hdN fun i=>l (2*i+21))
noncomputable def Z1l (R:RT3)(l:Nat→Nat):List GP:=Q5 R.2.2 (tlN fun i=>l (2*i+21))
noncomputable def YS (R:RT3)(p:Nat)(l:Nat→Nat):Array Value:=#[.ref (p+1)]++rwA (YW R.2.1 (hdN fun i=>l (2*i+21)))
noncomputable def Qu (R:RT3)(l:Nat→Nat):Array Value:=#[]++gpA (Q5 R.2.2 (tlN fun i=>l (2*i+21)))
noncomputable def VJ (R:RT3)(p:Nat)(l:Nat→Nat):Led:=(p+1,Z0 (svA (R.1.map mkS) (fun i=>l (2*i+20))) (l 4))::(rwS (YW R.2.1 (hdN fun i=>l (2*i+21)))++gpS (Q5 R.2.2 (tlN fun i=>l (2*i+21)))++[])
noncomputable def Q4 (tb:Bool)(ts:List Str)(vs:List (List Str × Str))(l:Nat→Nat)(S:Led):Led:=(((told tb ts l).2++JE (JA vs (fun i=>l (2*i+21))))++[])++S
noncomputable def UV (P:Params)(X:Fr)(S:Led)(ra ga:Nat)(xs:Array Value)(xn:Nat)(ys:Array Value)(yn n:Nat)(pages:List Str):FItem where
 c:=.call (.ref 794) ⟨[.ref ra,.ref ga],[]⟩
 B:=nrm [.f (ZG P 823 X.w),.b "claim.caller"]
 pre:=[(ra,Z0 xs xn),(ga,Z0 ys yn),(753,cdO none)]
 out:=fun _ _ l=>⟨.ok (.ret (.ref (l 3))),[(ra,Z0 xs xn),(ga,Z0 ys yn),(l 3,Z0 (svA pages (fun i=>l (i+20))) (l 4)),(753,cdO (some (l 5)))],l 0,l 1,VE (n+1),S⟩
 preS:=S
noncomputable def Z2m (P:Params)(X:Fr)(a b:Nat)(E S:Led):FItem where
 c:=.call (.builtin "tuple.__eq__") ⟨[.ref a,.ref b],[]⟩
 B:=nrm [.f (ZG P 823 X.w),.b "claim.caller"]
 pre:=E
 out:=fun _ _ l=>⟨.ok (.ret (.bool true)),[],l 0,l 1,id,[]⟩
 preS:=S
noncomputable def eqE (a b rl rd:Nat)(A1:Array Value)(n1:Nat)(A2:Array Value)(n2:Nat)(f r':Str)(t3 t4:Nat)(v:Value)(q0 q2:Str)(t5 t6:Nat)(v2:Value):Led :=
 [(a,Y5 [.ref rl,.str f t3,.str r' t4,v] 0),(rl,Z0 A1 n1),(b,Y5 [.ref rd,.str q0 t5,.str q2 t6,v2] 0),(rd,Z0 A2 n2)]
noncomputable def lawE (p:Nat)(R:RT3)(l1 l3 l4:Nat→Nat)(s3 s4:Nat)(vs:List (List Str × Str))(f r':Str)(tb:Bool)(ts:List Str)(ds:List (Nat × Str))(q0 q2:Str)(tl:Option (List Str)):Led :=
 eqE (l3 2) (l4 2) (s3+1) (s4+1) (#[]++Qh (JA vs (fun i=>l3 (2*i+21)))) (l3 7) (#[]++drA (ZQ ds (fun i=>l4 (2*i+21)))) (l4 7) f r' (l3 3) (l3 4) (told tb ts l3).1 q0 q2 (l4 3) (l4 4) (Z2C tl l4)
noncomputable def JG (R:RT3)(p:Nat)(kk:Nat)(l1 l3 l4:Nat→Nat)(vs:List (List Str × Str))(tb:Bool)(ts:List Str)(ds:List (Nat × Str))(tl:Option (List Str)):Led:=Z0T tl l4++drS (ZQ ds (fun i=>l4 (2*i+21)))++Q4 tb ts vs l3 (rwS ((Q9 R p l1).take kk))
noncomputable def lwD (P:Params)(F:Nat→Nat)(sc dr ra ga pa:Nat):Dt:=⟨#[en P "script" (F 0) (.ref sc),en P "drawn" (F 1) (.ref dr),en P "rows" (F 2) (.ref ra),en P "gaps" (F 3) (.ref ga),en P "pages" (F 4) (.ref pa)],5⟩
noncomputable def lwPE (P:Params)(X:Fr)(F:Nat→Nat)(sc dr ra ga pa:Nat)(page:Str)(rounds:Nat)(vs:List (List Str × Str))(f r':Str)(tb:Bool)(ts:List Str):FItem:=itPE P X (lwD P F sc dr ra ga pa) false page rounds (OPE X (lwD P F sc dr ra ga pa) vs f r' tb ts)
noncomputable def itLW (P:Params)(sc:Nat)(ws:Array Value)(wn n:Nat):FItem where
 c:=.call (.ref 823) ⟨[.ref sc],[]⟩
 B:=nrm [.b "claim.caller"]
 pre:=[(sc,Z0 ws wn),(753,cdO none)]
 out:=fun _ _ l=>⟨.ok (.ret (.bool true)),[(sc,Z0 ws wn),(753,cdO (some (l 2)))],l 0,l 1,VE (n+1),[]⟩
theorem Z28{b b2:Bool}{w:World}(hw:Wd b b2 w)(X:Fr)(sc:Nat)(ws:Array Value)(wn n kk:Nat)(ys:Array Value)(z:Int)(ns:List Nat)(R:RT3)(page:Str)(prest:List Str)(rounds m:Nat)(vs:List (List Str × Str))(f r':Str)(tb:Bool)(ts:List Str)(dl:Nat→(Nat→Nat)→List (Nat × Str))(q0 q2:Str)(tl:Option (List Str))
  (hne:(ws.size != 0)=true)(hsl:slicePick ws none (some 10) none=ys)(hss:ws.size≤sizeLine)(hm:∀ p l,(YS R p l).size=m)(hml:m<2 ^ 62)(hrd:Int.ofNat m+1=Int.ofNat rounds)
  (hcm:∀ Lf it la acc L yn,OK w (itMS w.params Lf it la acc L ys yn z ns))(hrw:∀ X na nn f,OK w (itRW w.params X na (#[]++ivA ns f) nn (ORW w.params X na R)))
  (hpf:∀ X p l,OK w (UV w.params X (VJ R p l) (p+2) (p+3) (YS R p l) (l 2) (Qu R l) (l 3) n (page::prest)))
  (hpe:∀ X D5,OK w (itPE w.params X D5 false page rounds (OPE X D5 vs f r' tb ts)))
  (hdu:∀ X p l pa pt pn l3,OK w (Z1m w.params X (Q4 tb ts vs l3 (VJ R p l)) (p+2) (p+3) pa (YS R p l) (l 2) (Qu R l) (l 3) (svA (page::prest) pt) pn (fun sz=>ODU (sz+1) #[] (Q4 tb ts vs l3 (rwS ((Q9 R p l).take kk))) (dl p l) q0 q2 tl)))
  (heq:∀ X p l1 l3 l4 s3 s4,OK w (Z2m w.params X (l3 2) (l4 2) (lawE p R l1 l3 l4 s3 s4 vs f r' tb ts (dl p l1) q0 q2 tl) (JG R p kk l1 l3 l4 vs tb ts (dl p l1) tl))):OK w (itLW w.params sc ws wn n):=by
 refine Z1 hw.w0 _ fun c B p sz tk g he=>?_
 obtain ⟨bs,rfl,hb⟩:=Z3 he
 obtain ⟨v1,rfl,e1⟩:=Z4 hb
 obtain rfl:=Z5 e1
 refine ⟨243,.item [QO sc (sz+1) ws #[] wn 0] (VU sc (sz+2) ws wn Value.none (Value.int 10 (tk+1)) ys) (fun l0=>.item [] (itMS w.params sz (sz+4) (sz+3) (sz+5) (sz+6) ys 0 z ns) (fun l1=>.item [] (itRW w.params { g:=X.g,n:=X.n,s:=X.s,t:=X.t,p:=X.p,w:=sz } (sz+5) (#[]++ivA ns fun i=>l1 (i+20)) (l1 2) (ORW w.params { g:=X.g,n:=X.n,s:=X.s,t:=X.t,p:=X.p,w:=sz } (sz+5) R)) (fun l2=>.item [] (UV w.params { g:=X.g,n:=X.n,s:=X.s,t:=X.t,p:=X.p,w:=sz } (VJ R (l1 0) l2) (l1 0+2) (l1 0+3) (YS R (l1 0) l2) (l2 2) (Qu R l2) (l2 3) n (page::prest)) (fun l3=>.item [Ze (l3 3) (svA (page::prest) fun i=>l3 (i+20)) (l3 4) 0 (Value.str page (l3 20)),Zu (l1 0+2) (YS R (l1 0) l2) (l2 2) m,YX (Int.ofNat m) 1 (Int.ofNat rounds)] ((lwPE w.params { g:=X.g,n:=X.n,s:=X.s,t:=X.t,p:=X.p,w:=sz } (fl [tk,tk+2,l2 1,l2 1+1,l3 1]) sc (sz+3) (l1 0+2) (l1 0+3) (l3 3) page rounds vs f r' tb ts).fr (VJ R (l1 0) l2)) (fun l4=>.item [] (Z1m w.params { g:=X.g,n:=X.n,s:=X.s,t:=X.t,p:=X.p,w:=sz } (Q4 tb ts vs l4 (VJ R (l1 0) l2)) (l1 0+2) (l1 0+3) (l3 3) (YS R (l1 0) l2) (l2 2) (Qu R l2) (l2 3) (svA (page::prest) fun i=>l3 (i+20)) (l3 4) fun sz=>ODU (sz+1) #[] (Q4 tb ts vs l4 (rwS (List.take kk (Q9 R (l1 0) l2)))) (dl (l1 0) l2) q0 q2 tl) (fun l5=>.item [] (Z2m w.params { g:=X.g,n:=X.n,s:=X.s,t:=X.t,p:=X.p,w:=sz } (l4 2) (l5 2) (lawE (l1 0) R l2 l4 l5 (l3 0) (l4 0) vs f r' tb ts (dl (l1 0) l2) q0 q2 tl) (JG R (l1 0) kk l2 l4 l5 vs tb ts (dl (l1 0) l2) tl)) (fun l6=>.fin []))))))),(dg 123 0x220313333003330d00101e0021333e0dea4400cc0bcbc10121131f1210121131f1210121131f121130f121111002330122012bf1211504503044420213131100100),[8,1],0,fun ls=>(fun l0 l1 l2 l3 l4 l5 l6=>fl [l6 0,l6 1,l3 5]) (ls 0) (ls 1) (ls 2) (ls 3) (ls 4) (ls 5) (ls 6),?_,fun ls=>?_⟩
 ·exact ⟨(AllV.all ⟨Q3 hne,trivial⟩),Vc .none (.int _ _) hsl hss,fun l0=>⟨(fun x hx=>(nomatch hx)),hcm _ _ _ _ _ _,fun l1=>⟨(fun x hx=>(nomatch hx)),hrw _ _ _ _,fun l2=>⟨(fun x hx=>(nomatch hx)),hpf _ _ _,fun l3=>⟨(AllV.all ⟨Z7 (.inl ⟨0,rfl,by decide,by simp[svA,svL]⟩),Zn (hm _ _) hml,Ym hrd,trivial⟩),(hpe _ _).fr _,fun l4=>⟨(fun x hx=>(nomatch hx)),hdu _ _ _ _ _ _ _,fun l5=>⟨(fun x hx=>(nomatch hx)),heq _ _ _ _ _ _ _,fun l6=>(fun x hx=>(nomatch hx))⟩⟩⟩⟩⟩⟩⟩
 ·cases b <;> kernel_rfl
noncomputable def WI (a:Int):Nat:=(a%17793024).toNat
theorem V3(a:Int):a.fmod 17793024=Int.ofNat (WI a):=by
 unfold WI
 rw[Int.fmod_eq_emod_of_nonneg a (by decide)]
 exact (Int.toNat_of_nonneg (Int.emod_nonneg a (by decide))).symm
theorem Z0H(xs:Array Value)(n:Nat)(ns:List Nat)(l:Nat→Nat)(t:Nat):xs++ivA (n::ns) (fun i=>shl l t (i+20))=xs.push (.int (Int.ofNat n) t)++ivA ns (fun i=>l (i+20)):=by
 have h:=Qp xs (mkS []) [] l t
 apply Array.ext'
 simp only[ivA,ivL,Array.toList_append,Array.toList_push,List.append_assoc]
 rfl
section
variable{b b2:Bool}{w:World}(hw:Wd b b2 w)(Lf it la acc L:Nat)(zs:List Int)(ws:Array Value)(wn:Nat)(hws:ws.size=zs.length)(hwi:∀(i:Nat)(a:Int),zs[i]?=some a→∃ t:Nat,ws[i]?=some (Value.int a t))(z:Int)
include b b2 w hw Lf it la acc L zs ws wn hws hwi z
theorem ml_all:∀(rem:List Int)(i:Nat),zs.drop i=rem→∀(xs:Array Value)(n F:Nat)(o:Option (Int × Nat)),(o=none→rem≠[])→(∀ x,o=some x→rem=[]→x.1=z)→(rem≠[]→rem.getLast?=some z)→xs.size+rem.length≤1000 →
  OK w (N7 w.params Lf it la acc L ws wn (OML w.params la acc L ws wn z xs (rem.map WI)) i xs n F o):=by
 intro rem
 induction rem with
 | nil =>
  intro i hd xs n F o h1 h2 h3 hs
  have hk:ws.size≤i:=by rw[hws];exact List.drop_eq_nil_iff.mp hd
  cases o with
  | none=>exact absurd rfl (h1 rfl)
  | some x =>
   obtain ⟨x,u⟩:=x
   obtain rfl:=h2 _ rfl rfl
   refine (Z26 hw Lf it la acc L ws wn i xs n F x u hk).conseq [] rfl (fun _ e=>e) (fun _ e=>e) (by rw[List.append_nil];exact .refl _) fun sz tk l=>?_
   refine ⟨flT [l 0,l 1,n,F,u,0,0,0,0,0,0,0,0,0,0,0,0,0,0,0] (fun _=>0),[],rfl,rfl,rfl,rfl,?_⟩
   rw[List.append_nil,List.append_nil]
   have e:xs++ivA [] (fun i=>flT [l 0,l 1,n,F,u,0,0,0,0,0,0,0,0,0,0,0,0,0,0,0] (fun _=>0) (i+20))=xs:=by simp[ivA,ivL]
   show List.Perm ([(la,Z0 ws wn),(acc,Z0 xs n),(L,VI w.params F (some (x,u)))]++[]) ([(la,Z0 ws wn),(acc,Z0 (xs++ivA [] (fun i=>flT [l 0,l 1,n,F,u,0,0,0,0,0,0,0,0,0,0,0,0,0,0,0] (fun _=>0) (i+20))) n),(L,VI w.params F (some (x,u)))]++[])
   rw[e]
 | cons s rem ih =>
  intro i hd xs n F o h1 h2 h3 hs
  rw[List.length_cons] at hs
  have hlt:i<zs.length:=by
   rcases Nat.lt_or_ge i zs.length with h | h
   ·exact h
   ·rw[List.drop_eq_nil_of_le h] at hd;cases hd
  have hd':zs.drop (i+1)=rem:=by rw[←List.drop_drop,hd];rfl
  obtain ⟨t,hx⟩:∃ t:Nat,ws[i]?=some (Value.int s t):=by
   refine hwi i s ?_
   rw[List.drop_eq_getElem_cons hlt] at hd
   injection hd with h _
   rw[List.getElem?_eq_getElem hlt,h]
  have hl:rem≠[]→rem.getLast?=some z:=fun hr=>by
   have:=h3 (by simp)
   rwa [List.getLast?_cons,List.getLast?_eq_some_getLast hr,Option.getD_some,←List.getLast?_eq_some_getLast hr] at this
  have hl2:rem=[]→s=z:=fun hr=>by
   have:=h3 (by simp)
   subst hr
   simpa using this
  have hxs:xs.size<sizeLine:=Nat.lt_of_le_of_lt (show xs.size≤1000 by omega) (by decide)
  have next:∀ F u v n,OK w (N7 w.params Lf it la acc L ws wn (OML w.params la acc L ws wn z xs ((s::rem).map WI)) (i+1) (xs.push (.int (Int.ofNat (WI s)) v)) n F (some (s,u))):=fun F u v n=>by
   have g:=ih (i+1) hd' (xs.push (.int (Int.ofNat (WI s)) v)) n F (some (s,u)) (fun h=>by cases h) (fun x hx hr=>by cases hx;exact hl2 hr) hl (by rw[Array.size_push];omega)
   rw[List.map_cons]
   refine g.conseq [] rfl (fun _ e=>e) (fun _ e=>e) (by rw[List.append_nil];exact .refl _) fun sz tk l'=>⟨shl l' v,[],rfl,ZS l' v 0 (by decide),ZS l' v 1 (by decide),rfl,?_⟩
   rw[List.append_nil,List.append_nil]
   show List.Perm (([(la,Z0 ws wn),(acc,Z0 (xs.push (.int (Int.ofNat (WI s)) v)++ivA _ (fun i=>l' (i+20))) (l' 2)),(L,VI w.params (l' 3) (some (z,l' 4)))]:Led)++[]) (([(la,Z0 ws wn),(acc,Z0 (xs++ivA (WI s::_) (fun i=>shl l' v (i+20))) (shl l' v 2)),(L,VI w.params (shl l' v 3) (some (z,shl l' v 4)))]:Led)++[])
   rw[Z0H,ZS l' v 2 (by decide),ZS l' v 3 (by decide),ZS l' v 4 (by decide)]
  cases o with
  | none=>exact Z0C hw Lf it la acc L ws wn _ i xs n F s _ t hx (V3 s) hxs next
  | some x=>exact Z0B hw Lf it la acc L ws wn _ i xs n F x.1 x.2 s _ t hx (V3 s) hxs next
theorem ms_ok(hz:zs.getLast?=some z)(hl:zs.length≤1000):OK w (itMS w.params Lf it la acc L ws wn z (zs.map WI)):=by
 have hne:zs≠[]:=fun h=>by rw[h] at hz;cases hz
 exact QD (it:=N7 w.params Lf it la acc L ws wn (OML w.params la acc L ws wn z #[] (zs.map WI)) 0 #[] 0 0 none)
  (ml_all hw Lf it la acc L zs ws wn hws hwi z zs 0 rfl #[] 0 0 none (fun _=>hne) (fun _ h=>by cases h) (fun _=>hz) (by simpa using hl))
  rfl rfl (by kernel_rfl) (List.Mem.head _) rfl (KV it)
end
noncomputable def lit8 (t0 t1 t2 t3 t4 t5 t6 t7:Nat):Array Value:=#[.int 8 t0,.int 9 t1,.int 0 t2,.int 8 t3,.int 5 t4,.int 7 t5,.int 5 t6,.int 8 t7]
theorem Z29{b b2:Bool}{w:World}(hw:Wd b b2 w)(X:Fr)(sc:Nat)(ws:Array Value)(wn n kk:Nat)(z:Int)(ns:List Nat)(R:RT3)(page:Str)(prest:List Str)(rounds m:Nat)(vs:List (List Str × Str))(f r':Str)(tb:Bool)(ts:List Str)(dl:Nat→(Nat→Nat)→List (Nat × Str))(q0 q2:Str)(tl:Option (List Str))
  (hne:ws=#[])(hm:∀ p l,(YS R p l).size=m)(hml:m<2 ^ 62)(hrd:Int.ofNat m+1=Int.ofNat rounds)
  (hcm:∀ Lf it la acc L yn t0 t1 t2 t3 t4 t5 t6 t7,OK w (itMS w.params Lf it la acc L (lit8 t0 t1 t2 t3 t4 t5 t6 t7) yn z ns))(hrw:∀ X na nn f,OK w (itRW w.params X na (#[]++ivA ns f) nn (ORW w.params X na R)))
  (hpf:∀ X p l,OK w (UV w.params X (VJ R p l) (p+2) (p+3) (YS R p l) (l 2) (Qu R l) (l 3) n (page::prest)))
  (hpe:∀ X D5,OK w (itPE w.params X D5 false page rounds (OPE X D5 vs f r' tb ts)))
  (hdu:∀ X p l pa pt pn l3,OK w (Z1m w.params X (Q4 tb ts vs l3 (VJ R p l)) (p+2) (p+3) pa (YS R p l) (l 2) (Qu R l) (l 3) (svA (page::prest) pt) pn (fun sz=>ODU (sz+1) #[] (Q4 tb ts vs l3 (rwS ((Q9 R p l).take kk))) (dl p l) q0 q2 tl)))
  (heq:∀ X p l1 l3 l4 s3 s4,OK w (Z2m w.params X (l3 2) (l4 2) (lawE p R l1 l3 l4 s3 s4 vs f r' tb ts (dl p l1) q0 q2 tl) (JG R p kk l1 l3 l4 vs tb ts (dl p l1) tl))):OK w (itLW w.params sc ws wn n):=by
 subst hne
 refine Z1 hw.w0 _ fun c B p sz tk g he=>?_
 obtain ⟨bs,rfl,hb⟩:=Z3 he
 obtain ⟨v1,rfl,e1⟩:=Z4 hb
 obtain rfl:=Z5 e1
 refine ⟨254,.item [] (itMS w.params sz (sz+3) (sz+2) (sz+4) (sz+5) (lit8 (tk+1) (tk+2) (tk+3) (tk+4) (tk+5) (tk+6) (tk+7) (tk+8)) 0 z ns) (fun l0=>.item [] (itRW w.params { g:=X.g,n:=X.n,s:=X.s,t:=X.t,p:=X.p,w:=sz } (sz+4) (#[]++ivA ns fun i=>l0 (i+20)) (l0 2) (ORW w.params { g:=X.g,n:=X.n,s:=X.s,t:=X.t,p:=X.p,w:=sz } (sz+5) R)) (fun l1=>.item [] (UV w.params { g:=X.g,n:=X.n,s:=X.s,t:=X.t,p:=X.p,w:=sz } (VJ R (l0 0) l1) (l0 0+2) (l0 0+3) (YS R (l0 0) l1) (l1 2) (Qu R l1) (l1 3) n (page::prest)) (fun l2=>.item [Ze (l2 3) (svA (page::prest) fun i=>l2 (i+20)) (l2 4) 0 (Value.str page (l2 20)),Zu (l0 0+2) (YS R (l0 0) l1) (l1 2) m,YX (Int.ofNat m) 1 (Int.ofNat rounds)] ((lwPE w.params { g:=X.g,n:=X.n,s:=X.s,t:=X.t,p:=X.p,w:=sz } (fl [tk,tk+9,l1 1,l1 1+1,l2 1]) sc (sz+2) (l0 0+2) (l0 0+3) (l2 3) page rounds vs f r' tb ts).fr (VJ R (l0 0) l1)) (fun l3=>.item [] (Z1m w.params { g:=X.g,n:=X.n,s:=X.s,t:=X.t,p:=X.p,w:=sz } (Q4 tb ts vs l3 (VJ R (l0 0) l1)) (l0 0+2) (l0 0+3) (l2 3) (YS R (l0 0) l1) (l1 2) (Qu R l1) (l1 3) (svA (page::prest) fun i=>l2 (i+20)) (l2 4) fun sz=>ODU (sz+1) #[] (Q4 tb ts vs l3 (rwS (List.take kk (Q9 R (l0 0) l1)))) (dl (l0 0) l1) q0 q2 tl) (fun l4=>.item [] (Z2m w.params { g:=X.g,n:=X.n,s:=X.s,t:=X.t,p:=X.p,w:=sz } (l3 2) (l4 2) (lawE (l0 0) R l1 l3 l4 (l2 0) (l3 0) vs f r' tb ts (dl (l0 0) l1) q0 q2 tl) (JG R (l0 0) kk l1 l3 l4 vs tb ts (dl (l0 0) l1) tl)) (fun l5=>.fin [])))))),(dg 124 0x220313333003330b00101c0021333c0bc94400aa09a9a10121131f1210121131f1210121131f121130f121111002330122012bf12113023131354f13136f323131100100),[9,1],0,fun ls=>(fun l0 l1 l2 l3 l4 l5=>fl [l5 0,l5 1,l2 5]) (ls 0) (ls 1) (ls 2) (ls 3) (ls 4) (ls 5),?_,fun ls=>?_⟩
 ·exact ⟨(fun x hx=>(nomatch hx)),hcm _ _ _ _ _ _ _ _ _ _ _ _ _ _,fun l0=>⟨(fun x hx=>(nomatch hx)),hrw _ _ _ _,fun l1=>⟨(fun x hx=>(nomatch hx)),hpf _ _ _,fun l2=>⟨(AllV.all ⟨Z7 (.inl ⟨0,rfl,by decide,by simp[svA,svL]⟩),Zn (hm _ _) hml,Ym hrd,trivial⟩),(hpe _ _).fr _,fun l3=>⟨(fun x hx=>(nomatch hx)),hdu _ _ _ _ _ _ _,fun l4=>⟨(fun x hx=>(nomatch hx)),heq _ _ _ _ _ _ _,fun l5=>(fun x hx=>(nomatch hx))⟩⟩⟩⟩⟩⟩
 ·cases b <;> kernel_rfl
end
section
open PySem PySem.Builtin PySem.SeqAt PySem.W
structure EqF (s:Shared)(A1 A2:Array Value)(f r' q0 q2:Str)(v v2:Value):Prop where
 sz:A1.size=A2.size
 el:∀(A:Around)(j:Nat)(h1:j<A1.size)(h2:j<A2.size),A.units≤500→EqAt A s A1[j] A2[j] true
 ef:f=q0
 er:r'=q2
 ev:∀ A:Around,A.units≤500→EqAt A s v v2 true
theorem eq_ok{w:World}{X:Fr}{a b rl rd:Nat}{A1 A2:Array Value}{n1 n2:Nat}{f r' q0 q2:Str}{t3 t4 t5 t6:Nat}{v v2:Value}{S:Led}
  (h:∀ s:Shared,(∀ q∈S,s.heap.get? q.1=some q.2)→EqF s A1 A2 f r' q0 q2 v v2):OK w (Z2m w.params X a b (eqE a b rl rd A1 n1 A2 n2 f r' t3 t4 v q0 q2 t5 t6 v2) S):=by
 rintro ⟨c,hd,ow,B,pa⟩ p s Rr hc hh hB hgi top nd own here k
 dsimp only at hc hh hB
 obtain ⟨bs,rfl,hb⟩:=Z3 hc
 obtain ⟨u,u2,rfl,e1,e2⟩:=Zj hb
 obtain rfl:=Z5 e1
 obtain rfl:=Z5 e2
 have hu:unitsOf B≤100:=by
  rw[←hB]
  show unitsOf [(.func _ _,_),(.builtin "claim.caller" _,_)]≤100
  rw[unitsOf_cons,unitsOf_cons]
  show 3*_+((1+3*_)+0)≤100
  simp only[Code.frames]
  split <;> omega
 have ha:=here (a,Y5 [.ref rl,.str f t3,.str r' t4,v] 0) (List.mem_append_left _ (.head _))
 have h1:=here (rl,Z0 A1 n1) (List.mem_append_left _ (.tail _ (.head _)))
 have hb':=here (b,Y5 [.ref rd,.str q0 t5,.str q2 t6,v2] 0) (List.mem_append_left _ (.tail _ (.tail _ (.head _))))
 have h2:=here (rd,Z0 A2 n2) (List.mem_append_left _ (.tail _ (.tail _ (.tail _ (.head _)))))
 obtain ⟨hsz,hel,rfl,rfl,hev⟩:=h s fun q hq=>here q (List.mem_append_right _ hq)
 have hne:rl≠rd:=fun e=>by
  rw[FItem.all,List.map_append,List.nodup_append] at nd
  have:=nd.1
  simp only[Z2m,eqE,List.map_cons,List.map_nil,List.nodup_cons,List.mem_cons,List.not_mem_nil,or_false,not_or] at this
  exact this.2.1.2 e
 have hR:Rr (.ok (.ret (.bool true))) s:=by
  have:=k (fun i=>match i with | 0=>s.heap.objs.size | _=>s.toks) s.heap ⟨fun _ _ h _=>h,fun q hq=>(by cases hq),List.nodup_nil,fun q hq=>(by cases hq),rfl,Nat.le_refl _⟩
  exact this
 have hT:s.TypeIs (.ref a) "tuple":=⟨_,ha,rfl⟩
 have hl:s.heap.IsList rl A1:=⟨_,h1,rfl,n1,rfl⟩
 have hl2:s.heap.IsList rd A2:=⟨_,h2,rfl,n2,rfl⟩
 have hcl:∀ n,n≤1000→n<cLine:=fun n hn=>Nat.lt_of_le_of_lt hn (by decide)
 have key:codeAny (MD w) ⟨hd,frameCount B,none,none,unitsOf B⟩ (.call (.builtin "tuple.__eq__") ⟨[.ref a,.ref b],[]⟩) Rr s:=by
  refine codeAny_call_builtin F.slot_tuple_eq.plain F.entry_tuple_eq (F.slot_tuple_eq.check _ _ _ _ _ _ _ _ hT (F.args_tuple_eq_2 _ _) (tuple_eqAt a b _ _ 0 0 none none #[] #[] (fun _=>true) _ w _ _ s ⟨ha,hb',fun j g1 g2=>?_,?_⟩))
  ·match j,g1,g2 with
   | 0,_,_ =>
    refine .of_refs hne ?_
    have:=RcAt.lists (e:=fun _=>true) (A:=(⟨hd,frameCount B,none,none,unitsOf B⟩:Around).in1) hl hl2 hsz (hcl _ (by simp only[Around.in1];omega)) fun j g1 g2=>hel _ j g1 g2 (by simp only[Around.in1];omega)
    rw[show (List.range A1.size).all (fun _=>true)=true by simp] at this
    exact this
   | 1,_,_ =>
    have:=EqAt.str_str (A:=(⟨hd,frameCount B,none,none,unitsOf B⟩:Around).in1) (s:=s) f t3 f t5
    rw[show (f==f)=true from beq_self_eq_true f] at this
    exact this
   | 2,_,_ =>
    have:=EqAt.str_str (A:=(⟨hd,frameCount B,none,none,unitsOf B⟩:Around).in1) (s:=s) r' t4 r' t6
    rw[show (r'==r')=true from beq_self_eq_true r'] at this
    exact this
   | 3,_,_=>exact hev _ (by simp only[Around.in1];omega)
   | n+4,g1,_=>exact absurd g1 (by simp)
  ·exact hR
 exact key _ p rfl ⟨rfl,Nat.le_refl _,(fun _ h=>nomatch h),(fun _ h=>nomatch h),Nat.le_refl _⟩
end
section
open PySem PySem.Builtin PySem.Builtin.Str PySem.W
theorem Uc:∀(rs:List YY)(l:Nat→Nat),(YW rs l).map RWd.ts=rs.map fun r=>r.map mkS
 | [],_=>rfl
 | r::rs,l=>by show _::(YW rs (tlN l)).map RWd.ts=_;rw[Uc rs];rfl
theorem KA:∀(gs:List Vs)(l:Nat→Nat),((Q5 gs l).map fun g=>(g.g,g.ts))=Yx gs
 | [],_=>rfl
 | g::gs,l=>by show _::((Q5 gs (tlN l)).map fun g=>(g.g,g.ts))=_;rw[KA gs];rfl
theorem Kt(R:RT3)(p:Nat)(l:Nat→Nat):(Q9 R p l).map RWd.ts=Qc (R.1::R.2.1):=by
 show _::(YW R.2.1 _).map RWd.ts=_
 rw[Uc];rfl
theorem Qt(R:RT3)(p:Nat)(l:Nat→Nat):(Q9 R p l).length=R.2.1.length+1:=by
 have:=congrArg List.length (Kt R p l)
 rw[List.length_map] at this
 rw[this];unfold Qc;rw[List.length_map];rfl
theorem Uo(R:RT3)(l:Nat→Nat):(Z1l R l).length=R.2.2.length:=by
 have:=congrArg List.length (KA R.2.2 (tlN fun i=>l (2*i+21)))
 rw[List.length_map] at this
 exact this.trans (by unfold Yx;rw[List.length_map])
theorem Ku(R:RT3)(p:Nat)(l:Nat→Nat):YS R p l=rwA (Q9 R p l):=by
 apply Array.ext'
 simp[YS,rwA,Q9]
theorem Up(R:RT3)(l:Nat→Nat):Qu R l=gpA (Z1l R l):=by
 apply Array.ext'
 simp[Qu,gpA,Z1l]
theorem N1(R:RT3)(p:Nat)(l:Nat→Nat):VJ R p l=rwS (Q9 R p l)++(gpS (Z1l R l)++[]):=by
 show _::(rwS _++gpS _++[])=_::(rwS _++(gpS _++[]))
 rw[List.append_assoc]
 rfl
theorem Z10(n:Nat)(ns:List Nat)(cur:YY):Y2 (n::ns) cur=if n%16<3 then (cur,(Y2 ns [[]]).1::(Y2 ns [[]]).2.1,Qj n::(Y2 ns [[]]).2.2) else if n%16<5 then Y2 ns (cur++[[]]) else Y2 ns (cur.dropLast++[cur.getLastD []++Yl n]):=rfl
noncomputable def wts (R:RT3):Nat:=((R.1::R.2.1).map wt).sum+5*R.2.2.length
structure BuildOK (R:RT3)(b:Nat):Prop where
 len:R.2.1.length=R.2.2.length
 gap:∀ g∈R.2.2,GapOK g
 ne:∀ x∈R.1::R.2.1,x≠[]
 wt:wts R≤b
theorem Z01(n:Nat):(Yl n).length≤1:=by
 unfold Yl
 split <;> first | exact Nat.le_refl _ | exact Nat.zero_le _ | (split <;> exact Nat.le_refl _)
theorem W9(a c:YY):wt (a++c)=wt a+wt c:=by unfold wt;rw[List.map_append,List.sum_append]
theorem J8:∀(ns:List Nat)(cur:YY),cur≠[]→BuildOK (Y2 ns cur) (wt cur+8*ns.length)
 | [],cur,h=>by
  refine ⟨rfl,fun g hg=>(by cases hg),fun x hx=>?_,?_⟩
  ·rcases List.mem_cons.mp hx with rfl | hx
   ·exact h
   ·cases hx
  ·show ([wt cur].sum+5*0)≤wt cur+8*0
   simp
 | n::ns,cur,h=>by
  rw[Z10]
  split
  ·rename_i h3
   obtain ⟨h1,h2,h4,h5⟩:=J8 ns [[]] (by simp)
   refine ⟨by show _+1=_+1;rw[h1],fun g hg=>?_,fun x hx=>?_,?_⟩
   ·rcases List.mem_cons.mp hg with rfl | hg
    ·exact gap_ok n h3
    ·exact h2 g hg
   ·rcases List.mem_cons.mp hx with rfl | hx
    ·exact h
    ·exact h4 x hx
   ·have e:wt [[]]=3:=rfl
    unfold wts at h5 ⊢
    simp only[List.map_cons,List.sum_cons,List.length_cons] at h5 ⊢
    omega
  ·split
   ·obtain ⟨h1,h2,h4,h5⟩:=J8 ns (cur++[[]]) (by simp)
    refine ⟨h1,h2,h4,Nat.le_trans h5 ?_⟩
    rw[W9]
    have e:wt [[]]=3:=rfl
    simp only[List.length_cons];omega
   ·obtain ⟨h1,h2,h4,h5⟩:=J8 ns (cur.dropLast++[cur.getLastD []++Yl n]) (by simp)
    refine ⟨h1,h2,h4,Nat.le_trans h5 ?_⟩
    have e1:cur=cur.dropLast++[cur.getLastD []]:=by
     rw[List.getLastD_eq_getLast?,List.getLast?_eq_some_getLast h]
     exact (List.dropLast_concat_getLast h).symm
    have e2:wt cur=wt cur.dropLast+wt [cur.getLastD []]:=by rw[←W9,←e1]
    rw[W9,e2]
    have:=Z01 n
    unfold wt
    simp only[List.map_cons,List.map_nil,List.sum_cons,List.sum_nil,List.length_append,List.length_cons]
    omega
theorem Z0o:∀(rs:List YY)(gs:List Vs),rs.length≤gs.length+1→(∀ g∈gs,GapOK g)→(pg rs gs).length≤(rs.map wt).sum+5*gs.length∧(pw rs gs).length≤(rs.map wt).sum+5*gs.length
 | [],gs,_,_=>⟨Nat.zero_le _,Nat.zero_le _⟩
 | [r],[],_,_=>by
  have h1:=(QU r).1
  have h2:=VW r
  show (Yv r).length≤[wt r].sum+5*0∧r.length≤[wt r].sum+5*0
  simp only[List.sum_cons,List.sum_nil]
  omega
 | r::r'::rs,[],hl,_=>by simp at hl
 | r::rs,g::gs,hl,hg=>by
  have ih:=Z0o rs gs (by simp only[List.length_cons] at hl;omega) fun x hx=>hg x (.tail _ hx)
  have h1:=(QU r).1
  have h2:=VW r
  have h3:=(hg g (.head _)).len
  have h4:=(hg g (.head _)).tl
  show (Yv r++g.1++pg rs gs).length≤_∧(r++g.2++pw rs gs).length≤_
  simp only[List.length_append,List.map_cons,List.sum_cons,List.length_cons]
  omega
theorem Vw{l:List Nat}{x:Nat}(h:x∈l):x≤l.sum:=by
 induction l with
 | nil=>cases h
 | cons a l ih =>
  rw[List.sum_cons]
  rcases List.mem_cons.mp h with rfl | h
  ·omega
  ·have:=ih h;omega
theorem Kb:∀(l:List Nat)(k:Nat),(l.drop k).sum≤l.sum
 | [],k=>by simp
 | a::l,0=>Nat.le_refl _
 | a::l,k+1=>by
  have:=Kb l k
  rw[List.drop_succ_cons,List.sum_cons];omega
end
section
open PySem PySem.Builtin PySem.Builtin.Str PySem.SeqAt PySem.W
theorem Z1e{ts:List Str}{f:Nat→Nat}{j:Nat}(h1:j<(svA ts f).size)(h2:j<ts.length):(svA ts f)[j]=.str ts[j] (f j):=by
 have:=Vv (f:=f) (List.getElem?_eq_getElem h2)
 rw[Array.getElem?_eq_getElem h1] at this
 exact Option.some.inj this
section
variable {A:Around}{s:Shared}
theorem Uv {a b n n2:Nat}{ts:List Str}{tf tf2:Nat→Nat}(ha:s.heap.get? a=some (Z0 (svA ts tf) n))(hb:s.heap.get? b=some (Z0 (svA ts tf2) n2))(hu:A.units≤600):EqAt A s (.ref a) (.ref b) true:=by
 by_cases h:a=b
 ·subst h;exact .same _
 ·refine .of_refs h ?_
  have:=RcAt.lists (A:=A) (e:=fun _=>true) (show s.heap.IsList a (svA ts tf) from ⟨_,ha,rfl,n,rfl⟩) (show s.heap.IsList b (svA ts tf2) from ⟨_,hb,rfl,n2,rfl⟩) (by rw[Z6,Z6]) (Nat.lt_of_le_of_lt hu (by decide)) fun j h1 h2=>by
   have hj:j<ts.length:=by rw[Z6] at h1;exact h1
   rw[Z1e h1 hj,Z1e h2 hj]
   have:=EqAt.str_str (A:=A.in1) (s:=s) ts[j] (tf j) ts[j] (tf2 j)
   rw[show (ts[j]==ts[j])=true from beq_self_eq_true _] at this
   exact this
  rw[show (List.range (svA ts tf).size).all (fun _=>true)=true by simp] at this
  exact this
theorem Z0R {a b la lb t1 t2:Nat}{r:Str}(ha:s.heap.get? a=some (Y5 [.ref la,.str r t1] 0))(hb:s.heap.get? b=some (Y5 [.ref lb,.str r t2] 0))(hu:A.units≤500)(hl:EqAt A.in1 s (.ref la) (.ref lb) true):EqAt A s (.ref a) (.ref b) true:=by
 by_cases h:a=b
 ·subst h;exact .same _
 ·refine .of_refs h ?_
  have:=RcAt.tuples (A:=A) (e:=fun _=>true) (show s.heap.IsTuple a #[.ref la,.str r t1] from ⟨_,ha,rfl,0,rfl⟩) (show s.heap.IsTuple b #[.ref lb,.str r t2] from ⟨_,hb,rfl,0,rfl⟩) (Nat.lt_of_le_of_lt hu (by decide)) fun j h1 h2=>by
   match j,h1,h2 with
   | 0,_,_=>exact hl
   | 1,_,_ =>
    have:=EqAt.str_str (A:=A.in1) (s:=s) r t1 r t2
    rw[show (r==r)=true from beq_self_eq_true _] at this
    exact this
   | n+2,h1,_=>exact absurd h1 (by simp)
  exact this
end
theorem Uf:∀(vs:List (List Str × Str))(l:Nat→Nat)(j:Nat),j<vs.length→∃ d,(JA vs l)[j]?=some d∧vs[j]?=some (d.ts,d.rest)
 | v::vs,l,0,_=>⟨_,rfl,rfl⟩
 | v::vs,l,j+1,h=>by
  obtain ⟨d,h1,h2⟩:=Uf vs (tlN l) j (by simpa using h)
  exact ⟨d,h1,h2⟩
theorem Vo:∀(ds:List (Nat × Str))(l:Nat→Nat)(j:Nat),j<ds.length→∃ d,(ZQ ds l)[j]?=some d∧ds[j]?=some (d.la,d.r)
 | v::vs,l,0,_=>⟨_,rfl,rfl⟩
 | v::vs,l,j+1,h=>by
  obtain ⟨d,h1,h2⟩:=Vo vs (tlN l) j (by simpa using h)
  exact ⟨d,h1,h2⟩
theorem Kg:∀(vs:List (List Str × Str))(l:Nat→Nat),(JA vs l).length=vs.length
 | [],_=>rfl
 | v::vs,l=>by show _+1=_+1;rw[Kg vs]
theorem Vn:∀(ds:List (Nat × Str))(l:Nat→Nat),(ZQ ds l).length=ds.length
 | [],_=>rfl
 | v::vs,l=>by show _+1=_+1;rw[Vn vs]
theorem heq_ok{w:World}(X:Fr)(R:RT3)(p:Nat)(l1 l3 l4:Nat→Nat)(s3 s4:Nat)(vs:List (List Str × Str))(f r':Str)(tb:Bool)(ts:List Str)
  (hv:vs.map (·.1)=((R.1::R.2.1).take vs.length).map (fun x=>x.map mkS))(hvl:vs.length≤R.2.1.length+1) :
  OK w (Z2m w.params X (l3 2) (l4 2) (lawE p R l1 l3 l4 s3 s4 vs f r' tb ts (dsZ (Q9 R p l1) (vs.map (·.2))) f r' (Z1a tb ts)) (JG R p vs.length l1 l3 l4 vs tb ts (dsZ (Q9 R p l1) (vs.map (·.2))) (Z1a tb ts))):=by
 have hds:(dsZ (Q9 R p l1) (vs.map (·.2))).length=vs.length:=by
  unfold dsZ
  rw[List.length_zipWith,Qt,List.length_map];omega
 refine eq_ok fun s hS=>?_
 have hS1:∀ q∈JE (JA vs (fun i=>l3 (2*i+21))),s.heap.get? q.1=some q.2:=fun q hq=>hS q (by
  unfold JG Q4
  exact List.mem_append_right _ (List.mem_append_left _ (List.mem_append_left _ (List.mem_append_right _ hq))))
 have hS2:∀ q∈drS (ZQ (dsZ (Q9 R p l1) (vs.map (·.2))) (fun i=>l4 (2*i+21))),s.heap.get? q.1=some q.2:=fun q hq=>hS q (by
  unfold JG
  exact List.mem_append_left _ (List.mem_append_right _ hq))
 have hS3:∀ q∈rwS ((Q9 R p l1).take vs.length),s.heap.get? q.1=some q.2:=fun q hq=>hS q (by
  unfold JG Q4
  exact List.mem_append_right _ (List.mem_append_right _ hq))
 refine ⟨?_,fun A j h1 h2 hu=>?_,rfl,rfl,fun A hu=>?_⟩
 ·simp[Qh,drA,Kg,Vn,hds]
 ·have hj:j<vs.length:=by simpa [Qh,Kg] using h1
  obtain ⟨d,hd1,hd2⟩:=Uf vs (fun i=>l3 (2*i+21)) j hj
  obtain ⟨d',hd3,hd4⟩:=Vo (dsZ (Q9 R p l1) (vs.map (·.2))) (fun i=>l4 (2*i+21)) j (by omega)
  have e1:(#[]++Qh (JA vs (fun i=>l3 (2*i+21))))[j]=.ref d.ta:=by
   have:(#[]++Qh (JA vs (fun i=>l3 (2*i+21))))[j]?=some (.ref d.ta):=by simp[Qh,hd1]
   rw[Array.getElem?_eq_getElem h1] at this
   exact Option.some.inj this
  have e2:(#[]++drA (ZQ (dsZ (Q9 R p l1) (vs.map (·.2))) (fun i=>l4 (2*i+21))))[j]=.ref d'.ta:=by
   have:(#[]++drA (ZQ (dsZ (Q9 R p l1) (vs.map (·.2))) (fun i=>l4 (2*i+21))))[j]?=some (.ref d'.ta):=by simp[drA,hd3]
   rw[Array.getElem?_eq_getElem h2] at this
   exact Option.some.inj this
  rw[e1,e2]
  have hjR:j<(Q9 R p l1).length:=by rw[Qt];omega
  have hR:(Q9 R p l1)[j]?=some (Q9 R p l1)[j]:=List.getElem?_eq_getElem hjR
  generalize (Q9 R p l1)[j]=dr at hR
  have hz:(dsZ (Q9 R p l1) (vs.map (·.2)))[j]?=some (dr.la,d.rest):=by
   unfold dsZ
   rw[List.getElem?_zipWith,hR,List.getElem?_map,hd2]
   rfl
  rw[hz] at hd4
  have hd4':=Option.some.inj hd4
  have ela:dr.la=d'.la:=congrArg (·.1) hd4'
  have er:d.rest=d'.r:=congrArg (·.2) hd4'
  have ets:dr.ts=d.ts:=by
   have h5:(vs.map (·.1))[j]?=some d.ts:=by rw[List.getElem?_map,hd2];rfl
   have h6:((Q9 R p l1).map RWd.ts)[j]?=some dr.ts:=by rw[List.getElem?_map,hR];rfl
   rw[hv,List.getElem?_map,List.getElem?_take_of_lt hj] at h5
   rw[Kt] at h6
   unfold Qc at h6
   rw[List.getElem?_map] at h6
   rw[h6] at h5
   exact Option.some.inj h5
  have m1:(d.ta,Y5 [.ref d.la,.str d.rest d.tok] 0)∈JE (JA vs (fun i=>l3 (2*i+21))):=List.mem_flatMap.mpr ⟨d,List.mem_of_getElem? hd1,.head _⟩
  have m2:(d.la,Z0 (svA d.ts d.tf) d.n)∈JE (JA vs (fun i=>l3 (2*i+21))):=List.mem_flatMap.mpr ⟨d,List.mem_of_getElem? hd1,.tail _ (.head _)⟩
  have m3:(d'.ta,Y5 [.ref d'.la,.str d'.r d'.tt] 0)∈drS (ZQ (dsZ (Q9 R p l1) (vs.map (·.2))) (fun i=>l4 (2*i+21))):=List.mem_map_of_mem (f:=DR.led) (List.mem_of_getElem? hd3)
  have m4:(dr.la,Z0 (svA dr.ts dr.tf) dr.n)∈rwS ((Q9 R p l1).take vs.length):=List.mem_map_of_mem (f:=RWd.led) (List.mem_of_getElem? (i:=j) (by rw[List.getElem?_take_of_lt hj];exact hR))
  have g1:=hS1 _ m1
  have g2:=hS1 _ m2
  have g3:=hS2 _ m3
  have g4:=hS3 _ m4
  rw[ets,ela] at g4
  rw[er] at g1
  exact Z0R g1 g3 hu (Uv g2 g4 (by simp only[Around.in1];omega))
 ·cases tb with
  | false =>
   have:=EqAt.str_str (A:=A) (s:=s) (Str.ofString "No closing quotation") (l3 5) (Str.ofString "No closing quotation") (l4 5)
   rw[show (Str.ofString "No closing quotation"==Str.ofString "No closing quotation")=true from beq_self_eq_true _] at this
   exact this
  | true =>
   have g1:=hS (l3 5,Z0 (svA ts (fun i=>l3 (2*i+20))) (l3 6)) (by
    unfold JG Q4
    exact List.mem_append_right _ (List.mem_append_left _ (List.mem_append_left _ (List.mem_append_left _ (.head _)))))
   have g2:=hS (l4 5,Z0 (svA ts (fun i=>l4 (2*i+20))) (l4 6)) (by
    unfold JG
    exact List.mem_append_left _ (List.mem_append_left _ (.head _)))
   exact Uv g1 g2 (by omega)
end
section
open PySem PySem.Builtin PySem.Builtin.Str PySem.W
theorem Jv{α:Type}{L:List α}{i:Nat}{a:α}(h:L[i]?=some a):L.drop i=a::L.drop (i+1):=by
 obtain ⟨hlt,e⟩:=List.getElem?_eq_some_iff.mp h
 rw[List.drop_eq_getElem_cons hlt,e]
section
variable {b b2:Bool}{w:World}(hw:Wd b b2 w)
include hw
theorem hrw_ok(ns:List Nat)(hne:ns≠[])(hl:ns.length≤100)(X:Fr)(na nn:Nat)(f:Nat→Nat):OK w (itRW w.params X na (#[]++ivA ns f) nn (ORW w.params X na (Y2 ns [[]]))):=by
 refine rw_ok hw X na _ nn (Y2 ns [[]]) fun p it ra ga la F g=>?_
 have e:(#[]++ivA ns f)=ivA ns f:=by simp
 rw[e]
 exact rl_all hw { X with p:=p } it na ra ga (ivA ns f) nn ns 0 (fun j n hj=>by
  obtain ⟨t,ht⟩:=N5 ns f j n hj
  exact ⟨t,by rw[Nat.zero_add];unfold ivA;rw[List.getElem?_toArray];exact ht⟩) (by unfold ivA;rw[List.size_toArray,N4];omega) la #[] #[] [] [[]] (by simp) (fun d hd=>by rw[List.mem_singleton.mp hd];simp;omega) (by simp;omega) (by simp;omega) (by simp;omega) F none 0 0 0 g (fun h=>absurd h hne)
theorem hpe_ok{vs:List (List Str × Str)}{f r':Str}{tb:Bool}{ts:List Str}{page:Str}{n:Nat}(hn:n≤1000)(hvl:vs.length≤1000)(h:Peel w n page vs f r' tb ts)(X:Fr)(D5:Dt):OK w (itPE w.params X D5 false page n (OPE X D5 vs f r' tb ts)):=by
 have hsz:=ZY (k:=0) (n:=n) (Nat.zero_le _)
 refine pe_ok hw X D5 page n vs f r' tb ts (ZM (k:=0) (Nat.zero_le _) (by omega)) (by rw[show (0:Int)=Int.ofNat 0 from rfl,hsz];simp) fun p it rl F=>?_
 exact pl_all hw { X with p:=p } D5 it rl page (Int.ofNat n) h false [] F none 0 (Int.ofNat n) #[] 0 rfl (by simp;exact Nat.lt_of_le_of_lt hvl (by decide))
theorem hpf_ok(R:RT3)(hR:BuildOK R 200)(hG:R.2.2.length≤100)(X:Fr)(p:Nat)(l:Nat→Nat)(ra ga xn yn:Nat) :
  OK w (UV w.params X (VJ R p l) ra ga (YS R p l) xn (Qu R l) yn R.2.2.length (Ys (R.1::R.2.1) R.2.2)):=by
 obtain ⟨hlen,hgap,hne,hwt⟩:=hR
 rw[Ku,Up,N1]
 have hRl:=Qt R p l
 have hGl:=Uo R l
 have hts:=Kt R p l
 have hgs:((Z1l R l).map fun g=>(g.g,g.ts))=Yx R.2.2:=KA R.2.2 _
 generalize Q9 R p l=Rd at hRl hts
 generalize Z1l R l=Gs at hGl hgs
 have hrows:(R.1::R.2.1).length=Gs.length+1:=by rw[List.length_cons,hlen,hGl]
 have wtb:∀ r∈R.1::R.2.1,wt r≤200:=fun r hr=>by
  have:=Vw (List.mem_map_of_mem (f:=wt) hr)
  unfold wts at hwt;exact nbC this hwt
 have row:∀ {i:Nat}{d:RWd},Rd[i]?=some d→∃ r,(R.1::R.2.1)[i]?=some r∧d.ts=r.map mkS:=fun {i d} hd=>by
  have h1:(Rd.map RWd.ts)[i]?=some d.ts:=by rw[List.getElem?_map,hd];rfl
  rw[hts] at h1
  unfold Qc at h1
  rw[List.getElem?_map] at h1
  cases hr:(R.1::R.2.1)[i]? with
  | none=>rw[hr] at h1;cases h1
  | some r=>rw[hr] at h1;exact ⟨r,rfl,(Option.some.inj h1).symm⟩
 have gap:∀ {i:Nat}{g:GP},Gs[i]?=some g→∃ q,R.2.2[i]?=some q∧g.g=mkS q.1:=fun {i g} hd=>by
  have h1:(Gs.map fun g=>(g.g,g.ts))[i]?=some (g.g,g.ts):=by rw[List.getElem?_map,hd];rfl
  rw[hgs] at h1
  unfold Yx at h1
  rw[List.getElem?_map] at h1
  cases hr:R.2.2[i]? with
  | none=>rw[hr] at h1;cases h1
  | some r=>rw[hr] at h1;exact ⟨r,rfl,congrArg (·.1) (Option.some.inj h1).symm⟩
 have jf:∀(Y:Fr)(m:Bool){i:Nat}{d:RWd}(o:Option Nat),Rd[i]?=some d→OK w (VO w.params Y m d.la (svA d.ts d.tf) d.n o (mkS (Yv ((R.1::R.2.1).getD i [])))):=fun Y m {i d} o hd=>by
  obtain ⟨r,hr,e⟩:=row hd
  have hm:=List.mem_of_getElem? hr
  rw[e,List.getD_eq_getElem?_getD,hr]
  exact jf_all hw Y m d.la r (hne r hm) (Nat.le_trans (wtb r hm) (by decide)) d.tf d.n o
 have plen:∀ i,(pg ((R.1::R.2.1).drop i) (R.2.2.drop i)).length≤200:=fun i=>by
  have h1:=(Z0o ((R.1::R.2.1).drop i) (R.2.2.drop i) (by rw[List.length_drop,List.length_drop,List.length_cons,hlen];exact nbB) (fun g hg=>hgap g (List.mem_of_mem_drop hg))).1
  have h2:=Kb ((R.1::R.2.1).map wt) i
  rw[List.map_drop] at h1
  rw[List.length_drop] at h1
  unfold wts at hwt;exact nbA h1 h2 hwt
 have nG:Gs.length≤100:=by omega
 have hlt:Gs.length<Rd.length:=by rw[hRl,hlen,hGl];exact Nat.lt_succ_self _
 have hd:Rd[Gs.length]?=some Rd[Gs.length]:=List.getElem?_eq_getElem hlt
 generalize Rd[Gs.length]=d at hd
 obtain ⟨rl,hrl,erl⟩:=row hd
 have hS:(rwS Rd++(gpS Gs++[])).Perm ((d.la,Z0 (svA d.ts d.tf) d.n)::(rwS (Rd.eraseIdx Gs.length)++(gpS Gs++[]))):=(Ue hd).append_right _
 generalize hS'':rwS (Rd.eraseIdx Gs.length)++(gpS Gs++[])=S' at hS
 have pgs:Ys (R.1::R.2.1) R.2.2=(List.range' 0 (Gs.length+1)).map fun i=>mkS (pg ((R.1::R.2.1).drop i) (R.2.2.drop i)):=by unfold Ys;rw[hGl]
 have zl:pg ((R.1::R.2.1).drop Gs.length) (R.2.2.drop Gs.length)=Yv rl:=by
  have e1:(R.1::R.2.1).drop Gs.length=[rl]:=by
   rw[Jv hrl,List.drop_eq_nil_of_le (by omega)]
  have e2:R.2.2.drop Gs.length=[]:=List.drop_eq_nil_of_le (by omega)
  rw[e1,e2];rfl
 have zd:mkS (Yv ((R.1::R.2.1).getD Gs.length []))=mkS (Yv rl):=by rw[List.getD_eq_getElem?_getD,hrl];rfl
 have hpg:∀(eb:Bool),eb=decide (0<Gs.length)→∀ q it pa pt co F,OK w (J4 w.params { X with p:=q } [(d.la,Z0 (svA d.ts d.tf) d.n)] S' it ra ga (rwA Rd) xn (gpA Gs) yn (OPg w.params { X with p:=q } [(d.la,Z0 (svA d.ts d.tf) d.n)] S' ra ga (rwA Rd) xn (gpA Gs) yn eb (Ys (R.1::R.2.1) R.2.2)) Gs.length (Int.ofNat Gs.length-1) (Int.ofNat Gs.length) pa (svA [mkS (Yv rl)] pt) 0 co F none):=fun eb heb q it pa pt co F=>by
  have g:=pg_all hw { X with p:=q } [] it ra ga xn yn Rd Gs (fun i=>mkS (Yv ((R.1::R.2.1).getD i []))) (fun i=>mkS (pg ((R.1::R.2.1).drop i) (R.2.2.drop i))) eb (by omega) (by omega) heb (fun i d hd co=>jf _ true (some co) hd) (fun i g hg=>by
    obtain ⟨y,hy,ey⟩:=gap hg
    have hi:i<(R.1::R.2.1).length:=by have:=(List.getElem?_eq_some_iff.mp hy).1;simp only[List.length_cons];omega
    have hr:(R.1::R.2.1)[i]?=some (R.1::R.2.1)[i]:=List.getElem?_eq_getElem hi
    generalize (R.1::R.2.1)[i]=x at hr
    rw[Jv hr,Jv hy,ey,List.getD_eq_getElem?_getD,hr]
    show mkS (Yv x++y.1++pg _ _)=mkS (Yv x)++mkS y.1++mkS _
    rw[ZU,ZU]) (fun i g hg=>by
    obtain ⟨y,hy,ey⟩:=gap hg
    have hi:i<(R.1::R.2.1).length:=by have:=(List.getElem?_eq_some_iff.mp hy).1;simp only[List.length_cons];omega
    have hr:(R.1::R.2.1)[i]?=some (R.1::R.2.1)[i]:=List.getElem?_eq_getElem hi
    generalize (R.1::R.2.1)[i]=x at hr
    have h1:=(QU x).1
    have h2:=wtb x (List.mem_of_getElem? hr)
    have h3:=(hgap y (List.mem_of_getElem? hy)).len
    rw[ey,List.getD_eq_getElem?_getD,hr]
    show (mkS (Yv x)++mkS y.1).length≤sizeLine∧(mkS _).length≤sizeLine
    rw[ZU,Zf,Zf,List.length_append]
    have h4:=plen i
    exact ⟨szl (by omega),szl (by omega)⟩) Gs.length (Nat.le_refl _) pa pt 0 co F none (.inl ⟨rfl,rfl⟩)
  rw[show Gs.length+1-Gs.length=1 by omega] at g
  have e1:(List.range' Gs.length 1).map (fun i=>mkS (pg ((R.1::R.2.1).drop i) (R.2.2.drop i)))=[mkS (Yv rl)]:=by
   show [mkS (pg ((R.1::R.2.1).drop Gs.length) (R.2.2.drop Gs.length))]=_
   rw[zl]
  rw[e1,←pgs] at g
  refine g.conseq [] rfl (fun _ e=>e) (fun _ e=>e) ?_ fun sz tk l=>⟨l,[],rfl,rfl,rfl,rfl,?_⟩
  ·refine .trans ?_ (.of_eq (List.append_nil _).symm)
   show List.Perm ((_++[_])++S') ((_++[])++(rwS Rd++(gpS Gs++[])))
   refine (List.Perm.of_eq (List.append_assoc _ _ _)).trans (.trans (.append_left _ hS.symm) (.append_right _ (.of_eq (List.append_nil _).symm)))
  ·refine (List.Perm.of_eq (List.append_nil _)).trans (.trans ?_ (.of_eq (List.append_nil _).symm))
   show List.Perm ((_++[])++(rwS Rd++(gpS Gs++[]))) ((_++[_])++S')
   exact (List.Perm.append_right _ (.of_eq (List.append_nil _))).trans (.trans (.append_left _ hS) (.of_eq (List.append_assoc _ [_] _).symm))
 have hra:Y6 (rwA Rd) (Int.negSucc 0) (.ref d.la):=by
  have hsz:(rwA Rd).size=Gs.length+1:=by simp[rwA];omega
  refine .inr ⟨0,rfl,by decide,by omega,?_⟩
  rw[hsz]
  exact Kf hd
 have key:∀ n,n≤100→Builtin.Range.small (Int.ofNat n-1) (-1) (-1)=true∧Builtin.Range.rangeSize (Int.ofNat n-1) (-1) (-1)=Int.ofNat n:=by decide +kernel
 have hsz:(gpA Gs).size=Gs.length:=by simp[gpA]
 have h62:Gs.length<2 ^ 62:=Nat.lt_of_le_of_lt nG (by decide)
 have fin:OK w (itPF w.params X S' ra ga (rwA Rd) xn (gpA Gs) yn d.la (svA d.ts d.tf) d.n Gs.length (Ys (R.1::R.2.1) R.2.2)):=by
  cases hdc:decide (0<Gs.length) with
  | false=>exact pf_0 hw X S' ra ga _ xn _ yn d.la _ d.n Gs.length (mkS (Yv rl)) _ hra hsz h62 (key _ nG).1 (key _ nG).2 (fun q=>by rw[←zd];exact jf _ false none hd) (hpg false hdc.symm)
  | true=>exact pf_1 hw X S' ra ga _ xn _ yn d.la _ d.n Gs.length (mkS (Yv rl)) _ hra hsz h62 (key _ nG).1 (key _ nG).2 (fun q=>by rw[←zd];exact jf _ false none hd) (hpg true hdc.symm)
 rw[hGl] at fin
 refine fin.conseq [] rfl (fun _ e=>e) (fun _ e=>e) ?_ fun sz tk l=>⟨l,[],rfl,rfl,rfl,rfl,?_⟩
 ·refine .trans ?_ (.of_eq (List.append_nil _).symm)
  show List.Perm ([_,_,_]++(rwS Rd++(gpS Gs++[]))) ([_,_,_,_]++S')
  exact (hS.append_left _).trans (by exact .refl _)
 ·refine (List.Perm.of_eq (List.append_nil _)).trans (.trans ?_ (.of_eq (List.append_nil _).symm))
  show List.Perm ([_,_,_,_,_]++S') ([_,_,_,_]++(rwS Rd++(gpS Gs++[])))
  exact (hS.append_left [_,_,_,_]).symm
end
section
variable {b b2:Bool}{w:World}(hw:Wd b b2 w)
include hw
theorem hdu_ok(R:RT3)(hR:BuildOK R 200)(hG:R.2.2.length≤100){e:Bool}{vs:List (List Str × Str)}{q0 q2:Str}{tl:Option (List Str)}(h:DueR w (Qc (R.1::R.2.1)) (Yx R.2.2) (Ys (R.1::R.2.1) R.2.2) e 0 (vs.map (·.2)) q0 q2 tl)
  (X:Fr)(p:Nat)(l:Nat→Nat)(ra ga pa xn yn:Nat)(pt:Nat→Nat)(pn:Nat)(tb:Bool)(ts:List Str)(l3:Nat→Nat) :
  OK w (Z1m w.params X (Q4 tb ts vs l3 (VJ R p l)) ra ga pa (YS R p l) xn (Qu R l) yn (svA (Ys (R.1::R.2.1) R.2.2) pt) pn (fun sz=>ODU (sz+1) #[] (Q4 tb ts vs l3 (rwS ((Q9 R p l).take vs.length))) (dsZ (Q9 R p l) (vs.map (·.2))) q0 q2 tl)):=by
 obtain ⟨hlen,hgap,hne,hwt⟩:=hR
 rw[Ku,Up,N1]
 have hRl:=Qt R p l
 have hGl:=Uo R l
 have hts:=Kt R p l
 have hgs:((Z1l R l).map fun g=>(g.g,g.ts))=Yx R.2.2:=KA R.2.2 _
 generalize Q9 R p l=Rd at hRl hts
 generalize Z1l R l=Gs at hGl hgs
 generalize hS0:((told tb ts l3).2++JE (JA vs (fun i=>l3 (2*i+21))))++[]=S0
 have hl1:∀ S,Q4 tb ts vs l3 S=S0++S:=fun S=>by rw[←hS0];rfl
 rw[hl1,hl1]
 have hRG:Rd.length=Gs.length+1:=by omega
 have nG:Gs.length≤900:=by omega
 have row:∀ {i:Nat}{d:RWd},Rd[i]?=some d→∃ r,(R.1::R.2.1)[i]?=some r∧d.ts=r.map mkS:=fun {i d} hd=>by
  have h1:(Rd.map RWd.ts)[i]?=some d.ts:=by rw[List.getElem?_map,hd];rfl
  rw[hts] at h1
  unfold Qc at h1
  rw[List.getElem?_map] at h1
  cases hr:(R.1::R.2.1)[i]? with
  | none=>rw[hr] at h1;cases h1
  | some r=>rw[hr] at h1;exact ⟨r,rfl,(Option.some.inj h1).symm⟩
 have wtb:∀ r∈R.1::R.2.1,wt r≤200:=fun r hr=>by
  have:=Vw (List.mem_map_of_mem (f:=wt) hr)
  unfold wts at hwt;exact nbC this hwt
 have hRt:∀ d∈Rd,d.ts≠[]∧d.ts.length≤1000:=fun d hd=>by
  obtain ⟨i,hi⟩:=List.getElem?_of_mem hd
  obtain ⟨r,hr,er⟩:=row hi
  have hm:=List.mem_of_getElem? hr
  have h1:=hne r hm
  have h2:=VW r
  have h3:=wtb r hm
  rw[er]
  refine ⟨fun h0=>h1 (List.map_eq_nil_iff.mp h0),?_⟩
  rw[List.length_map];omega
 have hgt:∀ k,(Gs.drop k).map GP.ts=(R.2.2.drop k).map fun g=>g.2.map mkS:=fun k=>by
  have h1:=congrArg (fun L=>(L.drop k).map Prod.snd) hgs
  unfold Yx at h1
  simp only[←List.map_drop,List.map_map] at h1
  exact h1
 have hW:∀ k d,Rd[k]?=some d→(d.ts++YG ((Rd.drop (k+1)).map RWd.ts) ((Gs.drop k).map GP.ts)).length≤1000:=fun k d hd=>by
  obtain ⟨r,hr,er⟩:=row hd
  have hk:k<(R.1::R.2.1).length:=(List.getElem?_eq_some_iff.mp hr).1
  have e1:(Rd.drop (k+1)).map RWd.ts=((R.1::R.2.1).drop (k+1)).map fun x=>x.map mkS:=by
   rw[List.map_drop,hts];unfold Qc;rw[←List.map_drop]
  rw[e1,hgt,er,Z1s _ _ r (by simp only[List.length_drop,List.length_cons];rw[hlen];exact nb5),List.length_map]
  have h1:=(Z0o (r::(R.1::R.2.1).drop (k+1)) (R.2.2.drop k) (by simp only[List.length_drop,List.length_cons];rw[hlen,nb5];exact Nat.le_refl _) (fun g hg=>hgap g (List.mem_of_mem_drop hg))).2
  rw[←Jv hr,List.map_drop,List.length_drop] at h1
  have h2:=Kb ((R.1::R.2.1).map wt) k
  rw[←Jv hr]
  unfold wts at hwt;exact Nat.le_trans (nbA h1 h2 hwt) (by decide)
 rw[←hts,←hgs] at h
 have hsz:(rwA Rd).size=Rd.length:=by simp[rwA]
 have h62:Rd.length<2 ^ 62:=Nat.lt_of_le_of_lt (show Rd.length≤1000 by omega) (by decide)
 have hrs:=ZM (k:=0) (n:=Rd.length) (Nat.zero_le _) (by omega)
 have hrr:Builtin.Range.rangeSize 0 (Int.ofNat Rd.length) 1=Int.ofNat Rd.length:=by rw[show (0:Int)=Int.ofNat 0 from rfl,ZY (Nat.zero_le _)];simp
 have hSp:(rwS Rd++(gpS Gs++S0)).Perm (S0++(rwS Rd++(gpS Gs++[]))):=by
  rw[←List.append_assoc]
  refine List.perm_append_comm.trans (.append_left _ ?_)
  exact .append_left _ (.of_eq (List.append_nil _).symm)
 have all:∀ q it F,OK w (Na w.params { X with p:=q } (S0++(rwS Rd++(gpS Gs++[]))) it ra ga pa (q+1) (rwA Rd) xn (gpA Gs) yn (svA (Ys (R.1::R.2.1) R.2.2) pt) pn Rd.length F (ODE e w.params { X with p:=q } ra ga pa (q+1) #[] (S0++rwS (Rd.take vs.length)) (dsZ Rd (vs.map (·.2))) q0 q2 tl (Int.ofNat Rd.length-1))):=fun q it F=>by
  have g:=dl_all hw { X with p:=q } it ra ga pa (q+1) xn yn Rd Gs (Ys (R.1::R.2.1) R.2.2) pt pn hRG nG hRt hW h S0 #[] 0 F none (Nat.zero_le _) (fun _=>rfl) (fun _ h=>by cases h) rfl
  rw[Nat.zero_add,List.length_map] at g
  exact YT hw { X with p:=q } it ra ga pa (q+1) xn yn pn (E2:=[]) (S2:=S0++(rwS Rd++(gpS Gs++[]))) (by exact hSp) (Uk _ ra ga pa (q+1) e (rest:=[]) (by rw[List.append_nil];exact List.perm_append_comm)) g
 cases e with
 | false=>exact du_ret hw X _ _ ra ga pa _ xn _ yn _ pn Rd.length _ q0 q2 tl hsz h62 hrs hrr all
 | true =>
  obtain ⟨rfl,rfl,rfl⟩:=Z0S h rfl
  refine (Z2D hw X _ _ ra ga pa _ xn _ yn _ pn Rd.length _ _ hsz h62 hrs hrr all).conseq [] rfl (fun _ e=>e) (fun _ e=>e) (.of_eq (List.append_nil _).symm) fun sz tk l=>?_
  refine ⟨fun j=>if j=6 then 0 else l j,[],rfl,rfl,rfl,rfl,?_⟩
  refine (List.Perm.of_eq (List.append_nil _)).trans (.trans ?_ (.of_eq (List.append_nil _).symm))
  have e1:(fun i=>(fun j=>if j=6 then 0 else l j) (2*i+21))=fun i=>l (2*i+21):=by
   funext i
   exact if_neg (by omega)
  show List.Perm ([_,(l 5,Z0 #[] 0),(sz+1,Z0 (dAp #[] _ (fun i=>l (i+20))) (l 7))]++dSp _ (S0++rwS (Rd.take vs.length)) (fun i=>l (i+20)))
   ([_,(sz+1,Z0 (#[]++drA (ZQ _ (fun i=>(fun j=>if j=6 then 0 else l j) (2*i+21)))) (l 7))]++([(l 5,Z0 (svA [] _) 0)]++drS (ZQ _ (fun i=>(fun j=>if j=6 then 0 else l j) (2*i+21)))++(S0++rwS (Rd.take vs.length))))
  rw[e1]
  refine .cons _ ?_
  exact .swap ..
noncomputable def drawn (zs:List Int):List Int:=match zs with
 | []=>[8,9,0,8,5,7,5,8]
 | zs=>zs.take 10
theorem law_ok(sc:Nat)(ws:Array Value)(wn:Nat)(zs:List Int)(hws:ws.size=zs.length)(hwi:∀(i:Nat)(a:Int),zs[i]?=some a→∃ t:Nat,ws[i]?=some (Value.int a t))(hl:zs.length≤1000):∃ n,OK w (itLW w.params sc ws wn n):=by
 have hne:drawn zs≠[]:=by
  cases zs with
  | nil=>simp[drawn]
  | cons a zs=>simp[drawn]
 have hdl:(drawn zs).length≤10:=by
  cases zs with
  | nil=>simp[drawn]
  | cons a zs=>unfold drawn;simp;omega
 generalize hns:(drawn zs).map WI=ns
 have nsne:ns≠[]:=by rw[←hns];simp[hne]
 have nsl:ns.length≤10:=by rw[←hns,List.length_map];exact hdl
 have hB:BuildOK (Y2 ns [[]]) (wt [[]]+8*ns.length):=J8 ns [[]] (by simp)
 have hB2:BuildOK (Y2 ns [[]]) 200:=⟨hB.len,hB.gap,hB.ne,Nat.le_trans hB.wt (by show 3+8*ns.length≤200;omega)⟩
 have hrw:=hrw_ok hw ns nsne (by omega)
 generalize Y2 ns [[]]=R at hB hB2 hrw
 have hG:R.2.2.length≤100:=by
  have:=hB2.wt
  unfold wts at this;omega
 have hlen:(R.1::R.2.1).length=R.2.2.length+1:=by rw[List.length_cons,hB2.len]
 have hwr:∀ x∈R.1::R.2.1,x≠[]∧∀ s∈x,s.length≤900:=fun x hx=>⟨hB2.ne x hx,fun s hs=>by
  have h1:=Z14 hs
  have h2:=Vw (List.mem_map_of_mem (f:=wt) hx)
  have h3:=hB2.wt
  unfold wts at h3;omega⟩
 have hpl:=(Z0o (R.1::R.2.1) R.2.2 (by omega) hB2.gap).1
 have hw3:=hB2.wt
 unfold wts at hw3
 obtain ⟨vs,f,r',tb,ts,e,h1,h2,h3,h4⟩:=Z0t hw (R.1::R.2.1) R.2.2 hlen R.2.1 R.2.2 R.1 0 [] hB2.len rfl rfl (by simp) hwr hB2.gap (by omega)
 have hpages:∃ prest,Ys (R.1::R.2.1) R.2.2=mkS (pg (R.1::R.2.1) R.2.2)::prest:=by
  unfold Ys
  rw[List.range'_succ]
  exact ⟨_,rfl⟩
 obtain ⟨prest,hpages⟩:=hpages
 have hm:∀ p l,(YS R p l).size=R.2.1.length+1:=fun p l=>by
  rw[Ku]
  simp[rwA,Qt]
 have hml:R.2.1.length+1<2 ^ 62:=Nat.lt_of_le_of_lt (show R.2.1.length+1≤1000 by have:=hB2.len;omega) (by decide)
 have hpf:∀ X p l,OK w (UV w.params X (VJ R p l) (p+2) (p+3) (YS R p l) (l 2) (Qu R l) (l 3) R.2.2.length (mkS (pg (R.1::R.2.1) R.2.2)::prest)):=fun X p l=>by
  rw[←hpages]
  exact hpf_ok hw R hB2 hG X p l _ _ _ _
 have hpe:∀ X D5,OK w (itPE w.params X D5 false (mkS (pg (R.1::R.2.1) R.2.2)) (R.2.1.length+2) (OPE X D5 vs f r' tb ts)):=fun X D5=>hpe_ok hw (by have:=hB2.len;omega) (by have:=hB2.len;omega) h1 X D5
 have hdu:∀ X p l pa pt pn l3,OK w (Z1m w.params X (Q4 tb ts vs l3 (VJ R p l)) (p+2) (p+3) pa (YS R p l) (l 2) (Qu R l) (l 3) (svA (mkS (pg (R.1::R.2.1) R.2.2)::prest) pt) pn (fun sz=>ODU (sz+1) #[] (Q4 tb ts vs l3 (rwS ((Q9 R p l).take vs.length))) (dsZ (Q9 R p l) (vs.map (·.2))) f r' (Z1a tb ts))):=fun X p l pa pt pn l3=>by
  rw[←hpages]
  exact hdu_ok hw R hB2 hG h2 X p l _ _ pa _ _ pt pn tb ts l3
 have heq:=fun X p l1 l3 l4 s3 s4=>heq_ok (w:=w) X R p l1 l3 l4 s3 s4 vs f r' tb ts h3 h4
 obtain ⟨z,hz⟩:∃ z,(drawn zs).getLast?=some z:=⟨_,List.getLast?_eq_some_getLast hne⟩
 have hrd:Int.ofNat (R.2.1.length+1)+1=Int.ofNat (R.2.1.length+2):=by simp only[Int.ofNat_eq_natCast];omega
 refine ⟨R.2.2.length,?_⟩
 cases zs with
 | nil =>
  have e0:ws=#[]:=Array.eq_empty_of_size_eq_zero hws
  refine Z29 hw ⟨0,0,0,0,0,0⟩ sc ws wn R.2.2.length vs.length z ns R (mkS (pg (R.1::R.2.1) R.2.2)) prest (R.2.1.length+2) (R.2.1.length+1) vs f r' tb ts (fun p l=>dsZ (Q9 R p l) (vs.map (·.2))) f r' (Z1a tb ts) e0 ?_ ?_ ?_ ?_ ?_ ?_ ?_ ?_ ?_
  case refine_1=>exact hm
  case refine_2=>exact hml
  case refine_3=>exact hrd
  case refine_5=>exact hrw
  case refine_6=>exact hpf
  case refine_7=>exact hpe
  case refine_8=>exact hdu
  case refine_9=>exact heq
  intro Lf it la acc L yn t0 t1 t2 t3 t4 t5 t6 t7
  have:=ms_ok hw Lf it la acc L (drawn []) (lit8 t0 t1 t2 t3 t4 t5 t6 t7) yn rfl (fun i a h=>by
   match i,h with
   | 0,h=>cases h;exact ⟨_,rfl⟩
   | 1,h=>cases h;exact ⟨_,rfl⟩
   | 2,h=>cases h;exact ⟨_,rfl⟩
   | 3,h=>cases h;exact ⟨_,rfl⟩
   | 4,h=>cases h;exact ⟨_,rfl⟩
   | 5,h=>cases h;exact ⟨_,rfl⟩
   | 6,h=>cases h;exact ⟨_,rfl⟩
   | 7,h=>cases h;exact ⟨_,rfl⟩
   | i+8,h=>simp[drawn] at h) z hz (by omega)
  rw[hns] at this
  exact this
 | cons a zs =>
  have hsl:slicePick ws none (some 10) none=(ws.toList.take 10).toArray:=slicePick_upto' ws 10
  have hne0:(ws.size != 0)=true:=by rw[hws];rfl
  have hsl0:ws.size≤sizeLine:=by rw[hws];exact szl (by omega)
  refine Z28 hw ⟨0,0,0,0,0,0⟩ sc ws wn R.2.2.length vs.length (ws.toList.take 10).toArray z ns R (mkS (pg (R.1::R.2.1) R.2.2)) prest (R.2.1.length+2) (R.2.1.length+1) vs f r' tb ts (fun p l=>dsZ (Q9 R p l) (vs.map (·.2))) f r' (Z1a tb ts) ?_ ?_ ?_ ?_ ?_ ?_ ?_ ?_ ?_ ?_ ?_ ?_
  case refine_1=>exact hne0
  case refine_2=>exact hsl
  case refine_3=>exact hsl0
  case refine_4=>exact hm
  case refine_5=>exact hml
  case refine_6=>exact hrd
  case refine_8=>exact hrw
  case refine_9=>exact hpf
  case refine_10=>exact hpe
  case refine_11=>exact hdu
  case refine_12=>exact heq
  intro Lf it la acc L yn
  have:=ms_ok hw Lf it la acc L (drawn (a::zs)) (ws.toList.take 10).toArray yn (by unfold drawn;rw[List.size_toArray,List.length_take,List.length_take,Array.length_toList,hws]) (fun i x h=>by
   have h':((a::zs).take 10)[i]?=some x:=h
   have hi:i<10:=by
    rcases Nat.lt_or_ge i 10 with h1 | h1
    ·exact h1
    ·rw[List.getElem?_take_eq_none h1] at h';cases h'
   rw[List.getElem?_take_of_lt hi] at h'
   obtain ⟨t,ht⟩:=hwi i x h'
   refine ⟨t,?_⟩
   rw[List.getElem?_toArray,List.getElem?_take_of_lt hi,Array.getElem?_toList]
   exact ht) z hz (by omega)
  rw[hns] at this
  exact this
end
end
section
open PyProof.Rows PySem PySem.Calls PySem.W
noncomputable abbrev KJ:OpenRow:=Challenge.rw_mj0259_01.row
noncomputable abbrev Z2b:ClaimW:=KJ.toRowW.claim
theorem Z1k:∀ {l:List (Nat × Obj)}{a:Nat}{o:Obj},lk l a=some o→(a,o)∈l
 | [],a,o,h=>by rw[lk_eq] at h;cases h
 | x::r,a,o,h=>by
  rw[lk_eq] at h
  dsimp only at h
  split at h
  ·rename_i e
   cases h
   exact e▸.head _
  ·exact .tail _ (Z1k h)
theorem W8{f:Nat→Option Obj}{e:Option Obj}:∀(l:List (Nat × Obj))(ks:List Nat)(k:Nat),l.map (·.1)=ks→(ks++[k]).map f=l.map (fun x=>some x.2)++[e]→(∀ q∈l,f q.1=some q.2)∧f k=e
 | [],ks,k,h1,h2=>by
  subst h1
  exact ⟨fun q hq=>(nomatch hq),List.head_eq_of_cons_eq h2⟩
 | x::l,ks,k,h1,h2=>by
  subst h1
  have h2:f x.1::(l.map (·.1)++[k]).map f=some x.2::(l.map (fun x=>some x.2)++[e]):=h2
  obtain ⟨e1,h2⟩:=List.cons.inj h2
  obtain ⟨h3,h4⟩:=W8 l (l.map (·.1)) k rfl h2
  refine ⟨fun q hq=>?_,h4⟩
  rcases List.mem_cons.mp hq with rfl | hq
  ·exact e1
  ·exact h3 q hq
structure HeapOK (w:World)(h:Heap):Prop where
 k:∀ a o,lk (KT0 w.params) a=some o→h.get? a=some o
 t:h.get? 753=some (cdO none)
theorem Nh{w:World}{s:Shared}(h:Yf s=Ya w):HeapOK w s.heap:=by
 have hk:(K0 w.params).map (·.1)=aK.dropLast:=by kernel_rfl
 have h':(aK.dropLast++[753]).map s.heap.get?=(K0 w.params).map (fun x=>some x.2)++[some (cdO none)]:=h
 obtain ⟨h1,h2⟩:=W8 (K0 w.params) aK.dropLast 753 hk h'
 exact ⟨fun a o hl=>h1 (a,o) (Z1k hl),h2⟩
theorem HeapOK.keeps{w:World}{h h':Heap}(H:HeapOK w h)(hk:∀ b o,h.get? b=some o→h'.get? b=some o):HeapOK w h':=⟨fun a o x=>hk _ _ (H.k a o x),hk _ _ H.t⟩
theorem k753(P:Params):lk (KT0 P) 753=none:=by kernel_rfl
noncomputable def f757:Array Value:=#[vs "join" 1248,vs "join" 1249,vs "/claim/cut.py" 1250,vi 741 0,vi 1 0,vi 0 0,vi 0 0,vi 3 0,vr 752,b0 true,vi 318 0,vr 753,n0,vr 754,vr 755,vr 756,vi 1252 0,vi 741 0,vs "/claim/cut.py" 1253]
theorem k757'(P:Params):lk (KT0 P) 757=some ⟨.type "code",none,.fields f757,#[]⟩:=by kernel_rfl
theorem k757(P:Params):∃ o vs,lk (KT0 P) 757=some o∧o.cls=.type "code"∧o.data=.fields vs∧vs[11]?=some (.ref 753):=⟨_,_,k757' P,rfl,rfl,rfl⟩
theorem Nf{w:World}{h:Heap}:∀ {xs:List WData}{vs:List Value},WShape.hasItems [] xs .int=true→WellAll w.params h vs xs→∃ zs:List Int,vs.length=zs.length∧xs.length=zs.length∧∀(i:Nat)(a:Int),zs[i]?=some a→∃ t:Nat,vs[i]?=some (Value.int a t)
 | [],vs,_,hW=>by
  cases hW
  exact ⟨[],rfl,rfl,fun i a h=>(by simp at h)⟩
 | x::xs,vs,hs,hW=>by
  obtain ⟨v,vs',rfl,h1,h2⟩:=wellAll_cons_inv hW
  have hs':(WShape.has [] x .int&&WShape.hasItems [] xs .int)=true:=by simpa [WShape.hasItems] using hs
  obtain ⟨hx,hxs⟩:=Bool.and_eq_true_iff.mp hs'
  obtain ⟨zs,e1,e2,e3⟩:=Nf hxs h2
  obtain ⟨z,rfl⟩:=hasW_int hx
  cases h1 with
  | int i t =>
   refine ⟨z::zs,by simp[e1],by simp[e2],fun i a hi=>?_⟩
   cases i with
   | zero=>simp at hi;subst hi;exact ⟨_,rfl⟩
   | succ i =>
    obtain ⟨t,ht⟩:=e3 i a (by simpa using hi)
    exact ⟨t,by simpa using ht⟩
theorem Vq:∀(n:Nat)(g:Array GenState),AllBare g→AllBare (VE n g)
 | 0,g,h=>h
 | n+1,g,h=>Vq n _ (h.push rfl)
noncomputable abbrev Γ0:Ctx:=⟨.builtin "claim.caller" {},none,none,[],none⟩
theorem Z1R{w:World}{s:Shared}{R:Result→Shared→Prop}{p:Pos}{sc:Nat}{ws:List Value}{zs:List Int}(H:HeapOK w s.heap)(hg:s.gens=#[])(hmg:s.heap.isNs mainGlobals=true)(hnm:s.heap.nsMap mainGlobals "law"=some (.ref 823))
  (hs:s.heap.get? sc=some (Z0 ws.toArray 0))(hk:lk (KT0 w.params) sc=none)(hne:sc≠753)(hl:ws.length=zs.length)(hz:∀(i:Nat)(a:Int),zs[i]?=some a→∃ t:Nat,ws[i]?=some (Value.int a t))(h63:zs.length≤1000)
  (hR:∀ s',OldK s.heap s'.heap→s'.os=s.os→AllBare s'.gens→R (.ok (.ret (.bool true))) s') :
  Sem.wp (model PG w) Γ0 (callStub KJ.name [.ref sc]).cur (Sem.finPost (model PG w) Γ0 R) (fun e _ s'=>R (.error e) s') p s:=by
 obtain ⟨n,hlaw⟩:=law_ok (w:=w) ⟨rfl,rfl⟩ sc ws.toArray 0 zs (by simpa using hl) (fun i a h=>by
  obtain ⟨t,ht⟩:=hz i a h
  exact ⟨t,by rw[List.getElem?_toArray];exact ht⟩) h63
 show Sem.wp (model PG w) Γ0 (do match ←nsGet mainNs "law" with
   | some f=>do ret (←call f [.ref sc])
   | none=>unsupported "claim.caller:no-such-global") _ _ p s
 have hns:s.heap.Ns mainNs (s.heap.nsMap mainGlobals):=Heap.Ns.of_isNs hmg
 rw[Sem.wp_bind',Sem.wp_nsGet _ _ _ _ _ hns,hnm]
 show Sem.wp (model PG w) Γ0 (call (.ref 823) [.ref sc] >>= fun v=>ret v) _ _ p s
 rw[Sem.wp_bind']
 unfold call
 rw[Sem.wp_runValue]
 refine hlaw (Γ0.enter (.call (.ref 823) ⟨[.ref sc],[]⟩) none p) p s _ rfl rfl rfl rfl H.k ?_ ?_ ?_ fun l h' L=>?_
 ·show ([sc,753]:List Nat).Nodup
  simp[hne]
 ·intro q hq
  rcases List.mem_cons.mp hq with rfl | hq
  ·exact hk
  ·rw[List.mem_singleton.mp hq];exact k753 _
 ·intro q hq
  rcases List.mem_cons.mp hq with rfl | hq
  ·exact hs
  ·rw[List.mem_singleton.mp hq];exact H.t
 ·show Sem.wp (model PG w) Γ0 (ret (.bool true)) (Sem.finPost (model PG w) Γ0 R) _ p _
  show R (.ok (.ret (.bool true))) _
  have g1:=L.here (sc,Z0 ws.toArray 0) (.head _)
  have g2:=L.here (753,cdO (some (l 2))) (.tail _ (.head _))
  have key:∀ b o,s.heap.get? b=some o→asItWas s.heap h' b o∧∃ o',h'.get? b=some o':=fun b o hb=>by
   by_cases e1:b=sc
   ·subst e1
    rw[hs] at hb
    cases hb
    exact ⟨.inl g1,_,g1⟩
   ·by_cases e2:b=753
    ·subst e2
     rw[H.t] at hb
     cases hb
     obtain ⟨o,vs,h1,h2,h3,h4⟩:=k757 w.params
     exact ⟨.inr (.inl ⟨⟨757,o,vs,H.k _ _ h1,h2,h3,h4⟩,rfl,#[],#[rawInt 742,rawInt 20,.ref (l 2)],rfl,g2⟩),_,g2⟩
    ·have:=L.frame b o hb (by
      show b∉[sc,753]
      simp[e1,e2])
     exact ⟨.inl this,_,this⟩
  exact hR _ ⟨fun b o hb=>(key b o hb).1,fun b o hb=>(key b o hb).2⟩ rfl (by
   show AllBare (VE (n+1) s.gens)
   rw[hg]
   exact Vq _ _ .empty)
noncomputable def dL:DefRec:=match kA PG.main.body 39 with
 | .FunctionDef n a b _ _ _ sc _ _ pos=>⟨n,a,b,sc,pos⟩
 | _=>⟨.empty,default,[],default,default⟩
theorem wit:∃ args,Z2b.pre args=true∧(WData.layableAll args&&KJ.toRowW.returnsAt args)=true:=⟨[.list [.int 3,.int 1]],by decide +kernel,by decide +kernel⟩
theorem ok1:(opensWell PG&&(frees KJ.toRowW&&KJ.toRowW.within.isEmpty))=true:=by decide +kernel
theorem chains:chainsOk qL=true:=by kernel_rfl
theorem defL:defOf qL KJ.name=some (dL,[]):=by kernel_rfl
theorem theL:PG.theDef KJ.name=some (dL.params,dL.body,dL.scope):=by kernel_rfl
theorem kwL:kwWritten? dL.params.kwonlyargs dL.params.kw_defaults=some []:=by kernel_rfl
theorem bareL:PG.bare:=⟨rfl,rfl,rfl,rfl,rfl,by decide +kernel⟩
noncomputable def o3 (P:Params):Obj:=(lk (KT0 P) 3).getD default
theorem k3(P:Params):lk (KT0 P) 3=some (o3 P):=by kernel_rfl
theorem main3{P:Params}{h:Heap}(hk:h.get? 3=some (o3 P)):h.isNs mainGlobals=true∧h.nsMap mainGlobals "law"=some (.ref 823):=by
 have hk':h.get? mainGlobals=some (o3 P):=hk
 unfold Heap.isNs Heap.nsMap
 rw[hk']
 exact ⟨by kernel_rfl,by kernel_rfl⟩
theorem WE:same (.bool true) (.bool true)=true:=by decide +kernel
theorem Z0M:WShape.has [] (.bool true) .bool=true:=by decide +kernel
theorem WM(args ds:List WData):Z2b.post args (.bool true) ds=true:=by
 show (WShape.has [] (.bool true) .bool&&(match (some (WData.bool (same (.bool true) (.bool true))):Option WData) with | some (.bool true)=>true | _=>false))=true
 rw[WE,Z0M]
 rfl
theorem len_of {xs:List WData}(h:KJ.pre.holds KJ.records { args:=[.list xs] }=true):xs.length≤1000:=by
 rcases Nat.lt_or_ge 63 xs.length with h1 | h1
 ·exfalso
  have hl:less? (.int 63) (.int xs.length)=some true:=by
   have:less? (.int 63) (.int (xs.length:Int))=some (decide ((63:Int)<xs.length)):=by
    simp[less?,Num.less?]
   rw[this,decide_eq_true (by omega)]
  have e:KJ.pre.holds KJ.records { args:=[.list xs] }=(match (match (match (less? (.int 63) (.int xs.length)).map WData.bool with
    | some (.bool b)=>some (WData.bool (!b))
    | _=>none) with
   | some (.bool false)=>some (WData.bool false)
   | some (.bool true)=>some (WData.bool true)
   | _=>none) with
   | some (.bool true)=>true
   | _=>false):=rfl
  rw[e,hl] at h
  cases h
 ·omega
theorem row_holds(said:KJ.wellSaid=true):KJ.Holds:=by
 obtain ⟨o1,k5⟩:=Bool.and_eq_true_iff.mp ok1
 obtain ⟨k5,k6⟩:=Bool.and_eq_true_iff.mp k5
 obtain ⟨hsame,hu,ha,hap,hm⟩:=frees_parts k5
 have hi:=ident_freeW hu ha hap
 have hwi:Z2b.within=[]:=List.isEmpty_iff.mp k6
 obtain ⟨wa,w1,w2⟩:=wit
 refine ⟨said,wit,⟨bareL,o1,rfl⟩,⟨wa,w1,(Bool.and_eq_true_iff.mp w2).1⟩,fun w=>?_⟩
 obtain ⟨b1,b2⟩:=left0.behind (XP:=fun _ _=>True) (fun _ _=>trivial) chains w
 refine ⟨b1,fun s' hs'=>?_⟩
 obtain ⟨s₀,hf,hg0,s,hT,hz,hgens,hmg,G,y⟩:=b2 s' hs'
 have hgens:s.gens=#[]:=Array.eq_empty_of_size_eq_zero (beq_iff_eq.mp hgens)
 have H:=Nh y
 refine ⟨s₀,hf,hg0,s,hT,fun n hn=>?_,fun x hx=>(nomatch hx),fun x hx=>(nomatch hx),?_⟩
 ·obtain rfl:n=KJ.name:=by split at hn <;> simp_all
  exact pinned_of_view hmg G defL theL kwL
 ·intro args hpre hlay ord hord
  refine Classical.byContradiction fun hno=>?_
  obtain ⟨⟨vs,s₁⟩,hlaid⟩:=Option.isSome_iff_exists.mp (layAllW_isSome (P:=w.params) (ord:=ord) (R:=KJ.records) (cl:=classAt s.heap) (fun c hc=>(by cases hc)) args KJ.args s (pre_splitW hpre).1)
  have keeps:=layAllW_keeps _ _ _ hlaid
  have hal:=layAllW_rest _ _ _ hlaid
  obtain ⟨as,hrd,hin,hold⟩:=reads_layAllW hord _ _ _ hlaid hlay s₁.heap (fun _ _ e=>e)
  have L:Laid KJ.records w s s₁ args vs as:=⟨⟨ord,hord,hlaid⟩,hrd,hin,hold,keeps,hal.1.trans hgens,hal.2.2.1⟩
  have H₁:=H.keeps keeps
  have hW:=L.well
  obtain ⟨hsh,hpr⟩:=pre_splitW (r:=KJ.toRowW) hpre
  obtain ⟨d,r,rfl,hd,hr⟩:=hasAllW_cons hsh
  obtain rfl:=hasAllW_nil hr
  obtain ⟨xs,rfl,hxs⟩:=hasW_list hd
  obtain ⟨v,vs',rfl,hv,hv'⟩:=wellAll_cons_inv hW
  cases hv' with
  | nil =>
  cases hv with
  | @list sc ws _ hsc hws =>
  obtain ⟨zs,e1,e2,e3⟩:=Nf hxs hws
  have h63:zs.length≤1000:=by
   rw[←e2]
   exact len_of hpr
  have hsz:s.heap.objs.size≤sc:=by
   cases hrd with
   | cons hr1 hr2 =>
    cases hr1 with
    | list q1 q2 q3 q4=>exact (hin.2.2 sc (.head _)).1
  have hk:lk (KT0 w.params) sc=none:=by
   cases hl:lk (KT0 w.params) sc with
   | none=>rfl
   | some o=>exact absurd (Heap.lt_size (H.k _ _ hl)) (Nat.not_lt.mpr hsz)
  have hne:sc≠753:=fun e=>by
   have:=Heap.lt_size H.t
   rw[←e] at this
   exact absurd this (Nat.not_lt.mpr hsz)
  obtain ⟨hmg1,hnm⟩:=main3 (H₁.k 3 _ (k3 _))
  have good:∀ s',OldK s₁.heap s'.heap→s'.os=s₁.os→AllBare s'.gens→GoodWG Z2b (classAt s.heap) (ExcName.means s.heap) [.list xs] s₁ (.ok (.ret (.bool true))) s':=fun s' a1 a2 a3 =>
   ⟨.inl ⟨.bool true,.bool true,[],rfl,fun cls=>rfl,.bool true,WM _ _,fun _=>⟨List.nodup_nil,fun a ha=>(nomatch ha)⟩⟩,a1,a2,a3⟩
  obtain ⟨n,r,s2,s3,hs1,hs2,hfo,hE,hos⟩:=wp_halts_full (M:=model PG w) (c:=.builtin "claim.caller" {}) (R:=fun r s'=>Z2b.Ends s [.list xs] [.ref sc] s₁ r s'∧s'.os=s.os) (Shared.asleep_of_life hal.2.2.2 hz)
   (Z1R (R:=fun r s'=>(Z2b.Ends s [.list xs] [.ref sc] s₁ r s'∧s'.os=s.os)∧leftWithCleanup s'.gens=false) (p:=default) H₁ L.gens hmg1 hnm hsc hk hne e1 e3 h63 fun s' a1 a2 a3=>by
    obtain ⟨g1,g2,g3⟩:=(good s' a1 a2 a3).laid (c:=Z2b) hsame hwi hi L
    exact ⟨⟨g1,g2⟩,leftWithCleanup_false_of_bare g3⟩)
  obtain ⟨eh,_,_,eo,_⟩:=Shared.forget_eq hfo
  have hE:=hE.congr eh
  rw[←eo] at hos
  have hlife:s3.heap.life=s.heap.life:=(runN_life _ _ _ hs2).trans hal.2.2.2
  refine hno ⟨[.ref sc],s₁,hlaid,n,_,s3,hs1,?_,(fun _ i x hx=>by rw[hgens] at hx;simp at hx),fun h=>(by cases h),by rw[hlife],Shared.rest_eq hos⟩
  rcases hE with ⟨v,rfl,d1,d2,d3,d4,d5⟩ | ⟨e,ob,cls,rfl,d1,d2,d3,d4,d5⟩
  ·exact .inl ⟨v,rfl,d1,d2,d3,fun b o y _=>d4 b o y,d5⟩
  ·exact .inr ⟨e,ob,cls,rfl,d1,d2,d3,d4,fun b o y _=>d5 b o y⟩
end
section
open PyProof.Rows PySem PySem.W
theorem saidL:Challenge.rw_mj0259_01.wellSaid=true:=by
 rw[Fast.te9446332074065402090]
 kernel_rfl
end
end Mine
theorem PySem.Challenge.cw_mj0259_01_holds : PySem.Challenge.rw_mj0259_01.Holds := by
  exact PySem.W.holds_law Mine.saidL Mine.row_holds
